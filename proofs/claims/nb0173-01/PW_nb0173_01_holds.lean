import PyProof.Rows.All
import Wide.All
import OpenK.AllK
import Wide.FinOn
import Lean
import PySem.Challenge.RW_nb0173_01
set_option Elab.async false
set_option linter.unusedVariables false

section
set_option maxRecDepth 100000
namespace Mine
open PySem PySem.W PySem.Calls PyProof.Rows

/-! the data -/
structure Wd where
  raw : Str
  n : Int
  nt : Int
  cnt : List Int
  tr : Int

inductive AV where
  | none
  | bool (b : Bool)
  | int (i : Int)
  | str (x : Str)
  | list (xs : List AV)
  | tup (xs : List AV)
  | ws (d : Wd)
  | obj (a : Addr)

abbrev View := Addr → Option Obj
def Sub (V V' : View) : Prop := ∀ a o, V a = some o → V' a = some o
theorem Sub.refl (V : View) : Sub V V := fun _ _ e => e
theorem Sub.trans {V V' V'' : View} (x : Sub V V') (y : Sub V' V'') : Sub V V'' := fun a o e => y a o (x a o e)

abbrev lstO (vs : List Value) (n : Nat) : Obj := { cls := .type "list", data := .seq vs.toArray n }
abbrev tupO (vs : List Value) (n : Nat) : Obj := { cls := .type "tuple", data := .seq vs.toArray n }
mutual
inductive Rp (V : View) : Value → AV → Prop
  | none : Rp V .none .none
  | bool (b : Bool) : Rp V (.bool b) (.bool b)
  | int (i : Int) (t : Tok) : Rp V (.int i t) (.int i)
  | str (x : Str) (t : Tok) : Rp V (.str x t) (.str x)
  | list {a : Addr} {vs : List Value} {xs : List AV} {n : Nat} (h : V a = some (lstO vs n)) (r : RpL V vs xs) : Rp V (.ref a) (.list xs)
  | tup {a : Addr} {vs : List Value} {xs : List AV} {n : Nat} (h : V a = some (tupO vs n)) (r : RpL V vs xs) : Rp V (.ref a) (.tup xs)
  | ws {a dx : Addr} {od : Obj} {d : Wd} {vr vn vt vm vs : Value} (h : V a = some (instObj 112 dx)) (hd : V dx = some od)
      (h1 : lookIn (Str.ofString "raw") od = some (some vr)) (h2 : lookIn (Str.ofString "n") od = some (some vn)) (h3 : lookIn (Str.ofString "nt") od = some (some vt)) (h4 : lookIn (Str.ofString "norm") od = some (some vm)) (h5 : lookIn (Str.ofString "is_simple") od = some (some vs))
      (h6 : ∀ x : Str, x ∈ ([Str.ofString "longest_run_of_spaces", Str.ofString "indent_level", Str.ofString "equal", Str.ofString "less", Str.ofString "not_less_witness"] : List Str) → shadowIn (some od) x = some false)
      (r1 : Rp V vr (.str d.raw)) (r2 : Rp V vn (.int d.n)) (r3 : Rp V vt (.int d.nt)) (r4 : Rp V vm (.tup [.tup (d.cnt.map AV.int), .int d.tr])) (r5 : Rp V vs (.bool (decide (d.cnt.length ≤ 1)))) : Rp V (.ref a) (.ws d)
  | obj (a : Addr) : Rp V (.ref a) (.obj a)
inductive RpL (V : View) : List Value → List AV → Prop
  | nil : RpL V [] []
  | cons {v : Value} {vs : List Value} {x : AV} {xs : List AV} (h : Rp V v x) (r : RpL V vs xs) : RpL V (v :: vs) (x :: xs)
end

mutual
theorem Rp.mono {V V' : View} (k : Sub V V') : ∀ {v : Value} {x : AV}, Rp V v x → Rp V' v x
  | _, _, .none => .none
  | _, _, .bool b => .bool b
  | _, _, .int i t => .int i t
  | _, _, .str x t => .str x t
  | _, _, .list h r => .list (k _ _ h) (RpL.mono k r)
  | _, _, .tup h r => .tup (k _ _ h) (RpL.mono k r)
  | _, _, .ws h hd h1 h2 h3 h4 h5 h6 r1 r2 r3 r4 r5 => .ws (k _ _ h) (k _ _ hd) h1 h2 h3 h4 h5 h6 (Rp.mono k r1) (Rp.mono k r2) (Rp.mono k r3) (Rp.mono k r4) (Rp.mono k r5)
  | _, _, .obj a => .obj a
theorem RpL.mono {V V' : View} (k : Sub V V') : ∀ {vs : List Value} {xs : List AV}, RpL V vs xs → RpL V' vs xs
  | _, _, .nil => .nil
  | _, _, .cons h r => .cons (Rp.mono k h) (RpL.mono k r)
end
theorem RpL.length {V : View} : ∀ {vs : List Value} {xs : List AV}, RpL V vs xs → vs.length = xs.length
  | _, _, .nil => rfl
  | _, _, .cons _ r => congrArg (· + 1) r.length
theorem RpL.get {V : View} : ∀ {vs : List Value} {xs : List AV}, RpL V vs xs → ∀ {i : Nat} {x : AV}, xs[i]? = some x → ∃ v, vs[i]? = some v ∧ Rp V v x
  | _, _, .nil, _, _, h => by simp at h
  | _, _, .cons h _, 0, _, e => by simp at e; subst e; exact ⟨_, rfl, h⟩
  | _, _, .cons _ r, i + 1, x, e => by simpa using r.get (i := i) (by simpa using e)
theorem RpL.get' {V : View} : ∀ {vs : List Value} {xs : List AV}, RpL V vs xs → ∀ {i : Nat} {v : Value}, vs[i]? = some v → ∃ x, xs[i]? = some x ∧ Rp V v x
  | _, _, .nil, _, _, h => by simp at h
  | _, _, .cons h _, 0, _, e => by simp at e; subst e; exact ⟨_, rfl, h⟩
  | _, _, .cons _ r, i + 1, x, e => by simpa using r.get' (i := i) (by simpa using e)
theorem RpL.append {V : View} : ∀ {vs : List Value} {xs : List AV}, RpL V vs xs → ∀ {ws : List Value} {ys : List AV}, RpL V ws ys → RpL V (vs ++ ws) (xs ++ ys)
  | _, _, .nil, _, _, r => r
  | _, _, .cons h r, _, _, q => .cons h (r.append q)
theorem RpL.take {V : View} : ∀ (k : Nat) {vs : List Value} {xs : List AV}, RpL V vs xs → RpL V (vs.take k) (xs.take k)
  | 0, _, _, _ => by simp; exact .nil
  | _ + 1, _, _, .nil => by simp; exact .nil
  | k + 1, _, _, .cons h r => by simpa using RpL.cons h (RpL.take k r)
theorem RpL.drop {V : View} : ∀ (k : Nat) {vs : List Value} {xs : List AV}, RpL V vs xs → RpL V (vs.drop k) (xs.drop k)
  | 0, _, _, r => by simpa using r
  | _ + 1, _, _, .nil => by simp; exact .nil
  | k + 1, _, _, .cons h r => by simpa using RpL.drop k r
theorem RpL.reverse {V : View} : ∀ {vs : List Value} {xs : List AV}, RpL V vs xs → RpL V vs.reverse xs.reverse
  | _, _, .nil => .nil
  | _, _, .cons h r => by simpa using r.reverse.append (.cons h .nil)

/-! the states -/
def Kp (h h' : Heap) : Prop := ∀ b o, h.get? b = some o → h'.get? b = some o
structure Ext (s s' : Shared) : Prop where
  gens : s'.gens = s.gens
  drawn : s'.drawn = s.drawn
  os : s'.os = s.os
  keep : Kp s.heap s'.heap
theorem Ext.refl (s : Shared) : Ext s s := ⟨rfl, rfl, rfl, fun _ _ e => e⟩
theorem Ext.trans {a b c : Shared} (x : Ext a b) (y : Ext b c) : Ext a c := ⟨y.gens.trans x.gens, y.drawn.trans x.drawn, y.os.trans x.os, fun b o e => y.keep b o (x.keep b o e)⟩
theorem Ext.tok (s : Shared) (t : Nat) : Ext s { s with toks := t } := ⟨rfl, rfl, rfl, fun _ _ e => e⟩
theorem Ext.of {s : Shared} {h : Heap} {t : Nat} (k : Kp s.heap h) : Ext s { s with heap := h, toks := t } := ⟨rfl, rfl, rfl, k⟩
theorem Ext.of' {s : Shared} {h : Heap} (k : Kp s.heap h) : Ext s { s with heap := h } := ⟨rfl, rfl, rfl, k⟩
theorem Ext.ofKeeps {s s' : Shared} (k : Keeps s s') : Ext s s' := by obtain ⟨h', tk, rfl, hk⟩ := k; exact .of hk
theorem Ext.keeps {s s' : Shared} (x : Ext s s') : Keeps s s' := by
  obtain ⟨h, g, d, t, o⟩ := s'; obtain ⟨a, b, c, e⟩ := x; dsimp only at a b c e; subst a b c; exact ⟨h, t, rfl, e⟩
theorem Kp.push (h : Heap) (o : Obj) : Kp h (h.push o) := fun _ _ e => Heap.get?_push_of_some _ e

def Vw (h : Heap) (X : List Addr) : View := fun a => if a ∈ X then none else h.get? a
theorem Vw.get {h : Heap} {X : List Addr} {a : Addr} {o : Obj} (e : Vw h X a = some o) : h.get? a = some o := by
  unfold Vw at e; split at e
  · cases e
  · exact e
theorem Vw.off {h : Heap} {X : List Addr} {a : Addr} {o : Obj} (e : Vw h X a = some o) : a ∉ X := by
  unfold Vw at e; split at e
  · cases e
  · assumption
theorem Vw.mk {h : Heap} {X : List Addr} {a : Addr} {o : Obj} (e : h.get? a = some o) (hx : a ∉ X) : Vw h X a = some o := by unfold Vw; rw [if_neg hx]; exact e
theorem Vw.full {h : Heap} {X : List Addr} : Sub (Vw h X) h.get? := fun _ _ e => Vw.get e
theorem Vw.keep {h h' : Heap} {X : List Addr} (k : ∀ b o, b ∉ X → h.get? b = some o → h'.get? b = some o) : Sub (Vw h X) (Vw h' X) := fun _ _ e => Vw.mk (k _ _ (Vw.off e) (Vw.get e)) (Vw.off e)
theorem Vw.less {h : Heap} {X Y : List Addr} (k : ∀ b ∈ Y, b ∈ X) : Sub (Vw h X) (Vw h Y) := fun _ _ e => Vw.mk (Vw.get e) fun hm => Vw.off e (k _ hm)
theorem Vw.ext {s s' : Shared} {X : List Addr} (x : Ext s s') : Sub (Vw s.heap X) (Vw s'.heap X) := Vw.keep fun b o _ e => x.keep b o e
theorem Vw.nil {h : Heap} : Sub h.get? (Vw h []) := fun _ _ e => Vw.mk e (by simp)

/-- what every frame knows -/
structure Cx (K : Frag) (X : List Addr) (h : Heap) : Prop where
  top : K.In h
  bi : ∃ mb, h.Ns builtinsNs mb ∧ ∀ x : Str, x ≠ "__name__" → mb x = bootBuiltins x
  live : ∀ a ∈ X, ∃ o, h.get? a = some o
theorem Cx.mono {K : Frag} {X : List Addr} {h h' : Heap} (c : Cx K X h) (k : Kp h h') : Cx K X h' :=
  ⟨c.top.keeps k, let ⟨mb, a, b⟩ := c.bi; ⟨mb, a.keeps k, b⟩, fun a ha => let ⟨o, e⟩ := c.live a ha; ⟨o, k _ _ e⟩⟩
theorem Cx.less {K : Frag} {X Y : List Addr} {h : Heap} (c : Cx K X h) (k : ∀ b ∈ Y, b ∈ X) : Cx K Y h := ⟨c.top, c.bi, fun a ha => c.live a (k a ha)⟩
theorem Cx.off {K : Frag} {X : List Addr} {h : Heap} (c : Cx K X h) {a : Addr} (ha : h.get? a = none) : a ∉ X := fun hm => by
  obtain ⟨o, e⟩ := c.live a hm
  rw [ha] at e; cases e

structure Room (A : Around) (n : Nat) : Prop where
  hd : A.handled = none
  dp : A.depth + n < recursionLimit
  un : A.units + 16 * n + 8 < cLine
theorem Room.le {A : Around} {n k : Nat} (r : Room A n) (h : k ≤ n) : Room A k := ⟨r.hd, by have := r.dp; omega, by have := r.un; omega⟩
theorem Room.deeper {A : Around} {n : Nat} (r : Room A (n + 1)) (env : Env) : Room (A.deeper env) n :=
  ⟨r.hd, by show A.depth + 1 + n < _; have := r.dp; omega, by show A.units + 3 + 16 * n + 8 < _; have := r.un; omega⟩

/-- an expression in every extension of s -/
def EvP (prog : Program) (w : World) (A : Around) (env : Env) (s : Shared) (e : Expr) (P : Value → Shared → Prop) : Prop :=
  ∀ s₁ (Q : Value → Shared → Prop) (E : Value → Shared → Prop), Ext s s₁ → (∀ v s₂, Ext s₁ s₂ → P v s₂ → Q v s₂) → wpAny (model prog w) A (eval e env) Q E s₁
def Ev (prog : Program) (w : World) (A : Around) (env : Env) (X : List Addr) (s : Shared) (e : Expr) (x : AV) : Prop :=
  EvP prog w A env s e fun v s₂ => Rp (Vw s₂.heap X) v x
/-- a tree in every extension of s -/
def TrP (prog : Program) (w : World) (A : Around) {α : Type} (s : Shared) (t : Sem α) (P : α → Shared → Prop) : Prop :=
  ∀ s₁ (Q : α → Shared → Prop) (E : Value → Shared → Prop), Ext s s₁ → (∀ v s₂, Ext s₁ s₂ → P v s₂ → Q v s₂) → wpAny (model prog w) A t Q E s₁

section
variable {prog : Program} {w : World} {A : Around} {env : Env} {X : List Addr} {s s' : Shared} {K : Frag}
theorem EvP.ext {e : Expr} {P} (h : EvP prog w A env s e P) (x : Ext s s') : EvP prog w A env s' e P := fun s₁ Q E y k => h s₁ Q E (x.trans y) k
theorem Ev.ext {e : Expr} {a : AV} (h : Ev prog w A env X s e a) (x : Ext s s') : Ev prog w A env X s' e a := EvP.ext h x
theorem EvP.mono {e : Expr} {P P'} (h : EvP prog w A env s e P) (k : ∀ v s₂, Ext s s₂ → P v s₂ → P' v s₂) : EvP prog w A env s e P' := fun s₁ Q E y q => h s₁ Q E y fun v s₂ z p => q v s₂ z (k v s₂ (y.trans z) p)

theorem Ev.of {e : Expr} {a : AV} (h : Ev prog w A env X s e a) {Q : Value → Shared → Prop} {E : Value → Shared → Prop} (k : ∀ v s₂, Ext s s₂ → Rp (Vw s₂.heap X) v a → Q v s₂) : wpAny (model prog w) A (eval e env) Q E s := h s Q E (.refl s) k

theorem ev_int {i : Int} {k : Nat} {pos : Pos} : Ev prog w A env X s (.Constant (.int i) k pos) (.int i) := fun s₁ _ _ _ q => wpAny_Constant_int (q _ _ (.tok s₁ _) (.int i _))
theorem ev_str {x : Str} {k : Nat} {pos : Pos} : Ev prog w A env X s (.Constant (.str x) k pos) (.str x) := fun s₁ _ _ _ q => wpAny_Constant_str (q _ _ (.tok s₁ _) (.str x _))
theorem ev_bool {x : Bool} {k : Nat} {pos : Pos} : Ev prog w A env X s (.Constant (.bool x) k pos) (.bool x) := fun s₁ _ _ _ q => wpAny_Constant_bool (q _ _ (.refl s₁) (.bool x))

theorem ev_bin {l r : Expr} {op : Operator} {pos : Pos} {a b : AV} {P} (h1 : Ev prog w A env X s l a) (h2 : Ev prog w A env X s r b)
    (h3 : ∀ s₁ va vb, Ext s s₁ → Rp (Vw s₁.heap X) va a → Rp (Vw s₁.heap X) vb b → TrP prog w A s₁ (binaryOp op va vb) P) : EvP prog w A env s (.BinOp l op r pos) P := by
  intro s₁ Q E x q
  refine wpAny_BinOp (h1 s₁ _ _ x fun va s₂ x₂ ra => h2 s₂ _ _ (x.trans x₂) fun vb s₃ x₃ rb => ?_)
  exact h3 s₃ va vb ((x.trans x₂).trans x₃) (ra.mono (Vw.ext x₃)) rb s₃ _ _ (.refl _) fun v s₄ x₄ p => q v s₄ ((x₂.trans x₃).trans x₄) p

theorem ev_add {l r : Expr} {pos : Pos} {a b : Int} (h1 : Ev prog w A env X s l (.int a)) (h2 : Ev prog w A env X s r (.int b)) : Ev prog w A env X s (.BinOp l .Add r pos) (.int (a + b)) :=
  ev_bin h1 h2 fun s₁ va vb _ ra rb => by cases ra; cases rb; exact fun s₂ Q E _ q => add_int (q _ _ (.tok s₂ _) (.int _ _))
theorem ev_sub {l r : Expr} {pos : Pos} {a b : Int} (h1 : Ev prog w A env X s l (.int a)) (h2 : Ev prog w A env X s r (.int b)) : Ev prog w A env X s (.BinOp l .Sub r pos) (.int (a - b)) :=
  ev_bin h1 h2 fun s₁ va vb _ ra rb => by cases ra; cases rb; exact fun s₂ Q E _ q => sub_int (q _ _ (.tok s₂ _) (.int _ _))
theorem ev_mod {l r : Expr} {pos : Pos} {a b : Int} (h1 : Ev prog w A env X s l (.int a)) (h2 : Ev prog w A env X s r (.int b)) (hb : b ≠ 0) : Ev prog w A env X s (.BinOp l .Mod r pos) (.int (a.fmod b)) :=
  ev_bin h1 h2 fun s₁ va vb _ ra rb => by cases ra; cases rb; exact fun s₂ Q E _ q => mod_int hb (q _ _ (.tok s₂ _) (.int _ _))
end
end Mine
end

section
set_option maxRecDepth 100000
namespace Mine
open PySem PySem.W PySem.Calls PyProof.Rows

/-! the text's parts -/
def nthS : List Stmt → Nat → Stmt
  | s :: _, 0 => s
  | _ :: r, n + 1 => nthS r n
  | [], _ => .Pass default
def bodyOf : Stmt → List Stmt
  | .FunctionDef _ _ b _ _ _ _ _ _ _ => b
  | .ClassDef _ _ _ b _ _ _ _ _ _ _ => b
  | _ => []
def paramsOf : Stmt → Arguments
  | .FunctionDef _ p _ _ _ _ _ _ _ _ => p
  | _ => default
def scopeOf : Stmt → Scope
  | .FunctionDef _ _ _ _ _ _ sc _ _ _ => sc
  | _ => default
def theText : List Stmt := PySem.Challenge.pw_nb0173_01.main.body

def fdIn (K : Frag) (f : Addr) : FuncData := match K.lookup f with
  | some ⟨_, _, .func fd, _⟩ => fd
  | _ => default
structure FnIs (K : Frag) (f : Addr) (st : Stmt) : Prop where
  here : fnIn K f = true
  body : (fdIn K f).body = .stmts (bodyOf st)
  params : (fdIn K f).params = paramsOf st
  scope : (fdIn K f).scope = scopeOf st
  glob : (fdIn K f).globals = mainGlobals
  clos : (fdIn K f).closure = []
  dflt : (fdIn K f).defaults = .none
  kwd : (fdIn K f).kwdefaults = .none
  bi : (fdIn K f).builtins = builtinsNs
  code : codeIn K (fdIn K f).code (fdIn K f).qualname = true

/-- what is read off the top once -/
structure Kb (K : Frag) : Prop where
  okG : nsOkIn K mainGlobals = true
  okS : nsOkIn K cStatics = true
  lim : nsIn K cStatics "sys.recursionlimit" = some none

theorem FnIs.get {K : Frag} {f : Addr} {st : Stmt} (F : FnIs K f st) : ∃ o, K.lookup f = some o ∧ o.data = .func (fdIn K f) := by
  have h := F.here
  unfold fnIn at h
  split at h
  · rename_i a b fd c e
    exact ⟨_, e, by unfold fdIn; rw [e]⟩
  · cases h

theorem noLimit_of {K : Frag} {h : Heap} (B : Kb K) (X : K.In h) : h.NoLimit :=
  ⟨_, .of_isNs (isNs_of_in X B.okS), nsMap_none_of_in X B.okS B.lim⟩

/-- keeps all but Y -/
structure ExtB (Y : List Addr) (s s' : Shared) : Prop where
  gens : s'.gens = s.gens
  drawn : s'.drawn = s.drawn
  os : s'.os = s.os
  keep : ∀ b o, b ∉ Y → s.heap.get? b = some o → s'.heap.get? b = some o
theorem ExtB.refl {Y : List Addr} (s : Shared) : ExtB Y s s := ⟨rfl, rfl, rfl, fun _ _ _ e => e⟩
theorem ExtB.trans {Y : List Addr} {a b c : Shared} (x : ExtB Y a b) (y : ExtB Y b c) : ExtB Y a c := ⟨y.gens.trans x.gens, y.drawn.trans x.drawn, y.os.trans x.os, fun b o h e => y.keep b o h (x.keep b o h e)⟩
theorem ExtB.more {Y Z : List Addr} {a b : Shared} (x : ExtB Y a b) (h : ∀ c ∈ Y, c ∈ Z) : ExtB Z a b := ⟨x.gens, x.drawn, x.os, fun b o hb e => x.keep b o (fun hm => hb (h _ hm)) e⟩
theorem Ext.but {Y : List Addr} {a b : Shared} (x : Ext a b) : ExtB Y a b := ⟨x.gens, x.drawn, x.os, fun b o _ e => x.keep b o e⟩
/-- the second step's changed addresses may be new to the first state -/
theorem ExtB.step {Y Z : List Addr} {a b c : Shared} (x : ExtB Z a b) (y : ExtB Y b c) (h : ∀ d ∈ Y, d ∈ Z ∨ a.heap.get? d = none) : ExtB Z a c :=
  ⟨y.gens.trans x.gens, y.drawn.trans x.drawn, y.os.trans x.os, fun b o hb e => y.keep b o (fun hm => by
    rcases h b hm with h | h
    · exact hb h
    · rw [h] at e; cases e) (x.keep b o hb e)⟩

/-! variables -/
abbrev LM := Str → Option AV
abbrev OM := Str → Option (List AV)
def upd {α : Type} (lm : Str → Option α) (x : Str) (a : α) : Str → Option α := fun y => if y = x then some a else lm y
def del {α : Type} (lm : Str → Option α) (x : Str) : Str → Option α := fun y => if y = x then none else lm y
def noM {α : Type} : Str → Option α := fun _ => none

def Rd (env : Env) (h : Heap) (x : Str) (v : Value) : Prop :=
  (env.kindOf x = some .local ∧ ∃ m, h.Ns env.locals m ∧ m x = some v) ∨ (env.kindOf x = some .cell ∧ ∃ c, env.cells.lookup x = some c ∧ h.IsCell c (some v))
theorem Rd.keep {env : Env} {h h' : Heap} {x : Str} {v : Value} (r : Rd env h x v) (hl : ∀ o, h.get? env.locals = some o → h'.get? env.locals = some o)
    (hc : ∀ c, env.cells.lookup x = some c → ∀ o, h.get? c = some o → h'.get? c = some o) : Rd env h' x v := by
  rcases r with ⟨a, m, hn, hv⟩ | ⟨a, c, hn, o, ho, hd⟩
  · exact .inl ⟨a, m, hn.at' hl, hv⟩
  · exact .inr ⟨a, c, hn, o, hc c hn o ho, hd⟩
theorem Rd.mono {env : Env} {h h' : Heap} {x : Str} {v : Value} (r : Rd env h x v) (k : Kp h h') : Rd env h' x v := r.keep (fun o e => k _ o e) (fun c _ o e => k _ o e)

def Vars (env : Env) (h : Heap) (X : List Addr) (lm : LM) : Prop := ∀ x a, lm x = some a → ∃ v, Rd env h x v ∧ Rp (Vw h X) v a
theorem Vars.mono {env : Env} {h h' : Heap} {X : List Addr} {lm : LM} (r : Vars env h X lm) (k : Kp h h') : Vars env h' X lm := fun x a e => by
  obtain ⟨v, h1, h2⟩ := r x a e
  exact ⟨v, h1.mono k, h2.mono (Vw.keep fun b o _ e => k b o e)⟩

/-- where a frame's variables lie -/
structure Sto (env : Env) (Y : List Addr) (h : Heap) : Prop where
  fn : env.scope.kind = .function
  ns : ∃ m, h.Ns env.locals m
  ly : env.locals ∈ Y
  cell : ∀ x c, env.cells.lookup x = some c → c ∈ Y ∧ c ≠ env.locals ∧ ∃ v, h.IsCell c v
  inj : ∀ x y c, env.cells.lookup x = some c → env.cells.lookup y = some c → x = y
theorem Sto.keep {env : Env} {Y : List Addr} {h h' : Heap} (r : Sto env Y h) (k : ∀ b o, (b = env.locals ∨ ∃ x, env.cells.lookup x = some b) → h.get? b = some o → h'.get? b = some o) : Sto env Y h' :=
  ⟨r.fn, let ⟨m, hn⟩ := r.ns; ⟨m, hn.at' fun o e => k _ o (.inl rfl) e⟩, r.ly, fun x c e => let ⟨a, b, v, o, ho, hd⟩ := r.cell x c e; ⟨a, b, v, o, k c o (.inr ⟨x, e⟩) ho, hd⟩, r.inj⟩
theorem Sto.mono {env : Env} {Y : List Addr} {h h' : Heap} (r : Sto env Y h) (k : Kp h h') : Sto env Y h' := r.keep fun b o _ e => k b o e
theorem Sto.more {env : Env} {Y Z : List Addr} {h : Heap} (r : Sto env Y h) (k : ∀ a ∈ Y, a ∈ Z) : Sto env Z h := ⟨r.fn, r.ns, k _ r.ly, fun x c e => let ⟨a, b⟩ := r.cell x c e; ⟨k _ a, b⟩, r.inj⟩

structure Mk where
  sb : Shared
  z : List Addr

/-- the frame: Y its own addresses, X₀ what the caller may still change; lm the variables that hold frozen data, om those that hold a list of the frame's own -/
structure Fm (K : Frag) (s₀ : Shared) (mk : Mk) (env : Env) (Y X₀ : List Addr) (s : Shared) (lm : LM) (om : OM) : Prop where
  cx : Cx K X₀ s₀.heap
  ext : Ext s₀ s
  ys : ∀ a ∈ Y, s₀.heap.get? a = none ∧ ∃ o, s.heap.get? a = some o
  since : ExtB mk.z mk.sb s
  yz : ∀ a ∈ Y, a ∈ mk.z ∨ mk.sb.heap.get? a = none
  sto : Sto env Y s.heap
  lo : Vars env s.heap (Y ++ X₀) lm
  ow : ∀ x xs, om x = some xs → ∃ a vs n, Rd env s.heap x (.ref a) ∧ a ∈ Y ∧ a ≠ env.locals ∧ (∀ y, env.cells.lookup y ≠ some a) ∧ s.heap.get? a = some (lstO vs n) ∧ RpL (Vw s.heap (Y ++ X₀)) vs xs
  apart : ∀ x y a, Rd env s.heap x (.ref a) → Rd env s.heap y (.ref a) → om x ≠ none → om y ≠ none → x = y

section
variable {prog : Program} {w : World} {A : Around} {env : Env} {Y X X₀ : List Addr} {s s' s₀ : Shared} {K : Frag} {lm : LM} {om : OM} {mk : Mk}
theorem Rd.inj {h : Heap} {x : Str} {v u : Value} (a : Rd env h x v) (b : Rd env h x u) : v = u := by
  rcases a with ⟨a, m, hn, hv⟩ | ⟨a, c, hn, o, ho, hd⟩ <;> rcases b with ⟨b, m', hn', hv'⟩ | ⟨b, c', hn', o', ho', hd'⟩
  · obtain ⟨o, es, ep, e1, e2, _, e3⟩ := hn
    obtain ⟨o', es', ep', f1, f2, _, f3⟩ := hn'
    rw [e1] at f1; cases f1; rw [e2] at f2; cases f2
    have : m x = m' x := (e3 x).symm.trans (f3 x)
    rw [hv, hv'] at this; exact Option.some.inj this
  · rw [a] at b; cases b
  · rw [a] at b; cases b
  · rw [hn] at hn'; cases hn'; rw [ho] at ho'; cases ho'; rw [hd] at hd'; cases hd'; rfl
theorem Rd.back {h h' : Heap} {x : Str} {v u : Value} (a : Rd env h x v) (k : Kp h h') (b : Rd env h' x u) : v = u := (a.mono k).inj b

theorem Fm.cxs (f : Fm K s₀ mk env Y X₀ s lm om) : Cx K (Y ++ X₀) s.heap := by
  have c := f.cx.mono f.ext.keep
  refine ⟨c.top, c.bi, fun a ha => ?_⟩
  rcases List.mem_append.mp ha with h | h
  · exact (f.ys a h).2
  · exact c.live a h
theorem Fm.cx0 (f : Fm K s₀ mk env Y X₀ s lm om) : Cx K [] s.heap := f.cxs.less (by simp)

theorem Fm.after (f : Fm K s₀ mk env Y X₀ s lm om) (x : Ext s s') : Fm K s₀ mk env Y X₀ s' lm om := by
  refine ⟨f.cx, f.ext.trans x, fun a ha => ⟨(f.ys a ha).1, let ⟨o, e⟩ := (f.ys a ha).2; ⟨o, x.keep _ _ e⟩⟩, f.since.trans x.but, f.yz, f.sto.mono x.keep, f.lo.mono x.keep, fun y xs h => ?_, fun y z a h1 h2 h3 h4 => ?_⟩
  · obtain ⟨a, vs, n, h1, h2, h3, h4, h5, h9⟩ := f.ow y xs h
    exact ⟨a, vs, n, h1.mono x.keep, h2, h3, h4, x.keep _ _ h5, h9.mono (Vw.ext x)⟩
  · obtain ⟨ys, ey⟩ := Option.ne_none_iff_exists'.mp h3
    obtain ⟨zs, ez⟩ := Option.ne_none_iff_exists'.mp h4
    obtain ⟨b, _, _, g1, _⟩ := f.ow y ys ey
    obtain ⟨c, _, _, g2, _⟩ := f.ow z zs ez
    have e1 := g1.back x.keep h1
    have e2 := g2.back x.keep h2
    cases e1; cases e2
    exact f.apart y z a g1 g2 h3 h4

theorem Fm.weak {lm' : LM} (f : Fm K s₀ mk env Y X₀ s lm om) (h : ∀ x a, lm' x = some a → lm x = some a) : Fm K s₀ mk env Y X₀ s lm' om :=
  ⟨f.cx, f.ext, f.ys, f.since, f.yz, f.sto, fun x a e => f.lo x a (h x a e), f.ow, f.apart⟩
theorem Fm.mark (f : Fm K s₀ mk env Y X₀ s lm om) : Fm K s₀ ⟨s, Y⟩ env Y X₀ s lm om := ⟨f.cx, f.ext, f.ys, .refl s, fun a h => .inl h, f.sto, f.lo, f.ow, f.apart⟩
/-- back to the elder mark, across a step from that mark on -/
theorem Fm.unmark {s₁ : Shared} {Z Y' : List Addr} (f : Fm K s₀ ⟨s₁, Z⟩ env Y' X₀ s lm om) (x : ExtB mk.z mk.sb s₁) (hy : ∀ a ∈ Z, a ∈ mk.z ∨ mk.sb.heap.get? a = none) : Fm K s₀ mk env Y' X₀ s lm om := by
  refine ⟨f.cx, f.ext, f.ys, x.step f.since hy, fun a h => ?_, f.sto, f.lo, f.ow, f.apart⟩
  rcases f.yz a h with h | h
  · exact hy a h
  · by_cases hz : a ∈ mk.z
    · exact .inl hz
    · right
      cases e : mk.sb.heap.get? a with
      | none => rfl
      | some o => have := x.keep a o hz e; dsimp only at h; rw [h] at this; cases this

theorem evp_var {x : Str} {pos : Pos} {v : Value} (h : Rd env s.heap x v) (hk : env.scope.kind = .function) (hd : (x == ("__debug__" : Str)) = false) : EvP prog w A env s (.Name x pos) fun v' _ => v' = v := by
  intro s₁ Q E y q
  refine wpAny_Name ?_ hd
  rcases h.mono y.keep with ⟨a, m, hn, hv⟩ | ⟨a, c, hn, hc⟩
  · exact wpAny_loadName_local hk a hn hv (q v s₁ (.refl _) rfl)
  · exact wpAny_loadName_cell hk a hn hc (q v s₁ (.refl _) rfl)
theorem ev_var {x : Str} {pos : Pos} {a : AV} (f : Vars env s.heap X lm) (h : lm x = some a) (hk : env.scope.kind = .function) (hd : (x == ("__debug__" : Str)) = false) : Ev prog w A env X s (.Name x pos) a := by
  obtain ⟨v, h1, h2⟩ := f x a h
  exact EvP.mono (evp_var h1 hk hd) fun v' s₂ x₂ e => by subst e; exact h2.mono (Vw.ext x₂)
theorem Vars.less {X' : List Addr} (f : Vars env s.heap X lm) (h : ∀ a ∈ X', a ∈ X) : Vars env s.heap X' lm := fun x a e => let ⟨v, h1, h2⟩ := f x a e; ⟨v, h1, h2.mono (Vw.less h)⟩
theorem Fm.v0 (f : Fm K s₀ mk env Y X₀ s lm om) : Vars env s.heap [] lm := f.lo.less (by simp)
/-- a list of the frame's own, read in the whole heap -/
theorem ev_own {x : Str} {pos : Pos} {xs : List AV} (f : Fm K s₀ mk env Y X₀ s lm om) (h : om x = some xs) (hd : (x == ("__debug__" : Str)) = false) : Ev prog w A env [] s (.Name x pos) (.list xs) := by
  obtain ⟨a, vs, n, h1, h2, h3, h4, h5, h9⟩ := f.ow x xs h
  exact EvP.mono (evp_var h1 f.sto.fn hd) fun v' s₂ x₂ e => by subst e; exact .list (Vw.mk (x₂.keep _ _ h5) (by simp)) (h9.mono ((Vw.less (by simp)).trans (Vw.ext x₂)))

def Imm : AV → Prop
  | .int _ => True
  | .str _ => True
  | .bool _ => True
  | .none => True
  | .obj _ => True
  | _ => False
theorem Rp.imm {V V' : View} {v : Value} {a : AV} (r : Rp V v a) (h : Imm a) : Rp V' v a := by
  cases r <;> first | exact h.elim | constructor
theorem Ev.imm {e : Expr} {a : AV} {X' : List Addr} (r : Ev prog w A env X s e a) (h : Imm a := by trivial) : Ev prog w A env X' s e a := EvP.mono r fun _ _ _ r => Rp.imm r h
theorem Ev.less {e : Expr} {a : AV} {X' : List Addr} (r : Ev prog w A env X s e a) (h : ∀ a ∈ X', a ∈ X) : Ev prog w A env X' s e a := EvP.mono r fun _ _ _ r => r.mono (Vw.less h)

/-! a store -/
theorem store_var {x : Str} {v : Value} {Q : Unit → Shared → Prop} {E : Value → Shared → Prop} (st : Sto env Y s.heap) (hk : env.kindOf x = some .local ∨ env.kindOf x = some .cell ∧ ∃ c, env.cells.lookup x = some c)
    (q : ∀ (d : Addr) s', d ∈ Y → (d = env.locals ∨ ∃ y, env.cells.lookup y = some d) → ExtB [d] s s' → (∃ o, s'.heap.get? d = some o) → Sto env Y s'.heap → Rd env s'.heap x v → (∀ y u, y ≠ x → Rd env s.heap y u → Rd env s'.heap y u) → (∀ y u, y ≠ x → Rd env s'.heap y u → Rd env s.heap y u) → Q () s') :
    wpAny (model prog w) A (storeName env x v) Q E s := by
  rcases hk with hl | ⟨hl, c, hc⟩
  · obtain ⟨m, hn⟩ := st.ns
    refine wpAny_storeName_local hl hn (fun h' hn' hs' => ?_) (by rw [st.fn]; rfl)
    have kc : ∀ b o, b ≠ env.locals → s.heap.get? b = some o → h'.get? b = some o := fun b o hb e => hs'.extBut b o hb e
    have kc' : ∀ b o, b ≠ env.locals → h'.get? b = some o → s.heap.get? b = some o := fun b o hb e => (hs'.2 b hb).symm.trans e
    refine q env.locals _ st.ly (.inl rfl) ⟨rfl, rfl, rfl, fun b o hb e => kc b o (by simpa using hb) e⟩ (let ⟨o, _, _, e, _⟩ := hn'; ⟨o, e⟩) ?_ (.inl ⟨hl, _, hn', by simp⟩) (fun y u hy r => ?_) fun y u hy r => ?_
    · exact ⟨st.fn, ⟨_, hn'⟩, st.ly, fun y c e => let ⟨a, b, v, o, ho, hd⟩ := st.cell y c e; ⟨a, b, v, o, kc c o b ho, hd⟩, st.inj⟩
    · rcases r with ⟨a, m', hn₁, hv⟩ | ⟨a, c, hc, o, ho, hd⟩
      · refine .inl ⟨a, _, hn', ?_⟩
        show (if y = x then _ else m y) = _
        rw [if_neg hy]
        obtain ⟨o, es, ep, e1, e2, _, e3⟩ := hn
        obtain ⟨o', es', ep', f1, f2, _, f3⟩ := hn₁
        rw [e1] at f1; cases f1; rw [e2] at f2; cases f2
        rw [← e3 y, f3 y]; exact hv
      · exact .inr ⟨a, c, hc, o, kc c o (st.cell y c hc).2.1 ho, hd⟩
    · rcases r with ⟨a, m', hn₁, hv⟩ | ⟨a, c, hc, o, ho, hd⟩
      · refine .inl ⟨a, m, hn, ?_⟩
        obtain ⟨o, es, ep, e1, e2, _, e3⟩ := hn'
        obtain ⟨o', es', ep', f1, f2, _, f3⟩ := hn₁
        rw [e1] at f1; cases f1; rw [e2] at f2; cases f2
        have : (if y = x then some v else m y) = m' y := (e3 y).symm.trans (f3 y)
        rw [if_neg hy] at this
        rw [this]; exact hv
      · exact .inr ⟨a, c, hc, o, kc' c o (st.cell y c hc).2.1 ho, hd⟩
  · obtain ⟨hcY, hcL, v₀, hcell⟩ := st.cell x c hc
    refine wpAny_storeName_cell st.fn hl hc hcell fun h' hc' hs' => ?_
    have kc : ∀ b o, b ≠ c → s.heap.get? b = some o → h'.get? b = some o := fun b o hb e => hs'.extBut b o hb e
    have kc' : ∀ b o, b ≠ c → h'.get? b = some o → s.heap.get? b = some o := fun b o hb e => (hs'.2 b hb).symm.trans e
    refine q c _ hcY (.inr ⟨x, hc⟩) ⟨rfl, rfl, rfl, fun b o hb e => kc b o (by simpa using hb) e⟩ (let ⟨o, e, _⟩ := hc'; ⟨o, e⟩) ?_ (.inr ⟨hl, c, hc, hc'⟩) (fun y u hy r => ?_) fun y u hy r => ?_
    · refine ⟨st.fn, let ⟨m, hn⟩ := st.ns; ⟨m, hn.at' fun o e => kc _ o hcL.symm e⟩, st.ly, fun y d e => ?_, st.inj⟩
      obtain ⟨a, b, v', o, ho, hd⟩ := st.cell y d e
      refine ⟨a, b, ?_⟩
      by_cases h : d = c
      · subst h; exact ⟨_, hc'⟩
      · exact ⟨v', o, kc d o h ho, hd⟩
    · refine r.keep (fun o e => kc _ o hcL.symm e) fun d hd o e => kc d o (fun h => hy ?_) e
      subst h; exact st.inj y x _ hd hc
    · refine r.keep (fun o e => kc' _ o hcL.symm e) fun d hd o e => kc' d o (fun h => hy ?_) e
      subst h; exact st.inj y x _ hd hc
end
end Mine
end

section
set_option maxRecDepth 100000
namespace Mine
open PySem PySem.W PySem.Calls PyProof.Rows

/-! an iterator is no part of any datum -/
def Vout (V : View) (I : Addr) : View := fun b => if b = I then none else V b
theorem Vout.mk {V : View} {I a : Addr} {o : Obj} (h : V a = some o) (hn : a ≠ I) : Vout V I a = some o := by unfold Vout; rw [if_neg hn]; exact h
def FieldsAt (V : View) (I : Addr) : Prop := ∀ o, V I = some o → ∃ vs, o.data = .fields vs
theorem lookIn_dict {x : Str} {o : Obj} {r : Option Value} (h : lookIn x o = some r) : ∃ es n, o.data = .dict es n := by
  unfold lookIn at h
  split at h
  · rename_i es n e; exact ⟨es, n, e⟩
  · cases h
mutual
theorem Rp.skip {V : View} {I : Addr} (hI : FieldsAt V I) : ∀ {v : Value} {x : AV}, Rp V v x → Rp (Vout V I) v x
  | _, _, .none => .none
  | _, _, .bool b => .bool b
  | _, _, .int i t => .int i t
  | _, _, .str x t => .str x t
  | _, _, .list h r => .list (Vout.mk h fun e => by subst e; obtain ⟨_, e⟩ := hI _ h; cases e) (RpL.skip hI r)
  | _, _, .tup h r => .tup (Vout.mk h fun e => by subst e; obtain ⟨_, e⟩ := hI _ h; cases e) (RpL.skip hI r)
  | _, _, .ws h hd h1 h2 h3 h4 h5 h6 r1 r2 r3 r4 r5 => .ws (Vout.mk h fun e => by subst e; obtain ⟨_, e⟩ := hI _ h; cases e) (Vout.mk hd fun e => by subst e; obtain ⟨_, e⟩ := hI _ hd; obtain ⟨_, _, e'⟩ := lookIn_dict h1; rw [e'] at e; cases e) h1 h2 h3 h4 h5 h6
      (Rp.skip hI r1) (Rp.skip hI r2) (Rp.skip hI r3) (Rp.skip hI r4) (Rp.skip hI r5)
  | _, _, .obj a => .obj a
theorem RpL.skip {V : View} {I : Addr} (hI : FieldsAt V I) : ∀ {vs : List Value} {xs : List AV}, RpL V vs xs → RpL (Vout V I) vs xs
  | _, _, .nil => .nil
  | _, _, .cons h r => .cons (Rp.skip hI h) (RpL.skip hI r)
end

section
variable {prog : Program} {w : World} {A : Around} {env : Env} {Y X X₀ : List Addr} {s s' s₀ : Shared} {K : Frag} {lm : LM} {om : OM} {mk : Mk}

theorem vout_sub {I : Addr} (x : ExtB [I] s s') : Sub (Vout (Vw s.heap X) I) (Vw s'.heap X) := fun a o e => by
  unfold Vout at e
  split at e
  · cases e
  · rename_i h; exact Vw.mk (x.keep a o (by simpa using h) (Vw.get e)) (Vw.off e)

theorem Fm.iter {I : Addr} {o : Obj} {vs : Array Value} (f : Fm K s₀ mk env Y X₀ s lm om) (hI : s.heap.get? I = some o) (hd : o.data = .fields vs) (h0 : s₀.heap.get? I = none) (hsb : I ∈ mk.z ∨ mk.sb.heap.get? I = none) (hY : I ∉ Y) (x : ExtB [I] s s') :
    Fm K s₀ mk env Y X₀ s' lm om := by
  have hF : FieldsAt (Vw s.heap (Y ++ X₀)) I := fun o' e => by have := Vw.get e; rw [hI] at this; cases this; exact ⟨vs, hd⟩
  have kk : ∀ b o, b ≠ I → s.heap.get? b = some o → s'.heap.get? b = some o := fun b o hb e => x.keep b o (by simpa using hb) e
  have nl : env.locals ≠ I := fun e => hY (e ▸ f.sto.ly)
  have nc : ∀ y c, env.cells.lookup y = some c → c ≠ I := fun y c hc e => hY (e ▸ (f.sto.cell y c hc).1)
  have rk : ∀ y u, Rd env s.heap y u → Rd env s'.heap y u := fun y u r => r.keep (fun o e => kk _ o nl e) fun c hc o e => kk c o (nc y c hc) e
  refine ⟨f.cx, ⟨x.gens.trans f.ext.gens, x.drawn.trans f.ext.drawn, x.os.trans f.ext.os, fun b o e => kk b o (fun h => by subst h; rw [h0] at e; cases e) (f.ext.keep b o e)⟩, fun a ha => ⟨(f.ys a ha).1, let ⟨o, e⟩ := (f.ys a ha).2; ⟨o, kk a o (fun h => hY (h ▸ ha)) e⟩⟩,
    f.since.step x (fun d hd => by rw [List.mem_singleton.mp hd]; exact hsb), f.yz, ?_, fun y a e => ?_, fun y xs e => ?_, fun y z a h1 h2 h3 h4 => ?_⟩
  · refine f.sto.keep fun b o hb e => kk b o ?_ e
    rcases hb with rfl | ⟨y, hb⟩
    · exact nl
    · exact nc y b hb
  · obtain ⟨v, h1, h2⟩ := f.lo y a e
    exact ⟨v, rk y v h1, (h2.skip hF).mono (vout_sub x)⟩
  · obtain ⟨a, vs, n, h1, h2, h3, h4, h5, h9⟩ := f.ow y xs e
    exact ⟨a, vs, n, rk _ _ h1, h2, h3, h4, kk a _ (fun h => hY (h ▸ h2)) h5, (h9.skip hF).mono (vout_sub x)⟩
  · obtain ⟨ys, ey⟩ := Option.ne_none_iff_exists'.mp h3
    obtain ⟨zs, ez⟩ := Option.ne_none_iff_exists'.mp h4
    obtain ⟨b, _, _, g1, _⟩ := f.ow y ys ey
    obtain ⟨c, _, _, g2, _⟩ := f.ow z zs ez
    have e1 := (rk _ _ g1).inj h1
    have e2 := (rk _ _ g2).inj h2
    cases e1; cases e2
    exact f.apart y z a g1 g2 h3 h4

/-! stores -/
def StoreOk (env : Env) (x : Str) : Prop := env.kindOf x = some .local ∨ env.kindOf x = some .cell ∧ ∃ c, env.cells.lookup x = some c

theorem Fm.storeD {x : Str} {v : Value} {a : AV} {Q : Unit → Shared → Prop} {E : Value → Shared → Prop} (f : Fm K s₀ mk env Y X₀ s lm om) (r : Rp (Vw s.heap (Y ++ X₀)) v a) (hk : StoreOk env x)
    (q : ∀ s', Fm K s₀ mk env Y X₀ s' (upd lm x a) (del om x) → ExtB Y s s' → (∃ d, (d = env.locals ∨ ∃ y, env.cells.lookup y = some d) ∧ ExtB [d] s s') → Q () s') : wpAny (model prog w) A (storeName env x v) Q E s := by
  refine store_var f.sto hk fun d s' hd hdw xd hlive st' hx hup hdn => ?_
  have xY : ExtB Y s s' := xd.more fun c hc => by rw [List.mem_singleton.mp hc]; exact hd
  have kv : Sub (Vw s.heap (Y ++ X₀)) (Vw s'.heap (Y ++ X₀)) := Vw.keep fun b o hb e => xd.keep b o (fun h => hb (by rw [List.mem_singleton.mp h]; exact List.mem_append_left _ hd)) e
  refine q s' ⟨f.cx, ⟨xd.gens.trans f.ext.gens, xd.drawn.trans f.ext.drawn, xd.os.trans f.ext.os, fun b o e => xd.keep b o (fun h => ?_) (f.ext.keep b o e)⟩, fun b hb => ⟨(f.ys b hb).1, ?_⟩, f.since.step xY f.yz, f.yz, st', fun y b hy => ?_, fun y ys hy => ?_, fun y z b h1 h2 h3 h4 => ?_⟩ xY ⟨d, hdw, xd⟩
  · rw [List.mem_singleton.mp h, (f.ys d hd).1] at e; cases e
  · by_cases h : b = d
    · subst h; exact hlive
    · obtain ⟨o, e⟩ := (f.ys b hb).2; exact ⟨o, xd.keep b o (by simpa using h) e⟩
  · unfold upd at hy
    by_cases hyx : y = x
    · rw [if_pos hyx] at hy; cases hy; subst hyx; exact ⟨v, hx, r.mono kv⟩
    · rw [if_neg hyx] at hy
      obtain ⟨u, g1, g2⟩ := f.lo y b hy
      exact ⟨u, hup y u hyx g1, g2.mono kv⟩
  · unfold del at hy
    by_cases hyx : y = x
    · rw [if_pos hyx] at hy; cases hy
    · rw [if_neg hyx] at hy
      obtain ⟨b, vs, n, g1, g2, g3, g4, g5, g9⟩ := f.ow y ys hy
      refine ⟨b, vs, n, hup _ _ hyx g1, g2, g3, g4, xd.keep b _ (fun h => ?_) g5, g9.mono kv⟩
      have : b = d := List.mem_singleton.mp h
      subst this
      rcases hdw with h | ⟨z, h⟩
      · exact g3 h
      · exact g4 z h
  · unfold del at h3 h4
    by_cases hy : y = x
    · rw [if_pos hy] at h3; exact absurd rfl h3
    · by_cases hz : z = x
      · rw [if_pos hz] at h4; exact absurd rfl h4
      · rw [if_neg hy] at h3; rw [if_neg hz] at h4
        exact f.apart y z b (hdn _ _ hy h1) (hdn _ _ hz h2) h3 h4

theorem Fm.store {x : Str} {v : Value} {a : AV} {Q : Unit → Shared → Prop} {E : Value → Shared → Prop} (f : Fm K s₀ mk env Y X₀ s lm om) (r : Rp (Vw s.heap (Y ++ X₀)) v a) (hk : StoreOk env x)
    (q : ∀ s', Fm K s₀ mk env Y X₀ s' (upd lm x a) (del om x) → ExtB Y s s' → Q () s') : wpAny (model prog w) A (storeName env x v) Q E s := f.storeD r hk fun s' f' x' _ => q s' f' x'

theorem st_assign {x : Str} {p' pos : Pos} {e : Expr} {a : AV} {Q : Flow → Shared → Prop} {E : Value → Shared → Prop} (f : Fm K s₀ mk env Y X₀ s lm om) (h : Ev prog w A env (Y ++ X₀) s e a)
    (hk : StoreOk env x) (hs : swapsWith e (some (.Name x p')) pos.line env = pure false)
    (q : ∀ s', Fm K s₀ mk env Y X₀ s' (upd lm x a) (del om x) → Q .next s') : wpAny (model prog w) A (exec (.Assign [.Name x p'] e pos) env) Q E s := by
  refine wpAny_Assign_Name (h s _ _ (.refl _) fun v s₁ x₁ r => ?_) hs
  exact (f.after x₁).store r hk fun s' f' _ => q s' f'

/-- a fresh list -/
def FreshL (X : List Addr) (s : Shared) (xs : List AV) (v : Value) (s₂ : Shared) : Prop :=
  ∃ a vs n, v = .ref a ∧ s.heap.get? a = none ∧ s₂.heap.get? a = some (lstO vs n) ∧ RpL (Vw s₂.heap (a :: X)) vs xs
abbrev EvF (prog : Program) (w : World) (A : Around) (env : Env) (X : List Addr) (s : Shared) (e : Expr) (xs : List AV) : Prop := EvP prog w A env s e (FreshL X s xs)
theorem FreshL.rp {xs : List AV} {v : Value} {s₂ : Shared} (h : FreshL X s xs v s₂) (c : Cx K X s.heap) : Rp (Vw s₂.heap X) v (.list xs) := by
  obtain ⟨a, vs, n, rfl, h0, ho, r⟩ := h
  exact .list (Vw.mk ho (c.off h0)) (r.mono (Vw.less fun b hb => List.mem_cons_of_mem _ hb))
theorem EvF.ev {e : Expr} {xs : List AV} (h : EvF prog w A env X s e xs) (c : Cx K X s.heap) : Ev prog w A env X s e (.list xs) := EvP.mono h fun v s₂ _ r => r.rp c

theorem Fm.storeOwn {x : Str} {v : Value} {xs : List AV} {s₁ : Shared} {Q : Unit → Shared → Prop} {E : Value → Shared → Prop} (f : Fm K s₀ mk env Y X₀ s lm om) (x₁ : Ext s s₁) (r : FreshL (Y ++ X₀) s xs v s₁) (hk : StoreOk env x)
    (q : ∀ a s', Fm K s₀ mk env (a :: Y) X₀ s' (del lm x) (upd om x xs) → Q () s') : wpAny (model prog w) A (storeName env x v) Q E s₁ := by
  obtain ⟨a, vs, n, rfl, hn, ho, rl⟩ := r
  have f₁ := f.after x₁
  have ha : a ∉ Y := fun h => by obtain ⟨o, e⟩ := (f.ys a h).2; rw [hn] at e; cases e
  have ha0 : s₀.heap.get? a = none := by
    cases e : s₀.heap.get? a with
    | none => rfl
    | some o => have := f.ext.keep a o e; rw [hn] at this; cases this
  have hsb : a ∈ mk.z ∨ mk.sb.heap.get? a = none := by
    by_cases hz : a ∈ mk.z
    · exact .inl hz
    · right
      cases e : mk.sb.heap.get? a with
      | none => rfl
      | some o => have := f.since.keep a o hz e; rw [hn] at this; cases this
  have sub : Sub (Vw s.heap (Y ++ X₀)) (Vw s₁.heap (a :: (Y ++ X₀))) := fun b o e => Vw.mk (x₁.keep _ _ (Vw.get e)) (by
    intro h
    rcases List.mem_cons.mp h with h | h
    · subst h; have := Vw.get e; rw [hn] at this; cases this
    · exact Vw.off e h)
  refine store_var f₁.sto hk fun d s' hdY hdw xd hlive st' hx hup hdn => ?_
  have nad : a ≠ d := fun h => ha (h ▸ hdY)
  have kv : Sub (Vw s₁.heap (a :: (Y ++ X₀))) (Vw s'.heap (a :: (Y ++ X₀))) := Vw.keep fun b o hb e => xd.keep b o (fun h => hb (by rw [List.mem_singleton.mp h]; exact List.mem_cons_of_mem _ (List.mem_append_left _ hdY))) e
  have xY : ExtB Y s₁ s' := xd.more fun c hc => by rw [List.mem_singleton.mp hc]; exact hdY
  refine q a s' ⟨f.cx, ⟨xd.gens.trans f₁.ext.gens, xd.drawn.trans f₁.ext.drawn, xd.os.trans f₁.ext.os, fun b o e => xd.keep b o (fun h => ?_) (f₁.ext.keep b o e)⟩, fun b hb => ?_, f₁.since.step xY f.yz, fun b hb => ?_, st'.more fun b hb => List.mem_cons_of_mem _ hb, fun y b hy => ?_, fun y ys hy => ?_, fun y z b h1 h2 h3 h4 => ?_⟩
  · rw [List.mem_singleton.mp h, (f.ys d hdY).1] at e; cases e
  · rcases List.mem_cons.mp hb with rfl | hb
    · exact ⟨ha0, _, xd.keep _ _ (by simpa using nad) ho⟩
    · refine ⟨(f.ys b hb).1, ?_⟩
      by_cases h : b = d
      · subst h; exact hlive
      · obtain ⟨o, e⟩ := (f₁.ys b hb).2; exact ⟨o, xd.keep b o (by simpa using h) e⟩
  · rcases List.mem_cons.mp hb with rfl | hb
    · exact hsb
    · exact f.yz b hb
  · unfold del at hy
    by_cases hyx : y = x
    · rw [if_pos hyx] at hy; cases hy
    · rw [if_neg hyx] at hy
      obtain ⟨u, g1, g2⟩ := f.lo y b hy
      exact ⟨u, hup y u hyx (g1.mono x₁.keep), g2.mono (sub.trans kv)⟩
  · unfold upd at hy
    by_cases hyx : y = x
    · rw [if_pos hyx] at hy; cases hy; subst hyx
      refine ⟨a, vs, n, hx, List.mem_cons_self, fun h => ha (h ▸ f.sto.ly), fun z hz => ha (f.sto.cell z a hz).1, xd.keep _ _ (by simpa using nad) ho, rl.mono kv⟩
    · rw [if_neg hyx] at hy
      obtain ⟨b, vs, n, g1, g2, g3, g4, g5, g9⟩ := f.ow y ys hy
      refine ⟨b, vs, n, hup _ _ hyx (g1.mono x₁.keep), List.mem_cons_of_mem _ g2, g3, g4, xd.keep b _ (fun h => ?_) (x₁.keep _ _ g5), g9.mono (sub.trans kv)⟩
      have : b = d := List.mem_singleton.mp h
      subst this
      rcases hdw with h | ⟨z, h⟩
      · exact g3 h
      · exact g4 z h
  · have fresh : ∀ y, y ≠ x → om y ≠ none → Rd env s'.heap y (.ref a) → False := fun y hy ho hr => by
      obtain ⟨ys, ey⟩ := Option.ne_none_iff_exists'.mp ho
      obtain ⟨b, _, _, g1, g2, _⟩ := f.ow y ys ey
      have := (hup _ _ hy (g1.mono x₁.keep)).inj hr
      cases this
      exact ha g2
    unfold upd at h3 h4
    by_cases hy : y = x
    · by_cases hz : z = x
      · rw [hy, hz]
      · rw [if_neg hz] at h4
        subst hy
        have := hx.inj h1; cases this
        exact (fresh z hz h4 h2).elim
    · rw [if_neg hy] at h3
      by_cases hz : z = x
      · subst hz
        have := hx.inj h2; cases this
        exact (fresh y hy h3 h1).elim
      · rw [if_neg hz] at h4
        exact f₁.apart y z b (hdn _ _ hy h1) (hdn _ _ hz h2) h3 h4

theorem st_assign_own {x : Str} {p' pos : Pos} {e : Expr} {xs : List AV} {Q : Flow → Shared → Prop} {E : Value → Shared → Prop} (f : Fm K s₀ mk env Y X₀ s lm om) (h : EvF prog w A env (Y ++ X₀) s e xs)
    (hk : StoreOk env x) (hs : swapsWith e (some (.Name x p')) pos.line env = pure false)
    (q : ∀ a s', Fm K s₀ mk env (a :: Y) X₀ s' (del lm x) (upd om x xs) → Q .next s') : wpAny (model prog w) A (exec (.Assign [.Name x p'] e pos) env) Q E s := by
  refine wpAny_Assign_Name (h s _ _ (.refl _) fun v s₁ x₁ r => ?_) hs
  exact f.storeOwn x₁ r hk q

/-- one list of the frame's own is changed -/
theorem Fm.change {x : Str} {xs ys : List AV} (f : Fm K s₀ mk env Y X₀ s lm om) (h : om x = some xs) :
    ∃ a vs n, Rd env s.heap x (.ref a) ∧ s.heap.get? a = some (lstO vs n) ∧ RpL (Vw s.heap (Y ++ X₀)) vs xs ∧
      ∀ s' vs' n', ExtB [a] s s' → s'.heap.get? a = some (lstO vs' n') → RpL (Vw s.heap (Y ++ X₀)) vs' ys → Fm K s₀ mk env Y X₀ s' lm (upd om x ys) := by
  obtain ⟨a, vs, n, h1, h2, h3, h4, h5, h9⟩ := f.ow x xs h
  refine ⟨a, vs, n, h1, h5, h9, fun s' vs' n' x' e1 rl => ?_⟩
  have kk : ∀ b o, b ≠ a → s.heap.get? b = some o → s'.heap.get? b = some o := fun b o hb e => x'.keep b o (by simpa using hb) e
  have kv : Sub (Vw s.heap (Y ++ X₀)) (Vw s'.heap (Y ++ X₀)) := Vw.keep fun b o hb e => kk b o (fun h => hb (h ▸ List.mem_append_left _ h2)) e
  have rk : ∀ y u, Rd env s.heap y u → Rd env s'.heap y u := fun y u r => r.keep (fun o e => kk _ o h3.symm e) fun c hc o e => kk c o (fun h => h4 y (h ▸ hc)) e
  have xY : ExtB Y s s' := x'.more fun c hc => by rw [List.mem_singleton.mp hc]; exact h2
  refine ⟨f.cx, ⟨x'.gens.trans f.ext.gens, x'.drawn.trans f.ext.drawn, x'.os.trans f.ext.os, fun b o e => kk b o (fun h => ?_) (f.ext.keep b o e)⟩, fun b hb => ⟨(f.ys b hb).1, ?_⟩, f.since.step xY f.yz, f.yz, ?_, fun y b hy => ?_, fun y zs hy => ?_, fun y z b g1 g2 g3 g4 => ?_⟩
  · subst h; rw [(f.ys _ h2).1] at e; cases e
  · by_cases h : b = a
    · subst h; exact ⟨_, e1⟩
    · obtain ⟨o, e⟩ := (f.ys b hb).2; exact ⟨o, kk b o h e⟩
  · refine f.sto.keep fun b o hb e => kk b o ?_ e
    rcases hb with rfl | ⟨y, hb⟩
    · exact h3.symm
    · exact fun h => h4 y (h ▸ hb)
  · obtain ⟨u, g1, g2⟩ := f.lo y b hy
    exact ⟨u, rk y u g1, g2.mono kv⟩
  · unfold upd at hy
    by_cases hyx : y = x
    · rw [if_pos hyx] at hy; cases hy; subst hyx
      exact ⟨a, vs', n', rk _ _ h1, h2, h3, h4, e1, rl.mono kv⟩
    · rw [if_neg hyx] at hy
      obtain ⟨b, vs, n, g1, g2, g3, g4, g5, g9⟩ := f.ow y zs hy
      refine ⟨b, vs, n, rk _ _ g1, g2, g3, g4, kk b _ (fun hba => hyx ?_) g5, g9.mono kv⟩
      subst hba
      exact f.apart y x _ g1 h1 (by rw [hy]; simp) (by rw [h]; simp)
  · have nn : ∀ y, upd om x ys y ≠ none → om y ≠ none := fun y hy => by
      unfold upd at hy
      by_cases hyx : y = x
      · subst hyx; rw [h]; simp
      · rw [if_neg hyx] at hy; exact hy
    have back : ∀ y u, om y ≠ none → Rd env s'.heap y u → Rd env s.heap y u := fun y u hy r => by
      obtain ⟨zs, ey⟩ := Option.ne_none_iff_exists'.mp hy
      obtain ⟨b, _, _, k1, _⟩ := f.ow y zs ey
      have := (rk _ _ k1).inj r
      subst this; exact k1
    exact f.apart y z b (back _ _ (nn y g3) g1) (back _ _ (nn z g4) g2) (nn y g3) (nn z g4)

theorem st_return {e : Expr} {pos : Pos} {a : AV} {Q : Flow → Shared → Prop} {E : Value → Shared → Prop} (h : Ev prog w A env X s e a) (q : ∀ v s', Ext s s' → Rp (Vw s'.heap X) v a → Q (.ret v) s') :
    wpAny (model prog w) A (exec (.Return (some e) pos) env) Q E s := wpAny_Return_some (h s _ _ (.refl _) q)

/-! tests -/
def Ts (prog : Program) (w : World) (A : Around) (env : Env) (s : Shared) (e : Expr) (b : Bool) : Prop :=
  ∀ s₁ (Q : Bool → Shared → Prop) (E : Value → Shared → Prop), Ext s s₁ → (∀ s₂, Ext s₁ s₂ → Q b s₂) → wpAny (model prog w) A (isTrue e env (eval e env)) Q E s₁
theorem st_if {test : Expr} {body orelse : List Stmt} {pos : Pos} {b : Bool} {Q : Flow → Shared → Prop} {E : Value → Shared → Prop} (h : Ts prog w A env s test b)
    (q : ∀ s', Ext s s' → wpAny (model prog w) A (execs (if b then body else orelse) env) Q E s') : wpAny (model prog w) A (exec (.If test body orelse pos) env) Q E s := by
  refine wpAny_If (h s _ _ (.refl _) fun s₂ x₂ => ?_)
  have := q s₂ x₂
  cases b <;> simpa using this
theorem ev_if {test body orelse : Expr} {pos : Pos} {b : Bool} {P} (h : Ts prog w A env s test b) (q : EvP prog w A env s (if b then body else orelse) P) : EvP prog w A env s (.IfExp test body orelse pos) P := by
  intro s₁ Q E x k
  refine wpAny_IfExp (h s₁ _ _ x fun s₂ x₂ => ?_)
  have := q s₂ Q E (x.trans x₂) fun v s₃ x₃ p => k v s₃ (x₂.trans x₃) p
  cases b <;> simpa using this
theorem ts_not {e : Expr} {pos : Pos} {b : Bool} (h : Ts prog w A env s e b) : Ts prog w A env s (.UnaryOp .Not e pos) (!b) := fun s₁ Q E x k => wpAny_isTrue_Not (h s₁ _ _ x fun s₂ x₂ => k s₂ x₂)
theorem ts_and {e f : Expr} {pos : Pos} {b c : Bool} (h : Ts prog w A env s e b) (g : b = true → Ts prog w A env s f c) : Ts prog w A env s (.BoolOp .And [e, f] pos) (b && c) := by
  intro s₁ Q E x k
  refine wpAny_isTrue_BoolOp (wpAny_allTrue_And_cons (h s₁ _ _ x fun s₂ x₂ => ?_))
  cases b with
  | false => exact k s₂ x₂
  | true =>
    refine wpAny_allTrue_And_cons (g rfl s₂ _ _ (x.trans x₂) fun s₃ x₃ => ?_)
    cases c with
    | false => exact k s₃ (x₂.trans x₃)
    | true => exact wpAny_allTrue_And_nil (k s₃ (x₂.trans x₃))
theorem ts_or {e f : Expr} {pos : Pos} {b c : Bool} (h : Ts prog w A env s e b) (g : b = false → Ts prog w A env s f c) : Ts prog w A env s (.BoolOp .Or [e, f] pos) (b || c) := by
  intro s₁ Q E x k
  refine wpAny_isTrue_BoolOp (wpAny_allTrue_Or_cons (h s₁ _ _ x fun s₂ x₂ => ?_))
  cases b with
  | true => exact k s₂ x₂
  | false =>
    refine wpAny_allTrue_Or_cons (g rfl s₂ _ _ (x.trans x₂) fun s₃ x₃ => ?_)
    cases c with
    | true => exact k s₃ (x₂.trans x₃)
    | false => exact wpAny_allTrue_Or_nil (k s₃ (x₂.trans x₃))

/-- a comparison of two data -/
def Cmp (prog : Program) (w : World) (A : Around) (X : List Addr) (op : CmpOp) (a b : AV) (r : Bool) (h : Heap) : Prop :=
  ∀ s₁ va vb (Q E : Value → Shared → Prop), Kp h s₁.heap → Rp (Vw s₁.heap X) va a → Rp (Vw s₁.heap X) vb b → (∀ s₂, Ext s₁ s₂ → Q (.bool r) s₂) → wpAny (model prog w) A (compareOp op va vb) Q E s₁
theorem ev_cmp {l r : Expr} {op : CmpOp} {pos : Pos} {a b : AV} {c : Bool} {X' : List Addr} (h1 : Ev prog w A env X s l a) (h2 : Ev prog w A env X s r b) (h3 : Cmp prog w A X op a b c s.heap) (hm : behindInMarks op r = false) : Ev prog w A env X' s (.Compare l [op] [r] pos) (.bool c) := by
  intro s₁ Q E x k
  refine wpAny_Compare1 (h1 s₁ _ _ x fun va s₂ x₂ ra => h2 s₂ _ _ (x.trans x₂) fun vb s₃ x₃ rb => ?_) hm
  exact h3 s₃ va vb _ _ ((x.trans x₂).trans x₃).keep (ra.mono (Vw.ext x₃)) rb fun s₄ x₄ => k _ s₄ ((x₂.trans x₃).trans x₄) (.bool c)
theorem ts_cmp {l r : Expr} {op : CmpOp} {pos : Pos} {a b : AV} {c : Bool} (h1 : Ev prog w A env X s l a) (h2 : Ev prog w A env X s r b) (h3 : Cmp prog w A X op a b c s.heap) (hm : behindInMarks op r = false) : Ts prog w A env s (.Compare l [op] [r] pos) c := by
  intro s₁ Q E x k
  refine wpAny_isTrue_Compare1 (h1 s₁ _ _ x fun va s₂ x₂ ra => h2 s₂ _ _ (x.trans x₂) fun vb s₃ x₃ rb => ?_) hm
  exact h3 s₃ va vb _ _ ((x.trans x₂).trans x₃).keep (ra.mono (Vw.ext x₃)) rb fun s₄ x₄ => wpAny_truthy_bool (k s₄ ((x₂.trans x₃).trans x₄))

theorem cmp_lt {a b : Int} {h : Heap} : Cmp prog w A X .Lt (.int a) (.int b) (decide (a < b)) h := fun s₁ va vb Q E _ ra rb k => by cases ra; cases rb; exact PyProof.Rows.lt_int (k s₁ (.refl _))
theorem cmp_gt {a b : Int} {h : Heap} : Cmp prog w A X .Gt (.int a) (.int b) (decide (b < a)) h := fun s₁ va vb Q E _ ra rb k => by cases ra; cases rb; exact PyProof.Rows.gt_int (k s₁ (.refl _))
theorem cmp_eq {a b : Int} {h : Heap} : Cmp prog w A X .Eq (.int a) (.int b) (a == b) h := fun s₁ va vb Q E _ ra rb k => by cases ra; cases rb; exact PyProof.Rows.eq_int (k s₁ (.refl _))
end
end Mine
end

section
set_option maxRecDepth 100000
namespace Mine
open PySem PySem.W PySem.Calls PyProof.Rows

theorem push_none (h : Heap) : h.get? h.objs.size = none := by
  cases q : h.get? h.objs.size with
  | none => rfl
  | some o => exact absurd (Heap.lt_size q) (Nat.lt_irrefl _)

section
variable {prog : Program} {w : World} {A : Around} {env : Env} {Y X X₀ : List Addr} {s s' s₀ : Shared} {K : Frag} {lm : LM} {om : OM} {mk : Mk}

/-! what a loop goes over -/
def ItOk (prog : Program) (w : World) (A : Around) (X : List Addr) (n : Nat) (it : Nat → AV) (s₁ : Shared) (v : Value) (s₂ : Shared) : Prop :=
  ∃ I fp P St, v = .ref I ∧ Ext s₁ s₂ ∧ s₁.heap.get? I = none ∧ Walks prog w A I fp [I] n P St ∧ St 0 s₂.heap ∧ (∀ b ∈ fp, b ∉ X ∧ ∃ o, s₂.heap.get? b = some o) ∧
    (∀ i h, St i h → ∃ o vs, h.get? I = some o ∧ o.data = .fields vs) ∧ (∀ i v, P i v → Rp (Vw s₂.heap X) v (it i))
def Iter (prog : Program) (w : World) (A : Around) (env : Env) (X : List Addr) (s : Shared) (e : Expr) (n : Nat) (it : Nat → AV) : Prop :=
  ∀ s₁ (Q : Value → Shared → Prop) (E : Value → Shared → Prop), Ext s s₁ → (∀ v s₂, ItOk prog w A X n it s₁ v s₂ → Q v s₂) → wpAny (model prog w) A (eval e env) (fun v s' => wpAny (model prog w) A (pyIter v) Q E s') E s₁

theorem itok_before {n : Nat} {it : Nat → AV} {s₁ s₂ s₃ : Shared} {v : Value} (x : Ext s₁ s₂) (h : ItOk prog w A X n it s₂ v s₃) : ItOk prog w A X n it s₁ v s₃ := by
  obtain ⟨I, fp, P, St, a, b, c, d⟩ := h
  refine ⟨I, fp, P, St, a, x.trans b, ?_, d⟩
  cases e : s₁.heap.get? I with
  | none => rfl
  | some o => have := x.keep _ _ e; rw [c] at this; cases this

theorem iter_list {e : Expr} {xs : List AV} (hh : A.handled = none) (c : Cx K X s.heap) (h : Ev prog w A env X s e (.list xs)) : Iter prog w A env X s e xs.length (fun i => xs.getD i .none) := by
  intro s₁ Q E x k
  refine h s₁ _ _ x fun v s₂ x₂ r => ?_
  have c₂ := c.mono (x.trans x₂).keep
  cases r with
  | list ho rl =>
    rename_i a vs n
    have hl : s₂.heap.IsList a vs.toArray := ⟨_, Vw.get ho, rfl, n, rfl⟩
    refine wpAny_pyIter_list hl ?_
    have hne : a ≠ s₂.heap.objs.size := Nat.ne_of_lt (Heap.lt_size (Vw.get ho))
    have W := Walks.list (prog := prog) (w := w) hh s₂.heap.objs.size a hne vs.toArray
    have hsz : vs.toArray.size = xs.length := by rw [List.size_toArray, rl.length]
    rw [hsz] at W
    refine k _ _ (itok_before x₂ ⟨_, _, _, _, rfl, .of' (Kp.push _ _), push_none _, W, ⟨⟨_, Heap.get?_push_size _ rfl, rfl, rfl⟩, hl.push _⟩, ?_, fun i h st => ?_, fun i v hv => ?_⟩)
    · intro b hb
      simp only [List.mem_cons, List.not_mem_nil, or_false] at hb
      rcases hb with rfl | rfl
      · exact ⟨c₂.off (push_none _), _, Heap.get?_push_size _ rfl⟩
      · exact ⟨Vw.off ho, _, Heap.get?_push_of_some _ (Vw.get ho)⟩
    · obtain ⟨⟨o, e1, _, e2⟩, _⟩ := st; exact ⟨o, _, e1, e2⟩
    · have hv' : vs[i]? = some v := by simpa using hv
      obtain ⟨y, e1, e2⟩ := rl.get' hv'
      have e3 : (fun i => xs.getD i AV.none) i = y := by dsimp only; rw [List.getD_eq_getElem?_getD, e1]; rfl
      rw [e3]
      exact e2.mono (Vw.keep fun b o _ e => Kp.push _ _ b o e)

theorem iter_str {e : Expr} {x : Str} (hh : A.handled = none) (c : Cx K X s.heap) (h : Ev prog w A env X s e (.str x)) : Iter prog w A env X s e x.cps.size (fun i => .str ⟨#[x.cps.getD i 0]⟩) := by
  intro s₁ Q E x₁ k
  refine h s₁ _ _ x₁ fun v s₂ x₂ r => ?_
  have c₂ := c.mono (x₁.trans x₂).keep
  cases r with
  | str _ t =>
    have sign : ∀ i v, SignAt x i v → Rp (Vw s₂.heap X) v (.str ⟨#[x.cps.getD i 0]⟩) := fun i v hv => by
      obtain ⟨c, u, h1, rfl⟩ := hv
      have e1 : x.cps.getD i 0 = c := by rw [Array.getD_eq_getD_getElem?, h1]; rfl
      rw [e1]
      exact .str _ _
    cases ha : x.cps.all (· < 128)
    · refine wpAny_pyIter_wide ha (k _ _ (itok_before x₂ ⟨_, _, _, _, rfl, .of' (Kp.push _ _), push_none _, Walks.strWide hh _ x t, ⟨_, Heap.get?_push_size _ rfl, rfl, rfl⟩, ?_, fun i h st => let ⟨o, e1, _, e2⟩ := st; ⟨o, _, e1, e2⟩, fun i v hv => (sign i v hv).imm trivial⟩))
      intro b hb
      rw [List.mem_singleton.mp hb]
      exact ⟨c₂.off (push_none _), _, Heap.get?_push_size _ rfl⟩
    · refine wpAny_pyIter_ascii ha (k _ _ (itok_before x₂ ⟨_, _, _, _, rfl, .of' (Kp.push _ _), push_none _, Walks.strAscii hh _ x t, ⟨_, Heap.get?_push_size _ rfl, rfl, rfl⟩, ?_, fun i h st => let ⟨o, e1, _, e2⟩ := st; ⟨o, _, e1, e2⟩, fun i v hv => (sign i v hv).imm trivial⟩))
      intro b hb
      rw [List.mem_singleton.mp hb]
      exact ⟨c₂.off (push_none _), _, Heap.get?_push_size _ rfl⟩

/-! for -/
def LoopTo (K : Frag) (s₀ : Shared) (mk : Mk) (env : Env) (X₀ : List Addr) (J : LM → OM → Prop) (s : Shared) : Prop := ∃ Y lm om, Fm K s₀ mk env Y X₀ s lm om ∧ J lm om

theorem st_for {x : Str} {px pos : Pos} {iter : Expr} {body : List Stmt} {n : Nat} {it : Nat → AV} {Q : Flow → Shared → Prop} {E : Value → Shared → Prop} (f : Fm K s₀ mk env Y X₀ s lm om) (hit : Iter prog w A env (Y ++ X₀) s iter n it) (hk : StoreOk env x)
    (J : Nat → LM → OM → Prop) (Jb : LM → OM → Prop) (j0 : J 0 lm om)
    (turn : ∀ i Y' lm' om' s₂ E', i < n → J i lm' om' → Fm K s₀ ⟨s₂, Y'⟩ env Y' X₀ s₂ (upd lm' x (it i)) (del om' x) →
      wpAny (model prog w) A (execs body env) (fun fl s' => match fl with
        | .ret v => Q (.ret v) s'
        | .brk => LoopTo K s₀ ⟨s₂, Y'⟩ env X₀ Jb s'
        | _ => LoopTo K s₀ ⟨s₂, Y'⟩ env X₀ (J (i + 1)) s') E' s₂)
    (done : ∀ Y' lm' om' s', J n lm' om' ∨ Jb lm' om' → Fm K s₀ mk env Y' X₀ s' lm' om' → Q .next s')
    (hfold : ∀ x, foldedSetIterable iter env x = pure x) :
    wpAny (model prog w) A (exec (.For (.Name x px) iter body [] pos) env) Q E s := by
  refine wpAny_For (hit s _ _ (.refl _) fun v sI ok => ?_) hfold
  obtain ⟨I, fp, P, St, rfl, xI, hI0, W, st0, hfp, hfld, hP⟩ := ok
  have hI0' : s₀.heap.get? I = none := by
    cases e : s₀.heap.get? I with
    | none => rfl
    | some o => have := f.ext.keep _ _ e; rw [hI0] at this; cases this
  have hIsb : I ∈ mk.z ∨ mk.sb.heap.get? I = none := by
    by_cases hz : I ∈ mk.z
    · exact .inl hz
    · right
      cases e : mk.sb.heap.get? I with
      | none => rfl
      | some o => have := f.since.keep _ _ hz e; rw [hI0] at this; cases this
  have hIfp : I ∈ fp := W.sub I (by simp)
  refine codeAny_forLoop (fun k s' => ∃ i Y' lm' om', k = n + 1 - i ∧ i ≤ n ∧ Fm K s₀ mk env Y' X₀ s' lm' om' ∧ St i s'.heap ∧ (∀ b ∈ fp, b ∉ Y' ∧ ∃ o, s'.heap.get? b = some o) ∧ Sub (Vw sI.heap (Y ++ X₀)) (fun b => if b = I then sI.heap.get? I else Vw s'.heap (Y' ++ X₀) b) ∧ J i lm' om') ?_ (n + 1)
    ⟨0, Y, lm, om, rfl, Nat.zero_le _, f.after xI, st0, fun b hb => ⟨fun h => (hfp b hb).1 (List.mem_append_left _ h), (hfp b hb).2⟩, fun b o e => by
      dsimp only
      by_cases h : b = I
      · rw [if_pos h, ← h]; exact Vw.get e
      · rw [if_neg h]; exact e, j0⟩
  rintro k s₁ ⟨i, Y₁, lm₁, om₁, rfl, hi, f₁, st₁, hfp₁, hsub, hj⟩
  have hIY : I ∉ Y₁ := (hfp₁ I hIfp).1
  obtain ⟨oI, vsI, hoI, hdI⟩ := hfld i _ st₁
  by_cases hlt : i < n
  · refine W.item i s₁ _ _ hlt st₁ fun v h₂ tk₂ hPv st₂ hk₂ => ?_
    have x₂ : ExtB [I] s₁ { s₁ with heap := h₂, toks := tk₂ } := ⟨rfl, rfl, rfl, hk₂⟩
    have f₂ := f₁.iter hoI hdI hI0' hIsb hIY x₂
    have hF : FieldsAt (Vw sI.heap (Y ++ X₀)) I := fun o e => by
      obtain ⟨o', vs', e1, e2⟩ := hfld 0 _ st0
      have := Vw.get e
      rw [e1] at this; cases this; exact ⟨vs', e2⟩
    have hv : Rp (Vw h₂ (Y₁ ++ X₀)) v (it i) := by
      refine ((hP i v hPv).skip hF).mono fun b o e => ?_
      unfold Vout at e
      split at e
      · cases e
      · rename_i hb
        have := hsub b o e
        dsimp only at this
        rw [if_neg hb] at this
        exact Vw.mk (hk₂ b o (by simpa using hb) (Vw.get this)) (Vw.off this)
    have hfp₂ : ∀ b ∈ fp, b ∉ Y₁ ∧ ∃ o, h₂.get? b = some o := fun b hb => ⟨(hfp₁ b hb).1, by
      by_cases h : b = I
      · subst h; obtain ⟨o, _, e, _⟩ := hfld _ _ st₂; exact ⟨o, e⟩
      · obtain ⟨o, e⟩ := (hfp₁ b hb).2; exact ⟨o, hk₂ b o (by simpa using h) e⟩⟩
    refine wpAny_assign_Name (f₂.store hv hk fun s₃ f₃ x₃ => ?_)
    have hfp₃ : ∀ b ∈ fp, b ∉ Y₁ ∧ ∃ o, s₃.heap.get? b = some o := fun b hb => ⟨(hfp₂ b hb).1, let ⟨o, e⟩ := (hfp₂ b hb).2; ⟨o, x₃.keep b o (hfp₂ b hb).1 e⟩⟩
    have st₃ : St (i + 1) s₃.heap := W.frame _ _ _ st₂ fun b hb o e => x₃.keep b o (hfp₂ b hb).1 e
    refine wpAny_mono (turn i Y₁ lm₁ om₁ s₃ _ hlt hj f₃.mark) (fun fl s₄ h₄ => ?_) fun _ _ e => e
    have nxt : LoopTo K s₀ ⟨s₃, Y₁⟩ env X₀ (J (i + 1)) s₄ → ∃ m, m < n + 1 - i ∧ ∃ i Y' lm' om', m = n + 1 - i ∧ i ≤ n ∧ Fm K s₀ mk env Y' X₀ s₄ lm' om' ∧ St i s₄.heap ∧ (∀ b ∈ fp, b ∉ Y' ∧ ∃ o, s₄.heap.get? b = some o) ∧ Sub (Vw sI.heap (Y ++ X₀)) (fun b => if b = I then sI.heap.get? I else Vw s₄.heap (Y' ++ X₀) b) ∧ J i lm' om' := by
      rintro ⟨Y₄, lm₄, om₄, f₄, hj₄⟩
      have offY : ∀ b o, s₃.heap.get? b = some o → b ∉ Y₁ → b ∉ Y₄ := fun b o e hb hm => by
        rcases f₄.yz b hm with h | h
        · exact hb h
        · dsimp only at h; rw [e] at h; cases h
      refine ⟨n + 1 - (i + 1), by omega, i + 1, Y₄, lm₄, om₄, rfl, hlt, f₄.unmark f₃.since f₃.yz, W.frame _ _ _ st₃ fun b hb o e => f₄.since.keep b o (hfp₃ b hb).1 e, fun b hb => ?_, ?_, hj₄⟩
      · obtain ⟨o, e⟩ := (hfp₃ b hb).2
        exact ⟨offY b o e (hfp₃ b hb).1, o, f₄.since.keep b o (hfp₃ b hb).1 e⟩
      · intro b o e
        dsimp only
        by_cases h : b = I
        · rw [if_pos h, ← h]; exact Vw.get e
        · rw [if_neg h]
          have e1 := hsub b o e
          dsimp only at e1
          rw [if_neg h] at e1
          have hbY : b ∉ Y₁ := fun hm => Vw.off e1 (List.mem_append_left _ hm)
          have e3 : s₃.heap.get? b = some o := x₃.keep b o hbY (hk₂ b o (by simpa using h) (Vw.get e1))
          refine Vw.mk (f₄.since.keep b o hbY e3) fun hm => ?_
          rcases List.mem_append.mp hm with hm | hm
          · exact offY b o e3 hbY hm
          · exact Vw.off e1 (List.mem_append_right _ hm)
    cases fl with
    | ret v => exact h₄
    | brk =>
      obtain ⟨Y₄, lm₄, om₄, f₄, hj₄⟩ := h₄
      exact done Y₄ lm₄ om₄ s₄ (.inr hj₄) (f₄.unmark f₃.since f₃.yz)
    | next => exact nxt h₄
    | cont => exact nxt h₄
  · have hin : i = n := by omega
    subst hin
    refine W.done s₁ _ _ st₁ fun h₂ tk₂ hk₂ => ?_
    have x₂ : ExtB [I] s₁ { s₁ with heap := h₂, toks := tk₂ } := ⟨rfl, rfl, rfl, hk₂⟩
    exact wpAny_execs_nil (done Y₁ lm₁ om₁ _ (.inl hj) (f₁.iter hoI hdI hI0' hIsb hIY x₂))

/-! while -/
theorem st_while {test : Expr} {body : List Stmt} {pos : Pos} {Q : Flow → Shared → Prop} {E : Value → Shared → Prop} (f : Fm K s₀ mk env Y X₀ s lm om) (J : Nat → LM → OM → Prop) (n₀ : Nat) (j0 : J n₀ lm om)
    (turn : ∀ n Y' lm' om' s₁, J n lm' om' → Fm K s₀ mk env Y' X₀ s₁ lm' om' → ∃ b, Ts prog w A env s₁ test b ∧
      (b = true → ∀ s₂ E', Fm K s₀ mk env Y' X₀ s₂ lm' om' → wpAny (model prog w) A (execs body env) (fun fl s' => match fl with
        | .ret v => Q (.ret v) s'
        | .brk => Q .next s'
        | _ => ∃ m, m < n ∧ LoopTo K s₀ mk env X₀ (J m) s') E' s₂) ∧
      (b = false → ∀ s₂, Fm K s₀ mk env Y' X₀ s₂ lm' om' → Q .next s₂)) :
    wpAny (model prog w) A (exec (.While test body [] pos) env) Q E s := by
  refine wpAny_While (codeAny_whileLoop (fun k s' => LoopTo K s₀ mk env X₀ (J k) s') ?_ n₀ ⟨Y, lm, om, f, j0⟩)
  rintro k s₁ ⟨Y₁, lm₁, om₁, f₁, hj⟩
  obtain ⟨b, ht, h1, h2⟩ := turn k Y₁ lm₁ om₁ s₁ hj f₁
  refine ht s₁ _ _ (.refl _) fun s₂ x₂ => ?_
  have f₂ := f₁.after x₂
  cases b with
  | true =>
    rw [if_pos rfl]
    refine wpAny_mono (h1 rfl s₂ _ f₂) (fun fl s₃ h₃ => ?_) fun _ _ e => e
    cases fl <;> exact h₃
  | false =>
    rw [if_neg (by decide)]
    exact wpAny_execs_nil (h2 rfl s₂ f₂)

/-! a list of arguments -/
def EvL (prog : Program) (w : World) (A : Around) (env : Env) (X : List Addr) (s : Shared) (es : List Expr) (as : List AV) : Prop :=
  ∀ s₁ (pos : Pos) (Q : List Value → Shared → Prop) (E : Value → Shared → Prop), Ext s s₁ → (∀ vs s₂, Ext s₁ s₂ → RpL (Vw s₂.heap X) vs as → Q vs s₂) → wpAny (model prog w) A (spliced (backTo pos (starEach es env))) Q E s₁
theorem evl_nil : EvL prog w A env X s [] [] := fun s₁ pos Q E x k => wpAny_items_nil (k [] s₁ (.refl _) .nil)
theorem evl_cons {e : Expr} {es : List Expr} {a : AV} {as : List AV} (h : Ev prog w A env X s e a) (hs : EvL prog w A env X s es as) (he : starEach (e :: es) env = (false, eval e env) :: starEach es env) : EvL prog w A env X s (e :: es) (a :: as) :=
  fun s₁ pos Q E x k => wpAny_items_cons (h s₁ _ _ x fun v s₂ x₂ r => hs s₂ pos _ _ (x.trans x₂) fun vs s₃ x₃ rs => k _ s₃ (x₂.trans x₃) (.cons (r.mono (Vw.ext x₃)) rs)) he

theorem evl_one {e : Expr} {a : AV} (h : Ev prog w A env X s e a) (he : starEach [e] env = (false, eval e env) :: starEach [] env) : EvL prog w A env X s [e] [a] := evl_cons h evl_nil he
theorem evl_two {e e' : Expr} {a a' : AV} (h : Ev prog w A env X s e a) (h' : Ev prog w A env X s e' a') (he : starEach [e, e'] env = (false, eval e env) :: starEach [e'] env) (he' : starEach [e'] env = (false, eval e' env) :: starEach [] env) : EvL prog w A env X s [e, e'] [a, a'] := evl_cons h (evl_one h' he') he

theorem ev_tuple {es : List Expr} {k : Nat} {pos : Pos} {as : List AV} (c : Cx K X s.heap) (h : EvL prog w A env X s es as) (hz : as.length ≤ sizeLine) : Ev prog w A env X s (.Tuple es k pos) (.tup as) := by
  intro s₁ Q E x q
  refine wpAny_Tuple (h s₁ pos _ _ x fun vs s₂ x₂ r => ⟨by rw [r.length]; exact hz, ?_⟩)
  have c₂ := c.mono (x.trans x₂).keep
  exact q _ _ (x₂.trans (.of' (Kp.push _ _))) (.tup (Vw.mk (Heap.get?_push_size _ rfl) (c₂.off (push_none _))) (r.mono (Vw.keep fun b o _ e => Kp.push _ _ b o e)))
theorem evf_list {es : List Expr} {pos : Pos} {as : List AV} (h : EvL prog w A env X s es as) (hz : as.length ≤ sizeLine) : EvF prog w A env X s (.List es pos) as := by
  intro s₁ Q E x q
  refine wpAny_List (h s₁ pos _ _ x fun vs s₂ x₂ r => ⟨by rw [r.length]; exact hz, ?_⟩)
  refine q _ _ (x₂.trans (.of' (Kp.push _ _))) ⟨_, vs, 0, rfl, ?_, Heap.get?_push_size _ rfl, ?_⟩
  · cases e : s.heap.get? s₂.heap.objs.size with
    | none => rfl
    | some o => have := (x.trans x₂).keep _ _ e; rw [push_none] at this; cases this
  · refine r.mono fun b o e => Vw.mk (Kp.push _ _ b o (Vw.get e)) fun hm => ?_
    rcases List.mem_cons.mp hm with h | h
    · subst h; have := Vw.get e; rw [push_none] at this; cases this
    · exact Vw.off e h

/-! names of the top -/
theorem evp_global {x : Str} {pos : Pos} {v : Value} (B : Kb K) (c : Cx K X s.heap) (hk : env.scope.kind = .function) (hg : env.globals = mainGlobals) (hx : env.kindOf x = some .globalImplicit) (hd : (x == ("__debug__" : Str)) = false) (h : nsIn K mainGlobals x = some (some v)) :
    EvP prog w A env s (.Name x pos) fun v' _ => v' = v := by
  intro s₁ Q E y q
  refine Name_function_global hk hx ?_ hd
  unfold loadGlobal
  refine wpAny_bind ?_
  rw [hg]
  refine (looks_nsIn (M := model prog w) (c.top.keeps y.keep) h).here ?_
  exact wpAny_pure (q v s₁ (.refl _) rfl)
theorem evp_builtin {x : Str} {pos : Pos} {v : Value} (B : Kb K) (c : Cx K X s.heap) (hk : env.scope.kind = .function) (hg : env.globals = mainGlobals) (hbn : env.builtins = builtinsNs) (hx : env.kindOf x = some .globalImplicit) (hd : (x == ("__debug__" : Str)) = false)
    (h : nsIn K mainGlobals x = some none) (hb : bootBuiltins x = some v) (hn : x ≠ "__name__") : EvP prog w A env s (.Name x pos) fun v' _ => v' = v := by
  intro s₁ Q E y q
  refine Name_function_global hk hx ?_ hd
  unfold loadGlobal
  refine wpAny_bind ?_
  rw [hg]
  refine (looks_nsIn (M := model prog w) (c.top.keeps y.keep) h).here ?_
  obtain ⟨mb, h1, h2⟩ := c.bi
  refine wpAny_bind ?_
  rw [hbn]
  refine wpAny_nsGet (h1.keeps y.keep) ?_
  rw [h2 x hn, hb]
  exact wpAny_pure (q v s₁ (.refl _) rfl)

/-! calls -/
/-- a call of a value with data -/
def CallOk (prog : Program) (w : World) (A : Around) (X : List Addr) (f : Value) (first : List AV) (P : Value → Shared → Prop) (h : Heap) : Prop :=
  ∀ s₁ vs (Q E : Value → Shared → Prop), Kp h s₁.heap → RpL (Vw s₁.heap X) vs first → (∀ v s₂, Ext s₁ s₂ → P v s₂ → Q v s₂) → wpAny (model prog w) A (call f vs) Q E s₁

theorem callWith_fn {f : Value} {first : List Value} {e : Expr} {es : List Expr} {as bs : List AV} {pos : Pos} {P Q E} (c : Cx K X s.heap) (hkeep : keepIn K f = true) (hf : RpL (Vw s.heap X) first bs) (h : EvL prog w A env X s (e :: es) as) (hc : CallOk prog w A X f (bs ++ as) P s.heap)
    (he : starEach (e :: es) env = (false, eval e env) :: starEach es env) (hp : (backTo pos (starEach es env)).any (·.1) = false)
    (q : ∀ v s₂, Ext s s₂ → P v s₂ → Q v s₂) : wpAny (model prog w) A (callWith pos f first (backTo pos (starEach (e :: es) env)) []) Q E s := by
  refine callWith_K c.top hkeep (h s pos _ _ (.refl _) fun vs s₂ x₂ rl => ⟨c.top.keeps x₂.keep, ?_⟩) he hp
  exact hc s₂ _ Q E x₂.keep ((hf.mono (Vw.ext x₂)).append rl) fun v s₃ x₃ p => q v s₃ (x₂.trans x₃) p
theorem callWith_fn0 {f : Value} {first : List Value} {bs : List AV} {pos : Pos} {P Q E} (c : Cx K X s.heap) (hkeep : keepIn K f = true) (hf : RpL (Vw s.heap X) first bs) (hc : CallOk prog w A X f bs P s.heap)
    (q : ∀ v s₂, Ext s s₂ → P v s₂ → Q v s₂) : wpAny (model prog w) A (callWith pos f first (backTo pos (starEach [] env)) []) Q E s :=
  callWith_K0 c.top hkeep (hc s _ Q E (fun _ _ e => e) (by simpa using hf) q)

/-- a call by a name: a def or a class of the text -/
theorem ev_call {x : Str} {p pos : Pos} {f : Value} {e : Expr} {es : List Expr} {as : List AV} {P} (c : Cx K X s.heap) (hn : EvP prog w A env s (.Name x p) fun v _ => v = f) (hkeep : keepIn K f = true) (h : EvL prog w A env X s (e :: es) as) (hc : CallOk prog w A X f as P s.heap)
    (he : starEach (e :: es) env = (false, eval e env) :: starEach es env) (hp : ∀ pos, (backTo pos (starEach es env)).any (·.1) = false) : EvP prog w A env s (.Call (.Name x p) (e :: es) [] pos) P := by
  intro s₁ Q E y q
  refine wpAny_Call_NameR (hn s₁ _ _ y fun v s₂ x₂ ev => ?_)
  subst ev
  have y₂ := y.trans x₂
  exact callWith_fn (c.mono y₂.keep) hkeep .nil (fun s₃ pos Q E y₃ k => h s₃ pos Q E (y₂.trans y₃) k) (fun s₃ vs Q E k r q => hc s₃ vs Q E (fun b o e => k b o (y₂.keep b o e)) r q) he (hp pos) fun v s₃ x₃ p => q v s₃ (x₂.trans x₃) p
theorem evl_ext {es : List Expr} {as : List AV} (h : EvL prog w A env X s es as) (x : Ext s s') : EvL prog w A env X s' es as := fun s₃ pos Q E y k => h s₃ pos Q E (x.trans y) k

/-- a call by a name: a built-in function -/
theorem ev_callB {x : Str} {p pos : Pos} {id : String} {e : Expr} {es : List Expr} {as : List AV} {P} (hn : EvP prog w A env s (.Name x p) fun v _ => v = .builtin id) (h : EvL prog w A env X s (e :: es) as) (hc : CallOk prog w A X (.builtin id) as P s.heap)
    (he : starEach (e :: es) env = (false, eval e env) :: starEach es env) (hp : ∀ pos, (backTo pos (starEach es env)).any (·.1) = false) : EvP prog w A env s (.Call (.Name x p) (e :: es) [] pos) P := by
  intro s₁ Q E y q
  refine wpAny_Call_NameR (hn s₁ _ _ y fun v s₂ x₂ ev => ?_)
  subst ev
  have y₂ := y.trans x₂
  have hpl : (backTo pos (starEach (e :: es) env)).any (·.1) = false := by rw [he]; exact hp pos
  refine callWith_builtin hpl ?_
  have hh := h s₂ pos (fun vs s₃ => wpAny (model prog w) A (call (.builtin id) ([] ++ vs)) Q E s₃) E y₂ fun vs s₃ x₃ r => hc s₃ vs Q E (y₂.trans x₃).keep r fun v s₄ x₄ p => q v s₄ ((x₂.trans x₃).trans x₄) p
  rw [he] at hh ⊢
  exact evalArgs_plain hh
theorem ev_callT {x : Str} {p pos : Pos} {T : String} {e : Expr} {es : List Expr} {as : List AV} {P} (hn : EvP prog w A env s (.Name x p) fun v _ => v = .type T) (h : EvL prog w A env X s (e :: es) as) (hc : CallOk prog w A X (.type T) as P s.heap)
    (he : starEach (e :: es) env = (false, eval e env) :: starEach es env) (hp : ∀ pos, (backTo pos (starEach es env)).any (·.1) = false) : EvP prog w A env s (.Call (.Name x p) (e :: es) [] pos) P := by
  intro s₁ Q E y q
  refine wpAny_Call_NameR (hn s₁ _ _ y fun v s₂ x₂ ev => ?_)
  subst ev
  have y₂ := y.trans x₂
  have hpl : (backTo pos (starEach (e :: es) env)).any (·.1) = false := by rw [he]; exact hp pos
  refine PySem.callWith_type hpl ?_
  have hh := h s₂ pos (fun vs s₃ => wpAny (model prog w) A (call (.type T) ([] ++ vs)) Q E s₃) E y₂ fun vs s₃ x₃ r => hc s₃ vs Q E (y₂.trans x₃).keep r fun v s₄ x₄ p => q v s₄ ((x₂.trans x₃).trans x₄) p
  rw [he] at hh ⊢
  exact evalArgs_plain hh
end
end Mine
end

section
set_option maxRecDepth 100000
namespace Mine
open PySem PySem.W PySem.Calls PyProof.Rows

section
variable {prog : Program} {w : World} {A : Around} {env : Env} {Y X X₀ : List Addr} {s s' s₀ : Shared} {K : Frag} {lm : LM} {om : OM} {mk : Mk}

/-- a def of the text: what it gives back, the heap kept -/
def Fn (prog : Program) (w : World) (K : Frag) (n : Nat) (f : Addr) (args : List AV) (res : AV) : Prop :=
  ∀ (A : Around) (X : List Addr) (s : Shared), Room A n → Cx K X s.heap → CallOk prog w A X (.ref f) args (fun v s₂ => Rp (Vw s₂.heap X) v res) s.heap

def flowV : Flow → Value
  | .ret v => v
  | _ => .none

/-- what a body must do -/
structure FEnv (st : Stmt) (env : Env) : Prop where
  scope : env.scope = scopeOf st
  glob : env.globals = mainGlobals
  bi : env.builtins = builtinsNs
  cells : env.cells = []
  fn : env.scope.kind = .function

theorem enter_core {n : Nat} {f : Addr} {st : Stmt} {vs : List Value} {binds : List (Str × Value)} {Q E : Value → Shared → Prop} (B : Kb K) (F : FnIs K f st) (r : Room A (n + 1)) (c : Cx K X s.heap)
    (hb : ∀ fd : FuncData, fd.params = paramsOf st → fd.defaults = .none → fd.kwdefaults = .none → bindArgs fd ⟨vs, []⟩ = pure binds)
    (hcell : ∀ x ∈ (scopeOf st).names, x.2 ≠ .cell) (hloc : ∀ x ∈ binds, (scopeOf st).names.lookup x.1 = some .local)
    (hco : (scopeOf st).isCoroutine = false) (hgen : (scopeOf st).isGenerator = false) (hk : (scopeOf st).kind = .function)
    (h : ∀ (env : Env) (s₁ : Shared) (A' : Around), FEnv st env → s.heap.get? env.locals = none → Room A' n → Ext s s₁ → s₁.heap.Ns env.locals (fun x => binds.reverse.lookup x) →
      wpAny (model prog w) A' (execs (bodyOf st) env) (fun fl s' => Q (flowV fl) s') (fun _ _ => False) s₁) :
    wpAny (model prog w) A (call (.ref f) vs) Q E s := by
  obtain ⟨o, ho, hd⟩ := F.get
  have hcd := codeRec_of c.top F.code
  refine wpAny_call (codeAny_call_def (fd := fdIn K f) (by have := r.dp; omega) (c.top _ _ ho) hd (noLimit_of B c.top) hcd F.body (BindsTo.of_eq (hb _ F.params F.dflt F.kwd)) (by rw [F.scope]; exact hcell) (by rw [F.scope]; exact hloc) (fun h₀ hn hk₀ => ?_) (by rw [F.scope]; exact hco) (by rw [F.scope]; exact hgen) (by rw [F.scope]; exact hk))
  refine wpAny_mono (h (callEnv (fdIn K f) s.heap.objs.size f) _ _ ⟨F.scope, F.glob, F.bi, F.clos, by show (fdIn K f).scope.kind = _; rw [F.scope]; exact hk⟩ (push_none _) (r.deeper _) (.of hk₀) hn) (fun fl s' q => ?_) fun _ _ x => x.elim
  cases fl <;> exact q

theorem fm_start {st : Stmt} {m : Str → Option Value} {s₁ : Shared} (e : FEnv st env) (c : Cx K X s.heap) (hl : s.heap.get? env.locals = none) (x : Ext s s₁) (hn : s₁.heap.Ns env.locals m)
    (hloc : ∀ x a, lm x = some a → env.kindOf x = some .local ∧ ∃ v, m x = some v ∧ Rp (Vw s.heap X) v a) : Fm K s ⟨s₁, [env.locals]⟩ env [env.locals] X s₁ lm noM := by
  refine ⟨c, x, fun a ha => ?_, .refl _, fun a ha => .inl ha, ⟨e.fn, ⟨m, hn⟩, by simp, fun x c h => ?_, fun x y c h => ?_⟩, fun y a hy => ?_, fun y ys hy => (by cases hy), fun y z a _ _ h3 => absurd rfl h3⟩
  · rw [List.mem_singleton.mp ha]
    obtain ⟨o, _, _, ho, _⟩ := hn
    exact ⟨hl, o, ho⟩
  · rw [e.cells] at h; cases h
  · rw [e.cells] at h; cases h
  · obtain ⟨k, v, hv, r⟩ := hloc y a hy
    refine ⟨v, .inl ⟨k, m, hn, hv⟩, r.mono fun b o e => Vw.mk (x.keep _ _ (Vw.get e)) fun hm => ?_⟩
    rcases List.mem_append.mp hm with h | h
    · rw [List.mem_singleton.mp h] at e; have := Vw.get e; rw [hl] at this; cases this
    · exact Vw.off e h

/-- one argument -/
theorem fn1 {n : Nat} {f : Addr} {st : Stmt} {p1 : Str} {a1 res : AV} (B : Kb K) (F : FnIs K f st)
    (hb : ∀ (fd : FuncData) (v : Value), fd.params = paramsOf st → fd.defaults = .none → fd.kwdefaults = .none → bindArgs fd ⟨[v], []⟩ = pure [(p1, v)])
    (hcell : ∀ x ∈ (scopeOf st).names, x.2 ≠ .cell) (h1 : (scopeOf st).names.lookup p1 = some .local)
    (hco : (scopeOf st).isCoroutine = false) (hgen : (scopeOf st).isGenerator = false) (hk : (scopeOf st).kind = .function)
    (h : ∀ (env : Env) (s s₁ : Shared) (X : List Addr) (A : Around) (mk : Mk) (R : Value → Shared → Prop), FEnv st env → Room A n → Fm K s mk env [env.locals] X s₁ (upd noM p1 a1) noM → (∀ v s₂, Ext s s₂ → Rp (Vw s₂.heap X) v res → R v s₂) →
      wpAny (model prog w) A (execs (bodyOf st) env) (fun fl s' => R (flowV fl) s') (fun _ _ => False) s₁) : Fn prog w K (n + 1) f [a1] res := by
  intro A X s r c s₁ vs Q E k rl q
  obtain ⟨v, rfl, rv⟩ : ∃ v, vs = [v] ∧ Rp (Vw s₁.heap X) v a1 := by cases rl with | cons h t => cases t; exact ⟨_, rfl, h⟩
  have c₁ := c.mono k
  refine enter_core B F r c₁ (fun fd => hb fd v) hcell (by intro x hx; simp at hx; subst hx; exact h1) hco hgen hk fun env s₂ A' e hl r' x hn => ?_
  refine h env s₁ s₂ X A' _ Q e r' (fm_start e c₁ hl x hn fun y a hy => ?_) q
  unfold upd at hy
  by_cases hy1 : y = p1
  · subst hy1; rw [if_pos rfl] at hy; cases hy
    exact ⟨by show env.scope.names.lookup y = _; rw [e.scope]; exact h1, v, by simp, rv⟩
  · rw [if_neg hy1] at hy; cases hy
/-- two arguments -/
theorem fn2 {n : Nat} {f : Addr} {st : Stmt} {p1 p2 : Str} {a1 a2 res : AV} (B : Kb K) (F : FnIs K f st)
    (hb : ∀ (fd : FuncData) (v u : Value), fd.params = paramsOf st → fd.defaults = .none → fd.kwdefaults = .none → bindArgs fd ⟨[v, u], []⟩ = pure [(p1, v), (p2, u)])
    (hcell : ∀ x ∈ (scopeOf st).names, x.2 ≠ .cell) (h1 : (scopeOf st).names.lookup p1 = some .local) (h2 : (scopeOf st).names.lookup p2 = some .local) (h12 : p1 ≠ p2)
    (hco : (scopeOf st).isCoroutine = false) (hgen : (scopeOf st).isGenerator = false) (hk : (scopeOf st).kind = .function)
    (h : ∀ (env : Env) (s s₁ : Shared) (X : List Addr) (A : Around) (mk : Mk) (R : Value → Shared → Prop), FEnv st env → Room A n → Fm K s mk env [env.locals] X s₁ (upd (upd noM p1 a1) p2 a2) noM → (∀ v s₂, Ext s s₂ → Rp (Vw s₂.heap X) v res → R v s₂) →
      wpAny (model prog w) A (execs (bodyOf st) env) (fun fl s' => R (flowV fl) s') (fun _ _ => False) s₁) : Fn prog w K (n + 1) f [a1, a2] res := by
  intro A X s r c s₁ vs Q E k rl q
  obtain ⟨v, u, rfl, rv, ru⟩ : ∃ v u, vs = [v, u] ∧ Rp (Vw s₁.heap X) v a1 ∧ Rp (Vw s₁.heap X) u a2 := by cases rl with | cons h t => cases t with | cons h' t => cases t; exact ⟨_, _, rfl, h, h'⟩
  have c₁ := c.mono k
  refine enter_core B F r c₁ (fun fd => hb fd v u) hcell (by intro x hx; simp at hx; rcases hx with rfl | rfl <;> assumption) hco hgen hk fun env s₂ A' e hl r' x hn => ?_
  refine h env s₁ s₂ X A' _ Q e r' (fm_start e c₁ hl x hn fun y a hy => ?_) q
  unfold upd at hy
  by_cases hy2 : y = p2
  · subst hy2; rw [if_pos rfl] at hy; cases hy
    exact ⟨by show env.scope.names.lookup y = _; rw [e.scope]; exact h2, u, by simp, ru⟩
  · rw [if_neg hy2] at hy
    by_cases hy1 : y = p1
    · subst hy1; rw [if_pos rfl] at hy; cases hy
      have hne : (y == p2) = false := by simpa using h12
      exact ⟨by show env.scope.names.lookup y = _; rw [e.scope]; exact h1, v, by simp [List.lookup, hne], rv⟩
    · rw [if_neg hy1] at hy; cases hy

/-- the end of a body -/
theorem Fm.ret {v : Value} {a : AV} {R : Value → Shared → Prop} (f : Fm K s₀ mk env Y X₀ s lm om) (q : ∀ v s₂, Ext s₀ s₂ → Rp (Vw s₂.heap X₀) v a → R v s₂) (x : Ext s s') (r : Rp (Vw s'.heap (Y ++ X₀)) v a) : R v s' :=
  q v s' (f.ext.trans x) (r.mono (Vw.less fun b hb => List.mem_append_right _ hb))
theorem Fm.retOwn {x : Str} {xs : List AV} {R : Value → Shared → Prop} {v : Value} (f : Fm K s₀ mk env Y X₀ s lm om) (h : om x = some xs) (q : ∀ v s₂, Ext s₀ s₂ → Rp (Vw s₂.heap X₀) v (.list xs) → R v s₂) (x₁ : Ext s s') (hv : Rd env s.heap x v) : R v s' := by
  obtain ⟨a, vs, n, h1, h2, h3, h4, h5, h9⟩ := f.ow x xs h
  have := h1.inj hv; subst this
  refine q _ s' (f.ext.trans x₁) (.list (Vw.mk (x₁.keep _ _ h5) fun hm => ?_) (h9.mono ((Vw.ext x₁).trans (Vw.less fun b hb => List.mem_append_right _ hb))))
  obtain ⟨o', e⟩ := f.cx.live a hm
  rw [(f.ys a h2).1] at e; cases e

/-! more arithmetic -/
theorem ev_mul {l r : Expr} {pos : Pos} {a b : Int} (h1 : Ev prog w A env X s l (.int a)) (h2 : Ev prog w A env X s r (.int b)) (hm : IntMulOk a b) : Ev prog w A env X s (.BinOp l .Mult r pos) (.int (a * b)) :=
  ev_bin h1 h2 fun s₁ va vb _ ra rb => by cases ra; cases rb; exact fun s₂ Q E _ q => PySem.P.mul_int (q _ _ (.tok s₂ _) (.int _ _)) hm
theorem ev_div {l r : Expr} {pos : Pos} {a b : Int} (h1 : Ev prog w A env X s l (.int a)) (h2 : Ev prog w A env X s r (.int b)) (hb : b ≠ 0) (hs : b.natAbs < 1073741824) : Ev prog w A env X s (.BinOp l .FloorDiv r pos) (.int (a.fdiv b)) :=
  ev_bin h1 h2 fun s₁ va vb _ ra rb => by cases ra; cases rb; exact fun s₂ Q E _ q => floordiv_int hb (q _ _ (.tok s₂ _) (.int _ _)) (.inl (PyProof.noPylong_small hs))
theorem ev_neg {e : Expr} {pos : Pos} {a : Int} (h : Ev prog w A env X s e (.int a)) : Ev prog w A env X s (.UnaryOp .USub e pos) (.int (-a)) :=
  fun s₁ Q E x q => wpAny_UnaryOp (h s₁ _ _ x fun v s₂ x₂ r => by cases r; exact PySem.P.neg_int (q _ _ (x₂.trans (.tok s₂ _)) (.int _ _)))
theorem cmp_le {a b : Int} {h : Heap} : Cmp prog w A X .LtE (.int a) (.int b) (decide (a ≤ b)) h := fun s₁ va vb Q E _ ra rb k => by cases ra; cases rb; exact PySem.P.le_int (k s₁ (.refl _))
theorem cmp_ge {a b : Int} {h : Heap} : Cmp prog w A X .GtE (.int a) (.int b) (decide (a ≥ b)) h := fun s₁ va vb Q E _ ra rb k => by cases ra; cases rb; exact PySem.P.ge_int (k s₁ (.refl _))
theorem cmp_ne {a b : Int} {h : Heap} : Cmp prog w A X .NotEq (.int a) (.int b) (a != b) h := fun s₁ va vb Q E _ ra rb k => by cases ra; cases rb; exact PyProof.Rows.ne_int (k s₁ (.refl _))
theorem cmp_eqS {a b : Str} {h : Heap} : Cmp prog w A X .Eq (.str a) (.str b) (a.cps.toList == b.cps.toList) h := fun s₁ va vb Q E _ ra rb k => by cases ra; cases rb; exact PySem.P.eq_str (k s₁ (.refl _))
end
end Mine
end

section
set_option maxRecDepth 100000
namespace Mine
open PySem PySem.W PySem.Calls PyProof.Rows

theorem upd_eq {α : Type} {lm : Str → Option α} {x : Str} {a : α} : upd lm x a x = some a := if_pos rfl
theorem up {α : Type} {lm : Str → Option α} {x y : Str} {a b : α} (h : lm y = some b) (hn : y ≠ x := by decide +kernel) : upd lm x a y = some b := (if_neg hn).trans h
theorem dl {α : Type} {lm : Str → Option α} {x y : Str} {b : α} (h : lm y = some b) (hn : y ≠ x := by decide +kernel) : del lm x y = some b := (if_neg hn).trans h
section
variable {prog : Program} {w : World} {A : Around} {env : Env} {Y X X₀ : List Addr} {s s' s₀ : Shared} {K : Frag} {lm : LM} {om : OM} {mk : Mk}
/-- a frozen variable, in the frame's own view -/
theorem lv {x : Str} {pos : Pos} {a : AV} (f : Fm K s₀ mk env Y X₀ s lm om) (h : lm x = some a) (hd : (x == ("__debug__" : Str)) = false := by decide +kernel) : Ev prog w A env (Y ++ X₀) s (.Name x pos) a := ev_var f.lo h f.sto.fn hd
theorem FEnv.loc {st : Stmt} {x : Str} (e : FEnv st env) (h : (scopeOf st).names.lookup x = some .local := by decide +kernel) : StoreOk env x := .inl (by show env.scope.names.lookup x = _; rw [e.scope]; exact h)
end

def colS : Stmt := nthS theText 10
def colStep (w c : Int) (ch : Nat) : Int := if ch = 32 then c + 1 else (c.fdiv w + 1) * w
def col (w : Int) (x : Str) : Int := x.cps.toList.foldl (colStep w) 0

theorem one_sign (c : Nat) (x : Str) (d : Nat) (hx : x.cps.toList = [d]) : ((⟨#[c]⟩ : Str).cps.toList == x.cps.toList) = decide (c = d) := by
  rw [hx]
  by_cases h : c = d
  · subst h; simp
  · have : ([c] == [d]) = false := by simpa using h
    simp [h]

theorem ts_sign {prog : Program} {w : World} {A : Around} {env : Env} {X : List Addr} {s : Shared} {l r : Expr} {pos : Pos} {c d : Nat} {x : Str} (h1 : Ev prog w A env X s l (.str ⟨#[c]⟩)) (h2 : Ev prog w A env X s r (.str x)) (hx : x.cps.toList = [d]) (hm : behindInMarks .Eq r = false) : Ts prog w A env s (.Compare l [.Eq] [r] pos) (decide (c = d)) := by
  have := ts_cmp (pos := pos) h1 h2 cmp_eqS hm
  rw [one_sign c x d hx] at this
  exact this

section
variable {prog : Program} {w : World} {K : Frag}
theorem fn_col (B : Kb K) (F : FnIs K 137 colS) (lead : Str) (wd : Int) (h0 : 0 < wd) (h1 : wd < 1000000) : Fn prog w K 1 137 [.str lead, .int wd] (.int (col wd lead)) := by
  refine fn2 (st := colS) (p1 := Str.ofString "lead") (p2 := Str.ofString "width") B F (fun fd v u h1 h2 h3 => ?_) (by decide +kernel) (by decide +kernel) (by decide +kernel) (by decide +kernel) rfl rfl rfl ?_
  · obtain ⟨a1, a2, a3, a4, a5, a6, a7, a8, a9, a10, a11, a12, a13, a14, a15⟩ := fd
    dsimp only at h1 h2 h3; subst h1 h2 h3; rfl
  intro env s s₁ X A mk R e r f q
  refine wpAny_execs_cons (st_assign f ev_int e.loc rfl fun s₂ f₂ => ?_)
  refine wpAny_execs_cons (st_for f₂ (iter_str r.hd f₂.cxs (lv f₂ (up (up upd_eq)))) e.loc
    (fun i lm om => lm (Str.ofString "width") = some (.int wd) ∧ lm (Str.ofString "column") = some (.int ((lead.cps.toList.take i).foldl (colStep wd) 0))) (fun _ _ => False) ⟨up upd_eq, upd_eq⟩ ?_ ?_ (fun _ => rfl))
  · intro i Y' lm' om' s₃ E' hi ⟨hw, hc⟩ f₃
    have hx : lead.cps.toList[i]? = some (lead.cps.getD i 0) := by
      have hi' : i < lead.cps.toList.length := by simpa using hi
      rw [Array.getD_eq_getD_getElem?, ← Array.getElem?_toList, List.getElem?_eq_getElem hi']; rfl
    have step : (lead.cps.toList.take (i + 1)).foldl (colStep wd) 0 = colStep wd ((lead.cps.toList.take i).foldl (colStep wd) 0) (lead.cps.getD i 0) := by
      rw [List.take_add_one, hx]; simp
    refine wpAny_execs_cons (st_assign (a := .int ((lead.cps.toList.take (i + 1)).foldl (colStep wd) 0)) f₃ (ev_if (ts_sign (lv f₃ upd_eq) ev_str (d := 32) (by decide +kernel) rfl) ?_) e.loc rfl fun s₄ f₄ => ?_)
    · rw [step]
      unfold colStep
      by_cases hb : lead.cps.getD i 0 = 32
      · rw [if_pos hb, if_pos (decide_eq_true hb)]
        exact ev_add (lv f₃ (up hc)) ev_int
      · rw [if_neg hb, if_neg (by simpa using hb)]
        exact ev_mul (ev_add (ev_div (lv f₃ (up hc)) (lv f₃ (up hw)) (by omega) (by omega)) ev_int) (lv f₃ (up hw)) (IntMulOk.of_right (intBits_le_64 (by omega) (by omega)))
    · exact wpAny_execs_nil ⟨_, _, _, f₄, up (up hw), upd_eq⟩
  · intro Y' lm' om' s₃ hj f₃
    have hc := (hj.resolve_right id).2
    refine wpAny_execs_cons (st_return (lv f₃ hc) fun v s₄ x₄ rv => f₃.ret q x₄ ?_)
    have e : lead.cps.toList.take lead.cps.size = lead.cps.toList := List.take_of_length_le (by simp)
    rw [e] at rv
    exact rv
end
end Mine
end

section
set_option maxRecDepth 100000
namespace Mine
open PySem PySem.W PySem.Calls PyProof.Rows

section
variable {prog : Program} {w : World} {A : Around} {env : Env} {Y X X₀ : List Addr} {s s' s₀ : Shared} {K : Frag} {lm : LM} {om : OM} {mk : Mk}

/-- names of built-ins -/
structure BEnv (K : Frag) (env : Env) : Prop where
  fn : env.scope.kind = .function
  glob : env.globals = mainGlobals
  bi : env.builtins = builtinsNs
theorem FEnv.b {st : Stmt} (e : FEnv st env) : BEnv K env := ⟨e.fn, e.glob, e.bi⟩

theorem len_okL {xs : List AV} {h : Heap} (hz : xs.length < 1000000) : CallOk prog w A X (.builtin "len") [.list xs] (fun v _ => ∃ t, v = .int xs.length t) h := by
  intro s₁ vs Q E k r q
  cases r with | cons hv t => cases t; cases hv with | list ho rl => 
  refine call_len_list ⟨_, Vw.get ho, rfl, _, rfl⟩ (by rw [List.size_toArray, rl.length]; omega) (q _ _ (.tok s₁ _) ⟨_, by rw [List.size_toArray, rl.length]⟩)
theorem len_okS {x : Str} {h : Heap} (hz : x.length < 1000000) : CallOk prog w A X (.builtin "len") [.str x] (fun v _ => ∃ t, v = .int x.length t) h := by
  intro s₁ vs Q E k r q
  cases r with | cons hv t => cases t; cases hv with | str _ t => 
  exact PySem.P.len_str (by omega) (q _ _ (.tok s₁ _) ⟨_, rfl⟩)
theorem ev_of_int {e : Expr} {i : Int} (h : EvP prog w A env s e fun v _ => ∃ t, v = .int i t) : Ev prog w A env X s e (.int i) := EvP.mono h fun v s₂ _ r => by obtain ⟨t, rfl⟩ := r; exact .int _ _

/-! items -/
theorem ev_item {value slice : Expr} {pos : Pos} {a : AV} {i : Int} {P} (h1 : Ev prog w A env X s value a) (h2 : Ev prog w A env X s slice (.int i)) (T id : String)
    (hT : ∀ (s₁ : Shared) v, Rp (Vw s₁.heap X) v a → s₁.TypeIs v T) (hl : typeLookup (.type T) "__getitem__" = pure (some (.builtin id)))
    (hg : ∀ (s₁ : Shared) v t (Q E : Value → Shared → Prop), Rp (Vw s₁.heap X) v a → (∀ u s₂, Ext s₁ s₂ → P u s₂ → Q u s₂) → wpAny (model prog w) A (getItem v (.int i t)) Q E s₁)
    (hs : ∀ o i, subscripted slice false o i = operate [o, i] (getItem o i)) : EvP prog w A env s (.Subscript value slice pos) P := by
  intro s₁ Q E x q
  refine Subscript_ (h1 s₁ _ _ x fun v s₂ x₂ r => h2 s₂ _ _ (x.trans x₂) fun u s₃ x₃ ri => ?_)
  cases ri
  have r₃ := r.mono (Vw.ext x₃)
  exact tail_any (hT s₃ v r₃) hl (hg s₃ v _ _ _ r₃ fun u s₄ x₄ p => q u s₄ ((x₂.trans x₃).trans x₄) p) (hs _ _)

theorem ev_itemL {value slice : Expr} {pos : Pos} {xs : List AV} {i : Int} {a : AV} (h1 : Ev prog w A env X s value (.list xs)) (h2 : Ev prog w A env X s slice (.int i)) (h0 : 0 ≤ i) (hi : xs[i.toNat]? = some a) (hz : i < 2 ^ 63)
    (hs : ∀ o i, subscripted slice false o i = operate [o, i] (getItem o i)) : Ev prog w A env X s (.Subscript value slice pos) a := by
  refine ev_item h1 h2 "list" _ (fun s₁ v r => ?_) slot_list_getitem.lookup (fun s₁ v t Q E r q => ?_) hs
  · cases r with | list ho rl => exact ⟨_, Vw.get ho, rfl⟩
  · cases r with | list ho rl =>
    obtain ⟨u, e1, e2⟩ := rl.get hi
    exact wpAny_getItem_list ⟨_, Vw.get ho, rfl, _, rfl⟩ h0 hz (by simpa using e1) (q u s₁ (.refl _) e2)
theorem ev_itemN {value slice : Expr} {pos : Pos} {xs : List AV} {i : Int} {a : AV} (h1 : Ev prog w A env X s value (.list xs)) (h2 : Ev prog w A env X s slice (.int i)) (h0 : i < 0) (hb : -(xs.length : Int) ≤ i) (hi : xs[(i + xs.length).toNat]? = some a) (hz : -(2 ^ 63) ≤ i)
    (hs : ∀ o i, subscripted slice false o i = operate [o, i] (getItem o i)) : Ev prog w A env X s (.Subscript value slice pos) a := by
  refine ev_item h1 h2 "list" _ (fun s₁ v r => ?_) slot_list_getitem.lookup (fun s₁ v t Q E r q => ?_) hs
  · cases r with | list ho rl => exact ⟨_, Vw.get ho, rfl⟩
  · cases r with | list ho rl =>
    obtain ⟨u, e1, e2⟩ := rl.get hi
    exact wpAny_getItem_list_neg ⟨_, Vw.get ho, rfl, _, rfl⟩ h0 (by rw [List.size_toArray, rl.length]; exact hb) hz (by rw [List.size_toArray, rl.length]; simpa using e1) (q u s₁ (.refl _) e2)
theorem ev_itemT {value slice : Expr} {pos : Pos} {xs : List AV} {i : Int} {a : AV} (h1 : Ev prog w A env X s value (.tup xs)) (h2 : Ev prog w A env X s slice (.int i)) (h0 : 0 ≤ i) (hi : xs[i.toNat]? = some a) (hz : i < 2 ^ 63)
    (hs : ∀ o i, subscripted slice false o i = operate [o, i] (getItem o i)) : Ev prog w A env X s (.Subscript value slice pos) a := by
  refine ev_item h1 h2 "tuple" _ (fun s₁ v r => ?_) slot_tuple_getitem.lookup (fun s₁ v t Q E r q => ?_) hs
  · cases r with | tup ho rl => exact ⟨_, Vw.get ho, rfl⟩
  · cases r with | tup ho rl =>
    obtain ⟨u, e1, e2⟩ := rl.get hi
    have hlt : i.toNat < xs.length := by
      rcases Nat.lt_or_ge i.toNat xs.length with h | h
      · exact h
      · rw [List.getElem?_eq_none h] at hi; cases hi
    refine PyProof.Rows.getItem_tuple ⟨_, Vw.get ho, rfl, _, rfl⟩ (by omega) hz (j := i.toNat) ?_ (by simpa using e1) (q u s₁ (.refl _) e2)
    rw [List.size_toArray, rl.length]
    exact seqIndex_of h0 (by omega)
theorem ev_itemS {value slice : Expr} {pos : Pos} {x : Str} {i : Int} {c : Nat} (h1 : Ev prog w A env X s value (.str x)) (h2 : Ev prog w A env X s slice (.int i)) (h0 : 0 ≤ i) (hi : x.cps[i.toNat]? = some c) (hz : i < 2 ^ 62)
    (hs : ∀ o i, subscripted slice false o i = operate [o, i] (getItem o i)) : Ev prog w A env X s (.Subscript value slice pos) (.str ⟨#[c]⟩) := by
  refine ev_item h1 h2 "str" _ (fun s₁ v r => ?_) F.slot_str_getitem.lookup (fun s₁ v t Q E r q => ?_) hs
  · cases r with | str _ t => exact typeIs_str s₁ x t
  · cases r with | str _ t =>
    have hlt : i.toNat < x.cps.size := (Array.getElem?_eq_some_iff.mp hi).1
    refine PySem.P.getItem_str (c := c) (by simp; omega) ?_ (q _ _ (.tok s₁ _) (.str _ _))
    have : seqIndex? i x.length = some i.toNat := seqIndex_of h0 (by show i < (x.cps.size : Int); omega)
    rw [this]; simpa using hi

/-! texts -/
theorem ev_addS {l r : Expr} {pos : Pos} {a b : Str} (h1 : Ev prog w A env X s l (.str a)) (h2 : Ev prog w A env X s r (.str b)) (hz : a.length + b.length ≤ 1000000) : Ev prog w A env X s (.BinOp l .Add r pos) (.str (a ++ b)) :=
  ev_bin h1 h2 fun s₁ va vb _ ra rb => by
    cases ra; cases rb
    intro s₂ Q E _ q
    refine PySem.P.add_str ?_
    by_cases ha : (a.length == 0) = true
    · rw [if_pos ha]
      have e : a ++ b = b := Str.ext' (by
        have : a.cps = #[] := by simpa [Str.length] using ha
        rw [Str.cps_append, this]; simp)
      rw [e] at q
      exact q _ _ (.refl _) (.str _ _)
    · rw [if_neg ha]
      by_cases hb : (b.length == 0) = true
      · rw [if_pos hb]
        have e : a ++ b = a := Str.ext' (by
          have : b.cps = #[] := by simpa [Str.length] using hb
          rw [Str.cps_append, this]; simp)
        rw [e] at q
        exact q _ _ (.refl _) (.str _ _)
      · rw [if_neg hb]
        exact ⟨by rw [Str.length_append, sizeLine_eq]; omega, q _ _ (.tok s₂ _) (.str _ _)⟩
end
end Mine
end

section
set_option maxRecDepth 100000
namespace Mine
open PySem PySem.W PySem.Calls PyProof.Rows

def wsS : Stmt := nthS theText 6
def indS : Stmt := nthS theText 4
def fmtS : Stmt := nthS theText 7
def leadS : Stmt := nthS theText 9
def longS : Stmt := nthS theText 11
def depS : Stmt := nthS theText 12
def nanS : Stmt := nthS theText 13
def lawS : Stmt := nthS theText 14
def initS : Stmt := nthS (bodyOf wsS) 1
def lrunS : Stmt := nthS (bodyOf wsS) 2
def ilevS : Stmt := nthS (bodyOf wsS) 3
def equS : Stmt := nthS (bodyOf wsS) 4
def lessS : Stmt := nthS (bodyOf wsS) 6
def witS : Stmt := nthS (bodyOf wsS) 7

/-- all that is read off the top -/
structure Kt (K : Frag) : Prop extends Kb K where
  nLen : nsIn K mainGlobals "len" = some none
  nMax : nsIn K mainGlobals "max" = some none
  nRange : nsIn K mainGlobals "range" = some none
  nStr : nsIn K mainGlobals "str" = some none
  nTuple : nsIn K mainGlobals "tuple" = some none
  gInd : nsIn K mainGlobals "get_line_indent" = some (some (.ref 50))
  gRe : nsIn K mainGlobals "_line_indent_re" = some (some (.ref 43))
  gWs : nsIn K mainGlobals "Whitespace" = some (some (.ref 112))
  gFmt : nsIn K mainGlobals "format_witnesses" = some (some (.ref 123))
  gLead : nsIn K mainGlobals "_law_lead" = some (some (.ref 130))
  gCol : nsIn K mainGlobals "_law_column" = some (some (.ref 137))
  gLong : nsIn K mainGlobals "_law_longest" = some (some (.ref 142))
  gDep : nsIn K mainGlobals "_law_depths" = some (some (.ref 149))
  gNan : nsIn K mainGlobals "_law_nanny" = some (some (.ref 156))
  fInd : FnIs K 50 indS
  fInit : FnIs K 67 initS
  fLrun : FnIs K 74 lrunS
  fIlev : FnIs K 81 ilevS
  fEqu : FnIs K 88 equS
  fLess : FnIs K 102 lessS
  fWit : FnIs K 109 witS
  fFmt : FnIs K 123 fmtS
  fLead : FnIs K 130 leadS
  fCol : FnIs K 137 colS
  fLong : FnIs K 142 longS
  fDep : FnIs K 149 depS
  fNan : FnIs K 156 nanS

section
variable {prog : Program} {w : World} {A : Around} {env : Env} {Y X X₀ : List Addr} {s s' s₀ : Shared} {K : Frag} {lm : LM} {om : OM} {mk : Mk}
theorem Kt.b (T : Kt K) : Kb K := T.toKb

theorem evp_len (T : Kt K) (b : BEnv K env) (c : Cx K X s.heap) {pos : Pos} (hx : env.kindOf (Str.ofString "len") = some .globalImplicit) : EvP prog w A env s (.Name (Str.ofString "len") pos) fun v _ => v = .builtin "len" :=
  evp_builtin T.b c b.fn b.glob b.bi hx (by decide +kernel) T.nLen (by decide +kernel) (by decide +kernel)
theorem ev_lenL (T : Kt K) (b : BEnv K env) (c : Cx K X s.heap) {e : Expr} {p pos : Pos} {xs : List AV} (h : Ev prog w A env X s e (.list xs)) (hz : xs.length < 1000000) (hx : env.kindOf (Str.ofString "len") = some .globalImplicit)
    (he : starEach [e] env = (false, eval e env) :: starEach [] env) : Ev prog w A env X s (.Call (.Name (Str.ofString "len") p) [e] [] pos) (.int xs.length) :=
  ev_of_int (ev_callB (evp_len T b c hx) (evl_one h he) (len_okL hz) he fun _ => rfl)
theorem ev_lenS (T : Kt K) (b : BEnv K env) (c : Cx K X s.heap) {e : Expr} {p pos : Pos} {x : Str} (h : Ev prog w A env X s e (.str x)) (hz : x.length < 1000000) (hx : env.kindOf (Str.ofString "len") = some .globalImplicit)
    (he : starEach [e] env = (false, eval e env) :: starEach [] env) : Ev prog w A env X s (.Call (.Name (Str.ofString "len") p) [e] [] pos) (.int x.length) :=
  ev_of_int (ev_callB (evp_len T b c hx) (evl_one h he) (len_okS hz) he fun _ => rfl)
theorem FEnv.gl {st : Stmt} {x : Str} (e : FEnv st env) (h : (scopeOf st).names.lookup x = some .globalImplicit := by decide +kernel) : env.kindOf x = some .globalImplicit := by show env.scope.names.lookup x = _; rw [e.scope]; exact h
end

theorem Ev.cast {prog : Program} {w : World} {A : Around} {env : Env} {X : List Addr} {s : Shared} {e : Expr} {a b : AV} (h : Ev prog w A env X s e a) (hab : a = b) : Ev prog w A env X s e b := hab ▸ h
theorem Ts.cast {prog : Program} {w : World} {A : Around} {env : Env} {s : Shared} {e : Expr} {a b : Bool} (h : Ts prog w A env s e a) (hab : a = b) : Ts prog w A env s e b := hab ▸ h
/-! _law_lead -/
def leadGo : Nat → Int → List Nat → List Nat
  | 0, _, acc => acc
  | k + 1, n, acc => if 0 < n then leadGo k ((n - 1).fdiv 2) (acc ++ [if (n - 1).fmod 2 = 0 then 32 else 9]) else acc
def leadOf (n : Int) : Str := ⟨(leadGo 4 n []).toArray⟩

theorem params1 {fd : FuncData} {st : Stmt} {p1 : Str} {v : Value} (h1 : fd.params = paramsOf st) (h2 : fd.defaults = .none) (h3 : fd.kwdefaults = .none)
    (h : ∀ a1 a2 a4 a5 a6 a7 a10 a11 a12 a13 a14 a15, bindArgs ⟨a1, a2, paramsOf st, a4, a5, a6, a7, .none, .none, a10, a11, a12, a13, a14, a15⟩ ⟨[v], []⟩ = pure [(p1, v)]) : bindArgs fd ⟨[v], []⟩ = pure [(p1, v)] := by
  obtain ⟨a1, a2, a3, a4, a5, a6, a7, a8, a9, a10, a11, a12, a13, a14, a15⟩ := fd
  dsimp only at h1 h2 h3; subst h1 h2 h3; exact h _ _ _ _ _ _ _ _ _ _ _ _
theorem params2 {fd : FuncData} {st : Stmt} {p1 p2 : Str} {v u : Value} (h1 : fd.params = paramsOf st) (h2 : fd.defaults = .none) (h3 : fd.kwdefaults = .none)
    (h : ∀ a1 a2 a4 a5 a6 a7 a10 a11 a12 a13 a14 a15, bindArgs ⟨a1, a2, paramsOf st, a4, a5, a6, a7, .none, .none, a10, a11, a12, a13, a14, a15⟩ ⟨[v, u], []⟩ = pure [(p1, v), (p2, u)]) : bindArgs fd ⟨[v, u], []⟩ = pure [(p1, v), (p2, u)] := by
  obtain ⟨a1, a2, a3, a4, a5, a6, a7, a8, a9, a10, a11, a12, a13, a14, a15⟩ := fd
  dsimp only at h1 h2 h3; subst h1 h2 h3; exact h _ _ _ _ _ _ _ _ _ _ _ _

section
variable {prog : Program} {w : World} {K : Frag}
theorem fn_lead (T : Kt K) (n : Int) : Fn prog w K 1 130 [.int n] (.str (leadOf n)) := by
  refine fn1 (st := leadS) (p1 := Str.ofString "number") T.b T.fLead (fun fd v h1 h2 h3 => params1 h1 h2 h3 fun _ _ _ _ _ _ _ _ _ _ _ _ => rfl) (by decide +kernel) (by decide +kernel) rfl rfl rfl ?_
  intro env s s₁ X A mk R e r f q
  refine wpAny_execs_cons (st_assign f ev_str e.loc rfl fun s₂ f₂ => ?_)
  refine wpAny_execs_cons (st_while f₂
    (fun k lm om => ∃ n' acc, lm (Str.ofString "number") = some (.int n') ∧ lm (Str.ofString "lead") = some (.str ⟨acc.toArray⟩) ∧ acc.length + k = 4 ∧ leadGo k n' acc = leadGo 4 n []) 4
    ⟨n, [], up upd_eq, upd_eq.trans (congrArg (fun x => some (AV.str x)) (by decide +kernel)), rfl, rfl⟩ ?_)
  rintro k Y' lm' om' s₃ ⟨n', acc, hn, hl, hk, hg⟩ f₃
  have e1 : (⟨acc.toArray⟩ : Str).length = acc.length := by show acc.toArray.size = _; simp
  refine ⟨decide (0 < n') && decide ((acc.length : Int) < 4), Ts.cast (ts_and (ts_cmp (lv f₃ hn) ev_int cmp_gt rfl) (fun _ => ts_cmp (ev_lenS T e.b f₃.cxs (lv f₃ hl) (by rw [e1]; omega) e.gl rfl) ev_int cmp_lt rfl)) (by rw [e1]), fun hb s₄ E' f₄ => ?_, fun hb s₄ f₄ => ?_⟩
  · have hb' : 0 < n' ∧ (acc.length : Int) < 4 := by simpa using hb
    obtain ⟨k', rfl⟩ : ∃ k', k = k' + 1 := ⟨k - 1, by omega⟩
    refine wpAny_execs_cons (st_assign f₄ (ev_sub (lv f₄ hn) ev_int) e.loc rfl fun s₅ f₅ => ?_)
    have hm : (n' - 1).fmod 2 = 0 ∨ (n' - 1).fmod 2 = 1 := by
      have h1 := Int.fmod_nonneg_of_pos (n' - 1) (b := 2) (by decide)
      have h2 := Int.fmod_lt_of_pos (n' - 1) (b := 2) (by decide)
      omega
    refine wpAny_execs_cons (st_assign (a := .str ⟨(acc ++ [if (n' - 1).fmod 2 = 0 then 32 else 9]).toArray⟩) f₅ ?_ e.loc rfl fun s₆ f₆ => ?_)
    · refine Ev.cast (ev_addS (lv f₅ (up hl)) (ev_itemS (c := if (n' - 1).fmod 2 = 0 then 32 else 9) ev_str (ev_mod (lv f₅ upd_eq) (ev_int (i := 2)) (by decide)) (by omega) ?_ (by omega) (fun _ _ => rfl)) ?_) ?_
      · rcases hm with h | h <;> rw [h] <;> decide +kernel
      · show acc.toArray.size + 1 ≤ _; simp; omega
      · exact congrArg AV.str (Str.ext' (by rw [Str.cps_append]; simp))
    · refine wpAny_execs_cons (st_assign f₆ (ev_div (lv f₆ (up upd_eq)) ev_int (by decide) (by decide)) e.loc rfl fun s₇ f₇ => ?_)
      refine wpAny_execs_nil ⟨k', by omega, _, _, _, f₇, _, _, upd_eq, up upd_eq, by rw [List.length_append, List.length_singleton]; omega, ?_⟩
      rw [← hg, leadGo, if_pos hb'.1]
  · have hb' : 0 < n' → ¬ (acc.length : Int) < 4 := by simpa using hb
    refine wpAny_execs_cons (st_return (lv f₄ hl) fun v s₅ x₅ rv => f₄.ret q x₅ ?_)
    have e1 : leadGo k n' acc = acc := by
      cases k with
      | zero => rfl
      | succ k => rw [leadGo, if_neg (fun h => hb' h (by omega))]
    have e2 : (⟨acc.toArray⟩ : Str) = leadOf n := by unfold leadOf; rw [← hg, e1]
    rw [e2] at rv
    exact rv
end
end Mine
end

section
set_option maxRecDepth 100000
namespace Mine
open PySem PySem.W PySem.Calls PyProof.Rows

/-! slices, plainly -/
def pick {α : Type} (xs : List α) (lo hi st : Option Int) : List α :=
  (sliceRange (sliceBounds lo hi st xs.length).1 (sliceBounds lo hi st xs.length).2.1 (sliceBounds lo hi st xs.length).2.2).filterMap (xs[·]?)
theorem pick_run {α : Type} (xs : List α) (a c : Nat) : ((List.range c).map fun k => (a + k)).filterMap (xs[·]?) = (xs.drop a).take c := by
  simpa using PySem.pick_run xs.toArray a c
theorem sliceRange_one (a b : Int) (ha : 0 ≤ a) (hab : a ≤ b) : sliceRange a b 1 = (List.range (b - a).toNat).map fun k => (a.toNat + k) := by
  have h := PySem.sliceRange_one a.toNat b.toNat
  rwa [Int.toNat_of_nonneg ha, Int.toNat_of_nonneg (Int.le_trans ha hab), show b.toNat - a.toNat = (b - a).toNat by omega] at h
theorem pick_to {α : Type} (xs : List α) (b : Nat) : pick xs none (some (b : Int)) none = xs.take b := by
  unfold pick sliceBounds
  simp only [Option.getD_none, show (1 : Int) > 0 by decide, if_true]
  rw [if_neg (by omega), sliceRange_one _ _ (by omega) (by omega), show ((0 : Int).toNat) = 0 from rfl, pick_run]
  rcases Nat.le_total b xs.length with h | h
  · rw [List.drop_zero]; congr 1; omega
  · rw [List.drop_zero, List.take_of_length_le h, List.take_of_length_le (by omega)]
theorem pick_butLast {α : Type} (xs : List α) : pick xs none (some (-1)) none = xs.take (xs.length - 1) := by
  unfold pick sliceBounds
  simp only [Option.getD_none, show (1 : Int) > 0 by decide, if_true]
  rw [if_pos (by decide), sliceRange_one _ _ (by omega) (by omega), show ((0 : Int).toNat) = 0 from rfl, pick_run, List.drop_zero]
  congr 1; omega
theorem pick_last {α : Type} (xs : List α) : pick xs (some (-1)) none none = xs.drop (xs.length - 1) := by
  unfold pick sliceBounds
  simp only [Option.getD_none, show (1 : Int) > 0 by decide, if_true]
  rw [if_pos (by decide), sliceRange_one _ _ (by omega) (by omega), pick_run, List.take_of_length_le (by rw [List.length_drop]; omega)]
  congr 1; omega
theorem pick_from {α : Type} (xs : List α) (a : Nat) : pick xs (some (a : Int)) none none = xs.drop a := by
  unfold pick sliceBounds
  simp only [Option.getD_none, show (1 : Int) > 0 by decide, if_true]
  rw [if_neg (by omega), sliceRange_one _ _ (by omega) (by omega), pick_run, List.take_of_length_le (by rw [List.length_drop]; omega)]
  rcases Nat.le_total a xs.length with h | h
  · congr 1; omega
  · rw [List.drop_eq_nil_of_le h, List.drop_eq_nil_of_le (by omega)]
theorem pick_mid {α : Type} (xs : List α) (a b : Nat) (hab : a ≤ b) : pick xs (some (a : Int)) (some (b : Int)) none = (xs.drop a).take (b - a) := by
  unfold pick sliceBounds
  simp only [Option.getD_none, show (1 : Int) > 0 by decide, if_true]
  rw [if_neg (by omega), if_neg (by omega), sliceRange_one _ _ (by omega) (by omega), pick_run]
  rcases Nat.le_total a xs.length with h | h
  · have e1 : (max 0 (min (a : Int) xs.length)).toNat = a := by omega
    rw [e1]
    rcases Nat.le_total b xs.length with h' | h'
    · congr 1; omega
    · rw [List.take_of_length_le (by rw [List.length_drop]; omega), List.take_of_length_le (by rw [List.length_drop]; omega)]
  · rw [List.drop_eq_nil_of_le (by omega), List.drop_eq_nil_of_le (by omega)]; simp
theorem pick_rev {α : Type} (xs : List α) : pick xs none none (some (-1)) = xs.reverse := by
  unfold pick sliceBounds
  simp only [Option.getD_some, show ¬ ((-1 : Int) > 0) by decide, if_false]
  unfold sliceRange
  simp only [show ¬ ((-1 : Int) > 0) by decide, if_false]
  have e : (if (xs.length : Int) - 1 > -1 then ((xs.length : Int) - 1 - -1 - -1 - 1) / -(-1) else 0).toNat = xs.length := by
    split
    · rw [show -(-1 : Int) = 1 from rfl, Int.ediv_one]; omega
    · omega
  rw [e]
  apply List.ext_getElem?
  intro i
  have all : ∀ k, k ∈ (List.range xs.length).map (fun k : Nat => ((xs.length : Int) - 1 + -1 * (k : Int)).toNat) → ∃ y, xs[k]? = some y := by
    intro k hk
    obtain ⟨j, hj, rfl⟩ := List.mem_map.mp hk
    have hj' := List.mem_range.mp hj
    exact ⟨xs[((xs.length : Int) - 1 + -1 * (j : Int)).toNat]'(by omega), List.getElem?_eq_getElem (by omega)⟩
  have gen : ∀ (l : List Nat), (∀ k ∈ l, ∃ y, xs[k]? = some y) → (l.filterMap (xs[·]?))[i]? = (l[i]?).bind (xs[·]?) := by
    intro l hl
    induction l generalizing i with
    | nil => simp
    | cons a l ih =>
      obtain ⟨y, hy⟩ := hl a List.mem_cons_self
      rw [List.filterMap_cons, hy]
      cases i with
      | zero => simp [hy]
      | succ i => simpa using ih i fun k hk => hl k (List.mem_cons_of_mem _ hk)
  rw [gen _ all]
  rcases Nat.lt_or_ge i xs.length with h | h
  · rw [List.getElem?_map, List.getElem?_range h, List.getElem?_reverse h]
    simp only [Option.map_some, Option.bind_some]
    congr 1; omega
  · rw [List.getElem?_eq_none (by simpa using h), List.getElem?_eq_none (by simpa using h)]; rfl

theorem RpL.pickIdx {V : View} {vs : List Value} {xs : List AV} (r : RpL V vs xs) : ∀ ks : List Nat, RpL V (ks.filterMap (vs[·]?)) (ks.filterMap (xs[·]?))
  | [] => .nil
  | k :: ks => by
    rw [List.filterMap_cons, List.filterMap_cons]
    cases h : xs[k]? with
    | none =>
      have hk : vs[k]? = none := by
        rw [List.getElem?_eq_none_iff] at h ⊢; rw [r.length]; exact h
      rw [hk]; exact RpL.pickIdx r ks
    | some x =>
      obtain ⟨v, e1, e2⟩ := r.get h
      rw [e1]; exact .cons e2 (RpL.pickIdx r ks)
theorem RpL.pick {V : View} {vs : List Value} {xs : List AV} (r : RpL V vs xs) (lo hi st : Option Int) : RpL V (slicePick vs.toArray lo hi st).toList (pick xs lo hi st) := by
  unfold slicePick Mine.pick
  rw [List.size_toArray, r.length]
  simpa using r.pickIdx _

theorem RpL.ints {V : View} : ∀ {ns : List Int} {vs : List Value}, RpL V vs (ns.map AV.int) → IntsAre vs ns
  | [], _, r => by cases r; exact .nil
  | m :: ns, _, r => by cases r with | cons hh tt => cases hh; exact .cons _ _ tt.ints

section
variable {prog : Program} {w : World} {A : Around} {env : Env} {Y X X₀ : List Addr} {s s' s₀ : Shared} {K : Frag} {lm : LM} {om : OM} {mk : Mk}

/-- a slice's part -/
def EvPart (prog : Program) (w : World) (A : Around) (env : Env) (s : Shared) (e : Option Expr) (i : Option Int) : Prop :=
  ∀ s₁ (Q : Value → Shared → Prop) (E : Value → Shared → Prop), Ext s s₁ → (∀ v s₂, Ext s₁ s₂ → IsPart v i → Q v s₂) → wpAny (model prog w) A (evalPart e env) Q E s₁
theorem part_none : EvPart prog w A env s none none := fun s₁ Q E x q => wpAny_evalPart_none (q _ s₁ (.refl _) .none)
theorem part_some {e : Expr} {i : Int} (h : Ev prog w A env X s e (.int i)) : EvPart prog w A env s (some e) (some i) := fun s₁ Q E x q => wpAny_evalPart_some (h s₁ _ _ x fun v s₂ x₂ r => by cases r; exact q _ s₂ x₂ (.int _ _))

theorem evf_slice {value : Expr} {lower upper step : Option Expr} {p pos : Pos} {xs : List AV} {lo hi st : Option Int} (h : Ev prog w A env X s value (.list xs)) (h1 : EvPart prog w A env s lower lo) (h2 : EvPart prog w A env s upper hi) (h3 : EvPart prog w A env s step st)
    (h0 : st ≠ some 0) (hz : xs.length < 1000000) (hs : ∀ o i, ∃ ops, subscripted (.Slice lower upper step p) false o i = operate ops (getItem o i)) : EvF prog w A env X s (.Subscript value (.Slice lower upper step p) pos) (pick xs lo hi st) := by
  intro s₁ Q E x q
  refine Subscript_ (h s₁ _ _ x fun v s₂ x₂ r => wpAny_Slice (h1 s₂ _ _ (x.trans x₂) fun vl s₃ x₃ pl => h2 s₃ _ _ ((x.trans x₂).trans x₃) fun vu s₄ x₄ pu => h3 s₄ _ _ (((x.trans x₂).trans x₃).trans x₄) fun vk s₅ x₅ pk => ?_))
  have y : Ext s₂ s₅ := (x₃.trans x₄).trans x₅
  have r₅ := r.mono (Vw.ext y)
  cases r₅ with
  | list ho rl =>
    rename_i a vs n
    obtain ⟨ops, hs⟩ := hs (.ref a) (.ref s₅.heap.objs.size)
    have ho' := Heap.get?_push_of_some { cls := .type "slice", data := .fields #[vl, vu, vk] } (Vw.get ho)
    refine tail_any ⟨_, ho', rfl⟩ slot_list_getitem.lookup (wpAny_getItem_list_slice ⟨_, ho', rfl, _, rfl⟩ (Heap.IsSliceOf.new ..) pl pu pk h0 ?_ (by rw [List.size_toArray, rl.length, sizeLine_eq]; omega)) hs
    refine q _ _ (((x₂.trans y).trans (.of' (Kp.push _ _))).trans (.of' (Kp.push _ _))) ⟨_, (slicePick vs.toArray lo hi st).toList, 0, rfl, ?_, ?_, ?_⟩
    · cases e : s.heap.get? (s₅.heap.push { cls := .type "slice", data := .fields #[vl, vu, vk] }).objs.size with
      | none => rfl
      | some o => have := Kp.push _ { cls := .type "slice", data := .fields #[vl, vu, vk] } _ _ (((x.trans x₂).trans y).keep _ _ e); rw [push_none] at this; cases this
    · have := Heap.get?_push_size (s₅.heap.push { cls := .type "slice", data := .fields #[vl, vu, vk] }) (o := { cls := .type "list", data := .seq (slicePick vs.toArray lo hi st) }) rfl
      simpa using this
    · refine (rl.pick lo hi st).mono fun b o e => Vw.mk (Kp.push _ _ b o (Kp.push _ _ b o (Vw.get e))) fun hm => ?_
      rcases List.mem_cons.mp hm with h | h
      · subst h; have := Kp.push _ { cls := .type "slice", data := .fields #[vl, vu, vk] } _ _ (Vw.get e); rw [push_none] at this; cases this
      · exact Vw.off e h
theorem ev_slice {value : Expr} {lower upper step : Option Expr} {p pos : Pos} {xs : List AV} {lo hi st : Option Int} (c : Cx K X s.heap) (h : Ev prog w A env X s value (.list xs)) (h1 : EvPart prog w A env s lower lo) (h2 : EvPart prog w A env s upper hi) (h3 : EvPart prog w A env s step st)
    (h0 : st ≠ some 0) (hz : xs.length < 1000000) (hs : ∀ o i, ∃ ops, subscripted (.Slice lower upper step p) false o i = operate ops (getItem o i)) : Ev prog w A env X s (.Subscript value (.Slice lower upper step p) pos) (.list (pick xs lo hi st)) :=
  (evf_slice h h1 h2 h3 h0 hz hs).ev c

/-! methods of a list -/
theorem st_append {x : Str} {e : Expr} {xp apos pos pos' : Pos} {xs : List AV} {a : AV} {Q : Flow → Shared → Prop} {E : Value → Shared → Prop} (f : Fm K s₀ mk env Y X₀ s lm om) (h : om x = some xs) (he : Ev prog w A env (Y ++ X₀) s e a) (hz : xs.length < 1000000)
    (hd : (x == ("__debug__" : Str)) = false) (hst : starEach [e] env = (false, eval e env) :: starEach [] env) (hline : (apos.endLine == pos.line) = true) (hsw : swapsWith (.Call (.Attribute (.Name x xp) "append" apos) [e] [] pos) none pos'.line env = pure false)
    (q : ∀ s', Fm K s₀ mk env Y X₀ s' lm (upd om x (xs ++ [a])) → Q .next s') : wpAny (model prog w) A (exec (.Expr (.Call (.Attribute (.Name x xp) (Str.ofString "append") apos) [e] [] pos) pos') env) Q E s := by
  refine wpAny_Expr_any ?_ (by show (env.scope.kind == .module && _) = false; rw [f.sto.fn]; rfl) hsw
  have htr : backTo pos (starEach [e] env) = [(false, eval e env)] := by rw [hst]; rfl
  obtain ⟨a₀, vs₀, n₀, h1, _⟩ := f.change (ys := xs ++ [a]) h
  refine wpAny_Call_append rfl (by rw [htr]; rfl) hline htr (evp_var h1 f.sto.fn hd s _ _ (.refl _) fun v s₁ x₁ ev => ?_)
  subst ev
  obtain ⟨a₁, vs₁, n₁, g1, g2, g3, g4⟩ := (f.after x₁).change (ys := xs ++ [a]) h
  have := (h1.mono x₁.keep).inj g1; cases this
  refine ⟨_, _, rfl, ⟨_, _, g2, rfl, rfl, rfl⟩, he s₁ _ _ x₁ fun v s₂ x₂ rv => ?_⟩
  obtain ⟨a₂, vs₂, n₂, k1, k2, k3, k4⟩ := (f.after (x₁.trans x₂)).change (ys := xs ++ [a]) h
  have := (h1.mono (x₁.trans x₂).keep).inj k1; cases this
  refine wpAny_list_append_plain ⟨n₂, k2⟩ (fun h' hp hs => ?_) (by rw [List.size_toArray, k3.length, sizeLine_eq]; omega)
  obtain ⟨n', hp⟩ := hp
  refine q _ (k4 _ (vs₂ ++ [v]) n' ⟨rfl, rfl, rfl, fun b o hb e => hs.extBut b o (by simpa using hb) e⟩ (by simpa using hp) (k3.append (.cons rv .nil)))

theorem cmp_in {k : Int} {ns : List Int} {h : Heap} : Cmp prog w A X .In (.int k) (.list (ns.map AV.int)) (ns.any (· == k)) h := by
  intro s₁ va vb Q E _ ra rb q
  cases ra
  cases rb with
  | list ho rl =>
    rename_i t a vs n
    have hi := rl.ints
    refine SeqAt.in_listAt (isInt k) ⟨_, Vw.get ho, rfl, _, rfl⟩ (fun y hy => (eq_isInt k _ hi y (by simpa using hy)).at _ _) ?_
    have e1 : vs.toArray.any (isInt k) = ns.any (· == k) := by rw [← any_isInt k hi]; simp
    rw [e1]
    exact q s₁ (.refl _)
end
end Mine
end

section
set_option maxRecDepth 100000
namespace Mine
open PySem PySem.W PySem.Calls PyProof.Rows

section
variable {prog : Program} {w : World} {A : Around} {env : Env} {Y X X₀ : List Addr} {s s' s₀ : Shared} {K : Frag} {lm : LM} {om : OM} {mk : Mk}

def OfType (X : List Addr) (a : AV) (T : String) : Prop := ∀ (s : Shared) v, Rp (Vw s.heap X) v a → s.TypeIs v T ∧ ∀ b, v = .ref b → ∃ ob, s.heap.get? b = some ob ∧ ob.dict = none
theorem of_list {xs : List AV} : OfType X (.list xs) "list" := fun s v r => by cases r with | list ho rl => exact ⟨⟨_, Vw.get ho, rfl⟩, fun b e => by cases e; exact ⟨_, Vw.get ho, rfl⟩⟩
theorem of_str {x : Str} : OfType X (.str x) "str" := fun s v r => by cases r; exact ⟨typeIs_str s _ _, fun b e => by cases e⟩

theorem RpL.imm {V V' : View} : ∀ {vs : List Value} {xs : List AV}, RpL V vs xs → (∀ a ∈ xs, Imm a) → RpL V' vs xs
  | _, _, .nil, _ => .nil
  | _, _, .cons h r, k => .cons (h.imm (k _ List.mem_cons_self)) (r.imm fun a ha => k a (List.mem_cons_of_mem _ ha))
theorem FreshL.imm {X' : List Addr} {xs : List AV} {v : Value} {s₂ : Shared} (h : FreshL X s xs v s₂) (k : ∀ a ∈ xs, Imm a) : FreshL X' s xs v s₂ := by
  obtain ⟨a, vs, n, h1, h2, h3, h4⟩ := h
  exact ⟨a, vs, n, h1, h2, h3, h4.imm k⟩
theorem st_return_own {x : Str} {p pos : Pos} {xs : List AV} {Q : Flow → Shared → Prop} {E : Value → Shared → Prop} (f : Fm K s₀ mk env Y X₀ s lm om) (h : om x = some xs) (hd : (x == ("__debug__" : Str)) = false)
    (q : ∀ v s₂, Ext s₀ s₂ → Rp (Vw s₂.heap X₀) v (.list xs) → Q (.ret v) s₂) : wpAny (model prog w) A (exec (.Return (some (.Name x p)) pos) env) Q E s := by
  obtain ⟨a, vs, n, h1, _⟩ := f.ow x xs h
  refine wpAny_Return_some (evp_var h1 f.sto.fn hd s _ _ (.refl _) fun v s₁ x₁ ev => ?_)
  subst ev
  exact f.retOwn (R := fun v s => Q (.ret v) s) h q x₁ h1

/-- a method of a built-in type, no argument and one -/
theorem ev_meth0 {o : Expr} {name : Str} {apos pos : Pos} {a : AV} {T id : String} {P} (pa : PlainAttrs T) (slot : Slot T name id) (hty : typeOf (.builtin id) = pure (.type "method_descriptor")) (hT : OfType X a T) (h1 : Ev prog w A env X s o a)
    (hc : CallOk prog w A X (.builtin id) [a] P s.heap) (hbase : attributeBase o name env (eval o env) = eval o env) (hline : (apos.endLine == pos.line) = true) : EvP prog w A env s (.Call (.Attribute o name apos) [] [] pos) P := by
  intro s₁ Q E x q
  refine wpAny_Call_method0_late hbase hline (h1 s₁ _ _ x fun v s₂ x₂ r => ?_)
  obtain ⟨h1, h2⟩ := hT s₂ v r
  refine ⟨T, id, pa, slot, hty, h1, h2, callWith_method0 (env := env) ?_⟩
  exact hc s₂ [v] Q E (x.trans x₂).keep (.cons r .nil) fun u s₃ x₃ p => q u s₃ (x₂.trans x₃) p
theorem ev_meth1 {o e : Expr} {name : Str} {apos pos : Pos} {a b : AV} {T id : String} {P} (pa : PlainAttrs T) (slot : Slot T name id) (hty : typeOf (.builtin id) = pure (.type "method_descriptor")) (hT : OfType X a T) (h1 : Ev prog w A env X s o a) (h2 : Ev prog w A env X s e b)
    (hc : CallOk prog w A X (.builtin id) [a, b] P s.heap) (hbase : attributeBase o name env (eval o env) = eval o env) (hline : (apos.endLine == pos.line) = true) (hst : starEach [e] env = (false, eval e env) :: starEach [] env) : EvP prog w A env s (.Call (.Attribute o name apos) [e] [] pos) P := by
  intro s₁ Q E x q
  refine wpAny_Call_method1_late hbase hline (by rw [hst]; rfl) (h1 s₁ _ _ x fun v s₂ x₂ r => ?_)
  obtain ⟨k1, k2⟩ := hT s₂ v r
  refine ⟨T, id, pa, slot, hty, k1, k2, callWith_builtin rfl (evalArgs_plain (spliced_cons (h2 s₂ _ _ (x.trans x₂) fun u s₃ x₃ ru => spliced_nil ?_)))⟩
  exact hc s₃ [v, u] Q E ((x.trans x₂).trans x₃).keep (.cons (r.mono (Vw.ext x₃)) (.cons ru .nil)) fun u s₄ x₄ p => q u s₄ ((x₂.trans x₃).trans x₄) p

theorem index_ok {k : Int} {ns : List Int} {h : Heap} (hk : k ∈ ns) (hz : ns.length < 1000000) : CallOk prog w A X (.builtin "list.index") [.list (ns.map AV.int), .int k] (fun v _ => ∃ t, v = .int (ns.idxOf k : Nat) t) h := by
  intro s₁ vs Q E _ r q
  cases r with | cons r1 r => cases r with | cons r2 r =>
  cases r
  cases r2 with | int _ t => cases r1 with | list ho rl =>
  rename_i a vs n
  have hi := rl.ints
  have hl : vs.length = ns.length := hi.length
  have hj := List.idxOf_lt_length_iff.mpr hk
  have here : isInt k (vs[ns.idxOf k]'(hl ▸ hj)) = true := (isInt_at k hi _ _ hj).trans (beq_iff_eq.mpr (List.getElem_idxOf hj))
  have ahead : ∀ j (h : j < vs.length), j < ns.idxOf k → isInt k vs[j] = false := fun j h lt => (isInt_at k hi j h (hl ▸ h)).trans (ne_of_lt_idxOf lt _)
  exact call_meets PySem.F.slot_list_index ⟨_, Vw.get ho, rfl⟩ PySem.F.entry_list_index (PySem.F.args_list_index_2 _ _)
    (SeqAt.list_indexAt a vs.toArray n none #[] (.int k t) (isInt k) (ns.idxOf k) (by rw [List.size_toArray]; omega) (by omega) here fun j h lt => ahead j (by simpa using h) lt)
    ⟨Vw.get ho, fun y hy => (eq_isInt k t hi y (List.mem_toArray.mp hy)).at _ _, q _ _ (.tok s₁ _) ⟨_, rfl⟩⟩
theorem ev_index {o e : Expr} {apos pos : Pos} {k : Int} {ns : List Int} (h1 : Ev prog w A env X s o (.list (ns.map AV.int))) (h2 : Ev prog w A env X s e (.int k)) (hk : k ∈ ns) (hz : ns.length < 1000000)
    (hbase : attributeBase o (Str.ofString "index") env (eval o env) = eval o env) (hline : (apos.endLine == pos.line) = true) (hst : starEach [e] env = (false, eval e env) :: starEach [] env) : Ev prog w A env X s (.Call (.Attribute o (Str.ofString "index") apos) [e] [] pos) (.int (ns.idxOf k : Nat)) :=
  ev_of_int (ev_meth1 F.plainAttrs_list PySem.F.slot_list_index F.type_list_index of_list h1 h2 (index_ok hk hz) hbase hline hst)
end

/-! _law_depths -/
def depGo : List Int → List Int → List Int → List Int
  | [], _, acc => acc
  | c :: cs, st, acc =>
    if st.getLastD 0 < c then depGo cs (st ++ [c]) (acc ++ [(st.length : Int)])
    else if st.any (· == c) then depGo cs (st.take (st.idxOf c + 1)) (acc ++ [(st.idxOf c : Int)])
    else acc
def depOf (cs : List Int) : List Int := depGo cs [0] []

section
variable {prog : Program} {w : World} {K : Frag}
theorem fn_dep (T : Kt K) (cs : List Int) (hz : cs.length < 1000) : Fn prog w K 1 149 [.list (cs.map AV.int)] (.list ((depOf cs).map AV.int)) := by
  refine fn1 (st := depS) (p1 := Str.ofString "columns") T.b T.fDep (fun fd v h1 h2 h3 => params1 h1 h2 h3 fun _ _ _ _ _ _ _ _ _ _ _ _ => rfl) (by decide +kernel) (by decide +kernel) rfl rfl rfl ?_
  intro env s s₁ X A mk R e r f q
  refine wpAny_execs_cons (st_assign_own f (evf_list (evl_one ev_int rfl) (by decide)) e.loc rfl fun a₁ s₂ f₂ => ?_)
  refine wpAny_execs_cons (st_assign_own f₂ (evf_list evl_nil (by decide)) e.loc rfl fun a₂ s₃ f₃ => ?_)
  refine wpAny_execs_cons (st_for f₃ (iter_list r.hd f₃.cxs (lv f₃ (dl (dl upd_eq)))) e.loc
    (fun i lm om => ∃ st acc, om (Str.ofString "stack") = some (st.map AV.int) ∧ om (Str.ofString "depths") = some (acc.map AV.int) ∧ st ≠ [] ∧ st.length ≤ i + 1 ∧ acc.length ≤ i ∧ depGo (cs.drop i) st acc = depOf cs) (fun _ _ => False)
    ⟨[0], [], up upd_eq, upd_eq, by simp, by simp, by simp, rfl⟩ ?_ ?_ (fun _ => rfl))
  · rintro i Y' lm' om' s₄ E' hi ⟨st, acc, hs, ha, hne, hl1, hl2, hg⟩ f₄
    have hi' : i < cs.length := by simpa using hi
    have hit : (cs.map AV.int).getD i AV.none = .int cs[i] := by
      rw [List.getD_eq_getElem?_getD, List.getElem?_map, List.getElem?_eq_getElem hi']; rfl
    rw [hit] at f₄
    have hdrop : cs.drop i = cs[i] :: cs.drop (i + 1) := List.drop_eq_getElem_cons hi'
    rw [hdrop, depGo] at hg
    have hlen : 0 < st.length := List.length_pos_iff.mpr hne
    have hlast : (st.map AV.int)[(-1 + ((st.map AV.int).length : Int)).toNat]? = some (.int (st.getLastD 0)) := by
      have e1 : (-1 + ((st.map AV.int).length : Int)).toNat = st.length - 1 := by rw [List.length_map]; omega
      rw [e1, List.getElem?_map, List.getElem?_eq_getElem (by omega)]
      have : st.getLastD 0 = st[st.length - 1] := by rw [List.getLastD_eq_getLast?, List.getLast?_eq_getElem?, List.getElem?_eq_getElem (by omega)]; rfl
      rw [this]; rfl
    refine wpAny_execs_cons (wpAny_mono (Q := fun fl s' => match fl with
        | .next => ∃ Y'' lm'' om'' st', Fm K s ⟨s₄, Y'⟩ env Y'' X s' lm'' om'' ∧ om'' (Str.ofString "stack") = some (st'.map AV.int) ∧ om'' (Str.ofString "depths") = some (acc.map AV.int) ∧ st' ≠ [] ∧ st'.length ≤ i + 2 ∧ depGo (cs.drop (i + 1)) st' (acc ++ [(st'.length : Int) - 1]) = depOf cs
        | .ret v => R v s'
        | _ => False) (E := E') ?_ ?_ fun _ _ h => h)
    · refine st_if (ts_cmp (ev_var f₄.v0 upd_eq f₄.sto.fn (by decide +kernel)) (ev_itemN (ev_own f₄ (dl hs) (by decide +kernel)) (ev_neg ev_int) (by decide) (by rw [List.length_map]; omega) hlast (by decide) (fun _ _ => rfl)) cmp_gt rfl) fun s₅ x₅ => ?_
      have f₅ := f₄.after x₅
      by_cases h1 : st.getLastD 0 < cs[i]
      · rw [if_pos (decide_eq_true h1)]
        rw [if_pos h1] at hg
        refine wpAny_execs_cons (st_append f₅ (dl hs) (lv f₅ upd_eq) (by rw [List.length_map]; omega) (by decide +kernel) rfl rfl rfl fun s₆ f₆ => ?_)
        refine wpAny_execs_nil ⟨_, _, _, st ++ [cs[i]], f₆, by rw [List.map_append]; exact upd_eq, up (dl ha), by simp, by rw [List.length_append, List.length_singleton]; omega, ?_⟩
        rw [← hg, List.length_append, List.length_singleton]
        congr 2
        push_cast; simp
      · rw [if_neg (by simpa using h1)]
        rw [if_neg h1] at hg
        refine wpAny_execs_cons (st_if (ts_cmp (ev_var f₅.v0 upd_eq f₅.sto.fn (by decide +kernel)) (ev_own f₅ (dl hs) (by decide +kernel)) cmp_in rfl) fun s₆ x₆ => ?_)
        have f₆ := f₅.after x₆
        by_cases h2 : (st.any (· == cs[i])) = true
        · rw [if_pos h2]
          rw [if_pos h2] at hg
          have hmem : cs[i] ∈ st := by simpa using h2
          have hidx : st.idxOf cs[i] < st.length := List.idxOf_lt_length_iff.mpr hmem
          refine wpAny_execs_cons (st_assign_own (xs := (st.take (st.idxOf cs[i] + 1)).map AV.int) f₆ ?_ e.loc rfl fun a₇ s₇ f₇ => ?_)
          · refine EvP.mono (evf_slice (ev_own f₆ (dl hs) (by decide +kernel)) part_none (part_some (ev_add (ev_index (ev_own f₆ (dl hs) (by decide +kernel)) (ev_var f₆.v0 upd_eq f₆.sto.fn (by decide +kernel)) hmem (by omega) rfl rfl rfl) ev_int)) part_none (by simp) (by rw [List.length_map]; omega) (fun _ _ => ⟨_, rfl⟩)) fun v s₂ _ h => ?_
            have e1 : pick (st.map AV.int) none (some ((st.idxOf cs[i] : Nat) + 1 : Int)) none = (st.take (st.idxOf cs[i] + 1)).map AV.int := by
              have := pick_to (st.map AV.int) (st.idxOf cs[i] + 1)
              push_cast at this
              rw [this, List.map_take]
            rw [e1] at h
            exact h.imm (by intro a ha; obtain ⟨_, _, rfl⟩ := List.mem_map.mp ha; trivial)
          · refine wpAny_execs_nil (wpAny_execs_nil ⟨_, _, _, st.take (st.idxOf cs[i] + 1), f₇, upd_eq, up (dl ha), ?_, ?_, ?_⟩)
            · intro h
              rcases List.take_eq_nil_iff.mp h with h | h
              · omega
              · exact hne h
            · rw [List.length_take]; omega
            · rw [← hg, List.length_take]
              congr 3; omega
        · rw [if_neg h2]
          rw [if_neg h2] at hg
          rw [hg] at ha
          exact wpAny_execs_cons (st_return_own f₆ (dl ha) (by decide +kernel) q)
    · rintro fl s₅ hm
      cases fl with
      | next =>
        obtain ⟨Y'', lm'', om'', st', f₅, g1, g2, g3, g4, g5⟩ := hm
        refine wpAny_execs_cons (st_append f₅ g2 (a := .int ((st'.length : Int) - 1)) ?_ (by rw [List.length_map]; omega) (by decide +kernel) rfl rfl rfl fun s₆ f₆ => ?_)
        · exact (Ev.cast (ev_sub (ev_lenL T e.b f₅.cx0 (ev_own f₅ g1 (by decide +kernel)) (by rw [List.length_map]; omega) e.gl rfl) ev_int) (by rw [List.length_map])).imm
        · exact wpAny_execs_nil ⟨_, _, _, f₆, st', acc ++ [(st'.length : Int) - 1], up g1, by rw [List.map_append]; exact upd_eq, g3, by omega, by rw [List.length_append, List.length_singleton]; omega, g5⟩
      | ret v => exact hm
      | brk => exact hm.elim
      | cont => exact hm.elim
  · rintro Y' lm' om' s₄ hj f₄
    obtain ⟨st, acc, hs, ha, hne, hl1, hl2, hg⟩ := hj.resolve_right id
    rw [List.length_map, List.drop_length, depGo] at hg
    rw [hg] at ha
    exact wpAny_execs_cons (st_return_own f₄ ha (by decide +kernel) q)
end
end Mine
end

section
set_option maxRecDepth 100000
namespace Mine
open PySem PySem.W PySem.Calls PyProof.Rows

/-- the class, read off the top -/
structure Kw (K : Frag) : Prop where
  hasD : (clsIn K 112).any (·.hasDict) = true
  nRaw : findIn K (.ref 112) (Str.ofString "raw") = some none
  nN : findIn K (.ref 112) (Str.ofString "n") = some none
  nNt : findIn K (.ref 112) (Str.ofString "nt") = some none
  nNorm : findIn K (.ref 112) (Str.ofString "norm") = some none
  nSimp : findIn K (.ref 112) (Str.ofString "is_simple") = some none
  ga : findIn K (.ref 112) "__getattribute__" = some (some (.builtin "object.__getattribute__"))
  gh : findIn K (.ref 112) "__getattr__" = some none
  mLrun : findIn K (.ref 112) (Str.ofString "longest_run_of_spaces") = some (some (.ref 74))
  mIlev : findIn K (.ref 112) (Str.ofString "indent_level") = some (some (.ref 81))
  mEqu : findIn K (.ref 112) (Str.ofString "equal") = some (some (.ref 88))
  mLess : findIn K (.ref 112) (Str.ofString "less") = some (some (.ref 102))
  mWit : findIn K (.ref 112) (Str.ofString "not_less_witness") = some (some (.ref 109))
  tLrun : typeIn K (.ref 74) = some (.type "function")
  tIlev : typeIn K (.ref 81) = some (.type "function")
  tEqu : typeIn K (.ref 88) = some (.type "function")
  tLess : typeIn K (.ref 102) = some (.type "function")
  tWit : typeIn K (.ref 109) = some (.type "function")
  tInit : typeIn K (.ref 67) = some (.type "function")
  makes : makesIn K 112 = true
  mInit : findIn K (.ref 112) "__init__" = some (some (.ref 67))
  setA : findIn K (.ref 112) "__setattr__" = some (some (.builtin "object.__setattr__"))
  over : plainOver K 112 = true
  kRaw : takerIn K 112 (Str.ofString "raw") = some none
  kN : takerIn K 112 (Str.ofString "n") = some none
  kNt : takerIn K 112 (Str.ofString "nt") = some none
  kNorm : takerIn K 112 (Str.ofString "norm") = some none
  kSimp : takerIn K 112 (Str.ofString "is_simple") = some none
  reads : readsIn K 112 (.type "type") = true
  clsS : ∃ t, findCls K (.ref 112) (.type "type") (Str.ofString "S") = some (.val (.str (Str.ofString " ") t))
  clsT : ∃ t, findCls K (.ref 112) (.type "type") (Str.ofString "T") = some (.val (.str (Str.ofString "\t") t))
  keepC : keepIn K (.ref 112) = true

theorem FnIs.keep {K : Frag} {f : Addr} {st : Stmt} (F : FnIs K f st) : keepIn K (.ref f) = true := by
  have h := F.here
  unfold fnIn at h
  unfold keepIn
  dsimp only
  split at h
  · rename_i e; rw [e]
  · cases h

theorem findObj_own {K : Frag} {od : Obj} {name : Str} {v : Value} (W : Kw K) (h2 : findIn K (.ref 112) name = some none) (h3 : lookIn name od = some (some v)) : findObj K 112 (some od) name = some (.value v) := by
  obtain ⟨cd, h1, hd⟩ := any_some W.hasD
  unfold findObj PySem.W.ownOf
  rw [h1, h2]
  simp [hd, h3]

section
variable {prog : Program} {w : World} {A : Around} {env : Env} {Y X X₀ : List Addr} {s s' s₀ : Shared} {K : Frag} {lm : LM} {om : OM} {mk : Mk}

/-- a field of a Whitespace -/
theorem ev_attr {o : Expr} {name : Str} {pos : Pos} {d : Wd} {a : AV} (W : Kw K) (c : Cx K X s.heap) (h : Ev prog w A env X s o (.ws d)) (hn : findIn K (.ref 112) name = some none)
    (hv : ∀ (V : View) v, Rp V v (.ws d) → ∃ b dx od u, v = .ref b ∧ V b = some (instObj 112 dx) ∧ V dx = some od ∧ lookIn name od = some (some u) ∧ Rp V u a)
    (he : eval (.Attribute o name pos) env = (do
      let o' ← eval o env
      standAt pos.atName
      let r ← holding [o'] (getAttr o' name true)
      letTemporaryGo o o' r
      pure r)) (himm : ∀ V v, Rp V v a → handedIn v = true) : Ev prog w A env X s (.Attribute o name pos) a := by
  intro s₁ Q E x q
  refine Attribute_any_ (h s₁ _ _ x fun v s₂ x₂ r => ?_) he
  obtain ⟨b, dx, od, u, rfl, h1, h2, h3, h4⟩ := hv _ v r
  have c₂ := c.mono (x.trans x₂).keep
  exact get_value c₂.top ⟨Vw.get h1, rfl, rfl, Vw.get h2⟩ W.ga (findObj_own W hn h3) (himm _ _ h4) (q u _ (x₂.trans (.tok s₂ _)) (h4.mono (Vw.ext (.tok s₂ _))))
theorem handed_rp {V : View} {v : Value} {a : AV} (r : Rp V v a) : handedIn v = true := by cases r <;> rfl
theorem ws_n {V : View} {v : Value} {d : Wd} (r : Rp V v (.ws d)) : ∃ b dx od u, v = .ref b ∧ V b = some (instObj 112 dx) ∧ V dx = some od ∧ lookIn (Str.ofString "n") od = some (some u) ∧ Rp V u (.int d.n) := by
  cases r with | ws h hd h1 h2 h3 h4 h5 h6 r1 r2 r3 r4 r5 => exact ⟨_, _, _, _, rfl, h, hd, h2, r2⟩
theorem ws_nt {V : View} {v : Value} {d : Wd} (r : Rp V v (.ws d)) : ∃ b dx od u, v = .ref b ∧ V b = some (instObj 112 dx) ∧ V dx = some od ∧ lookIn (Str.ofString "nt") od = some (some u) ∧ Rp V u (.int d.nt) := by
  cases r with | ws h hd h1 h2 h3 h4 h5 h6 r1 r2 r3 r4 r5 => exact ⟨_, _, _, _, rfl, h, hd, h3, r3⟩
theorem ws_raw {V : View} {v : Value} {d : Wd} (r : Rp V v (.ws d)) : ∃ b dx od u, v = .ref b ∧ V b = some (instObj 112 dx) ∧ V dx = some od ∧ lookIn (Str.ofString "raw") od = some (some u) ∧ Rp V u (.str d.raw) := by
  cases r with | ws h hd h1 h2 h3 h4 h5 h6 r1 r2 r3 r4 r5 => exact ⟨_, _, _, _, rfl, h, hd, h1, r1⟩
def normA (d : Wd) : AV := .tup [.tup (d.cnt.map AV.int), .int d.tr]
theorem ws_norm {V : View} {v : Value} {d : Wd} (r : Rp V v (.ws d)) : ∃ b dx od u, v = .ref b ∧ V b = some (instObj 112 dx) ∧ V dx = some od ∧ lookIn (Str.ofString "norm") od = some (some u) ∧ Rp V u (normA d) := by
  cases r with | ws h hd h1 h2 h3 h4 h5 h6 r1 r2 r3 r4 r5 => exact ⟨_, _, _, _, rfl, h, hd, h4, r4⟩
theorem ws_simp {V : View} {v : Value} {d : Wd} (r : Rp V v (.ws d)) : ∃ b dx od u, v = .ref b ∧ V b = some (instObj 112 dx) ∧ V dx = some od ∧ lookIn (Str.ofString "is_simple") od = some (some u) ∧ Rp V u (.bool (decide (d.cnt.length ≤ 1))) := by
  cases r with | ws h hd h1 h2 h3 h4 h5 h6 r1 r2 r3 r4 r5 => exact ⟨_, _, _, _, rfl, h, hd, h5, r5⟩

/-- a method of a Whitespace -/
theorem ev_wsm {o e : Expr} {es : List Expr} {name : Str} {apos pos : Pos} {d : Wd} {as : List AV} {f : Addr} {st : Stmt} {P} (W : Kw K) (F : FnIs K f st) (c : Cx K X s.heap) (h1 : Ev prog w A env X s o (.ws d)) (hf : findIn K (.ref 112) name = some (some (.ref f))) (ht : typeIn K (.ref f) = some (.type "function"))
    (hname : name ∈ ([Str.ofString "longest_run_of_spaces", Str.ofString "indent_level", Str.ofString "equal", Str.ofString "less", Str.ofString "not_less_witness"] : List Str))
    (h2 : EvL prog w A env X s (e :: es) as) (hc : CallOk prog w A X (.ref f) (.ws d :: as) P s.heap) {pl : Sem Bool}
    (he : eval (.Call (.Attribute o name apos) (e :: es) [] pos) env = (do
      let ov ← eval o env
      standAt apos.atName
      let (f, first) ← holding [ov] (getMethod ov name pl)
      callWith pos f first (backTo pos (starEach (e :: es) env)) (backToKw pos (keywordEach [] env))))
    (hst : starEach (e :: es) env = (false, eval e env) :: starEach es env) (hp : (backTo pos (starEach es env)).any (·.1) = false) : EvP prog w A env s (.Call (.Attribute o name apos) (e :: es) [] pos) P := by
  intro s₁ Q E x q
  refine methodCall_KW (h1 s₁ _ _ x fun v s₂ x₂ r => ?_) he
  have c₂ := c.mono (x.trans x₂).keep
  have r' := r
  cases r' with | ws h hd g1 g2 g3 g4 g5 g6 r1 r2 r3 r4 r5 =>
  refine method_fn c₂.top ⟨Vw.get h, rfl, rfl, Vw.get hd⟩ W.ga W.gh hf ht (g6 name hname) ?_
  exact callWith_fn c₂ F.keep (.cons r .nil) (evl_ext h2 (x.trans x₂)) (fun s₃ vs Q E k r q => hc s₃ vs Q E (fun b o e => k b o ((x.trans x₂).keep b o e)) r q) hst hp fun v s₃ x₃ p => q v s₃ (x₂.trans x₃) p
theorem ev_wsm0 {o : Expr} {name : Str} {apos pos : Pos} {d : Wd} {f : Addr} {st : Stmt} {P} (W : Kw K) (F : FnIs K f st) (c : Cx K X s.heap) (h1 : Ev prog w A env X s o (.ws d)) (hf : findIn K (.ref 112) name = some (some (.ref f))) (ht : typeIn K (.ref f) = some (.type "function"))
    (hname : name ∈ ([Str.ofString "longest_run_of_spaces", Str.ofString "indent_level", Str.ofString "equal", Str.ofString "less", Str.ofString "not_less_witness"] : List Str))
    (hc : CallOk prog w A X (.ref f) [.ws d] P s.heap) {pl : Sem Bool}
    (he : eval (.Call (.Attribute o name apos) [] [] pos) env = (do
      let ov ← eval o env
      standAt apos.atName
      let (f, first) ← holding [ov] (getMethod ov name pl)
      callWith pos f first (backTo pos (starEach [] env)) (backToKw pos (keywordEach [] env)))) : EvP prog w A env s (.Call (.Attribute o name apos) [] [] pos) P := by
  intro s₁ Q E x q
  refine methodCall_KW (h1 s₁ _ _ x fun v s₂ x₂ r => ?_) he
  have c₂ := c.mono (x.trans x₂).keep
  have r' := r
  cases r' with | ws h hd g1 g2 g3 g4 g5 g6 r1 r2 r3 r4 r5 =>
  refine method_fn c₂.top ⟨Vw.get h, rfl, rfl, Vw.get hd⟩ W.ga W.gh hf ht (g6 name hname) ?_
  exact callWith_fn0 (env := env) c₂ F.keep (.cons r .nil) (fun s₃ vs Q E k r q => hc s₃ vs Q E (fun b o e => k b o ((x.trans x₂).keep b o e)) r q) fun v s₃ x₃ p => q v s₃ (x₂.trans x₃) p

theorem RpL.two {V : View} {vs : List Value} {a b : AV} (r : RpL V vs [a, b]) : ∃ v u, vs = [v, u] ∧ Rp V v a ∧ Rp V u b := by
  cases r with | cons h r =>
  cases r with | cons h' r =>
  cases r
  exact ⟨_, _, rfl, h, h'⟩
theorem RpL.one {V : View} {vs : List Value} {a : AV} (r : RpL V vs [a]) : ∃ v, vs = [v] ∧ Rp V v a := by
  cases r with | cons h r =>
  cases r
  exact ⟨_, rfl, h⟩
/-- two names from a pair -/
theorem st_unpack2 {x y : Str} {px py : Pos} {k : Nat} {tpos pos : Pos} {value : Expr} {a b : AV} {Q : Flow → Shared → Prop} {E : Value → Shared → Prop} (f : Fm K s₀ mk env Y X₀ s lm om) (hh : A.handled = none) (h : Ev prog w A env (Y ++ X₀) s value (.tup [a, b])) (hx : StoreOk env x) (hy : StoreOk env y)
    (hs : swapsWithSole [.Tuple [.Name x px, .Name y py] k tpos] value pos.line env = pure false) (hw : swappedStores [.Tuple [.Name x px, .Name y py] k tpos] value env = pure none)
    (q : ∀ s', Fm K s₀ mk env Y X₀ s' (upd (upd lm x a) y b) (del (del om x) y) → Q .next s') : wpAny (model prog w) A (exec (.Assign [.Tuple [.Name x px, .Name y py] k tpos] value pos) env) Q E s := by
  refine Assign_Tuple (h s _ _ (.refl _) fun v s₁ x₁ r => ?_) hs hw
  cases r with | tup ho rl =>
  obtain ⟨v1, v2, rfl, ra, rb⟩ := rl.two
  refine wpAny_assign_Tuple hh ⟨_, Vw.get ho, rfl, _, rfl⟩ (by rfl) (by rfl) fun h' hx' => ?_
  have x₂ : Ext s₁ { s₁ with heap := h' } := .of' fun b o e => hx' b o (Nat.ne_of_lt (Heap.lt_size e)) e
  have f₂ := f.after (x₁.trans x₂)
  show wpAny (model prog w) A (do holding _ (assign (.Name x px) env _); assignInOrder [assign (.Name y py) env] _) _ _ _
  refine wpAny_bind (wpAny_holding (wpAny_assign_Name (f₂.store (ra.mono (Vw.ext x₂)) hx fun s₃ f₃ x₃ => ?_)))
  show wpAny (model prog w) A (do holding _ (assign (.Name y py) env _); assignInOrder [] _) _ _ _
  refine wpAny_bind (wpAny_holding (wpAny_assign_Name (f₃.store ((rb.mono (Vw.ext x₂)).mono (Vw.keep fun b o hb e => x₃.keep b o (fun h => hb (List.mem_append_left _ h)) e)) hy fun s₄ f₄ x₄ => ?_)))
  exact wpAny_pure (q s₄ f₄)

/-! max of two, range -/
theorem max_ok {a b : Int} {h : Heap} (hh : A.handled = none) : CallOk prog w A X (.builtin "max") [.int a, .int b] (fun v _ => ∃ t, v = .int (max a b) t) h := by
  intro s₁ vs Q E _ r q
  cases r with | cons r1 r => cases r with | cons r2 r => 
  cases r; cases r1; cases r2
  refine max_two_ints hh fun h' tk hk => ?_
  by_cases hc : b > a
  · rw [if_pos hc]; exact q _ _ (.of hk) ⟨_, by congr 1; omega⟩
  · rw [if_neg hc]; exact q _ _ (.of hk) ⟨_, by congr 1; omega⟩
theorem ev_max (T : Kt K) (b : BEnv K env) (c : Cx K X s.heap) (hh : A.handled = none) {e e' : Expr} {p pos : Pos} {i j : Int} (h1 : Ev prog w A env X s e (.int i)) (h2 : Ev prog w A env X s e' (.int j)) (hx : env.kindOf (Str.ofString "max") = some .globalImplicit)
    (he : starEach [e, e'] env = (false, eval e env) :: starEach [e'] env) (he' : starEach [e'] env = (false, eval e' env) :: starEach [] env) : Ev prog w A env X s (.Call (.Name (Str.ofString "max") p) [e, e'] [] pos) (.int (max i j)) :=
  ev_of_int (ev_callB (evp_builtin T.b c b.fn b.glob b.bi hx (by decide +kernel) T.nMax (by decide +kernel) (by decide +kernel)) (evl_two h1 h2 he he') (max_ok hh) he fun _ => by rw [he']; rfl)

theorem iter_range (T : Kt K) (bb : BEnv K env) (c : Cx K X s.heap) (hh : A.handled = none) {e e' : Expr} {p pos : Pos} {a b : Int} (h1 : Ev prog w A env X s e (.int a)) (h2 : Ev prog w A env X s e' (.int b)) (ha : -1000000 < a ∧ a < 1000000) (hb : -1000000 < b ∧ b < 1000000)
    (hx : env.kindOf (Str.ofString "range") = some .globalImplicit) (he : starEach [e, e'] env = (false, eval e env) :: starEach [e'] env) (he' : starEach [e'] env = (false, eval e' env) :: starEach [] env) :
    Iter prog w A env X s (.Call (.Name (Str.ofString "range") p) [e, e'] [] pos) (b - a).toNat (fun i => .int (a + i)) := by
  intro s₁ Q E x q
  have hr : EvP prog w A env s (.Call (.Name (Str.ofString "range") p) [e, e'] [] pos) (fun v s₂ => ∃ r t u t', v = .ref r ∧ IsRange s₂.heap r a b 1 t u t') := by
    refine ev_callT (T := "range") (evp_builtin T.b c bb.fn bb.glob bb.bi hx (by decide +kernel) T.nRange (by decide +kernel) (by decide +kernel)) (evl_two h1 h2 he he') (fun s₁ vs Q E _ r q => ?_) he fun _ => by rw [he']; rfl
    cases r with | cons r1 r => cases r with | cons r2 r => 
    cases r; cases r1; cases r2
    exact call_range_2 (q _ _ (.of (Kp.push _ _)) ⟨_, _, _, _, rfl, IsRange.new ..⟩)
  refine hr s₁ _ _ x fun v s₂ x₂ hv => ?_
  obtain ⟨r, t, u, t', rfl, hr⟩ := hv
  refine wpAny_pyIter_range hr (small_one (by omega) (by omega) (by omega) (by omega)) ?_
  have W := Walks.range (prog := prog) (w := w) hh s₂.heap.objs.size a 1 (b - a).toNat
  have c₂ := c.mono (x.trans x₂).keep
  refine q _ _ (itok_before x₂ ⟨_, _, _, _, rfl, .of' (Kp.push _ _), push_none _, W, ?_, fun b hb => ?_, fun i h st => ⟨_, _, st, rfl⟩, fun i v hv => ?_⟩)
  · have := Heap.get?_push_size s₂.heap (o := { cls := .type "range_iterator", data := .fields #[rawInt a, rawInt (Builtin.Range.rangeSize a b 1), rawInt 1] }) rfl
    have e1 : a + ((0 : Nat) : Int) * 1 = a := by omega
    have e2 : ((b - a).toNat : Int) - ((0 : Nat) : Int) = if a < b then b - a else 0 := by split <;> omega
    rw [rangeSize_one] at this ⊢
    rw [e1, e2]
    exact this
  · rw [List.mem_singleton.mp hb]; exact ⟨c₂.off (push_none _), _, Heap.get?_push_size _ rfl⟩
  · obtain ⟨t, rfl⟩ := hv
    have : a + (i : Int) * 1 = a + i := by omega
    rw [this]
    exact .int _ _
end

/-! the plain functions -/
def lrun (d : Wd) : Int := max ((d.cnt.length : Int) - 1) d.tr
def ilevGo (ts : Int) (cnt : List Int) : Int := ((List.range ((cnt.length : Int) - ts).toNat).map fun (i : Nat) => (ts + (i : Int)).fdiv ts * cnt.getD (ts + (i : Int)).toNat 0).sum
def ilev (d : Wd) (ts : Int) : Int := d.tr + ts * (ilevGo ts d.cnt + d.nt)

end Mine
end

section
set_option maxRecDepth 100000
namespace Mine
open PySem PySem.W PySem.Calls PyProof.Rows

/-! data compared -/
mutual
def toPy : AV → PyData
  | .none => .none
  | .bool b => .bool b
  | .int i => .int i
  | .str x => .str x
  | .list xs => .list (toPyL xs)
  | .tup xs => .tuple (toPyL xs)
  | .ws _ => .none
  | .obj _ => .none
def toPyL : List AV → List PyData
  | [] => []
  | x :: xs => toPy x :: toPyL xs
end
mutual
def plainA : AV → Bool
  | .none => true
  | .bool _ => true
  | .int _ => true
  | .str _ => false
  | .list xs => plainL xs
  | .tup xs => plainL xs
  | .ws _ => false
  | .obj _ => false
def plainL : List AV → Bool
  | [] => true
  | x :: xs => plainA x && plainL xs
end
mutual
theorem Rp.reads {V : View} {h : Heap} (k : Sub V h.get?) : ∀ {v : Value} {a : AV}, Rp V v a → plainA a = true → ∃ as, Reads h v (toPy a) as
  | _, _, .none, _ => ⟨_, by unfold toPy; exact .none⟩
  | _, _, .bool b, _ => ⟨_, by unfold toPy; exact .bool b⟩
  | _, _, .int i t, _ => ⟨_, by unfold toPy; exact .int i t⟩
  | _, _, .str x t, _ => ⟨_, by unfold toPy; exact .str x t⟩
  | _, _, .list ho r, p => by
    obtain ⟨as, q⟩ := RpL.reads k r (by unfold plainA at p; exact p)
    exact ⟨_, by unfold toPy; exact .list (k _ _ ho) rfl rfl q⟩
  | _, _, .tup ho r, p => by
    obtain ⟨as, q⟩ := RpL.reads k r (by unfold plainA at p; exact p)
    exact ⟨_, by unfold toPy; exact .tuple (k _ _ ho) rfl rfl q⟩
  | _, _, .ws .., p => by unfold plainA at p; cases p
  | _, _, .obj _, p => by unfold plainA at p; cases p
theorem RpL.reads {V : View} {h : Heap} (k : Sub V h.get?) : ∀ {vs : List Value} {xs : List AV}, RpL V vs xs → plainL xs = true → ∃ as, ReadsAll h vs (toPyL xs) as
  | _, _, .nil, _ => ⟨_, by unfold toPyL; exact .nil⟩
  | _, _, .cons hv r, p => by
    unfold plainL at p
    obtain ⟨p1, p2⟩ := Bool.and_eq_true_iff.mp p
    obtain ⟨as, q⟩ := Rp.reads k hv p1
    obtain ⟨bs, q'⟩ := RpL.reads k r p2
    exact ⟨_, by unfold toPyL; exact .cons q q'⟩
end
mutual
theorem canLay_of : ∀ {a : AV}, plainA a = true → (toPy a).canLay0 = true
  | .none, _ => by simp only [toPy, PyData.canLay0]
  | .bool _, _ => by simp only [toPy, PyData.canLay0]
  | .int _, _ => by simp only [toPy, PyData.canLay0]
  | .str _, h => by simp only [plainA] at h; cases h
  | .list xs, h => by simp only [toPy, PyData.canLay0]; exact canLayL_of (by simpa only [plainA] using h)
  | .tup xs, h => by simp only [toPy, PyData.canLay0]; exact canLayL_of (by simpa only [plainA] using h)
  | .ws _, h => by simp only [plainA] at h; cases h
  | .obj _, h => by simp only [plainA] at h; cases h
theorem canLayL_of : ∀ {xs : List AV}, plainL xs = true → PyData.canLayAll0 (toPyL xs) = true
  | [], _ => by simp only [toPyL, PyData.canLayAll0]
  | x :: xs, h => by
    simp only [plainL, Bool.and_eq_true] at h
    simp only [toPyL, PyData.canLayAll0, canLay_of h.1, canLayL_of h.2, Bool.and_self]
end

section
variable {prog : Program} {w : World} {A : Around} {env : Env} {Y X X₀ : List Addr} {s s' s₀ : Shared} {K : Frag} {lm : LM} {om : OM} {mk : Mk}
theorem cmp_deepEq {a b : AV} {h : Heap} (ha : plainA a = true) (hb : plainA b = true) (hu : A.units + (toPy a).depth < cLine) : Cmp prog w A X .Eq a b (PyData.eqv (toPy a) (toPy b)) h := by
  intro s₁ va vb Q E _ ra rb q
  obtain ⟨as, r1⟩ := ra.reads Vw.full ha
  obtain ⟨bs, r2⟩ := rb.reads Vw.full hb
  exact SeqAt.compareEq_reads r1 r2 (canLay_of ha) (canLay_of hb) (by omega) (q s₁ (.refl _))
theorem cmp_deepNe {a b : AV} {h : Heap} (ha : plainA a = true) (hb : plainA b = true) (hu : A.units + (toPy a).depth < cLine) : Cmp prog w A X .NotEq a b (!PyData.eqv (toPy a) (toPy b)) h := by
  intro s₁ va vb Q E _ ra rb q
  obtain ⟨as, r1⟩ := ra.reads Vw.full ha
  obtain ⟨bs, r2⟩ := rb.reads Vw.full hb
  exact SeqAt.compareNe_reads r1 r2 (canLay_of ha) (canLay_of hb) (by omega) (q s₁ (.refl _))
end

theorem plain_ints : ∀ ns : List Int, plainL (ns.map AV.int) = true
  | [] => by simp only [List.map_nil, plainL]
  | n :: ns => by simp only [List.map_cons, plainL, plainA, plain_ints ns, Bool.and_self]
theorem depth_ints : ∀ ns : List Int, PyData.depthAll (toPyL (ns.map AV.int)) = 0
  | [] => by simp only [List.map_nil, toPyL, PyData.depthAll]
  | n :: ns => by simp only [List.map_cons, toPyL, toPy, PyData.depthAll, PyData.depth, depth_ints ns, Nat.max_self]
theorem toPyL_ints : ∀ ns : List Int, toPyL (ns.map AV.int) = ns.map PyData.int
  | [] => by simp only [List.map_nil, toPyL]
  | n :: ns => by simp only [List.map_cons, toPyL, toPy, toPyL_ints ns]
theorem eqv_ints (ns ms : List Int) : PyData.eqvAll (toPyL (ns.map AV.int)) (toPyL (ms.map AV.int)) = decide (ns = ms) := by rw [toPyL_ints, toPyL_ints, ked_eqvAll]

section
variable {prog : Program} {w : World} {A : Around} {env : Env} {Y X X₀ : List Addr} {s s' s₀ : Shared} {K : Frag} {lm : LM} {om : OM} {mk : Mk}
theorem cmp_neI {ns ms : List Int} {h : Heap} (hu : A.units + 1 < cLine) : Cmp prog w A X .NotEq (.list (ns.map AV.int)) (.list (ms.map AV.int)) (decide (ns ≠ ms)) h := by
  have := cmp_deepNe (prog := prog) (w := w) (A := A) (X := X) (h := h) (a := .list (ns.map AV.int)) (b := .list (ms.map AV.int)) (by simp only [plainA, plain_ints]) (by simp only [plainA, plain_ints]) (by simp only [toPy, PyData.depth, depth_ints]; omega)
  simp only [toPy, PyData.eqv, eqv_ints] at this
  have e : decide (ns ≠ ms) = !decide (ns = ms) := by simp
  rw [e]; exact this
theorem cmp_eqN {d d' : Wd} {h : Heap} (hu : A.units + 2 < cLine) : Cmp prog w A X .Eq (normA d) (normA d') (decide (d.cnt = d'.cnt ∧ d.tr = d'.tr)) h := by
  have := cmp_deepEq (prog := prog) (w := w) (A := A) (X := X) (h := h) (a := normA d) (b := normA d') (by simp only [normA, plainA, plainL, plain_ints, Bool.and_self]) (by simp only [normA, plainA, plainL, plain_ints, Bool.and_self]) (by simp only [normA, toPy, toPyL, PyData.depth, PyData.depthAll, depth_ints]; omega)
  simp only [normA, toPy, toPyL, PyData.eqv, PyData.eqvAll, eqv_ints] at this
  have e : decide (d.cnt = d'.cnt ∧ d.tr = d'.tr) = (decide (d.cnt = d'.cnt) && (d.tr == d'.tr && true)) := by
    by_cases h1 : d.cnt = d'.cnt <;> by_cases h2 : d.tr = d'.tr <;> simp [h1, h2]
  rw [e]; exact this
theorem len_okT {xs : List AV} {h : Heap} (hz : xs.length < 1000000) : CallOk prog w A X (.builtin "len") [.tup xs] (fun v _ => ∃ t, v = .int xs.length t) h := by
  intro s₁ vs Q E k r q
  obtain ⟨v, rfl, rv⟩ := r.one
  cases rv with | tup ho rl =>
  exact PyProof.Rows.len_tuple ⟨_, Vw.get ho, rfl, _, rfl⟩ (by rw [List.size_toArray, rl.length]; omega) (q _ _ (.tok s₁ _) ⟨_, by rw [List.size_toArray, rl.length]⟩)
theorem ev_lenT (T : Kt K) (b : BEnv K env) (c : Cx K X s.heap) {e : Expr} {p pos : Pos} {xs : List AV} (h : Ev prog w A env X s e (.tup xs)) (hz : xs.length < 1000000) (hx : env.kindOf (Str.ofString "len") = some .globalImplicit)
    (he : starEach [e] env = (false, eval e env) :: starEach [] env) : Ev prog w A env X s (.Call (.Name (Str.ofString "len") p) [e] [] pos) (.int xs.length) :=
  ev_of_int (ev_callB (evp_len T b c hx) (evl_one h he) (len_okT hz) he fun _ => rfl)
end

section
variable {prog : Program} {w : World} {K : Frag}
theorem fn_lrun (T : Kt K) (W : Kw K) (d : Wd) (hz : d.cnt.length < 1000) : Fn prog w K 1 74 [.ws d] (.int (lrun d)) := by
  refine fn1 (st := lrunS) (p1 := Str.ofString "self") T.b T.fLrun (fun fd v h1 h2 h3 => params1 h1 h2 h3 fun _ _ _ _ _ _ _ _ _ _ _ _ => rfl) (by decide +kernel) (by decide +kernel) rfl rfl rfl ?_
  intro env s s₁ X A mk R e r f q
  refine wpAny_execs_cons (st_unpack2 f r.hd (ev_attr W f.cxs (lv f upd_eq) W.nNorm (fun V v => ws_norm) rfl fun V v => handed_rp) e.loc e.loc rfl rfl fun s₂ f₂ => ?_)
  refine wpAny_execs_cons (st_return (a := .int (lrun d)) (Ev.cast (ev_max T e.b f₂.cxs r.hd (ev_sub (ev_lenT T e.b f₂.cxs (lv f₂ (up upd_eq)) (by rw [List.length_map]; omega) e.gl rfl) ev_int) (lv f₂ upd_eq) e.gl rfl rfl) (by rw [List.length_map]; rfl)) fun v s₃ x₃ rv => f₂.ret q x₃ rv)

theorem fn_equ (T : Kt K) (W : Kw K) (d d' : Wd) : Fn prog w K 1 88 [.ws d, .ws d'] (.bool (decide (d.cnt = d'.cnt ∧ d.tr = d'.tr))) := by
  refine fn2 (st := equS) (p1 := Str.ofString "self") (p2 := Str.ofString "other") T.b T.fEqu (fun fd v u h1 h2 h3 => params2 h1 h2 h3 fun _ _ _ _ _ _ _ _ _ _ _ _ => rfl) (by decide +kernel) (by decide +kernel) (by decide +kernel) (by decide +kernel) rfl rfl rfl ?_
  intro env s s₁ X A mk R e r f q
  refine wpAny_execs_cons (st_return (X := [env.locals] ++ X) (ev_cmp (ev_attr W f.cxs (lv f (up upd_eq)) W.nNorm (fun V v => ws_norm) rfl fun V v => handed_rp) (ev_attr W f.cxs (lv f upd_eq) W.nNorm (fun V v => ws_norm) rfl fun V v => handed_rp) (cmp_eqN (by have := r.un; omega)) rfl) fun v s₃ x₃ rv => f.ret q x₃ rv)

theorem fn_ilev (T : Kt K) (W : Kw K) (d : Wd) (ts : Int) (h0 : 0 < ts) (h1 : ts < 1000) (hz : d.cnt.length < 1000) : Fn prog w K 1 81 [.ws d, .int ts] (.int (ilev d ts)) := by
  refine fn2 (st := ilevS) (p1 := Str.ofString "self") (p2 := Str.ofString "tabsize") T.b T.fIlev (fun fd v u h1 h2 h3 => params2 h1 h2 h3 fun _ _ _ _ _ _ _ _ _ _ _ _ => rfl) (by decide +kernel) (by decide +kernel) (by decide +kernel) (by decide +kernel) rfl rfl rfl ?_
  intro env s s₁ X A mk R e r f q
  refine wpAny_execs_cons (st_unpack2 f r.hd (ev_attr W f.cxs (lv f (up upd_eq)) W.nNorm (fun V v => ws_norm) rfl fun V v => handed_rp) e.loc e.loc rfl rfl fun s₂ f₂ => ?_)
  refine wpAny_execs_cons (st_assign f₂ ev_int e.loc rfl fun s₃ f₃ => ?_)
  refine wpAny_execs_cons (st_for f₃ (iter_range T e.b f₃.cxs r.hd (lv f₃ (up (up (up upd_eq)))) (ev_lenT T e.b f₃.cxs (lv f₃ (up (up upd_eq))) (by rw [List.length_map]; omega) e.gl rfl) (by omega) (by rw [List.length_map]; omega) e.gl rfl rfl) e.loc
    (fun i lm om => lm (Str.ofString "self") = some (.ws d) ∧ lm (Str.ofString "tabsize") = some (.int ts) ∧ lm (Str.ofString "count") = some (.tup (d.cnt.map AV.int)) ∧ lm (Str.ofString "trailing") = some (.int d.tr) ∧
      lm (Str.ofString "il") = some (.int ((List.range i).map fun (i : Nat) => (ts + (i : Int)).fdiv ts * d.cnt.getD (ts + (i : Int)).toNat 0).sum)) (fun _ _ => False)
    ⟨up (up (up (up upd_eq))), up (up (up upd_eq)), up (up upd_eq), up upd_eq, upd_eq⟩ ?_ ?_ (fun _ => rfl))
  · rintro i Y' lm' om' s₄ E' hi ⟨g1, g2, g3, g4, g5⟩ f₄
    rw [List.length_map] at hi
    have hlt : (ts + (i : Int)).toNat < d.cnt.length := by omega
    refine wpAny_execs_cons (st_assign f₄ (ev_add (lv f₄ (up g5)) (ev_mul (ev_div (lv f₄ upd_eq) (lv f₄ (up g2)) (by omega) (by omega)) (ev_itemT (a := .int (d.cnt.getD (ts + (i : Int)).toNat 0)) (lv f₄ (up g3)) (lv f₄ upd_eq) (by omega) ?_ (by omega) (fun _ _ => rfl)) ?_)) e.loc rfl fun s₅ f₅ => ?_)
    · rw [List.getElem?_map, List.getElem?_eq_getElem hlt, List.getD_eq_getElem?_getD, List.getElem?_eq_getElem hlt]; rfl
    · have b1 : 0 ≤ (ts + (i : Int)).fdiv ts := Int.fdiv_nonneg (by omega) (by omega)
      have b2 : (ts + (i : Int)).fdiv ts ≤ ts + i := by
        rw [Int.fdiv_eq_ediv_of_nonneg _ (by omega)]
        exact Int.ediv_le_self _ (by omega)
      exact IntMulOk.of_left (intBits_le_64 (by omega) (by omega))
    · refine wpAny_execs_nil ⟨_, _, _, f₅, up (up g1), up (up g2), up (up g3), up (up g4), upd_eq.trans ?_⟩
      rw [List.range_succ, List.map_append, List.sum_append]; simp
  · rintro Y' lm' om' s₄ hj f₄
    obtain ⟨g1, g2, g3, g4, g5⟩ := hj.resolve_right id
    refine wpAny_execs_cons (st_return (a := .int (ilev d ts)) (Ev.cast (ev_add (lv f₄ g4) (ev_mul (lv f₄ g2) (ev_add (lv f₄ g5) (ev_attr W f₄.cxs (lv f₄ g1) W.nNt (fun V v => ws_nt) rfl fun V v => handed_rp)) (IntMulOk.of_left (intBits_le_64 (by omega) (by omega))))) ?_) fun v s₃ x₃ rv => f₄.ret q x₃ rv)
    rw [List.length_map]; rfl
end
end Mine
end

section
set_option maxRecDepth 100000
namespace Mine
open PySem PySem.W PySem.Calls PyProof.Rows

section
variable {prog : Program} {w : World} {A : Around} {env : Env} {Y X X₀ : List Addr} {s s' s₀ : Shared} {K : Frag} {lm : LM} {om : OM} {mk : Mk}
theorem st_ret {e : Expr} {pos : Pos} {a b : AV} {Q : Flow → Shared → Prop} {E : Value → Shared → Prop} (f : Fm K s₀ mk env Y X₀ s lm om) (h : Ev prog w A env (Y ++ X₀) s e a) (q : ∀ v s₂, Ext s₀ s₂ → Rp (Vw s₂.heap X₀) v b → Q (.ret v) s₂) (hab : a = b) :
    wpAny (model prog w) A (exec (.Return (some e) pos) env) Q E s := by
  subst hab
  exact st_return h fun v s' x r => f.ret (R := fun v s => Q (.ret v) s) q x r
theorem ts_val {e : Expr} {b : Bool} (h : Ev prog w A env X s e (.bool b)) (he : isTrue e env (eval e env) = (do let v ← eval e env; standAt e.pos; holding [v] (truthy v))) : Ts prog w A env s e b := by
  intro s₁ Q E x q
  refine wpAny_isTrue_value (h s₁ _ _ x fun v s₂ x₂ r => ?_) he
  cases r
  exact wpAny_truthy_bool (q s₂ x₂)
end

def wits (d d' : Wd) : Int := max (lrun d) (lrun d') + 1
def lessB (d d' : Wd) : Bool :=
  if d.n ≥ d'.n then false
  else if d.cnt.length ≤ 1 ∧ d'.cnt.length ≤ 1 then decide (d.nt ≤ d'.nt)
  else (List.range (wits d d' - 1).toNat).all fun (i : Nat) => decide (ilev d (2 + i) < ilev d' (2 + i))
def witL (d d' : Wd) : List Int := ((List.range (wits d d').toNat).map fun (i : Nat) => 1 + (i : Int)).filter fun t => decide (ilev d t ≥ ilev d' t)
def witA (d d' : Wd) : List AV := (witL d d').map fun t => .tup [.int t, .int (ilev d t), .int (ilev d' t)]
structure Wok (d : Wd) : Prop where
  len : d.cnt.length < 300
  tr0 : 0 ≤ d.tr
  tr1 : d.tr < 300
theorem Wok.lrun {d : Wd} (h : Wok d) : 0 ≤ lrun d ∧ lrun d < 300 := by have h1 := h.len; have h2 := h.tr0; have h3 := h.tr1; unfold Mine.lrun; omega

section
variable {prog : Program} {w : World} {K : Frag}
theorem fn_less (T : Kt K) (W : Kw K) (d d' : Wd) (k : Wok d) (k' : Wok d') : Fn prog w K 2 102 [.ws d, .ws d'] (.bool (lessB d d')) := by
  refine fn2 (st := lessS) (p1 := Str.ofString "self") (p2 := Str.ofString "other") T.b T.fLess (fun fd v u h1 h2 h3 => params2 h1 h2 h3 fun _ _ _ _ _ _ _ _ _ _ _ _ => rfl) (by decide +kernel) (by decide +kernel) (by decide +kernel) (by decide +kernel) rfl rfl rfl ?_
  intro env s s₁ X A mk R e r f q
  have lr := k.lrun
  have lr' := k'.lrun
  have kl := k.len
  have kl' := k'.len
  refine wpAny_execs_cons (st_if (ts_cmp (ev_attr W f.cxs (lv f (up upd_eq)) W.nN (fun V v => ws_n) rfl fun V v => handed_rp) (ev_attr W f.cxs (lv f upd_eq) W.nN (fun V v => ws_n) rfl fun V v => handed_rp) cmp_ge rfl) fun s₂ x₂ => ?_)
  have f₂ := f.after x₂
  by_cases h1 : d.n ≥ d'.n
  · rw [if_pos (decide_eq_true h1)]
    exact wpAny_execs_cons (st_ret f₂ ev_bool q (by unfold lessB; rw [if_pos h1]))
  rw [if_neg (by simpa using h1)]
  refine wpAny_execs_nil ?_
  refine wpAny_execs_cons (st_if (ts_and (ts_val (ev_attr W f₂.cxs (lv f₂ (up upd_eq)) W.nSimp (fun V v => ws_simp) rfl fun V v => handed_rp) rfl) fun _ => ts_val (ev_attr W f₂.cxs (lv f₂ upd_eq) W.nSimp (fun V v => ws_simp) rfl fun V v => handed_rp) rfl) fun s₃ x₃ => ?_)
  have f₃ := f₂.after x₃
  by_cases h2 : d.cnt.length ≤ 1 ∧ d'.cnt.length ≤ 1
  · rw [if_pos (by simpa using h2)]
    exact wpAny_execs_cons (st_ret f₃ (ev_cmp (ev_attr W f₃.cxs (lv f₃ (up upd_eq)) W.nNt (fun V v => ws_nt) rfl fun V v => handed_rp) (ev_attr W f₃.cxs (lv f₃ upd_eq) W.nNt (fun V v => ws_nt) rfl fun V v => handed_rp) cmp_le rfl) q (by unfold lessB; rw [if_neg h1, if_pos h2]))
  rw [if_neg (by simpa using h2)]
  refine wpAny_execs_nil ?_
  refine wpAny_execs_cons (st_assign (a := .int (wits d d')) f₃ (ev_add (ev_max T e.b f₃.cxs r.hd
    (ev_wsm0 W T.fLrun f₃.cxs (lv f₃ (up upd_eq)) W.mLrun W.tLrun (by decide +kernel) (fn_lrun T W d (by omega) A _ s₃ (r.le (by decide)) f₃.cxs) rfl)
    (ev_wsm0 W T.fLrun f₃.cxs (lv f₃ upd_eq) W.mLrun W.tLrun (by decide +kernel) (fn_lrun T W d' (by omega) A _ s₃ (r.le (by decide)) f₃.cxs) rfl) e.gl rfl rfl) ev_int) e.loc rfl fun s₄ f₄ => ?_)
  refine wpAny_execs_cons (st_for f₄ (iter_range T e.b f₄.cxs r.hd ev_int (ev_add (lv f₄ upd_eq) ev_int) (by omega) (by unfold wits; omega) e.gl rfl rfl) e.loc
    (fun i lm om => lm (Str.ofString "self") = some (.ws d) ∧ lm (Str.ofString "other") = some (.ws d') ∧ ∀ j, j < i → ilev d (2 + j) < ilev d' (2 + j)) (fun _ _ => False)
    ⟨up (up upd_eq), up upd_eq, fun j hj => absurd hj (Nat.not_lt_zero _)⟩ ?_ ?_ (fun _ => rfl))
  · rintro i Y' lm' om' s₅ E' hi ⟨g1, g2, g3⟩ f₅
    have hi' : (i : Int) < wits d d' - 1 := by omega
    have hb : 2 + (i : Int) < 1000 := by unfold wits at hi'; omega
    refine wpAny_execs_cons (st_if (ts_cmp
      (ev_wsm W T.fIlev f₅.cxs (lv f₅ (up g1)) W.mIlev W.tIlev (by decide +kernel) (evl_one (lv f₅ upd_eq) rfl) (fn_ilev T W d (2 + i) (by omega) hb (by omega) A _ s₅ (r.le (by decide)) f₅.cxs) rfl rfl rfl)
      (ev_wsm W T.fIlev f₅.cxs (lv f₅ (up g2)) W.mIlev W.tIlev (by decide +kernel) (evl_one (lv f₅ upd_eq) rfl) (fn_ilev T W d' (2 + i) (by omega) hb (by omega) A _ s₅ (r.le (by decide)) f₅.cxs) rfl rfl rfl) cmp_ge rfl) fun s₆ x₆ => ?_)
    have f₆ := f₅.after x₆
    by_cases h3 : ilev d (2 + i) ≥ ilev d' (2 + i)
    · rw [if_pos (decide_eq_true h3)]
      have e1 : lessB d d' = false := by
        unfold lessB; rw [if_neg h1, if_neg h2, List.all_eq_false]
        exact ⟨i, List.mem_range.mpr (by omega), by simpa using h3⟩
      exact wpAny_execs_cons (st_ret f₆ ev_bool q (by rw [e1]))
    · rw [if_neg (by simpa using h3)]
      refine wpAny_execs_nil (wpAny_execs_nil ⟨_, _, _, f₆, up g1, up g2, fun j hj => ?_⟩)
      rcases Nat.lt_succ_iff_lt_or_eq.mp hj with h | h
      · exact g3 j h
      · subst h; omega
  · rintro Y' lm' om' s₅ hj f₅
    obtain ⟨g1, g2, g3⟩ := hj.resolve_right id
    have e1 : lessB d d' = true := by
      unfold lessB; rw [if_neg h1, if_neg h2, List.all_eq_true]
      intro i hi
      have := List.mem_range.mp hi
      exact decide_eq_true (g3 i (by omega))
    exact wpAny_execs_cons (st_ret f₅ ev_bool q (by rw [e1]))

theorem fn_wit (T : Kt K) (W : Kw K) (d d' : Wd) (k : Wok d) (k' : Wok d') : Fn prog w K 2 109 [.ws d, .ws d'] (.list (witA d d')) := by
  refine fn2 (st := witS) (p1 := Str.ofString "self") (p2 := Str.ofString "other") T.b T.fWit (fun fd v u h1 h2 h3 => params2 h1 h2 h3 fun _ _ _ _ _ _ _ _ _ _ _ _ => rfl) (by decide +kernel) (by decide +kernel) (by decide +kernel) (by decide +kernel) rfl rfl rfl ?_
  intro env s s₁ X A mk R e r f q
  have lr := k.lrun
  have lr' := k'.lrun
  have kl := k.len
  have kl' := k'.len
  refine wpAny_execs_cons (st_assign (a := .int (wits d d')) f (ev_add (ev_max T e.b f.cxs r.hd
    (ev_wsm0 W T.fLrun f.cxs (lv f (up upd_eq)) W.mLrun W.tLrun (by decide +kernel) (fn_lrun T W d (by omega) A _ s₁ (r.le (by decide)) f.cxs) rfl)
    (ev_wsm0 W T.fLrun f.cxs (lv f upd_eq) W.mLrun W.tLrun (by decide +kernel) (fn_lrun T W d' (by omega) A _ s₁ (r.le (by decide)) f.cxs) rfl) e.gl rfl rfl) ev_int) e.loc rfl fun s₂ f₂ => ?_)
  refine wpAny_execs_cons (st_assign_own f₂ (evf_list evl_nil (by decide)) e.loc rfl fun a₃ s₃ f₃ => ?_)
  refine wpAny_execs_cons (st_for f₃ (iter_range T e.b f₃.cxs r.hd ev_int (ev_add (lv f₃ (dl upd_eq)) ev_int) (by omega) (by unfold wits; omega) e.gl rfl rfl) e.loc
    (fun i lm om => lm (Str.ofString "self") = some (.ws d) ∧ lm (Str.ofString "other") = some (.ws d') ∧
      om (Str.ofString "a") = some ((((List.range i).map fun (i : Nat) => 1 + (i : Int)).filter fun t => decide (ilev d t ≥ ilev d' t)).map fun t => .tup [.int t, .int (ilev d t), .int (ilev d' t)])) (fun _ _ => False)
    ⟨dl (up (up upd_eq)), dl (up upd_eq), upd_eq⟩ ?_ ?_ (fun _ => rfl))
  · rintro i Y' lm' om' s₅ E' hi ⟨g1, g2, g3⟩ f₅
    have hi' : (i : Int) < wits d d' := by omega
    have hb : 1 + (i : Int) < 1000 := by unfold wits at hi'; omega
    have il : ∀ s₆, Fm K s ⟨s₅, Y'⟩ env Y' X s₆ (upd lm' (Str.ofString "ts") (.int (1 + i))) (del om' (Str.ofString "ts")) → CallOk prog w A (Y' ++ X) (.ref 81) [.ws d, .int (1 + i)] (fun v s₂ => Rp (Vw s₂.heap (Y' ++ X)) v (.int (ilev d (1 + i)))) s₆.heap := fun s₆ f₆ => fn_ilev T W d (1 + i) (by omega) hb (by omega) A _ s₆ (r.le (by decide)) f₆.cxs
    have il' : ∀ s₆, Fm K s ⟨s₅, Y'⟩ env Y' X s₆ (upd lm' (Str.ofString "ts") (.int (1 + i))) (del om' (Str.ofString "ts")) → CallOk prog w A (Y' ++ X) (.ref 81) [.ws d', .int (1 + i)] (fun v s₂ => Rp (Vw s₂.heap (Y' ++ X)) v (.int (ilev d' (1 + i)))) s₆.heap := fun s₆ f₆ => fn_ilev T W d' (1 + i) (by omega) hb (by omega) A _ s₆ (r.le (by decide)) f₆.cxs
    have stp : ((List.range (i + 1)).map fun (i : Nat) => 1 + (i : Int)).filter (fun t => decide (ilev d t ≥ ilev d' t)) = ((List.range i).map fun (i : Nat) => 1 + (i : Int)).filter (fun t => decide (ilev d t ≥ ilev d' t)) ++ (if ilev d (1 + i) ≥ ilev d' (1 + i) then [1 + (i : Int)] else []) := by
      rw [List.range_succ, List.map_append, List.filter_append]
      congr 1
      by_cases h : ilev d (1 + i) ≥ ilev d' (1 + i) <;> simp [h]
    refine wpAny_execs_cons (st_if (ts_cmp
      (ev_wsm W T.fIlev f₅.cxs (lv f₅ (up g1)) W.mIlev W.tIlev (by decide +kernel) (evl_one (lv f₅ upd_eq) rfl) (il s₅ f₅) rfl rfl rfl)
      (ev_wsm W T.fIlev f₅.cxs (lv f₅ (up g2)) W.mIlev W.tIlev (by decide +kernel) (evl_one (lv f₅ upd_eq) rfl) (il' s₅ f₅) rfl rfl rfl) cmp_ge rfl) fun s₆ x₆ => ?_)
    have f₆ := f₅.after x₆
    by_cases h3 : ilev d (1 + i) ≥ ilev d' (1 + i)
    · rw [if_pos (decide_eq_true h3)]
      refine wpAny_execs_cons (st_append f₆ (dl g3) (ev_tuple f₆.cxs (evl_cons (lv f₆ upd_eq) (evl_two
        (ev_wsm W T.fIlev f₆.cxs (lv f₆ (up g1)) W.mIlev W.tIlev (by decide +kernel) (evl_one (lv f₆ upd_eq) rfl) (il s₆ f₆) rfl rfl rfl)
        (ev_wsm W T.fIlev f₆.cxs (lv f₆ (up g2)) W.mIlev W.tIlev (by decide +kernel) (evl_one (lv f₆ upd_eq) rfl) (il' s₆ f₆) rfl rfl rfl) rfl rfl) rfl) (by show 3 ≤ sizeLine; decide)) ?_ (by decide +kernel) rfl rfl rfl fun s₇ f₇ => ?_)
      · rw [List.length_map]
        have := List.length_filter_le (fun t => decide (ilev d t ≥ ilev d' t)) ((List.range i).map fun (i : Nat) => 1 + (i : Int))
        rw [List.length_map, List.length_range] at this
        omega
      · refine wpAny_execs_nil (wpAny_execs_nil ⟨_, _, _, f₇, up g1, up g2, ?_⟩)
        rw [stp, if_pos h3, List.map_append]
        exact upd_eq
    · rw [if_neg (by simpa using h3)]
      refine wpAny_execs_nil (wpAny_execs_nil ⟨_, _, _, f₆, up g1, up g2, ?_⟩)
      rw [stp, if_neg h3, List.append_nil]
      exact dl g3
  · rintro Y' lm' om' s₅ hj f₅
    obtain ⟨g1, g2, g3⟩ := hj.resolve_right id
    have e1 : (wits d d' + 1 - 1).toNat = (wits d d').toNat := by congr 1; omega
    rw [e1] at g3
    exact wpAny_execs_cons (st_return_own f₅ g3 (by decide +kernel) q)
end
end Mine
end

section
set_option maxRecDepth 100000
namespace Mine
open PySem PySem.W PySem.Calls PyProof.Rows

mutual
def noWs : AV → Bool
  | .ws _ => false
  | .list xs => noWsL xs
  | .tup xs => noWsL xs
  | _ => true
def noWsL : List AV → Bool
  | [] => true
  | x :: xs => noWs x && noWsL xs
end
theorem noWs_ints : ∀ ns : List Int, noWsL (ns.map AV.int) = true
  | [] => by simp only [List.map_nil, noWsL]
  | n :: ns => by simp only [List.map_cons, noWsL, noWs, noWs_ints ns, Bool.and_self]
def NoSeq (V : View) (I : Addr) : Prop := ∀ o, V I = some o → ∀ a n, o.data ≠ .seq a n
mutual
theorem Rp.skipD {V : View} {I : Addr} (hI : NoSeq V I) : ∀ {v : Value} {x : AV}, Rp V v x → noWs x = true → Rp (Vout V I) v x
  | _, _, .none, _ => .none
  | _, _, .bool b, _ => .bool b
  | _, _, .int i t, _ => .int i t
  | _, _, .str x t, _ => .str x t
  | _, _, .list h r, p => .list (Vout.mk h fun e => by subst e; exact hI _ h _ _ rfl) (RpL.skipD hI r (by unfold noWs at p; exact p))
  | _, _, .tup h r, p => .tup (Vout.mk h fun e => by subst e; exact hI _ h _ _ rfl) (RpL.skipD hI r (by unfold noWs at p; exact p))
  | _, _, .ws .., p => by unfold noWs at p; cases p
  | _, _, .obj a, _ => .obj a
theorem RpL.skipD {V : View} {I : Addr} (hI : NoSeq V I) : ∀ {vs : List Value} {xs : List AV}, RpL V vs xs → noWsL xs = true → RpL (Vout V I) vs xs
  | _, _, .nil, _ => .nil
  | _, _, .cons h r, p => by
    unfold noWsL at p
    obtain ⟨p1, p2⟩ := Bool.and_eq_true_iff.mp p
    exact .cons (Rp.skipD hI h p1) (RpL.skipD hI r p2)
end
def NoW (lm : LM) : Prop := ∀ x a, lm x = some a → noWs a = true
def NoO (om : OM) : Prop := ∀ x xs, om x = some xs → noWsL xs = true
theorem NoW.nil : NoW noM := fun _ _ h => by cases h
theorem NoW.upd {lm : LM} (h : NoW lm) (x : Str) {a : AV} (ha : noWs a = true) : NoW (upd lm x a) := fun y b hb => by
  unfold Mine.upd at hb
  split at hb
  · cases hb; exact ha
  · exact h y b hb
theorem NoO.nil : NoO noM := fun _ _ h => by cases h
theorem NoO.upd {om : OM} (h : NoO om) (x : Str) {a : List AV} (ha : noWsL a = true) : NoO (upd om x a) := fun y b hb => by
  unfold Mine.upd at hb
  split at hb
  · cases hb; exact ha
  · exact h y b hb
theorem NoO.del {om : OM} (h : NoO om) (x : Str) : NoO (del om x) := fun y b hb => by
  unfold Mine.del at hb
  split at hb
  · cases hb
  · exact h y b hb

section
variable {prog : Program} {w : World} {A : Around} {env : Env} {Y X X₀ : List Addr} {s s' s₀ : Shared} {K : Frag} {lm : LM} {om : OM} {mk : Mk}

theorem Fm.weakO {om' : OM} (f : Fm K s₀ mk env Y X₀ s lm om) (h : ∀ x a, om' x = some a → om x = some a) : Fm K s₀ mk env Y X₀ s lm om' :=
  ⟨f.cx, f.ext, f.ys, f.since, f.yz, f.sto, f.lo, fun x xs e => f.ow x xs (h x xs e), fun x y a h1 h2 h3 h4 => by
    obtain ⟨xs, ex⟩ := Option.ne_none_iff_exists'.mp h3
    obtain ⟨ys, ey⟩ := Option.ne_none_iff_exists'.mp h4
    exact f.apart x y a h1 h2 (by rw [h x xs ex]; simp) (by rw [h y ys ey]; simp)⟩

/-- an object that no datum of the frame reads is changed -/
theorem Fm.dict {I : Addr} {o : Obj} (f : Fm K s₀ mk env Y X₀ s lm om) (hI : s.heap.get? I = some o) (hd : ∀ a n, o.data ≠ .seq a n) (h0 : s₀.heap.get? I = none) (hY : I ∉ Y) (hl : NoW lm) (hom : NoO om) (x : ExtB [I] s s') :
    Fm K s₀ ⟨s', Y⟩ env Y X₀ s' lm om ∧ ∀ v a, noWs a = true → Rp (Vw s.heap (Y ++ X₀)) v a → Rp (Vw s'.heap (Y ++ X₀)) v a := by
  have hF : NoSeq (Vw s.heap (Y ++ X₀)) I := fun o' e => by have := Vw.get e; rw [hI] at this; cases this; exact hd
  have kk : ∀ b o, b ≠ I → s.heap.get? b = some o → s'.heap.get? b = some o := fun b o hb e => x.keep b o (by simpa using hb) e
  have nl : env.locals ≠ I := fun e => hY (e ▸ f.sto.ly)
  have nc : ∀ y c, env.cells.lookup y = some c → c ≠ I := fun y c hc e => hY (e ▸ (f.sto.cell y c hc).1)
  have rk : ∀ y u, Rd env s.heap y u → Rd env s'.heap y u := fun y u r => r.keep (fun o e => kk _ o nl e) fun c hc o e => kk c o (nc y c hc) e
  refine ⟨⟨f.cx, ⟨x.gens.trans f.ext.gens, x.drawn.trans f.ext.drawn, x.os.trans f.ext.os, fun b o e => kk b o (fun h => by subst h; rw [h0] at e; cases e) (f.ext.keep b o e)⟩, fun a ha => ⟨(f.ys a ha).1, let ⟨o, e⟩ := (f.ys a ha).2; ⟨o, kk a o (fun h => hY (h ▸ ha)) e⟩⟩,
    .refl _, fun a ha => .inl ha, ?_, fun y a e => ?_, fun y xs e => ?_, fun y z a h1 h2 h3 h4 => ?_⟩, fun v a ha r => (r.skipD hF ha).mono (vout_sub x)⟩
  · refine f.sto.keep fun b o hb e => kk b o ?_ e
    rcases hb with rfl | ⟨y, hb⟩
    · exact nl
    · exact nc y b hb
  · obtain ⟨v, h1, h2⟩ := f.lo y a e
    exact ⟨v, rk y v h1, (h2.skipD hF (hl y a e)).mono (vout_sub x)⟩
  · obtain ⟨a, vs, n, h1, h2, h3, h4, h5, h9⟩ := f.ow y xs e
    exact ⟨a, vs, n, rk _ _ h1, h2, h3, h4, kk a _ (fun h => hY (h ▸ h2)) h5, (h9.skipD hF (hom y xs e)).mono (vout_sub x)⟩
  · obtain ⟨ys, ey⟩ := Option.ne_none_iff_exists'.mp h3
    obtain ⟨zs, ez⟩ := Option.ne_none_iff_exists'.mp h4
    obtain ⟨b, _, _, g1, _⟩ := f.ow y ys ey
    obtain ⟨c, _, _, g2, _⟩ := f.ow z zs ez
    have e1 := (rk _ _ g1).inj h1
    have e2 := (rk _ _ g2).inj h2
    cases e1; cases e2
    exact f.apart y z a g1 g2 h3 h4

/-- the object under way -/
structure Slf (s₀ : Shared) (mk : Mk) (x dx : Addr) (od : Obj) : Prop where
  hx : mk.sb.heap.get? x = some (instObj 112 dx)
  nx : x ∉ mk.z
  hd : mk.sb.heap.get? dx = some od
  nd : dx ∉ mk.z
  x0 : s₀.heap.get? x = none
  d0 : s₀.heap.get? dx = none
theorem Fm.selfAt {x dx : Addr} {od : Obj} (f : Fm K s₀ mk env Y X₀ s lm om) (S : Slf s₀ mk x dx od) : s.heap.get? x = some (instObj 112 dx) ∧ s.heap.get? dx = some od ∧ dx ∉ Y ∧ x ∉ Y :=
  by
  refine ⟨f.since.keep _ _ S.nx S.hx, f.since.keep _ _ S.nd S.hd, fun h => ?_, fun h => ?_⟩
  · rcases f.yz dx h with h | h
    · exact S.nd h
    · rw [S.hd] at h; cases h
  · rcases f.yz x h with h | h
    · exact S.nx h
    · rw [S.hx] at h; cases h

/-- a name that getL tells of: no key stands in its way -/
theorem noRefKey {name : Str} {es : List DictEntry} (hl : (getL name es).isSome = true) : aRefKeyMayBeTheName name es.toArray = false := by
  rw [aRefKeyMayBeTheName_at]
  cases hk : es.any (·.key.isStr name) with
  | true => simp [hk]
  | false =>
    have hf : es.find? (·.key.isStr name) = none := List.find?_eq_none.mpr (List.any_eq_false.mp hk)
    cases hr : es.any (·.refKey) with
    | true => unfold getL at hl; rw [hf] at hl; simp [hr] at hl
    | false => simp [hr]
theorem putL_len (name : Str) (hsh : Int) (key v : Value) (es : List DictEntry) : (putL name hsh key v es).length ≤ es.length + 1 := by
  induction es with
  | nil => exact Nat.le_refl 1
  | cons e r ih => unfold putL; split <;> simp only [List.length_cons] <;> omega
/-- the store itself -/
theorem nsSet_at {dx : Addr} {name : Str} {v : Value} {es : List DictEntry} {n : Nat} {Q : Unit → Shared → Prop} {E : Value → Shared → Prop} (D : s.heap.get? dx = some (dictOf es n)) (hl : (getL name es).isSome = true)
    (q : Q () { s with heap := s.heap.update dx (Obj.putName name (PyData.keyHash w.params name) (.str name s.toks) v), toks := s.toks + 1 }) : wpAny (model prog w) A (nsSet dx name v) Q E s := by
  have hn := noRefKey hl
  unfold nsSet
  wp_walk using wpAny_askSetting, wpAny_mkText, wpAny_loadPart D
  exact q
/-- the object's own dict -/
theorem ownDict_at {x dx : Addr} {Q : Option Addr → Shared → Prop} {E : Value → Shared → Prop} (W : Kw K) (X : K.In s.heap) (hx : s.heap.get? x = some (instObj 112 dx)) (q : Q (some dx) s) : wpAny (model prog w) A (Builtin.ObjectAttr.ownDictForStores (.ref x)) Q E s := by
  obtain ⟨cd, hc, hd⟩ := any_some W.hasD
  show wpAny _ _ (instanceDict x true) Q E s
  unfold instanceDict
  wp_walk using wpAny_loadPart hx, (looks_clsIn X hc).here
  exact q
/-- the dict's store, with the look behind -/
theorem storeInDict_at {dx : Addr} {name : Str} {tk : Tok} {v : Value} {es : List DictEntry} {n : Nat} {Q : PySem.Fin → Shared → Prop} {E : Value → Shared → Prop} (D : s.heap.get? dx = some (dictOf es n)) (hl : (getL name es).isSome = true) (hz : es.length ≤ 900)
    (q : ∀ h', (∀ b, b ≠ dx → h'.get? b = s.heap.get? b) → h'.get? dx = some (dictOf (putL name (PyData.keyHash w.params name) (.str name s.toks) v es) (putN name es n)) → Q (.done (.ret .none)) { s with heap := h', toks := s.toks + 1 }) :
    wpAny (model prog w) A (Builtin.ObjectAttr.storeInDict dx (.str name tk) name v) Q E s := by
  have D' := Heap.get?_update_self (Obj.putName name (PyData.keyHash w.params name) (.str name s.toks) v) D (by rw [putName_dict]; rfl)
  rw [putName_dict] at D'
  have fits : (putL name (PyData.keyHash w.params name) (.str name s.toks) v es).toArray.size ≤ sizeLine + 1 := by
    have := putL_len name (PyData.keyHash w.params name) (.str name s.toks) v es
    rw [List.size_toArray, sizeLine_eq]; omega
  unfold Builtin.ObjectAttr.storeInDict
  wp_walk using nsSet_at D hl, wpAny_lookBehind D' (pastItsLine_dict fits)
  exact q _ (fun b hb => Heap.get?_update_ne _ _ _ _ hb) D'
theorem osa_own {x dx : Addr} {name : Str} {tk : Tok} {v : Value} {es : List DictEntry} {n : Nat} {R : Result → Shared → Prop} (W : Kw K) (X : K.In s.heap) (hx : s.heap.get? x = some (instObj 112 dx)) (D : s.heap.get? dx = some (dictOf es n)) (ht : takerIn K 112 name = some none)
    (hl : (getL name es).isSome = true) (hz : es.length ≤ 900)
    (h : ∀ h', (∀ b, b ≠ dx → h'.get? b = s.heap.get? b) → h'.get? dx = some (dictOf (putL name (PyData.keyHash w.params name) (.str name s.toks) v es) (putN name es n)) → R (.ok (.ret .none)) { s with heap := h', toks := s.toks + 1 }) :
    codeAny (model prog w) A (.call (.builtin "object.__setattr__") ⟨[.ref x, .str name tk, v], []⟩) R s := by
  refine osa_open (od := some (dictOf es n)) X ⟨hx, rfl, rfl, D⟩ W.over ht fun b => ?_
  show wpAny _ _ (Builtin.ObjectAttr.storeInOwnDict (.ref x) (.ref 112) (.str name tk) name v b) _ _ _
  unfold Builtin.ObjectAttr.storeInOwnDict
  wp_walk using ownDict_at W X hx, storeInDict_at D hl hz
  exact h

theorem st_attr {name x' : Str} {e : Expr} {xp apos pos : Pos} {a : AV} {x dx : Addr} {es : List DictEntry} {n : Nat} {Q : Flow → Shared → Prop} {E : Value → Shared → Prop} (W : Kw K) (f : Fm K s₀ mk env Y X₀ s lm om) (S : Slf s₀ mk x dx (dictOf es n)) (h : Ev prog w A env (Y ++ X₀) s e a) (hself : lm x' = some (.obj x))
    (hl : NoW lm) (hom : NoO om) (ha : noWs a = true) (ht : takerIn K 112 name = some none) (hg : (getL name es).isSome = true) (hz : es.length ≤ 900) (hdb : (x' == ("__debug__" : Str)) = false)
    (hs : swapsWith e (some (.Attribute (.Name x' xp) name apos)) pos.line env = pure false)
    (q : ∀ s' mk' v t, Fm K s₀ mk' env Y X₀ s' lm om → Slf s₀ mk' x dx (dictOf (putL name (PyData.keyHash w.params name) (.str name t) v es) (putN name es n)) → Rp (Vw s'.heap (Y ++ X₀)) v a →
      (∀ u b, noWs b = true → Rp (Vw s.heap (Y ++ X₀)) u b → Rp (Vw s'.heap (Y ++ X₀)) u b) → Q .next s') : wpAny (model prog w) A (exec (.Assign [.Attribute (.Name x' xp) name apos] e pos) env) Q E s := by
  refine plainObj_wpAny_Assign_Attribute (h s _ _ (.refl _) fun v s₁ x₁ r => ?_) hs
  have f₁ := f.after x₁
  refine (lv f₁ hself hdb).of fun u s₂ x₂ ru => ?_
  have f₂ := f₁.after x₂
  cases ru
  obtain ⟨k1, k2, k3, k4⟩ := f₂.selfAt S
  refine set_plain (od := some (dictOf es n)) f₂.cxs.top ⟨k1, rfl, rfl, k2⟩ W.setA (osa_own (s := { s₂ with toks := s₂.toks + 1 }) W f₂.cxs.top k1 k2 ht hg hz fun h' hb hd => ?_)
  have x₃ : ExtB [dx] s₂ { s₂ with heap := h', toks := s₂.toks + 1 + 1 } := ⟨rfl, rfl, rfl, fun b o hb' e => by rw [← e]; exact hb b (by simpa using hb')⟩
  have hxd : x ≠ dx := fun e => by subst e; rw [k1] at k2; cases k2
  obtain ⟨f₃, keep⟩ := f₂.dict k2 (fun _ _ h => by cases h) S.d0 k3 hl hom x₃
  exact q _ _ v _ f₃ ⟨x₃.keep _ _ (by simpa using hxd) k1, k4, hd, k3, S.x0, S.d0⟩ (keep v a ha (r.mono (Vw.ext x₂))) fun u b hb ru => keep u b hb (ru.mono ((Vw.ext x₁).trans (Vw.ext x₂)))

/-- a field of the object under way -/
theorem ev_attrO {o : Expr} {name : Str} {pos : Pos} {x dx : Addr} {od : Obj} {u : Value} {a : AV} (W : Kw K) (f : Fm K s₀ mk env Y X₀ s lm om) (S : Slf s₀ mk x dx od) (h : Ev prog w A env X s o (.obj x)) (hn : findIn K (.ref 112) name = some none)
    (hv : lookIn name od = some (some u)) (hu : Rp (Vw s.heap X) u a)
    (he : eval (.Attribute o name pos) env = (do
      let o' ← eval o env
      standAt pos.atName
      let r ← holding [o'] (getAttr o' name true)
      letTemporaryGo o o' r
      pure r)) : Ev prog w A env X s (.Attribute o name pos) a := by
  intro s₁ Q E x₁ q
  refine Attribute_any_ (h s₁ _ _ x₁ fun v s₂ x₂ r => ?_) he
  cases r
  have y := x₁.trans x₂
  obtain ⟨k1, k2, k3, k4⟩ := f.selfAt S
  have c₂ := f.cxs.mono y.keep
  exact get_value c₂.top ⟨y.keep _ _ k1, rfl, rfl, y.keep _ _ k2⟩ W.ga (findObj_own W hn hv) (handed_rp hu) (q u _ (x₂.trans (.tok s₂ _)) (hu.mono ((Vw.ext y).trans (Vw.ext (.tok s₂ _)))))
end
end Mine
end

section
set_option maxRecDepth 100000
namespace Mine
open PySem PySem.W PySem.Calls PyProof.Rows

theorem RpL.replicate {V : View} {v : Value} {a : AV} (r : Rp V v a) : ∀ k : Nat, RpL V (List.replicate k v) (List.replicate k a)
  | 0 => .nil
  | k + 1 => .cons r (RpL.replicate r k)
theorem RpL.set {V : View} : ∀ {vs : List Value} {xs : List AV} (k : Nat) {v : Value} {x : AV}, RpL V vs xs → Rp V v x → RpL V (vs.set k v) (xs.set k x)
  | _, _, _, _, _, .nil, _ => .nil
  | _, _, 0, _, _, .cons _ r, h => .cons h r
  | _, _, k + 1, _, _, .cons h' r, h => .cons h' (RpL.set k r h)

section
variable {prog : Program} {w : World} {A : Around} {env : Env} {Y X X₀ : List Addr} {s s' s₀ : Shared} {K : Frag} {lm : LM} {om : OM} {mk : Mk}

theorem fresh_none {h : Heap} {s₁ : Shared} (k : Kp h s₁.heap) : h.get? s₁.heap.objs.size = none := by
  cases e : h.get? s₁.heap.objs.size with
  | none => rfl
  | some o => have := k _ _ e; rw [push_none] at this; cases this
theorem sub_push {o : Obj} : Sub (Vw s.heap X) (Vw (s.heap.push o) (s.heap.objs.size :: X)) := fun b ob e => Vw.mk (Kp.push _ _ b ob (Vw.get e)) fun hm => by
  rcases List.mem_cons.mp hm with h | h
  · subst h; have := Vw.get e; rw [push_none] at this; cases this
  · exact Vw.off e h

theorem evf_addL {l r : Expr} {pos : Pos} {xs ys : List AV} (h1 : Ev prog w A env X s l (.list xs)) (h2 : Ev prog w A env X s r (.list ys)) (hz : xs.length + ys.length < 1000000) : EvF prog w A env X s (.BinOp l .Add r pos) (xs ++ ys) :=
  ev_bin h1 h2 fun s₁ va vb y ra rb => by
    cases ra with | list ho rl =>
    cases rb with | list ho' rl' =>
    rename_i a vs n b us m
    intro s₂ Q E x q
    have e : vs.toArray ++ us.toArray = (vs ++ us).toArray := by simp
    refine concat_meets ⟨_, x.keep _ _ (Vw.get ho), rfl⟩ ⟨_, x.keep _ _ (Vw.get ho'), rfl⟩ noFill_list_add seq_list_add PySem.F.slot_list_add PySem.F.entry_list_add (PySem.F.args_list_add_2 _ _) (list_addW a b vs.toArray us.toArray n m none none #[] #[] (by rw [List.size_toArray, List.size_toArray, rl.length, rl'.length, sizeLine_eq]; omega)) ⟨x.keep _ _ (Vw.get ho), x.keep _ _ (Vw.get ho'), ?_⟩
    rw [e]
    refine q _ _ (.of (Kp.push _ _)) ⟨_, vs ++ us, 0, rfl, fresh_none (y.trans x).keep, Heap.get?_push_size _ rfl, ?_⟩
    exact ((rl.append rl').mono (Vw.ext x)).mono sub_push
/-- one item, so many times -/
theorem evf_rep {l r : Expr} {pos : Pos} {a : AV} {k : Int} (h1 : Ev prog w A env X s l (.list [a])) (h2 : Ev prog w A env X s r (.int k)) (hz : k < 1000000) (hk : -1000000 < k) : EvF prog w A env X s (.BinOp l .Mult r pos) (List.replicate k.toNat a) :=
  ev_bin h1 h2 fun s₁ va vb y ra rb => by
    cases ra with | list ho rl =>
    cases rb with | int _ t =>
    rename_i b vs n
    obtain ⟨v, rfl, rv⟩ := rl.one
    intro s₂ Q E x q
    have hl := x.keep _ _ (Vw.get ho)
    refine wpAny_binaryOp_repeat_ref (T := "list") (U := "int") (by decide) ⟨_, hl, rfl⟩ (fun s' => typeIs_int s' k t) noFill_list_mul F.fills_int_mul F.slot_int_rmul repeat_list F.slot_int_index.lookup
      (call_meets F.slot_int_rmul (typeIs_int s₂ k t) F.entry_int_rmul (F.args_int_rmul_2 _ _) (int___rmul___int_list k t b #[v] n)
        ⟨hl, rfl, ⟨_, hl, rfl⟩, call_meets F.slot_list_mul ⟨_, hl, rfl⟩ F.entry_list_mul (F.args_list_mul_2 _ _)
          (AutoListH.list___mul___list_int_3 b #[v] n k t (by simp [Builtin.List.listFitsIndex]; omega) (by simp; omega) (by simp [Builtin.List.listTooLong, sizeLine]; omega))
          ⟨hl, ?_⟩⟩)
    have e : List.foldl (fun x1 x2 => x1 ++ x2) #[] (List.replicate (if (#[v] : Array Value).isEmpty = true then 0 else k.toNat) #[v]) = (List.replicate k.toNat v).toArray := by
      rw [if_neg (by simp), listMul_foldl]; simp
    rw [e]
    refine q _ _ (.of (Kp.push _ _)) ⟨_, List.replicate k.toNat v, 0, rfl, fresh_none (y.trans x).keep, Heap.get?_push_size _ rfl, ?_⟩
    exact (RpL.replicate (rv.mono (Vw.ext x)) _).mono sub_push

theorem setItem_lst {l : Addr} {vs : List Value} {n : Nat} {k : Int} {t : Tok} {v : Value} {Q : Unit → Shared → Prop} {E : Value → Shared → Prop} (ho : s.heap.get? l = some (lstO vs n)) (h0 : 0 ≤ k) (hfit : k < 2 ^ 63) (hn : k < vs.length)
    (hQ : ∀ h' n', h'.get? l = some (lstO (vs.set k.toNat v) n') → Heap.SameBut l s.heap h' → Q () { s with heap := h' }) : wpAny (model prog w) A (setItem (.ref l) (.int k t) v) Q E s := by
  refine ki_setAt (items := vs.toArray) (n := n) ho h0 hfit (by rw [List.size_toArray]; exact hn) ?_
  have e : Obj.mapSeq (·.setIfInBounds k.toNat v) (lstO vs n) = lstO (vs.set k.toNat v) n := by simp [Obj.mapSeq]
  have now := Heap.get?_update_self (Obj.mapSeq (·.setIfInBounds k.toNat v)) ho (by rw [e]; rfl)
  rw [e] at now
  exact hQ _ _ now (Heap.SameBut.update ..)

theorem st_setitem {x : Str} {i e : Expr} {xp spos pos : Pos} {xs : List AV} {k : Int} {a : AV} {Q : Flow → Shared → Prop} {E : Value → Shared → Prop} (f : Fm K s₀ mk env Y X₀ s lm om) (h : om x = some xs) (he : Ev prog w A env (Y ++ X₀) s e a) (hi : Ev prog w A env X s i (.int k)) (h0 : 0 ≤ k) (hk : k < xs.length) (hz : xs.length < 1000000)
    (hd : (x == ("__debug__" : Str)) = false) (hs : swapsWith e (some (.Subscript (.Name x xp) i spos)) pos.line env = pure false)
    (q : ∀ s', Fm K s₀ mk env Y X₀ s' lm (upd om x (xs.set k.toNat a)) → Q .next s') : wpAny (model prog w) A (exec (.Assign [.Subscript (.Name x xp) i spos] e pos) env) Q E s := by
  refine wpAny_Assign_Subscript (he s _ _ (.refl _) fun v s₁ x₁ rv => ?_) hs
  obtain ⟨a₀, vs₀, n₀, h1, _⟩ := f.change (ys := xs.set k.toNat a) h
  refine evp_var (h1.mono x₁.keep) f.sto.fn hd s₁ _ _ (.refl _) fun u s₂ x₂ ev => ?_
  subst ev
  refine hi s₂ _ _ (x₁.trans x₂) fun iv s₃ x₃ ri => ?_
  cases ri
  have y := (x₁.trans x₂).trans x₃
  obtain ⟨a₁, vs₁, n₁, g1, g2, g3, g4⟩ := (f.after y).change (ys := xs.set k.toNat a) h
  have := (h1.mono y.keep).inj g1; cases this
  refine setItem_lst g2 h0 (by omega) (by rw [g3.length]; exact hk) fun h' n' ho hs => ?_
  exact q _ (g4 _ _ n' ⟨rfl, rfl, rfl, fun b o hb e => hs.extBut b o (by simpa using hb) e⟩ ho (RpL.set _ g3 (rv.mono ((Vw.ext x₂).trans (Vw.ext x₃)))))

/-- tuple of a list -/
theorem ev_tupleOf (T : Kt K) (b : BEnv K env) (c : Cx K X s.heap) {e : Expr} {p pos : Pos} {xs : List AV} (h : Ev prog w A env X s e (.list xs)) (hz : xs.length < 1000000) (hx : env.kindOf (Str.ofString "tuple") = some .globalImplicit)
    (he : starEach [e] env = (false, eval e env) :: starEach [] env) : Ev prog w A env X s (.Call (.Name (Str.ofString "tuple") p) [e] [] pos) (.tup xs) := by
  refine ev_callT (T := "tuple") (evp_builtin T.b c b.fn b.glob b.bi hx (by decide +kernel) T.nTuple (by decide +kernel) (by decide +kernel)) (evl_one h he) (fun s₁ vs Q E k r q => ?_) he fun _ => rfl
  obtain ⟨v, rfl, rv⟩ := r.one
  cases rv with | list ho rl =>
  rename_i la lv ln
  refine PySem.call_tuple_list ⟨_, Vw.get ho, rfl, _, rfl⟩ (fun h' hk => ?_) (by rw [List.size_toArray, rl.length, sizeLine_eq]; omega)
  have x : Ext s₁ { s₁ with heap := h'.push { cls := .type "tuple", data := .seq lv.toArray } } := .of' fun b o e => Kp.push _ _ b o (hk b o e)
  refine q _ _ x (.tup (Vw.mk (Heap.get?_push_size _ rfl) ?_) (rl.mono (Vw.ext x)))
  have c₁ := c.mono k
  exact c₁.off (fresh_none (s₁ := { s₁ with heap := h' }) hk)

/-- three names for one value -/
theorem st_three {x y z : Str} {px py pz pos : Pos} {e : Expr} {a : AV} {Q : Flow → Shared → Prop} {E : Value → Shared → Prop} (f : Fm K s₀ mk env Y X₀ s lm om) (h : Ev prog w A env (Y ++ X₀) s e a) (hx : StoreOk env x) (hy : StoreOk env y) (hz : StoreOk env z)
    (he : (assignEach [.Name x px, .Name y py, .Name z pz] env).map (·.2) = [assign (.Name x px) env, assign (.Name y py) env, assign (.Name z pz) env]) (hw : swappedStores [.Name x px, .Name y py, .Name z pz] e env = pure none)
    (q : ∀ s', Fm K s₀ mk env Y X₀ s' (upd (upd (upd lm x a) y a) z a) (del (del (del om x) y) z) → Q .next s') : wpAny (model prog w) A (exec (.Assign [.Name x px, .Name y py, .Name z pz] e pos) env) Q E s := by
  refine wpAny_Assign_three (h s _ _ (.refl _) fun v s₁ x₁ r => ?_) he hw
  have ks : ∀ {s₁ s₂ : Shared}, ExtB Y s₁ s₂ → Rp (Vw s₁.heap (Y ++ X₀)) v a → Rp (Vw s₂.heap (Y ++ X₀)) v a := fun x r => r.mono (Vw.keep fun b o hb e => x.keep b o (fun h => hb (List.mem_append_left _ h)) e)
  refine wpAny_assign_Name ((f.after x₁).store r hx fun s₂ f₂ x₂ => wpAny_assign_Name (f₂.store (ks x₂ r) hy fun s₃ f₃ x₃ => wpAny_assign_Name (f₃.store (ks x₃ (ks x₂ r)) hz fun s₄ f₄ x₄ => q s₄ f₄)))

/-- two names from a pair written out: the stores come in the other order -/
theorem st_unpackX {x y : Str} {px py : Pos} {k : Nat} {tpos pos : Pos} {value : Expr} {a b : AV} {Q : Flow → Shared → Prop} {E : Value → Shared → Prop} (f : Fm K s₀ mk env Y X₀ s lm om) (hh : A.handled = none) (h : Ev prog w A env (Y ++ X₀) s value (.tup [a, b])) (hx : StoreOk env x) (hy : StoreOk env y)
    (hs : swapsWithSole [.Tuple [.Name x px, .Name y py] k tpos] value pos.line env = pure false) (hw : swappedStores [.Tuple [.Name x px, .Name y py] k tpos] value env = pure (some [x, y]))
    (q : ∀ s', Fm K s₀ mk env Y X₀ s' (upd (upd lm y b) x a) (del (del om y) x) → Q .next s') : wpAny (model prog w) A (exec (.Assign [.Tuple [.Name x px, .Name y py] k tpos] value pos) env) Q E s := by
  refine Assign_Tuple_swapped (h s _ _ (.refl _) fun v s₁ x₁ r => ?_) hs hw
  cases r with | tup ho rl =>
  obtain ⟨v1, v2, rfl, ra, rb⟩ := rl.two
  rename_i ta tn
  have hT : s₁.heap.IsTuple ta #[v1, v2] := ⟨_, Vw.get ho, rfl, tn, rfl⟩
  show wpAny _ _ (unpackItems (.ref ta) (#[v1, v2] : Array Value).size none) _ _ _
  refine wpAny_unpackItems_tuple hh hT fun h' hx' => ?_
  have x₂ : Ext s₁ { s₁ with heap := h' } := .of' fun b o e => hx' b o (Nat.ne_of_lt (Heap.lt_size e)) e
  have f₂ := f.after (x₁.trans x₂)
  show wpAny (model prog w) A (do holding _ (bindName env y _); assignInOrder [bindName env x] _) _ _ _
  refine wpAny_bind (wpAny_holding (wpAny_bind (wpAny_holding (wpAny_point (wpAny_bind (f₂.store (rb.mono (Vw.ext x₂)) hy fun s₃ f₃ x₃ => wpAny_point ?_))))))
  show wpAny (model prog w) A (do holding _ (bindName env x _); assignInOrder [] _) _ _ _
  refine wpAny_bind (wpAny_holding (wpAny_bind (wpAny_holding (wpAny_point (wpAny_bind (f₃.store ((ra.mono (Vw.ext x₂)).mono (Vw.keep fun b o hb e => x₃.keep b o (fun h => hb (List.mem_append_left _ h)) e)) hx fun s₄ f₄ x₄ => wpAny_point ?_))))))
  exact wpAny_pure (q s₄ f₄)

/-- a value of the class -/
theorem ev_clsAttr {name : Str} {np pos : Pos} {u : Value} {a : AV} (T : Kt K) (W : Kw K) (b : BEnv K env) (c : Cx K X s.heap) (hx : env.kindOf (Str.ofString "Whitespace") = some .globalImplicit) (hv : findCls K (.ref 112) (.type "type") name = some (.val u)) (ha : Imm a) (ru : ∀ V, Rp V u a)
    (he : eval (.Attribute (.Name (Str.ofString "Whitespace") np) name pos) env = (do
      let o' ← eval (.Name (Str.ofString "Whitespace") np) env
      standAt pos.atName
      let r ← holding [o'] (getAttr o' name true)
      letTemporaryGo (.Name (Str.ofString "Whitespace") np) o' r
      pure r)) : Ev prog w A env X s (.Attribute (.Name (Str.ofString "Whitespace") np) name pos) a := by
  intro s₁ Q E x q
  refine Attribute_any_ (evp_global T.b c b.fn b.glob hx (by decide +kernel) T.gWs s₁ _ _ x fun v s₂ x₂ ev => ?_) he
  subst ev
  have c₂ := c.mono (x.trans x₂).keep
  exact cls_value c₂.top W.reads hv (handed_rp (ru (Vw s.heap X))) (q u _ (x₂.trans (.tok s₂ _)) (ru _))
end
end Mine
end

section
set_option maxRecDepth 100000
namespace Mine
open PySem PySem.W PySem.Calls PyProof.Rows

structure WS where
  n : Int
  nt : Int
  b : Nat
  cnt : List Int
def wsPad (b : Nat) (cnt : List Int) : List Int := if cnt.length ≤ b then cnt ++ List.replicate (b - cnt.length + 1) 0 else cnt
def wsGo : List Nat → WS → WS
  | [], t => t
  | c :: cs, t =>
    if c = 32 then wsGo cs ⟨t.n + 1, t.nt, t.b + 1, t.cnt⟩
    else if c = 9 then wsGo cs ⟨t.n + 1, t.nt + 1, 0, (wsPad t.b t.cnt).set t.b ((wsPad t.b t.cnt).getD t.b 0 + 1)⟩
    else t
def wsEnd (x : Str) : WS := wsGo x.cps.toList ⟨0, 0, 0, []⟩
def wsOf (x : Str) : Wd := ⟨x, (wsEnd x).n, (wsEnd x).nt, (wsEnd x).cnt, (wsEnd x).b⟩
theorem wsPad_len (b : Nat) (cnt : List Int) : b < (wsPad b cnt).length ∧ (wsPad b cnt).length ≤ max cnt.length (b + 1) := by
  unfold wsPad
  split
  · rw [List.length_append, List.length_replicate]; omega
  · omega

section
variable {prog : Program} {w : World} {A : Around} {env : Env} {Y X X₀ : List Addr} {s s' s₀ : Shared} {K : Frag} {lm : LM} {om : OM} {mk : Mk}
theorem Room.under {n : Nat} {C : Addr} {vs : List Value} (r : Room A (n + 1)) : Room (A.under (.builtin "type.__call__" ⟨.ref C :: vs, []⟩)) n := by
  have h1 := r.dp
  have h2 := r.un
  refine ⟨r.hd, ?_, ?_⟩
  · show A.depth + Code.weight (.builtin "type.__call__" ⟨.ref C :: vs, []⟩) + n < _
    have : Code.weight (.builtin "type.__call__" ⟨.ref C :: vs, []⟩) = 1 := rfl
    omega
  · show A.units + Code.cUnits (.builtin "type.__call__" ⟨.ref C :: vs, []⟩) + 16 * n + 8 < _
    have : Code.cUnits (.builtin "type.__call__" ⟨.ref C :: vs, []⟩) = 1 := rfl
    omega

theorem ev_tupleOfI (T : Kt K) (b : BEnv K env) (c : Cx K X s.heap) {e : Expr} {p pos : Pos} {xs : List AV} (h : Ev prog w A env [] s e (.list xs)) (hi : ∀ a ∈ xs, Imm a) (hz : xs.length < 1000000) (hx : env.kindOf (Str.ofString "tuple") = some .globalImplicit)
    (he : starEach [e] env = (false, eval e env) :: starEach [] env) : Ev prog w A env X s (.Call (.Name (Str.ofString "tuple") p) [e] [] pos) (.tup xs) := by
  refine ev_callT (T := "tuple") (evp_builtin T.b c b.fn b.glob b.bi hx (by decide +kernel) T.nTuple (by decide +kernel) (by decide +kernel)) (evl_one h he) (fun s₁ vs Q E k r q => ?_) he fun _ => rfl
  obtain ⟨v, rfl, rv⟩ := r.one
  cases rv with | list ho rl =>
  rename_i la lv ln
  refine PySem.call_tuple_list ⟨_, Vw.get ho, rfl, _, rfl⟩ (fun h' hk => ?_) (by rw [List.size_toArray, rl.length, sizeLine_eq]; omega)
  have x : Ext s₁ { s₁ with heap := h'.push { cls := .type "tuple", data := .seq lv.toArray } } := .of' fun b o e => Kp.push _ _ b o (hk b o e)
  refine q _ _ x (.tup (Vw.mk (Heap.get?_push_size _ rfl) ?_) (rl.imm hi))
  have c₁ := c.mono k
  exact c₁.off (fresh_none (s₁ := { s₁ with heap := h' }) hk)

/-- a def entered -/
theorem enter_code {n : Nat} {f : Addr} {st : Stmt} {vs : List Value} {binds : List (Str × Value)} {R : Result → Shared → Prop} (B : Kb K) (F : FnIs K f st) (r : Room A (n + 1)) (c : Cx K X s.heap)
    (hb : ∀ fd : FuncData, fd.params = paramsOf st → fd.defaults = .none → fd.kwdefaults = .none → bindArgs fd ⟨vs, []⟩ = pure binds)
    (hcell : ∀ x ∈ (scopeOf st).names, x.2 ≠ .cell) (hloc : ∀ x ∈ binds, (scopeOf st).names.lookup x.1 = some .local)
    (hco : (scopeOf st).isCoroutine = false) (hgen : (scopeOf st).isGenerator = false) (hk : (scopeOf st).kind = .function)
    (h : ∀ (env : Env) (s₁ : Shared) (A' : Around), FEnv st env → s.heap.get? env.locals = none → Room A' n → Ext s s₁ → s₁.heap.Ns env.locals (fun x => binds.reverse.lookup x) →
      wpAny (model prog w) A' (execs (bodyOf st) env) (fun fl s' => R (.ok (.ret (flowV fl))) s') (fun _ _ => False) s₁) :
    codeAny (model prog w) A (.call (.ref f) ⟨vs, []⟩) R s := by
  obtain ⟨o, ho, hd⟩ := F.get
  have hcd := codeRec_of c.top F.code
  refine codeAny_call_def (fd := fdIn K f) (by have := r.dp; omega) (c.top _ _ ho) hd (noLimit_of B c.top) hcd F.body (BindsTo.of_eq (hb _ F.params F.dflt F.kwd)) (by rw [F.scope]; exact hcell) (by rw [F.scope]; exact hloc) (fun h₀ hn hk₀ => ?_) (by rw [F.scope]; exact hco) (by rw [F.scope]; exact hgen) (by rw [F.scope]; exact hk)
  refine wpAny_mono (h (callEnv (fdIn K f) s.heap.objs.size f) _ _ ⟨F.scope, F.glob, F.bi, F.clos, by show (fdIn K f).scope.kind = _; rw [F.scope]; exact hk⟩ (push_none _) (r.deeper _) (.of hk₀) hn) (fun fl s' q => ?_) fun _ _ x => x.elim
  cases fl <;> exact q
end

section
variable {prog : Program} {w : World} {K : Frag}

theorem init_body {A : Around} {env : Env} {X : List Addr} {s s₁ : Shared} {mk : Mk} {x dx : Addr} {R : Shared → Prop} (T : Kt K) (W : Kw K) (e : FEnv initS env) (r : Room A 0) (line : Str) (hz : line.length < 200)
    (f : Fm K s mk env [env.locals] X s₁ (upd (upd noM (Str.ofString "self") (.obj x)) (Str.ofString "ws") (.str line)) noM) (S : Slf s mk x dx (dictOf [] 0))
    (q : ∀ s₂, Ext s s₂ → Rp (Vw s₂.heap X) (.ref x) (.ws (wsOf line)) → R s₂) :
    wpAny (model prog w) A (execs (bodyOf initS) env) (fun fl s' => flowV fl = .none ∧ R s') (fun _ _ => False) s₁ := by
  have nw₀ : NoW (upd (upd noM (Str.ofString "self") (.obj x)) (Str.ofString "ws") (.str line)) := (NoW.nil.upd _ (by simp only [noWs])).upd _ (by simp only [noWs])
  -- self.raw = ws
  refine wpAny_execs_cons (st_attr W f S (lv f upd_eq) (up upd_eq) nw₀ NoO.nil (by simp only [noWs]) W.kRaw rfl (by simp) (by decide +kernel) rfl fun s₂ mk₂ v₁ t₁ f₂ S₂ rv₁ _ => ?_)
  have iv₁ : ∀ V, Rp V v₁ (.str line) := fun V => rv₁.imm trivial
  -- S, T
  obtain ⟨tS, hS⟩ := W.clsS
  obtain ⟨tT, hT⟩ := W.clsT
  have kS : env.kindOf (Str.ofString "S") = some .local := by show env.scope.names.lookup _ = _; rw [e.scope]; decide +kernel
  have kT : env.kindOf (Str.ofString "T") = some .local := by show env.scope.names.lookup _ = _; rw [e.scope]; decide +kernel
  refine wpAny_execs_cons (st_unpackX f₂ r.hd (ev_tuple f₂.cxs (evl_two (ev_clsAttr (a := .str (Str.ofString " ")) T W e.b f₂.cxs e.gl hS trivial (fun V => .str _ _) rfl) (ev_clsAttr (a := .str (Str.ofString "\t")) T W e.b f₂.cxs e.gl hT trivial (fun V => .str _ _) rfl) rfl rfl) (by show 2 ≤ sizeLine; decide)) e.loc e.loc rfl ?_ fun s₃ f₃ => ?_)
  · have hE : env = { env with scope := scopeOf initS } := by rw [← e.scope]
    rw [hE]
    kernel_rfl
  -- count
  refine wpAny_execs_cons (st_assign_own f₃ (evf_list evl_nil (by decide)) e.loc rfl fun a₄ s₄ f₄ => ?_)
  refine wpAny_execs_cons (st_three f₄ ev_int e.loc e.loc e.loc rfl rfl fun s₅ f₅ => ?_)
  have hlen : line.cps.toList.length = line.length := by simp [Str.length]
  -- the walk
  refine wpAny_execs_cons (st_for f₅ (iter_str r.hd f₅.cxs (ev_attrO (u := v₁) W f₅ S₂ (lv f₅ (up (up (up (dl (up (up (up upd_eq)))))))) W.nRaw (by kernel_rfl) (iv₁ _) rfl)) e.loc
    (fun i lm om => ∃ t : WS, lm (Str.ofString "self") = some (.obj x) ∧ lm (Str.ofString "S") = some (.str (Str.ofString " ")) ∧ lm (Str.ofString "T") = some (.str (Str.ofString "\t")) ∧ lm (Str.ofString "n") = some (.int t.n) ∧ lm (Str.ofString "nt") = some (.int t.nt) ∧ lm (Str.ofString "b") = some (.int t.b) ∧
      om (Str.ofString "count") = some (t.cnt.map AV.int) ∧ t.b ≤ i ∧ t.cnt.length ≤ i ∧ wsGo (line.cps.toList.drop i) t = wsEnd line)
    (fun lm om => ∃ t : WS, lm (Str.ofString "self") = some (.obj x) ∧ lm (Str.ofString "n") = some (.int t.n) ∧ lm (Str.ofString "nt") = some (.int t.nt) ∧ lm (Str.ofString "b") = some (.int t.b) ∧
      om (Str.ofString "count") = some (t.cnt.map AV.int) ∧ t.cnt.length ≤ 200 ∧ t = wsEnd line)
    ⟨⟨0, 0, 0, []⟩, up (up (up (dl (up (up (up upd_eq)))))), up (up (up (dl upd_eq))), up (up (up (dl (up upd_eq)))), up (upd_eq), upd_eq, up (up upd_eq), dl (dl (dl upd_eq)), by simp, by simp, rfl⟩ ?_ ?_ (fun _ => rfl))
  · rintro i Y' lm' om' s₆ E' hi ⟨t, g1, g2, g3, g4, g5, g6, g7, hb, hc, hg⟩ f₆
    have hi' : i < line.cps.toList.length := by simpa using hi
    have hx : line.cps.getD i 0 = line.cps.toList[i] := by
      rw [Array.getD_eq_getD_getElem?, ← Array.getElem?_toList, List.getElem?_eq_getElem hi']; rfl
    rw [hx] at f₆
    have hdrop : line.cps.toList.drop i = line.cps.toList[i] :: line.cps.toList.drop (i + 1) := List.drop_eq_getElem_cons hi'
    rw [hdrop, wsGo] at hg
    refine wpAny_execs_cons (st_if (ts_sign (lv f₆ upd_eq) (lv f₆ (up g2)) (d := 32) (by decide +kernel) rfl) fun s₇ x₇ => ?_)
    have f₇ := f₆.after x₇
    by_cases h1 : line.cps.toList[i] = 32
    · rw [if_pos (decide_eq_true h1)]
      rw [if_pos h1] at hg
      refine wpAny_execs_cons (st_assign f₇ (ev_add (lv f₇ (up g4)) ev_int) e.loc rfl fun s₈ f₈ => ?_)
      refine wpAny_execs_cons (st_assign (a := .int ((t.b + 1 : Nat) : Int)) f₈ (Ev.cast (ev_add (lv f₈ (up (up g6))) ev_int) (by push_cast; rfl)) e.loc rfl fun s₉ f₉ => ?_)
      exact wpAny_execs_nil (wpAny_execs_nil ⟨_, _, _, f₉, ⟨t.n + 1, t.nt, t.b + 1, t.cnt⟩, up (up (up g1)), up (up (up g2)), up (up (up g3)), up upd_eq, up (up (up g5)), upd_eq, dl (dl (dl g7)), by dsimp only; omega, by dsimp only; omega, hg⟩)
    rw [if_neg (by simpa using h1)]
    rw [if_neg h1] at hg
    refine wpAny_execs_cons (st_if (ts_sign (lv f₇ upd_eq) (lv f₇ (up g3)) (d := 9) (by decide +kernel) rfl) fun s₈ x₈ => ?_)
    have f₈ := f₇.after x₈
    by_cases h2 : line.cps.toList[i] = 9
    · rw [if_pos (decide_eq_true h2)]
      rw [if_pos h2] at hg
      refine wpAny_execs_cons (st_assign f₈ (ev_add (lv f₈ (up g4)) ev_int) e.loc rfl fun s₉ f₉ => ?_)
      refine wpAny_execs_cons (st_assign f₉ (ev_add (lv f₉ (up (up g5))) ev_int) e.loc rfl fun s₁₀ f₁₀ => ?_)
      have pl := wsPad_len t.b t.cnt
      have hlt : i < 200 := by omega
      have ll : (t.cnt.map AV.int).length = t.cnt.length := List.length_map ..
      refine wpAny_execs_cons (wpAny_mono (Q := fun fl s' => fl = .next ∧ ∃ Y'' lm'' om'', Fm K s ⟨s₆, Y'⟩ env Y'' X s' lm'' om'' ∧ lm'' (Str.ofString "self") = some (.obj x) ∧ lm'' (Str.ofString "S") = some (.str (Str.ofString " ")) ∧ lm'' (Str.ofString "T") = some (.str (Str.ofString "\t")) ∧ lm'' (Str.ofString "n") = some (.int (t.n + 1)) ∧ lm'' (Str.ofString "nt") = some (.int (t.nt + 1)) ∧ lm'' (Str.ofString "b") = some (.int t.b) ∧
        om'' (Str.ofString "count") = some ((wsPad t.b t.cnt).map AV.int)) (E := E') ?_ ?_ fun _ _ h => h)
      · refine st_if (ts_cmp (X := []) (ev_var f₁₀.v0 (up (up (up g6))) f₁₀.sto.fn (by decide +kernel)) (ev_lenL T e.b f₁₀.cx0 (ev_own f₁₀ (dl (dl (dl g7))) (by decide +kernel)) (by omega) e.gl rfl) cmp_ge rfl) fun s₁₁ x₁₁ => ?_
        have f₁₁ := f₁₀.after x₁₁
        by_cases h3 : t.cnt.length ≤ t.b
        · rw [if_pos (by rw [ll]; exact decide_eq_true (by omega))]
          refine wpAny_execs_cons (st_assign_own (xs := (wsPad t.b t.cnt).map AV.int) f₁₁ ?_ e.loc rfl fun a₁₂ s₁₂ f₁₂ => ?_)
          · refine EvP.mono (evf_addL (X := []) (ev_own f₁₁ (dl (dl (dl g7))) (by decide +kernel)) ((evf_rep (EvF.ev (evf_list (evl_one ev_int rfl) (by show 1 ≤ sizeLine; decide)) f₁₁.cx0) (ev_add (ev_sub (ev_var f₁₁.v0 (up (up (up g6))) f₁₁.sto.fn (by decide +kernel)) (ev_lenL T e.b f₁₁.cx0 (ev_own f₁₁ (dl (dl (dl g7))) (by decide +kernel)) (by omega) e.gl rfl)) ev_int) (by omega) (by omega)).ev f₁₁.cx0) (by rw [ll, List.length_replicate]; omega)) fun v s₂ _ h => ?_
            have e1 : t.cnt.map AV.int ++ List.replicate ((t.b : Int) - ((t.cnt.map AV.int).length : Nat) + 1).toNat (AV.int 0) = (wsPad t.b t.cnt).map AV.int := by
              unfold wsPad
              rw [if_pos h3, List.map_append, List.map_replicate, ll]
              congr 2
              omega
            rw [e1] at h
            exact h.imm (by intro a ha; obtain ⟨_, _, rfl⟩ := List.mem_map.mp ha; trivial)
          · exact wpAny_execs_nil ⟨rfl, _, _, _, f₁₂, dl (up (up (up g1))), dl (up (up (up g2))), dl (up (up (up g3))), dl (up upd_eq), dl upd_eq, dl (up (up (up g6))), upd_eq⟩
        · rw [if_neg (by rw [ll]; simp; omega)]
          have e1 : wsPad t.b t.cnt = t.cnt := by unfold wsPad; rw [if_neg h3]
          rw [e1]
          exact wpAny_execs_nil ⟨rfl, _, _, _, f₁₁, up (up (up g1)), up (up (up g2)), up (up (up g3)), up upd_eq, upd_eq, up (up (up g6)), dl (dl (dl g7))⟩
      · rintro fl s₁₁ ⟨rfl, Y'', lm'', om'', f₁₁, k1, k2, k3, k4, k5, k6, k7⟩
        have lp : ((wsPad t.b t.cnt).map AV.int).length = (wsPad t.b t.cnt).length := List.length_map ..
        refine wpAny_execs_cons (st_setitem (X := []) (a := .int ((wsPad t.b t.cnt).getD t.b 0 + 1)) f₁₁ k7 ?_ (ev_var f₁₁.v0 k6 f₁₁.sto.fn (by decide +kernel)) (by omega) (by omega) (by omega) (by decide +kernel) rfl fun s₁₂ f₁₂ => ?_)
        · refine Ev.imm (X := []) (ev_add (ev_itemL (a := .int ((wsPad t.b t.cnt).getD t.b 0)) (ev_own f₁₁ k7 (by decide +kernel)) (ev_var f₁₁.v0 k6 f₁₁.sto.fn (by decide +kernel)) (by omega) ?_ (by omega) (fun _ _ => rfl)) ev_int)
          rw [Int.toNat_natCast, List.getElem?_map, List.getElem?_eq_getElem pl.1, List.getD_eq_getElem?_getD, List.getElem?_eq_getElem pl.1]; rfl
        refine wpAny_execs_cons (st_assign (a := .int ((0 : Nat) : Int)) f₁₂ ev_int e.loc rfl fun s₁₃ f₁₃ => ?_)
        refine wpAny_execs_nil (wpAny_execs_nil (wpAny_execs_nil ⟨_, _, _, f₁₃, ⟨t.n + 1, t.nt + 1, 0, (wsPad t.b t.cnt).set t.b ((wsPad t.b t.cnt).getD t.b 0 + 1)⟩, up k1, up k2, up k3, up k4, up k5, upd_eq, dl ?_, by dsimp only; omega, by dsimp only; rw [List.length_set]; omega, hg⟩))
        dsimp only
        rw [Int.toNat_natCast, List.map_set]
        exact upd_eq
    · rw [if_neg (by simpa using h2)]
      rw [if_neg h2] at hg
      exact wpAny_execs_cons (wpAny_Break ⟨_, _, _, f₈, t, up g1, up g4, up g5, up g6, dl g7, by omega, hg⟩)
  · rintro Y' lm' om' s₆ hj f₆
    have hj' : ∃ t : WS, lm' (Str.ofString "self") = some (.obj x) ∧ lm' (Str.ofString "n") = some (.int t.n) ∧ lm' (Str.ofString "nt") = some (.int t.nt) ∧ lm' (Str.ofString "b") = some (.int t.b) ∧
      om' (Str.ofString "count") = some (t.cnt.map AV.int) ∧ t.cnt.length ≤ 200 ∧ t = wsEnd line := by
      rcases hj with ⟨t, g1, g2, g3, g4, g5, g6, g7, hb, hc, hg⟩ | h
      · have hsz : line.cps.size = line.cps.toList.length := by simp
        rw [hsz, List.drop_length, wsGo] at hg
        exact ⟨t, g1, g4, g5, g6, g7, by omega, hg⟩
      · exact h
    obtain ⟨t, g1, g2, g3, g4, g5, g6, ht⟩ := hj'
    have ll : (t.cnt.map AV.int).length = t.cnt.length := List.length_map ..
    have f₇ := (f₆.weak (lm' := upd (upd (upd (upd noM (Str.ofString "self") (.obj x)) (Str.ofString "n") (.int t.n)) (Str.ofString "nt") (.int t.nt)) (Str.ofString "b") (.int t.b)) (fun y a h => by
      unfold upd at h
      by_cases h1 : y = Str.ofString "b"
      · rw [if_pos h1] at h; cases h; rw [h1]; exact g4
      rw [if_neg h1] at h
      by_cases h1 : y = Str.ofString "nt"
      · rw [if_pos h1] at h; cases h; rw [h1]; exact g3
      rw [if_neg h1] at h
      by_cases h1 : y = Str.ofString "n"
      · rw [if_pos h1] at h; cases h; rw [h1]; exact g2
      rw [if_neg h1] at h
      by_cases h1 : y = Str.ofString "self"
      · rw [if_pos h1] at h; cases h; rw [h1]; exact g1
      rw [if_neg h1] at h
      cases h)).weakO (om' := upd noM (Str.ofString "count") (t.cnt.map AV.int)) (fun y a h => by
      unfold upd at h
      by_cases h1 : y = Str.ofString "count"
      · rw [if_pos h1] at h; cases h; rw [h1]; exact g5
      rw [if_neg h1] at h
      cases h)
    clear f₆
    have nw : NoW (upd (upd (upd (upd noM (Str.ofString "self") (.obj x)) (Str.ofString "n") (.int t.n)) (Str.ofString "nt") (.int t.nt)) (Str.ofString "b") (.int t.b)) :=
      (((NoW.nil.upd _ (by simp only [noWs])).upd _ (by simp only [noWs])).upd _ (by simp only [noWs])).upd _ (by simp only [noWs])
    have no : NoO (upd noM (Str.ofString "count") (t.cnt.map AV.int)) := NoO.nil.upd _ (noWs_ints _)
    refine wpAny_execs_cons (st_attr W f₇ S₂ (lv f₇ (up (up upd_eq))) (up (up (up upd_eq))) nw no (by simp only [noWs]) W.kN (by kernel_rfl) (by show 1 ≤ 900; decide) (by decide +kernel) rfl fun s₈ mk₈ v₂ t₂ f₈ S₈ rv₂ _ => ?_)
    have iv₂ : ∀ V, Rp V v₂ (.int t.n) := fun V => rv₂.imm trivial
    refine wpAny_execs_cons (st_attr W f₈ S₈ (lv f₈ (up upd_eq)) (up (up (up upd_eq))) nw no (by simp only [noWs]) W.kNt (by kernel_rfl) (by show 2 ≤ 900; decide) (by decide +kernel) rfl fun s₉ mk₉ v₃ t₃ f₉ S₉ rv₃ _ => ?_)
    have iv₃ : ∀ V, Rp V v₃ (.int t.nt) := fun V => rv₃.imm trivial
    have nn : noWs (.tup [.tup (t.cnt.map AV.int), .int t.b]) = true := by simp only [noWs, noWsL, noWs_ints, Bool.and_self]
    refine wpAny_execs_cons (st_attr (a := .tup [.tup (t.cnt.map AV.int), .int t.b]) W f₉ S₉ ?_ (up (up (up upd_eq))) nw no nn W.kNorm (by kernel_rfl) (by show 3 ≤ 900; decide) (by decide +kernel) rfl fun s₁₀ mk₁₀ v₄ t₄ f₁₀ S₁₀ rv₄ _ => ?_)
    · exact ev_tuple f₉.cxs (evl_two (ev_tupleOfI T e.b f₉.cxs (ev_own f₉ upd_eq (by decide +kernel)) (by intro a ha; obtain ⟨_, _, rfl⟩ := List.mem_map.mp ha; trivial) (by omega) e.gl rfl) (lv f₉ upd_eq) rfl rfl) (by show 2 ≤ sizeLine; decide)
    refine wpAny_execs_cons (st_attr (a := .bool (decide (t.cnt.length ≤ 1))) W f₁₀ S₁₀ ?_ (up (up (up upd_eq))) nw no (by simp only [noWs]) W.kSimp (by kernel_rfl) (by show 4 ≤ 900; decide) (by decide +kernel) rfl fun s₁₁ mk₁₁ v₅ t₅ f₁₁ S₁₁ rv₅ keep => ?_)
    · refine Ev.cast (ev_cmp (X := []) (ev_lenL T e.b f₁₀.cx0 (ev_own f₁₀ upd_eq (by decide +kernel)) (by omega) e.gl rfl) ev_int cmp_le rfl) ?_
      rw [ll]
      congr 1
      simp
      omega
    have iv₅ : ∀ V, Rp V v₅ (.bool (decide (t.cnt.length ≤ 1))) := fun V => rv₅.imm trivial
    refine wpAny_execs_nil ⟨rfl, q _ f₁₁.ext ?_⟩
    obtain ⟨k1, k2, k3, k4⟩ := f₁₁.selfAt S₁₁
    have hX : Sub (Vw s₁₁.heap (Y' ++ X)) (Vw s₁₁.heap X) := Vw.less fun b hb => List.mem_append_right _ hb
    have e1 : wsOf line = ⟨line, t.n, t.nt, t.cnt, t.b⟩ := by unfold wsOf; rw [← ht]
    rw [e1]
    refine Rp.ws (vr := v₁) (vn := v₂) (vt := v₃) (vm := v₄) (vs := v₅) (Vw.mk k1 (f.cx.off S.x0)) (Vw.mk k2 (f.cx.off S.d0)) (by kernel_rfl) (by kernel_rfl) (by kernel_rfl) (by kernel_rfl) (by kernel_rfl) ?_ (iv₁ _) (iv₂ _) (iv₃ _) ((keep _ _ nn rv₄).mono hX) (iv₅ _)
    intro y hy
    simp only [List.mem_cons, List.not_mem_nil, or_false] at hy
    rcases hy with rfl | rfl | rfl | rfl | rfl <;> kernel_rfl

theorem wsOk (line : Str) (hz : line.length < 200) : Wok (wsOf line) := by
  have go : ∀ (cs : List Nat) (t : WS) (k : Nat), t.b ≤ k → t.cnt.length ≤ k → (wsGo cs t).b ≤ k + cs.length ∧ (wsGo cs t).cnt.length ≤ k + cs.length := by
    intro cs
    induction cs with
    | nil => intro t k h1 h2; exact ⟨h1, h2⟩
    | cons c cs ih =>
      intro t k h1 h2
      rw [wsGo]
      have pl := wsPad_len t.b t.cnt
      split
      · have := ih ⟨t.n + 1, t.nt, t.b + 1, t.cnt⟩ (k + 1) (by dsimp only; omega) (by dsimp only; omega)
        rw [List.length_cons]; omega
      · split
        · have := ih ⟨t.n + 1, t.nt + 1, 0, (wsPad t.b t.cnt).set t.b ((wsPad t.b t.cnt).getD t.b 0 + 1)⟩ (k + 1) (by dsimp only; omega) (by dsimp only; rw [List.length_set]; omega)
          rw [List.length_cons]; omega
        · rw [List.length_cons]; omega
  have h := go line.cps.toList ⟨0, 0, 0, []⟩ 0 (by simp) (by simp)
  have hl : line.cps.toList.length = line.length := by simp [Str.length]
  refine ⟨?_, ?_, ?_⟩
  · show (wsEnd line).cnt.length < 300; unfold wsEnd; omega
  · show 0 ≤ ((wsEnd line).b : Int); omega
  · show ((wsEnd line).b : Int) < 300; unfold wsEnd; omega

/-- Whitespace(line) -/
theorem fn_ws (T : Kt K) (W : Kw K) (line : Str) (hz : line.length < 200) : Fn prog w K 2 112 [.str line] (.ws (wsOf line)) := by
  intro A X s r c s₁ vs Q E k rl q
  obtain ⟨v, rfl, rv⟩ := rl.one
  have c₁ := c.mono k
  refine wpAny_call ?_
  obtain ⟨h, g, d, t, os⟩ := s₁
  refine make_core (makes_of c₁.top W.makes) (looks_findIn c₁.top W.mInit) (fun self => bind_fn c₁.top self W.tInit) (.inl rfl) ?_
  have kk : Kp h ((h.push emptyDict).push (instObj 112 h.objs.size)) := fun b o e => Heap.get?_push_of_some _ (Heap.get?_push_of_some _ e)
  have c₂ : Cx K X ((h.push emptyDict).push (instObj 112 h.objs.size)) := c₁.mono kk
  have hx : ((h.push emptyDict).push (instObj 112 h.objs.size)).get? (h.objs.size + 1) = some (instObj 112 h.objs.size) := by heap_get
  have hdx : ((h.push emptyDict).push (instObj 112 h.objs.size)).get? h.objs.size = some emptyDict := by heap_get
  refine enter_code (n := 0) (s := ⟨(h.push emptyDict).push (instObj 112 h.objs.size), g, d, t, os⟩) (binds := [(Str.ofString "self", .ref (h.objs.size + 1)), (Str.ofString "ws", v)]) T.b T.fInit r.under c₂ (fun fd h1 h2 h3 => params2 h1 h2 h3 fun _ _ _ _ _ _ _ _ _ _ _ _ => rfl) (by decide +kernel) (by intro y hy; simp only [List.mem_cons, List.not_mem_nil, or_false] at hy; rcases hy with rfl | rfl <;> (dsimp only; decide +kernel)) rfl rfl rfl fun env s₂ A' e hl r' x hn => ?_
  have x₁ : Ext ⟨h, g, d, t, os⟩ s₂ := ⟨x.gens, x.drawn, x.os, fun b o e => x.keep b o (kk b o e)⟩
  have hl₁ : h.get? env.locals = none := by
    cases e : h.get? env.locals with
    | none => rfl
    | some o => have := kk _ _ e; dsimp only at hl; rw [hl] at this; cases this
  have f := fm_start (lm := upd (upd noM (Str.ofString "self") (.obj (h.objs.size + 1))) (Str.ofString "ws") (.str line)) e c₁ hl₁ x₁ hn (fun y a hy => by
    unfold upd at hy
    by_cases h1 : y = Str.ofString "ws"
    · rw [if_pos h1] at hy; cases hy; subst h1
      exact ⟨by show env.scope.names.lookup _ = _; rw [e.scope]; decide +kernel, v, by simp, rv⟩
    rw [if_neg h1] at hy
    by_cases h2 : y = Str.ofString "self"
    · rw [if_pos h2] at hy; cases hy; subst h2
      exact ⟨by show env.scope.names.lookup _ = _; rw [e.scope]; decide +kernel, .ref (h.objs.size + 1), by kernel_rfl, .obj _⟩
    rw [if_neg h2] at hy
    cases hy)
  refine wpAny_mono (init_body (R := fun s' => Q (.ref (h.objs.size + 1)) s') T W e r' line hz f ⟨x.keep _ _ hx, fun hm => ?_, x.keep _ _ hdx, fun hm => ?_, ?_, push_none _⟩ fun s₃ x₃ r₃ => q _ _ x₃ r₃) (fun fl s₃ h₃ => h₃) fun _ _ h => h
  · have e1 : h.objs.size + 1 = env.locals := List.mem_singleton.mp hm
    dsimp only at hl; rw [← e1, hx] at hl; cases hl
  · have e1 : h.objs.size = env.locals := List.mem_singleton.mp hm
    dsimp only at hl; rw [← e1, hdx] at hl; cases hl
  · cases e : h.get? (h.objs.size + 1) with
    | none => rfl
    | some o => have := Heap.lt_size e; exact absurd this (by simp)
end
end Mine
end

section
set_option maxRecDepth 100000
namespace Mine
open PySem PySem.W PySem.Calls PyProof.Rows

theorem plainAttrs_pat : PlainAttrs "re.Pattern" :=
  ⟨⟨"object.__getattribute__", by rw [typeLookup_type, builtinLookup_eq_fast]; kernel_rfl, by decide +kernel⟩, by rw [typeLookup_type, builtinLookup_eq_fast]; kernel_rfl⟩
theorem plainAttrs_mat : PlainAttrs "re.Match" :=
  ⟨⟨"object.__getattribute__", by rw [typeLookup_type, builtinLookup_eq_fast]; kernel_rfl, by decide +kernel⟩, by rw [typeLookup_type, builtinLookup_eq_fast]; kernel_rfl⟩
theorem slot_match : Slot "re.Pattern" (Str.ofString "match") "re.Pattern.match" :=
  .of (owner := "re.Pattern") (n := "match") (by rw [typeLookup_type, builtinLookup_eq_fast]; kernel_rfl) (by decide +kernel) (by decide +kernel) (by decide +kernel)
    (by first | exact .inl (by decide +kernel) | exact .inr (by decide +kernel)) (by rw [isSubtype_type]; kernel_rfl)
theorem type_match : typeOf (.builtin "re.Pattern.match") = pure (.type "method_descriptor") := by show builtinType _ = _; rw [builtinType_eq_fast]; kernel_rfl
theorem entry_match : entryFor table "re.Pattern.match" = some Builtin.«re.Pattern.match» := entryFor_of_tree (by kernel_rfl)
theorem args_match (a b : Value) : argsOk "re.Pattern.match" ⟨[a, b], []⟩ := by unfold argsOk; kernel_rfl
theorem slot_end : Slot "re.Match" (Str.ofString "end") "re.Match.end" :=
  .of (owner := "re.Match") (n := "end") (by rw [typeLookup_type, builtinLookup_eq_fast]; kernel_rfl) (by decide +kernel) (by decide +kernel) (by decide +kernel)
    (by first | exact .inl (by decide +kernel) | exact .inr (by decide +kernel)) (by rw [isSubtype_type]; kernel_rfl)
theorem type_end : typeOf (.builtin "re.Match.end") = pure (.type "method_descriptor") := by show builtinType _ = _; rw [builtinType_eq_fast]; kernel_rfl
theorem entry_end : entryFor table "re.Match.end" = some Builtin.«re.Match.end» := entryFor_of_tree (by kernel_rfl)
theorem args_end (a : Value) : argsOk "re.Match.end" ⟨[a], []⟩ := by unfold argsOk; kernel_rfl
theorem slot_group : Slot "re.Match" (Str.ofString "group") "re.Match.group" :=
  .of (owner := "re.Match") (n := "group") (by rw [typeLookup_type, builtinLookup_eq_fast]; kernel_rfl) (by decide +kernel) (by decide +kernel) (by decide +kernel)
    (by first | exact .inl (by decide +kernel) | exact .inr (by decide +kernel)) (by rw [isSubtype_type]; kernel_rfl)
theorem type_group : typeOf (.builtin "re.Match.group") = pure (.type "method_descriptor") := by show builtinType _ = _; rw [builtinType_eq_fast]; kernel_rfl
theorem entry_group : entryFor table "re.Match.group" = some Builtin.«re.Match.group» := entryFor_of_tree (by kernel_rfl)
theorem args_group (a : Value) : argsOk "re.Match.group" ⟨[a], []⟩ := by unfold argsOk; kernel_rfl


abbrev matO (x : Str) (tx : Tok) (pv : Value) (lim : Nat) (li : Int) (t : Addr) : Obj := { cls := .type "re.Match", data := .fields #[.str x tx, pv, rawInt 0, rawInt lim, rawInt li, .ref t] }
abbrev spanO (b e : Nat) (n : Nat) : Obj := tupO [rawInt b, rawInt e] n
theorem end_meets (l t : Addr) (x : Str) (tx : Tok) (pv : Value) (lim : Nat) (li : Int) (b e n : Nat) :
    Meets (Builtin.«re.Match.end» ⟨[.ref l], []⟩) (fun _ R s => s.heap.get? l = some (matO x tx pv lim li t) ∧ s.heap.get? t = some (spanO b e n) ∧ R (.ok (.ret (.int e s.toks))) { s with toks := s.toks + 1 }) :=
  .of_wp fun prog w A R s h => by
    obtain ⟨hp, g, d, tk, os⟩ := s; obtain ⟨hl, ht, h⟩ := h
    wp_walk using wpAny_loadPart' hl, wpAny_loadPart' ht
    exact ⟨_, rfl, by simpa [Builtin.Re.reRawOf, rawInt] using h⟩
theorem group_meets (l t : Addr) (x : Str) (tx : Tok) (pv : Value) (lim : Nat) (li : Int) (b e n : Nat) (hz : x.length < 1000000) :
    Meets (Builtin.«re.Match.group» ⟨[.ref l], []⟩) (fun _ R s => s.heap.get? l = some (matO x tx pv lim li t) ∧ s.heap.get? t = some (spanO b e n) ∧ R (.ok (.ret (.str ⟨x.cps.extract b e⟩ s.toks))) { s with toks := s.toks + 1 }) :=
  .of_wp fun prog w A R s h => by
    obtain ⟨hp, g, d, tk, os⟩ := s; obtain ⟨hl, ht, h⟩ := h
    wp_walk using wpAny_loadPart' hl, wpAny_loadPart' ht
    have e0 : Array.map Builtin.Re.reRawOf ((some #[rawInt (b : Int), rawInt (e : Int)]).getD #[]) = #[(b : Int), (e : Int)] := by simp [Builtin.Re.reRawOf, rawInt]
    rw [e0]
    rw [if_neg (by simp)]
    wp_walk
    have e1 : x.cps.extract (((({ fields := #[Value.str x tx, pv, rawInt 0, rawInt (lim : Int), rawInt li, Value.ref t], spans := #[(b : Int), (e : Int)] } : Builtin.Re.ReFound).spans.getD (2 * 0) (-1))).toNat) (((({ fields := #[Value.str x tx, pv, rawInt 0, rawInt (lim : Int), rawInt li, Value.ref t], spans := #[(b : Int), (e : Int)] } : Builtin.Re.ReFound).spans.getD (2 * 0 + 1) (-1))).toNat) = x.cps.extract b e := by simp
    rw [e1]
    rw [if_neg (by
      show ¬ (x.cps.extract b e).size > sizeLine
      have : (x.cps.extract b e).size ≤ x.cps.size := by rw [Array.size_extract]; omega
      have hz' : x.cps.size < 1000000 := hz
      rw [sizeLine_eq]; omega)]
    wp_walk
    exact ⟨_, rfl, h⟩

/-! the machine of the pattern -/
def reDone : Nat → Sre.M → Option Sre.M
  | 0, _ => none
  | k + 1, m => if (m.runFor Builtin.Re.reTurnSteps).outcome.isSome then some (m.runFor Builtin.Re.reTurnSteps) else reDone k (m.runFor Builtin.Re.reTurnSteps)
section
variable {M : Model} {A : Around} {E : Value → Shared → Prop} {s : Shared}
theorem wpAny_reDrive {Q : Sre.M → Shared → Prop} {m' : Sre.M} : ∀ (k turns : Nat) (m : Sre.M), k ≤ turns → reDone k m = some m' → Q m' s → wpAny M A (Builtin.Re.reDrive turns m) Q E s
  | 0, _, _, _, h, _ => by cases h
  | k + 1, 0, _, hk, _, _ => by omega
  | k + 1, turns + 1, m, hk, h, q => by
    unfold reDone at h
    show wpAny M A (if (m.runFor Builtin.Re.reTurnSteps).outcome.isSome then pure (m.runFor Builtin.Re.reTurnSteps) else do rule "sre.turn"; Builtin.Re.reDrive turns (m.runFor Builtin.Re.reTurnSteps)) Q E s
    split at h
    · rename_i hs
      cases h
      rw [if_pos hs]
      exact wpAny_pure q
    · rename_i hs
      rw [if_neg hs]
      exact wpAny_bind (wpAny_rule (wpAny_reDrive k turns _ (by omega) h q))
theorem wpAny_rules {m : Sre.M} {Q : PUnit → Shared → Prop} (q : Q ⟨⟩ s) : ∀ l : List Nat, wpAny M A (forIn l PUnit.unit fun i _ => do
    if m.seen.has i then rule (Sre.names.getD i "")
    pure (ForInStep.yield PUnit.unit)) Q E s
  | [] => wpAny_pure q
  | i :: l => by
    rw [List.forIn_cons]
    refine wpAny_bind ?_
    split
    · exact wpAny_bind (wpAny_rule (wpAny_pure (wpAny_rules q l)))
    · exact wpAny_pure (wpAny_rules q l)
theorem wpAny_reRun {m m' : Sre.M} {k : Nat} {Q : Option Sre.M → Shared → Prop} (h : reDone k m = some m') (hk : k ≤ 1000) (ho : m'.outcome = some .matched) (q : Q (some m') s) : wpAny M A (Builtin.Re.reRunToEnd m) Q E s := by
  unfold Builtin.Re.reRunToEnd
  refine wpAny_bind (wpAny_reDrive k (2 ^ 64) m (Nat.le_trans hk (by decide)) h ?_)
  refine wpAny_bind (wpAny_rules ?_ _)
  rw [ho]
  exact wpAny_pure q
end

def codeL : List Nat := [14, 4, 0, 0, 4294967295, 24, 11, 0, 4294967295, 13, 6, 16, 32, 16, 9, 0, 1, 1]
abbrev patO (v0 v1 : Value) (t : Addr) : Obj := { cls := .type "re.Pattern", data := .fields #[v0, v1, rawInt 0, .none, .none, .ref t, rawInt 0] }
def reStart (x : Str) : Sre.M := Sre.forMatch codeL.toArray x.cps 0 0 x.cps.size false false
theorem reTarget_at {prog : Program} {w : World} {A : Around} {E : Value → Shared → Prop} {s : Shared} {p t : Addr} {v0 v1 : Value} {n : Nat} {x : Str} {tx : Tok} {Q : Builtin.Re.ReTarget → Shared → Prop} (hl : s.heap.get? p = some (patO v0 v1 t)) (ht : s.heap.get? t = some (tupO (codeL.map fun (w : Nat) => rawInt w) n)) (hz : x.length < 1000000)
    (q : Q { pattern := .ref p, string := .str x tx, code := codeL.toArray, text := x.cps, kind := 0, groups := 0, pos := 0, lim := x.cps.size } s) :
    wpAny (model prog w) A (Builtin.Re.reTarget "re.Pattern.match" "match" ⟨[.ref p, .str x tx], []⟩) Q E s := by
  obtain ⟨hp, g, d, tk, os⟩ := s
  unfold Builtin.Re.reTarget
  wp_walk using wpAny_loadPart' hl, wpAny_loadPart' ht
  have hz' : x.cps.size < 1000000 := hz
  have e1 : Array.map (fun x : Int => x.toNat) (Array.map Builtin.Re.reRawOf ((some (List.map (fun w : Nat => rawInt (w : Int)) codeL).toArray).getD #[])) = codeL.toArray := by kernel_rfl
  have e2 : min ((2 ^ 63 - 1 : Int).toNat) x.cps.size = x.cps.size := Nat.min_eq_right (by have : (2 ^ 63 - 1 : Int).toNat = 9223372036854775807 := by decide
                                                                                           omega)
  have e3 : min ((0 : Int).toNat) x.cps.size = 0 := by simp
  dsimp only
  rw [e1, e2, e3]
  exact q
theorem match_meets (p t : Addr) (v0 v1 : Value) (n : Nat) (x : Str) (tx : Tok) (m : Sre.M) (k : Nat) (hk : k ≤ 1000) (hm : reDone k (reStart x) = some m) (ho : m.outcome = some .matched) (hz : x.length < 1000000) :
    Meets (Builtin.«re.Pattern.match» ⟨[.ref p, .str x tx], []⟩) (fun _ R s => s.heap.get? p = some (patO v0 v1 t) ∧ s.heap.get? t = some (tupO (codeL.map fun (w : Nat) => rawInt w) n) ∧
      R (.ok (.ret (.ref (s.heap.objs.size + 1)))) { s with heap := (s.heap.push (spanO m.start m.handed 0)).push (matO x tx (.ref p) x.cps.size m.lastindex s.heap.objs.size) }) :=
  .of_wp fun prog w A R s h => by
    obtain ⟨hp, g, d, tk, os⟩ := s; obtain ⟨hl, ht, h⟩ := h
    unfold Builtin.«re.Pattern.match»
    refine wpAny_bind (reTarget_at hl ht hz ?_)
    unfold Builtin.Re.reAnswer
    refine wpAny_bind (wpAny_reRun hm hk ho ?_)
    unfold Builtin.Re.reNewMatch
    wp_walk
    refine ⟨_, rfl, ?_⟩
    have e : ∀ o, (hp.push o).objs.size = hp.objs.size + 1 := fun o => by simp [Heap.push]
    rw [e]
    exact h
end Mine
end

section
set_option maxRecDepth 100000
namespace Mine
open PySem PySem.W PySem.Calls PyProof.Rows

def expStep (wd : Nat) (st : Array Nat × Nat) (c : Nat) : Array Nat × Nat :=
  if c = 9 then (st.1 ++ Array.replicate (wd - st.2 % wd) 32, st.2 + (wd - st.2 % wd)) else (st.1.push c, if (c == 10 || c == 13) = true then 0 else st.2 + 1)
def expT (wd : Nat) (x : Str) : Str := if (!x.cps.contains 9) = true then x else ⟨(x.cps.toList.foldl (expStep wd) (#[], 0)).1⟩
theorem expStep_size (wd : Nat) (st : Array Nat × Nat) (c : Nat) : (expStep wd st c).1.size ≤ st.1.size + (wd + 1) := by
  unfold expStep
  split
  · simp only [Array.size_append, Array.size_replicate]; omega
  · simp only [Array.size_push]; omega
theorem expGo_size (wd : Nat) : ∀ (l : List Nat) (st : Array Nat × Nat), (l.foldl (expStep wd) st).1.size ≤ st.1.size + l.length * (wd + 1)
  | [], st => by simp
  | c :: l, st => by
    have h1 := expGo_size wd l (expStep wd st c)
    have h2 := expStep_size wd st c
    rw [List.foldl_cons, List.length_cons, Nat.add_mul, Nat.one_mul]
    omega

theorem expT_len (wd : Nat) (x : Str) : (expT wd x).length ≤ x.length * (wd + 2) := by
  unfold expT
  split
  · exact Nat.le_mul_of_pos_right _ (by omega)
  · have h := expGo_size wd x.cps.toList (#[], 0)
    show (x.cps.toList.foldl (expStep wd) (#[], 0)).1.size ≤ x.cps.size * (wd + 2)
    have hl : x.cps.toList.length = x.cps.size := by simp
    simp only [Array.size_empty] at h
    rw [hl] at h
    have : x.cps.size * (wd + 2) = x.cps.size * (wd + 1) + x.cps.size := by rw [← Nat.mul_succ]
    omega

theorem exp_loop {M : Model} {A : Around} {E : Value → Shared → Prop} {s : Shared} {wd : Int} (h0 : 0 < wd) {Q : Array Nat × Nat → Shared → Prop} : ∀ (l : List Nat) (st : Array Nat × Nat), st.1.size + (l.length + 1) * (wd.toNat + 1) < 1000000 → Q (l.foldl (expStep wd.toNat) st) s →
    wpAny M A (forIn l st fun c __s =>
                  have out := __s.fst;
                  have column := __s.snd;
                  if (c == 9) = true then
                    have blanks := if wd > 0 then wd.toNat - column % wd.toNat else 0;
                    have __do_jp := fun (__r : Unit) =>
                      have out := out ++ Array.replicate blanks 32;
                      have column := column + blanks;
                      (pure (ForInStep.yield (out, column)) : Sem _);
                    if Builtin.Str.tooLong (out.size + blanks) = true then do
                      let __r ← unsupported "str.expandtabs:memory"
                      __do_jp __r
                    else __do_jp ()
                  else
                    have out := out.push c;
                    have column := if (c == 10 || c == 13) = true then 0 else column + 1;
                    pure (ForInStep.yield (out, column))) Q E s
  | [], st, _, q => by rw [List.forIn_nil]; exact wpAny_pure q
  | c :: l, st, hz, q => by
    rw [List.foldl_cons] at q
    rw [List.length_cons] at hz
    have hs := expStep_size wd.toNat st c
    have hz2 : (expStep wd.toNat st c).1.size + (l.length + 1) * (wd.toNat + 1) < 1000000 := by
      rw [Nat.add_mul (l.length + 1) 1, Nat.one_mul] at hz
      omega
    have ih := exp_loop (M := M) (A := A) (E := E) (s := s) h0 l (expStep wd.toNat st c) hz2 q
    rw [List.forIn_cons]
    refine wpAny_bind ?_
    dsimp only
    by_cases hc : c = 9
    · subst hc
      have e1 : expStep wd.toNat st 9 = (st.1 ++ Array.replicate (wd.toNat - st.2 % wd.toNat) 32, st.2 + (wd.toNat - st.2 % wd.toNat)) := by unfold expStep; rw [if_pos rfl]
      rw [e1] at ih
      rw [if_pos (by decide), if_pos h0, if_neg]
      · exact wpAny_pure ih
      · show ¬ (decide (st.1.size + (wd.toNat - st.2 % wd.toNat) > sizeLine)) = true
        have hw : wd.toNat + 1 ≤ (l.length + 1 + 1) * (wd.toNat + 1) := Nat.le_mul_of_pos_left _ (by omega)
        rw [sizeLine_eq, decide_eq_true_eq]
        omega
    · have e1 : expStep wd.toNat st c = (st.1.push c, if (c == 10 || c == 13) = true then 0 else st.2 + 1) := by unfold expStep; rw [if_neg hc]
      rw [e1] at ih
      rw [if_neg (by simpa using hc)]
      exact wpAny_pure ih

theorem exp_meets (x : Str) (tx tw : Tok) (wd : Int) (h0 : 0 < wd) (h1 : wd < 100) (hz : x.length < 100) :
    Meets (Builtin.«str.expandtabs» ⟨[.str x tx, .int wd tw], []⟩) (fun _ R s => ∀ t n, R (.ok (.ret (.str (expT wd.toNat x) t))) { s with toks := n } ) :=
  .of_wp fun prog w A R s h => by
    obtain ⟨hp, g, d, tk, os⟩ := s
    wp_walk
    rw [if_neg (by simp; omega)]
    have hz' : x.cps.size < 100 := hz
    have hw : wd.toNat < 100 := by omega
    by_cases hc : (!x.cps.contains 9) = true
    · rw [if_pos hc]
      have e1 : expT wd.toNat x = x := by unfold expT; rw [if_pos hc]
      rw [e1] at h
      wp_walk
      exact ⟨_, rfl, h _ _⟩
    · rw [if_neg hc]
      have e1 : expT wd.toNat x = ⟨(x.cps.toList.foldl (expStep wd.toNat) (#[], 0)).1⟩ := by unfold expT; rw [if_neg hc]
      rw [e1] at h
      dsimp only
      refine wpAny_bind ?_
      rw [← Array.forIn_toList]
      have hl : x.cps.toList.length = x.cps.size := by simp
      have hb : (x.cps.toList.length + 1) * (wd.toNat + 1) ≤ 101 * 101 := Nat.mul_le_mul (by omega) (by omega)
      refine exp_loop h0 x.cps.toList (#[], 0) (by simp only [Array.size_empty]; omega) ?_
      have hs := expGo_size wd.toNat x.cps.toList (#[], 0)
      have hb' : x.cps.toList.length * (wd.toNat + 1) ≤ 101 * 101 := Nat.mul_le_mul (by omega) (by omega)
      simp only [Array.size_empty] at hs
      wp_walk
      exact ⟨_, rfl, h _ _⟩

/-- the pattern, read off the top -/
structure Kr (K : Frag) : Prop where
  pat : ∃ v0 v1 n, K.lookup 43 = some (patO v0 v1 42) ∧ K.lookup 42 = some (tupO (codeL.map fun (w : Nat) => rawInt w) n)

section
variable {prog : Program} {w : World} {A : Around} {env : Env} {Y X X₀ : List Addr} {s s' s₀ : Shared} {K : Frag} {lm : LM} {om : OM} {mk : Mk}
theorem ev_methR0 {o : Expr} {name : Str} {apos pos : Pos} {a : Addr} {ob : Obj} {T id : String} {P} (pa : PlainAttrs T) (slot : Slot T name id) (hty : typeOf (.builtin id) = pure (.type "method_descriptor")) (h1 : EvP prog w A env s o fun v _ => v = .ref a) (ho : s.heap.get? a = some ob) (hcl : ob.cls = .type T) (hdi : ob.dict = none)
    (hc : TrP prog w A s (call (.builtin id) [.ref a]) P) (hbase : attributeBase o name env (eval o env) = eval o env) (hline : (apos.endLine == pos.line) = true) : EvP prog w A env s (.Call (.Attribute o name apos) [] [] pos) P := by
  intro s₁ Q E x q
  refine wpAny_Call_method0_late hbase hline (h1 s₁ _ _ x fun v s₂ x₂ ev => ?_)
  subst ev
  have y := x.trans x₂
  refine ⟨T, id, pa, slot, hty, ⟨_, y.keep _ _ ho, hcl⟩, fun b e => by cases e; exact ⟨_, y.keep _ _ ho, hdi⟩, callWith_method0 (env := env) ?_⟩
  exact hc s₂ Q E y fun u s₃ x₃ p => q u s₃ (x₂.trans x₃) p
theorem ev_methR1 {o e : Expr} {name : Str} {apos pos : Pos} {a : Addr} {ob : Obj} {b : AV} {T id : String} {P} (pa : PlainAttrs T) (slot : Slot T name id) (hty : typeOf (.builtin id) = pure (.type "method_descriptor")) (h1 : EvP prog w A env s o fun v _ => v = .ref a) (ho : s.heap.get? a = some ob) (hcl : ob.cls = .type T) (hdi : ob.dict = none) (h2 : Ev prog w A env X s e b)
    (hc : ∀ v s₁, Ext s s₁ → Rp (Vw s₁.heap X) v b → TrP prog w A s₁ (call (.builtin id) [.ref a, v]) P) (hbase : attributeBase o name env (eval o env) = eval o env) (hline : (apos.endLine == pos.line) = true) (hst : starEach [e] env = (false, eval e env) :: starEach [] env) : EvP prog w A env s (.Call (.Attribute o name apos) [e] [] pos) P := by
  intro s₁ Q E x q
  refine wpAny_Call_method1_late hbase hline (by rw [hst]; rfl) (h1 s₁ _ _ x fun v s₂ x₂ ev => ?_)
  subst ev
  have y := x.trans x₂
  refine ⟨T, id, pa, slot, hty, ⟨_, y.keep _ _ ho, hcl⟩, fun b e => by cases e; exact ⟨_, y.keep _ _ ho, hdi⟩, callWith_builtin rfl (evalArgs_plain (spliced_cons (h2 s₂ _ _ y fun u s₃ x₃ ru => spliced_nil ?_)))⟩
  exact hc u s₃ (y.trans x₃) ru s₃ Q E (.refl _) fun u s₄ x₄ p => q u s₄ ((x₂.trans x₃).trans x₄) p

theorem exp_ok {x : Str} {wd : Int} {h : Heap} (h0 : 0 < wd) (h1 : wd < 100) (hz : x.length < 100) : CallOk prog w A X (.builtin "str.expandtabs") [.str x, .int wd] (fun v s₂ => Rp (Vw s₂.heap X) v (.str (expT wd.toNat x))) h := by
  intro s₁ vs Q E _ r q
  obtain ⟨v, u, rfl, rv, ru⟩ := r.two
  cases rv; cases ru
  exact call_meets PySem.F.slot_str_expandtabs (typeIs_str s₁ _ _) PySem.F.entry_str_expandtabs (PySem.F.args_str_expandtabs_2 _ _) (exp_meets x _ _ wd h0 h1 hz) fun t n => q _ _ (.tok s₁ _) (.str _ _)
end

section
variable {prog : Program} {w : World} {K : Frag}
theorem fn_ind (T : Kt K) (Rk : Kr K) (line : Str) (wd : Int) (h0 : 0 < wd) (h1 : wd < 100) (hz : line.length < 100) (e k : Nat) (m : Sre.M) (hk : k ≤ 1000) (hm : reDone k (reStart line) = some m) (ho : m.outcome = some .matched) (hs : m.start = 0) (he : m.handed = e) :
    Fn prog w K 1 50 [.str line, .int wd] (.tup [.int e, .int ((expT wd.toNat ⟨line.cps.extract 0 e⟩).length : Nat)]) := by
  refine fn2 (st := indS) (p1 := Str.ofString "line") (p2 := Str.ofString "tabwidth") T.b T.fInd (fun fd v u h1 h2 h3 => params2 h1 h2 h3 fun _ _ _ _ _ _ _ _ _ _ _ _ => rfl) (by decide +kernel) (by decide +kernel) (by decide +kernel) (by decide +kernel) rfl rfl rfl ?_
  intro env s s₁ X A mk R en r f q
  obtain ⟨v0, v1, n, k1, k2⟩ := Rk.pat
  have c := f.cxs
  refine wpAny_execs_cons (wpAny_Assign_Name (ev_methR1 (P := fun v s₂ => ∃ a t tx li, v = .ref a ∧ s₁.heap.get? a = none ∧ s₁.heap.get? t = none ∧ s₂.heap.get? a = some (matO line tx (.ref 43) line.cps.size li t) ∧ s₂.heap.get? t = some (spanO 0 e 0))
    plainAttrs_pat slot_match type_match (evp_global T.b c f.sto.fn en.glob en.gl (by decide +kernel) T.gRe) (c.top _ _ k1) rfl rfl (lv f (up upd_eq)) (fun v s₂ x₂ rv => ?_) rfl rfl rfl s₁ _ _ (.refl _) fun v s₂ x₂ hv => ?_) rfl)
  · cases rv
    rename_i tx
    intro s₃ Q E x₃ q₃
    have y := x₂.trans x₃
    refine call_meets slot_match ⟨_, y.keep _ _ (c.top _ _ k1), rfl⟩ entry_match (args_match _ _) (match_meets 43 42 v0 v1 n line tx m k hk hm ho (by omega)) ⟨y.keep _ _ (c.top _ _ k1), y.keep _ _ (c.top _ _ k2), ?_⟩
    rw [hs, he]
    have e1 : ∀ o, (s₃.heap.push o).objs.size = s₃.heap.objs.size + 1 := fun o => by simp [Heap.push]
    refine q₃ _ _ (.of' fun b o e => Kp.push _ _ b o (Kp.push _ _ b o e)) ⟨_, s₃.heap.objs.size, tx, m.lastindex, rfl, ?_, fresh_none y.keep, ?_, ?_⟩
    · cases e : s₁.heap.get? (s₃.heap.objs.size + 1) with
      | none => rfl
      | some o => have := Heap.lt_size (y.keep _ _ e); exact absurd this (by simp)
    · have := Heap.get?_push_size (s₃.heap.push (spanO 0 e 0)) (o := matO line tx (.ref 43) line.cps.size m.lastindex s₃.heap.objs.size) rfl
      rw [e1] at this; exact this
    · exact Kp.push _ _ _ _ (Heap.get?_push_size _ rfl)
  · obtain ⟨a, t, tx, li, rfl, n1, n2, o1, o2⟩ := hv
    have f₂ := f.after x₂
    have na : a ∉ [env.locals] := fun h => by obtain ⟨o, e⟩ := (f.ys a h).2; rw [n1] at e; cases e
    have nt : t ∉ [env.locals] := fun h => by obtain ⟨o, e⟩ := (f.ys t h).2; rw [n2] at e; cases e
    refine f₂.store (.obj a) en.loc fun s₃ f₃ x₃ => ?_
    have o1 := x₃.keep _ _ na o1
    have o2 := x₃.keep _ _ nt o2
    have hmv : ∀ pos, EvP prog w A env s₃ (.Name (Str.ofString "m") pos) fun v _ => v = .ref a := fun pos => EvP.mono (lv f₃ upd_eq) fun v _ _ r => by cases r; rfl
    refine wpAny_execs_cons (st_ret f₃ (ev_tuple f₃.cxs (evl_two (ev_of_int (i := (e : Int)) (ev_methR0 plainAttrs_mat slot_end type_end (hmv _) o1 rfl rfl ?_ rfl rfl)) (ev_lenS T en.b f₃.cxs (ev_meth1 F.plainAttrs_str PySem.F.slot_str_expandtabs F.type_str_expandtabs of_str (ev_methR0 (P := fun v s₂ => Rp (Vw s₂.heap ([env.locals] ++ X)) v (.str ⟨line.cps.extract 0 e⟩)) plainAttrs_mat slot_group type_group (hmv _) o1 rfl rfl ?_ rfl rfl) (lv f₃ (up upd_eq)) (exp_ok h0 h1 ?_) rfl rfl rfl) ?_ en.gl rfl) rfl rfl) (by show 2 ≤ sizeLine; decide)) q rfl)
    · intro s₄ Q E x₄ q₄
      exact call_meets slot_end ⟨_, x₄.keep _ _ o1, rfl⟩ entry_end (args_end _) (end_meets a t line tx (.ref 43) _ li 0 e 0) ⟨x₄.keep _ _ o1, x₄.keep _ _ o2, q₄ _ _ (.tok s₄ _) ⟨_, rfl⟩⟩
    · intro s₄ Q E x₄ q₄
      exact call_meets slot_group ⟨_, x₄.keep _ _ o1, rfl⟩ entry_group (args_group _) (group_meets a t line tx (.ref 43) _ li 0 e 0 (by omega)) ⟨x₄.keep _ _ o1, x₄.keep _ _ o2, q₄ _ _ (.tok s₄ _) (.str _ _)⟩
    · show (line.cps.extract 0 e).size < 100
      rw [Array.size_extract]; have : line.cps.size < 100 := hz; omega
    · have h2 := expT_len wd.toNat ⟨line.cps.extract 0 e⟩
      have h3 : (⟨line.cps.extract 0 e⟩ : Str).length < 100 := by
        show (line.cps.extract 0 e).size < 100
        rw [Array.size_extract]; have : line.cps.size < 100 := hz; omega
      have h4 : (⟨line.cps.extract 0 e⟩ : Str).length * (wd.toNat + 2) ≤ 100 * 102 := Nat.mul_le_mul (by omega) (by omega)
      omega
end
end Mine
end

section
set_option maxRecDepth 100000
namespace Mine
open PySem PySem.W PySem.Calls PyProof.Rows

/-- inside a comprehension: cenv its block, D the list under way -/
structure Cf (K : Frag) (s₀ : Shared) (mk : Mk) (cenv : Env) (D : Addr) (X : List Addr) (s : Shared) (lm : LM) (xs : List AV) : Prop where
  cx : Cx K X s₀.heap
  ext : Ext s₀ s
  c0 : s₀.heap.get? cenv.locals = none
  d0 : s₀.heap.get? D = none
  cd : cenv.locals ≠ D
  since : ExtB mk.z mk.sb s
  yz : ∀ a ∈ [cenv.locals, D], a ∈ mk.z ∨ mk.sb.heap.get? a = none
  fn : cenv.scope.kind = .function
  ns : ∃ m, s.heap.Ns cenv.locals m
  cell : ∀ y c, cenv.cells.lookup y = some c → ∃ o, s₀.heap.get? c = some o
  vars : Vars cenv s.heap (cenv.locals :: D :: X) lm
  acc : ∃ vs n, s.heap.get? D = some (lstO vs n) ∧ RpL (Vw s.heap (cenv.locals :: D :: X)) vs xs

section
variable {prog : Program} {w : World} {A : Around} {cenv : Env} {D : Addr} {X : List Addr} {s s' s₀ : Shared} {K : Frag} {lm : LM} {xs : List AV} {mk : Mk}

theorem Cf.cxs (f : Cf K s₀ mk cenv D X s lm xs) : Cx K (cenv.locals :: D :: X) s.heap := by
  have c := f.cx.mono f.ext.keep
  refine ⟨c.top, c.bi, fun a ha => ?_⟩
  rcases List.mem_cons.mp ha with rfl | ha
  · obtain ⟨m, o, _, _, e, _⟩ := f.ns; exact ⟨o, e⟩
  rcases List.mem_cons.mp ha with rfl | ha
  · obtain ⟨vs, n, e, _⟩ := f.acc; exact ⟨_, e⟩
  · exact c.live a ha
theorem Cf.cellOff (f : Cf K s₀ mk cenv D X s lm xs) {y : Str} {c : Addr} (h : cenv.cells.lookup y = some c) : c ≠ cenv.locals ∧ c ≠ D := by
  obtain ⟨o, e⟩ := f.cell y c h
  refine ⟨fun h => ?_, fun h => ?_⟩
  · rw [h, f.c0] at e; cases e
  · rw [h, f.d0] at e; cases e
theorem Cf.after (f : Cf K s₀ mk cenv D X s lm xs) (x : Ext s s') : Cf K s₀ mk cenv D X s' lm xs :=
  ⟨f.cx, f.ext.trans x, f.c0, f.d0, f.cd, f.since.trans x.but, f.yz, f.fn, let ⟨m, h⟩ := f.ns; ⟨m, h.keeps x.keep⟩, f.cell, f.vars.mono x.keep, let ⟨vs, n, h1, h2⟩ := f.acc; ⟨vs, n, x.keep _ _ h1, h2.mono (Vw.ext x)⟩⟩
theorem Cf.mark (f : Cf K s₀ mk cenv D X s lm xs) : Cf K s₀ ⟨s, [cenv.locals, D]⟩ cenv D X s lm xs :=
  ⟨f.cx, f.ext, f.c0, f.d0, f.cd, .refl _, fun a h => .inl h, f.fn, f.ns, f.cell, f.vars, f.acc⟩
theorem Cf.unmark {s₁ : Shared} {lm' : LM} {xs' : List AV} (f : Cf K s₀ ⟨s₁, [cenv.locals, D]⟩ cenv D X s lm xs) (g : Cf K s₀ mk cenv D X s₁ lm' xs') : Cf K s₀ mk cenv D X s lm xs :=
  ⟨f.cx, f.ext, f.c0, f.d0, f.cd, g.since.step f.since g.yz, g.yz, f.fn, f.ns, f.cell, f.vars, f.acc⟩
theorem Cf.iter {I : Addr} {o : Obj} {vs : Array Value} (f : Cf K s₀ mk cenv D X s lm xs) (hI : s.heap.get? I = some o) (hd : o.data = .fields vs) (h0 : s₀.heap.get? I = none) (hsb : I ∈ mk.z ∨ mk.sb.heap.get? I = none) (hIC : cenv.locals ≠ I) (hID : D ≠ I) (x : ExtB [I] s s') : Cf K s₀ mk cenv D X s' lm xs := by
  have hF : FieldsAt (Vw s.heap (cenv.locals :: D :: X)) I := fun o' e => by have := Vw.get e; rw [hI] at this; cases this; exact ⟨vs, hd⟩
  have kk : ∀ b o, b ≠ I → s.heap.get? b = some o → s'.heap.get? b = some o := fun b o hb e => x.keep b o (by simpa using hb) e
  have nc : ∀ y c, cenv.cells.lookup y = some c → c ≠ I := fun y c hc e => by obtain ⟨o, h⟩ := f.cell y c hc; rw [e, h0] at h; cases h
  have rk : ∀ y u, Rd cenv s.heap y u → Rd cenv s'.heap y u := fun y u r => r.keep (fun o e => kk _ o hIC e) fun c hc o e => kk c o (nc y c hc) e
  refine ⟨f.cx, ⟨x.gens.trans f.ext.gens, x.drawn.trans f.ext.drawn, x.os.trans f.ext.os, fun b o e => kk b o (fun h => by subst h; rw [h0] at e; cases e) (f.ext.keep b o e)⟩, f.c0, f.d0, f.cd,
    f.since.step x (fun d hd => by rw [List.mem_singleton.mp hd]; exact hsb), f.yz, f.fn, ?_, f.cell, fun y a e => ?_, ?_⟩
  · obtain ⟨m, h⟩ := f.ns; exact ⟨m, h.at' fun o e => kk _ o hIC e⟩
  · obtain ⟨v, h1, h2⟩ := f.vars y a e
    exact ⟨v, rk y v h1, (h2.skip hF).mono (vout_sub x)⟩
  · obtain ⟨us, n, h1, h2⟩ := f.acc
    exact ⟨us, n, kk _ _ hID h1, (h2.skip hF).mono (vout_sub x)⟩
theorem Cf.store {x : Str} {v : Value} {a : AV} {Q : Unit → Shared → Prop} {E : Value → Shared → Prop} (f : Cf K s₀ mk cenv D X s lm xs) (r : Rp (Vw s.heap (cenv.locals :: D :: X)) v a) (hk : cenv.kindOf x = some .local)
    (q : ∀ s', Cf K s₀ mk cenv D X s' (upd lm x a) xs → ExtB [cenv.locals] s s' → Q () s') : wpAny (model prog w) A (storeName cenv x v) Q E s := by
  obtain ⟨m, hn⟩ := f.ns
  refine wpAny_storeName_local hk hn (fun h' hn' hs' => ?_) (by rw [f.fn]; rfl)
  have kc : ∀ b o, b ≠ cenv.locals → s.heap.get? b = some o → h'.get? b = some o := fun b o hb e => hs'.extBut b o hb e
  have xb : ExtB [cenv.locals] s { s with heap := h', toks := s.toks + 1 } := ⟨rfl, rfl, rfl, fun b o hb e => kc b o (by simpa using hb) e⟩
  have kv : Sub (Vw s.heap (cenv.locals :: D :: X)) (Vw h' (cenv.locals :: D :: X)) := Vw.keep fun b o hb e => kc b o (fun h => hb (by simp [h])) e
  refine q _ ⟨f.cx, ⟨f.ext.gens, f.ext.drawn, f.ext.os, fun b o e => kc b o (fun h => by rw [h, f.c0] at e; cases e) (f.ext.keep b o e)⟩, f.c0, f.d0, f.cd, f.since.step xb (fun c hc => by rw [List.mem_singleton.mp hc]; exact f.yz _ (by simp)), f.yz, f.fn, ⟨_, hn'⟩, f.cell, fun y b hy => ?_, ?_⟩ xb
  · unfold upd at hy
    by_cases hyx : y = x
    · rw [if_pos hyx] at hy; cases hy; subst hyx; exact ⟨v, .inl ⟨hk, _, hn', by simp⟩, r.mono kv⟩
    · rw [if_neg hyx] at hy
      obtain ⟨u, g1, g2⟩ := f.vars y b hy
      refine ⟨u, ?_, g2.mono kv⟩
      rcases g1 with ⟨ka, m', hn₁, hv⟩ | ⟨ka, c, hc, o, ho, hd⟩
      · refine .inl ⟨ka, _, hn', ?_⟩
        show (if y = x then _ else m y) = _
        rw [if_neg hyx]
        obtain ⟨o, es, ep, e1, e2, _, e3⟩ := hn
        obtain ⟨o', es', ep', f1, f2, _, f3⟩ := hn₁
        rw [e1] at f1; cases f1; rw [e2] at f2; cases f2
        rw [← e3 y, f3 y]; exact hv
      · exact .inr ⟨ka, c, hc, o, kc c o (f.cellOff hc).1 ho, hd⟩
  · obtain ⟨us, n, h1, h2⟩ := f.acc
    exact ⟨us, n, kc _ _ f.cd.symm h1, h2.mono kv⟩
theorem Cf.append {v : Value} {a : AV} {Q : Value → Shared → Prop} {E : Value → Shared → Prop} (f : Cf K s₀ mk cenv D X s lm xs) (r : Rp (Vw s.heap (cenv.locals :: D :: X)) v a) (hz : xs.length < 1000000)
    (q : ∀ u s', Cf K s₀ mk cenv D X s' lm (xs ++ [a]) → Q u s') : wpAny (model prog w) A (call (.builtin "list.append") [.ref D, v]) Q E s := by
  obtain ⟨us, n, h1, h2⟩ := f.acc
  refine wpAny_list_append_plain ⟨n, h1⟩ (fun h' hp hs => ?_) (by rw [List.size_toArray, h2.length, sizeLine_eq]; omega)
  obtain ⟨n', hp⟩ := hp
  have kc : ∀ b o, b ≠ D → s.heap.get? b = some o → h'.get? b = some o := fun b o hb e => hs.extBut b o hb e
  have xb : ExtB [D] s { s with heap := h' } := ⟨rfl, rfl, rfl, fun b o hb e => kc b o (by simpa using hb) e⟩
  have kv : Sub (Vw s.heap (cenv.locals :: D :: X)) (Vw h' (cenv.locals :: D :: X)) := Vw.keep fun b o hb e => kc b o (fun h => hb (by simp [h])) e
  have rk : ∀ y u, Rd cenv s.heap y u → Rd cenv h' y u := fun y u r => r.keep (fun o e => kc _ o f.cd e) fun c hc o e => kc c o (f.cellOff hc).2 e
  refine q _ _ ⟨f.cx, ⟨f.ext.gens, f.ext.drawn, f.ext.os, fun b o e => kc b o (fun h => by rw [h, f.d0] at e; cases e) (f.ext.keep b o e)⟩, f.c0, f.d0, f.cd, f.since.step xb (fun c hc => by rw [List.mem_singleton.mp hc]; exact f.yz _ (by simp)), f.yz, f.fn, ?_, f.cell, fun y b hy => ?_, ?_⟩
  · obtain ⟨m, h⟩ := f.ns; exact ⟨m, h.at' fun o e => kc _ o f.cd e⟩
  · obtain ⟨u, g1, g2⟩ := f.vars y b hy
    exact ⟨u, rk y u g1, g2.mono kv⟩
  · exact ⟨us ++ [v], n', by simpa using hp, (h2.append (.cons r .nil)).mono kv⟩

theorem ItOk.grow {X' : List Addr} {n : Nat} {it : Nat → AV} {s₁ sI : Shared} {v : Value} (ok : ItOk prog w A X n it s₁ v sI) (x : Ext sI s) (h : ∀ b ∈ X', b ∈ X ∨ sI.heap.get? b = none) : ItOk prog w A X' n it s₁ v s := by
  obtain ⟨I, fp, P, St, a, b, c, W, st, hfp, hfld, hP⟩ := ok
  refine ⟨I, fp, P, St, a, b.trans x, c, W, W.frame _ _ _ st fun b _ o e => x.keep b o e, fun b hb => ?_, hfld, fun i v hv => (hP i v hv).mono fun b o e => ?_⟩
  · obtain ⟨h1, o, h2⟩ := hfp b hb
    refine ⟨fun hm => ?_, o, x.keep _ _ h2⟩
    rcases h b hm with h | h
    · exact h1 h
    · rw [h] at h2; cases h2
  · refine Vw.mk (x.keep _ _ (Vw.get e)) fun hm => ?_
    rcases h b hm with h | h
    · exact Vw.off e h
    · have := Vw.get e; rw [h] at this; cases this

/-- one turn: the next item, its name, and what is done with it -/
def TurnIs (prog : Program) (w : World) (A : Around) (e : Expr) (d : Nat) (x : Str) (px : Pos) (I D : Addr) (cenv : Env) (body : (Shared → Prop) → (Value → Shared → Prop) → Shared → Prop) : Prop :=
  ∀ s (Q : Fin → Shared → Prop) (E : Value → Shared → Prop), wpAny (model prog w) A (pyNext (.ref I)) (fun r s₁ => match r with
    | none => Q (.done .next) s₁
    | some v => wpAny (model prog w) A (assign (.Name x px) cenv v) (fun _ s₂ => body (fun s₃ => Q (.again (.compLoop e d (.ref I) (.ref D) cenv)) s₃) E s₂) E s₁) E s →
    wpAny (model prog w) A (compTurn e d (.ref I) (.ref D) cenv) Q E s

/-- the turns of one clause -/
theorem comp_loop {elt : Expr} {gens : List Comprehension} {scope : Scope} {epos : Pos} {d : Nat} {x : Str} {px : Pos} {I : Addr} {n : Nat} {it : Nat → AV} {R : Result → Shared → Prop} {body : (Shared → Prop) → (Value → Shared → Prop) → Shared → Prop} {s₁ : Shared}
    (heq : TurnIs prog w A (.ListComp elt gens scope epos) d x px I D cenv body)
    (ok : ItOk prog w A (cenv.locals :: D :: X) n it s₁ (.ref I) s) (x₀ : Ext s₀ s₁) (hsb : I ∈ mk.z ∨ mk.sb.heap.get? I = none) (f : Cf K s₀ mk cenv D X s lm xs) (hx : cenv.kindOf x = some .local)
    (J : Nat → LM → List AV → Prop) (j0 : J 0 lm xs)
    (turn : ∀ i lm' xs' s₂ E', i < n → J i lm' xs' → Cf K s₀ ⟨s₂, [cenv.locals, D]⟩ cenv D X s₂ (upd lm' x (it i)) xs' → ∀ Qb : Shared → Prop, (∀ s' lm'' xs'', Cf K s₀ ⟨s₂, [cenv.locals, D]⟩ cenv D X s' lm'' xs'' → J (i + 1) lm'' xs'' → Qb s') → body Qb E' s₂)
    (done : ∀ lm' xs' s', J n lm' xs' → Cf K s₀ mk cenv D X s' lm' xs' → R (.ok .next) s') :
    codeAny (model prog w) A (.compLoop (.ListComp elt gens scope epos) d (.ref I) (.ref D) cenv) R s := by
  obtain ⟨I', fp, P, St, eI, xI, hI0, W, st0, hfp, hfld, hP⟩ := ok
  cases eI
  have hI0' : s₀.heap.get? I = none := by
    cases e : s₀.heap.get? I with
    | none => rfl
    | some o => have := x₀.keep _ _ e; rw [hI0] at this; cases this
  have hIfp : I ∈ fp := W.sub I (by simp)
  have hIX := (hfp I hIfp).1
  have hIC : cenv.locals ≠ I := fun e => hIX (by simp [e])
  have hID : D ≠ I := fun e => hIX (by simp [e])
  refine codeAny_loop rfl (fun k s' => ∃ i lm' xs', k = n + 1 - i ∧ i ≤ n ∧ Cf K s₀ mk cenv D X s' lm' xs' ∧ St i s'.heap ∧ (∀ b o, b ∉ [cenv.locals, D, I] → s.heap.get? b = some o → s'.heap.get? b = some o) ∧ J i lm' xs') ?_ (n + 1)
    ⟨0, lm, xs, rfl, Nat.zero_le _, f, st0, fun _ _ _ e => e, j0⟩
  rintro k s₁' ⟨i, lm₁, xs₁, rfl, hi, f₁, st₁, hk₁, hj⟩
  show wpAny _ A ((compTurn (.ListComp elt gens scope epos) d (.ref I) (.ref D) cenv).onRaise (fun x => do noteFrame x cenv; theTreesLotGoes x)) _ _ s₁'
  refine wpAny_noted ?_
  refine heq _ _ _ ?_
  obtain ⟨oI, vsI, hoI, hdI⟩ := hfld i _ st₁
  have hfpk : ∀ b ∈ fp, b ≠ cenv.locals ∧ b ≠ D := fun b hb => ⟨fun e => (hfp b hb).1 (by simp [e]), fun e => (hfp b hb).1 (by simp [e])⟩
  by_cases hlt : i < n
  · refine W.item i s₁' _ _ hlt st₁ fun v h₂ tk₂ hPv st₂ hk₂ => ?_
    have x₂ : ExtB [I] s₁' { s₁' with heap := h₂, toks := tk₂ } := ⟨rfl, rfl, rfl, hk₂⟩
    have f₂ := f₁.iter hoI hdI hI0' hsb hIC hID x₂
    have hF : FieldsAt (Vw s.heap (cenv.locals :: D :: X)) I := fun o e => by
      obtain ⟨o', vs', e1, e2⟩ := hfld 0 _ st0
      have := Vw.get e
      rw [e1] at this; cases this; exact ⟨vs', e2⟩
    have hv : Rp (Vw h₂ (cenv.locals :: D :: X)) v (it i) := by
      refine ((hP i v hPv).skip hF).mono fun b o e => ?_
      unfold Vout at e
      split at e
      · cases e
      · rename_i hb
        have e1 := Vw.get e
        have e2 := Vw.off e
        have nb : b ∉ [cenv.locals, D, I] := fun hm => by
          simp only [List.mem_cons, List.not_mem_nil, or_false] at hm
          rcases hm with h | h | h
          · exact e2 (by simp [h])
          · exact e2 (by simp [h])
          · exact hb h
        exact Vw.mk (hk₂ b o (by simpa using hb) (hk₁ b o nb e1)) e2
    refine wpAny_assign_Name (f₂.store hv hx fun s₃ f₃ x₃ => ?_)
    have st₃ : St (i + 1) s₃.heap := W.frame _ _ _ st₂ fun b hb o e => x₃.keep b o (by simpa using (hfpk b hb).1) e
    refine turn i lm₁ xs₁ s₃ _ hlt hj f₃.mark _ fun s₄ lm₄ xs₄ f₄ hj₄ => ?_
    refine ⟨rfl, n + 1 - (i + 1), by omega, i + 1, lm₄, xs₄, rfl, hlt, f₄.unmark f₃, ?_, fun b o hb e => ?_, hj₄⟩
    · refine W.frame _ _ _ st₃ fun b hb o e => f₄.since.keep b o ?_ e
      have := hfpk b hb
      simpa using this
    · have hb' : b ≠ cenv.locals ∧ b ≠ D ∧ b ≠ I := by simpa using hb
      have e1 : s₃.heap.get? b = some o := x₃.keep b o (by simpa using hb'.1) (hk₂ b o (by simpa using hb'.2.2) (hk₁ b o hb e))
      exact f₄.since.keep b o (by simpa using ⟨hb'.1, hb'.2.1⟩) e1
  · have hin : i = n := by omega
    subst hin
    refine W.done s₁' _ _ st₁ fun h₂ tk₂ hk₂ => ?_
    have x₂ : ExtB [I] s₁' { s₁' with heap := h₂, toks := tk₂ } := ⟨rfl, rfl, rfl, hk₂⟩
    exact done lm₁ xs₁ _ hj (f₁.iter hoI hdI hI0' hsb hIC hID x₂)
end
end Mine
end

section
set_option maxRecDepth 100000
namespace Mine
open PySem PySem.W PySem.Calls PyProof.Rows

/-- a map that leaves the keys alone, seen from one key -/
theorem lookup_mapKeep {f : Str × NameKind → Str × NameKind} (hf : ∀ p, (f p).1 = p.1) (x : Str) (l : List (Str × NameKind)) : (l.map f).lookup x = (l.lookup x).map fun k => (f (x, k)).2 := by
  induction l with
  | nil => rfl
  | cons p l ih =>
    obtain ⟨y, k⟩ := p
    have e : f (y, k) = (y, (f (y, k)).2) := Prod.ext (hf (y, k)) rfl
    rw [List.map_cons, e, List.lookup_cons, List.lookup_cons, ih]
    by_cases h : x = y
    · subst h; simp
    · rw [beq_eq_false_iff_ne.mpr h]
def reKind (env : Env) (p : Str × NameKind) : Str × NameKind := if (p.2 == NameKind.free && env.scope.kind == .function && env.kindOf p.1 == some .cell) then (p.1, NameKind.cell) else (p.1, p.2)
theorem reKind_key (env : Env) (p : Str × NameKind) : (reKind env p).1 = p.1 := by unfold reKind; split <;> rfl
theorem lookup_reKind (env : Env) (names : List (Str × NameKind)) (x : Str) : (names.map (reKind env)).lookup x = (names.lookup x).map fun k => (reKind env (x, k)).2 := lookup_mapKeep (reKind_key env) x names
theorem lookup_relabel_kept {env : Env} {k' : NameKind} (hk' : k' ≠ .free) {names : List (Str × NameKind)} {x : Str} (h : names.lookup x = some k') : (names.map (reKind env)).lookup x = some k' := by
  rw [lookup_reKind, h, Option.map_some, reKind, if_neg]
  intro hc
  simp only [Bool.and_eq_true, beq_iff_eq] at hc
  exact hk' hc.1.1
theorem lookup_relabel_free {env : Env} (he : env.scope.kind = .function) {names : List (Str × NameKind)} {x : Str} (h : names.lookup x = some .free) (hc : env.kindOf x = some .cell) : (names.map (reKind env)).lookup x = some .cell := by
  rw [lookup_reKind, h, Option.map_some, reKind, if_pos]
  simp only [he, hc, Bool.and_eq_true, beq_self_eq_true, and_self]

/-- the block's environment -/
structure CEnv (scope : Scope) (cl : List (Str × Addr)) (env cenv : Env) : Prop where
  is : cenv = compEnvC scope cl cenv.locals env
  efn : env.scope.kind = .function
  fn : scope.kind = .function
  glob : env.globals = mainGlobals
  bi : env.builtins = builtinsNs
section
variable {scope : Scope} {cl : List (Str × Addr)} {env cenv : Env}
theorem CEnv.names (e : CEnv scope cl env cenv) : cenv.scope = relabel scope env := by rw [e.is]; rfl
theorem CEnv.b {K : Frag} (e : CEnv scope cl env cenv) : BEnv K cenv := ⟨by rw [e.names]; exact e.fn, by rw [e.is]; exact e.glob, by rw [e.is]; exact e.bi⟩
theorem CEnv.gl {x : Str} (e : CEnv scope cl env cenv) (h : scope.names.lookup x = some .globalImplicit := by decide +kernel) : cenv.kindOf x = some .globalImplicit := by
  show cenv.scope.names.lookup x = _
  rw [e.names]
  exact lookup_relabel_kept (by decide) h
theorem CEnv.cells (e : CEnv scope cl env cenv) : cenv.cells = cl := by rw [e.is]; rfl
end

/-- the variables of the frame around that the block reads -/
structure FreeV (scope : Scope) (cl : List (Str × Addr)) (env : Env) (s : Shared) (X : List Addr) (lm : LM) : Prop where
  var : ∀ y a, lm y = some a → scope.names.lookup y = some .free ∧ env.kindOf y = some .cell ∧ ∃ c v, cl.lookup y = some c ∧ s.heap.IsCell c (some v) ∧ Rp (Vw s.heap X) v a
  live : ∀ y c, cl.lookup y = some c → ∃ o, s.heap.get? c = some o

section
variable {prog : Program} {w : World} {A : Around} {env : Env} {X : List Addr} {s s' s₀ : Shared} {K : Frag} {lm : LM} {mk : Mk} {scope : Scope} {cl : List (Str × Addr)}

theorem FreeV.ext (h : FreeV scope cl env s X lm) (x : Ext s s') : FreeV scope cl env s' X lm :=
  ⟨fun y a e => let ⟨h1, h2, c, v, h3, ⟨o, h4, h5⟩, h6⟩ := h.var y a e; ⟨h1, h2, c, v, h3, ⟨o, x.keep _ _ h4, h5⟩, h6.mono (Vw.ext x)⟩, fun y c e => let ⟨o, h⟩ := h.live y c e; ⟨o, x.keep _ _ h⟩⟩

/-- a comprehension up to its end -/
theorem comp_core {elt iter : Expr} {x : Str} {px : Pos} {ifs : List Expr} {rest : List Comprehension} {pos p : Pos} {n : Nat} {it : Nat → AV} {body : Env → Addr → (Shared → Prop) → (Value → Shared → Prop) → Shared → Prop} {use : Option (Value → Sem Unit)} {Q : Value → Shared → Prop} {E : Value → Shared → Prop}
    (hh : A.handled = none) (c : Cx K X s.heap) (hit : Iter prog w A env X s iter n it) (fv : FreeV scope cl env s X lm)
    (he : env.scope.kind = .function) (hg : env.globals = mainGlobals) (hb : env.builtins = builtinsNs)
    (hclos : closureFor scope env = pure cl) (hcell : ∀ y ∈ scope.names, y.2 ≠ .cell) (hkind : scope.kind = .function) (hnames : ∀ x ∈ scope.names, x.2 = .local → scope.names.lookup x.1 = some .local) (hx : scope.names.lookup x = some .local)
    (hs : ∀ x, foldedSetIterable iter env x = pure x)
    (heq : ∀ cenv I D, TurnIs prog w A (.ListComp elt (⟨.Name x px, iter, ifs, 0⟩ :: rest) scope pos) 0 x px I D cenv (body cenv D))
    (J : Nat → LM → List AV → Prop) (j0 : J 0 lm [])
    (turn : ∀ cenv D i lm' xs' s₂ E', CEnv scope cl env cenv → i < n → J i lm' xs' → Cf K s ⟨s₂, [cenv.locals, D]⟩ cenv D X s₂ (upd lm' x (it i)) xs' → ∀ Qb : Shared → Prop, (∀ s' lm'' xs'', Cf K s ⟨s₂, [cenv.locals, D]⟩ cenv D X s' lm'' xs'' → J (i + 1) lm'' xs'' → Qb s') → body cenv D Qb E' s₂)
    (fin : ∀ cenv D lm' xs' s' mk, CEnv scope cl env cenv → J n lm' xs' → Cf K s mk cenv D X s' lm' xs' → compPost (model prog w) A E use Q (.ref D) cenv.locals (.ok .next) s') :
    wpAny (model prog w) A (comprehension (.ListComp elt (⟨.Name x px, iter, ifs, 0⟩ :: rest) scope pos) scope env p (newList []) false (eval iter env) use) Q E s := by
  refine wpAny_comprehension_free (g := ⟨.Name x px, iter, ifs, 0⟩) (gs := rest) rfl hs hclos hkind hnames (hit s _ _ (.refl _) fun v sI ok => ?_)
  obtain ⟨I, rfl⟩ : ∃ I, v = .ref I := by obtain ⟨I, _, _, _, e, _⟩ := ok; exact ⟨I, e⟩
  have xI : Ext s sI := by obtain ⟨_, _, _, _, _, x, _⟩ := ok; exact x
  refine wpAny_newObj_type (wpAny_newFunctionEnv hcell (by intro y hy; simp at hy) (fun h₁ hns₁ hsb₁ => ?_) hkind)
  dsimp only at hns₁ hsb₁ ⊢
  obtain ⟨D, hD⟩ : ∃ D, D = sI.heap.objs.size := ⟨_, rfl⟩
  generalize hH2 : sI.heap.push { cls := .type "list", dict := none, data := .seq ([] : List Value).toArray } = H2 at hns₁ hsb₁ ⊢
  have hC' : H2.objs.size = sI.heap.objs.size + 1 := by rw [← hH2, Heap.size_push]
  rw [hC', ← hD] at hns₁ hsb₁ ⊢
  have dN : sI.heap.get? D = none := by rw [hD]; exact push_none _
  have cN : sI.heap.get? (D + 1) = none := by
    cases e : sI.heap.get? (D + 1) with
    | none => rfl
    | some o => exact absurd (Heap.lt_size e) (by rw [← hD]; exact Nat.not_lt.mpr (Nat.le_succ D))
  have k₁ : Kp sI.heap h₁ := fun b o e => hsb₁.extBut b o (Nat.ne_of_lt (Nat.lt_succ_of_lt (hD ▸ Heap.lt_size e))) (Heap.get?_push_of_some _ (hH2 ▸ Heap.get?_push_of_some _ e))
  have x₁ : Ext sI { sI with heap := h₁, toks := sI.toks + ([] : List (Str × Value)).length } := .of k₁
  have x₁' := xI.trans x₁
  have hDo : h₁.get? D = some (lstO [] 0) := hsb₁.extBut _ _ (Nat.ne_of_lt (Nat.lt_succ_self D)) (Heap.get?_push_of_some _ (by rw [← hH2, hD]; exact Heap.get?_push_size _ rfl))
  have none_s : ∀ b, sI.heap.get? b = none → s.heap.get? b = none := fun b hb => by
    cases e : s.heap.get? b with
    | none => rfl
    | some o => have := xI.keep _ _ e; rw [hb] at this; cases this
  let cenv : Env := compEnvC scope cl (D + 1) env
  have ce : CEnv scope cl env cenv := ⟨rfl, he, hkind, hg, hb⟩
  have cc := c.mono xI.keep
  have hIf : ∃ o, h₁.get? I = some o := by
    obtain ⟨I', fp, P, St, e, _, _, W, _, hfp, _⟩ := ok
    cases e
    obtain ⟨_, o, e⟩ := hfp I (W.sub I (by simp))
    exact ⟨o, k₁ _ _ e⟩
  have fv₁ := fv.ext x₁'
  have f : Cf K s ⟨{ sI with heap := h₁, toks := sI.toks + ([] : List (Str × Value)).length }, [cenv.locals, D, I]⟩ cenv D X { sI with heap := h₁, toks := sI.toks + ([] : List (Str × Value)).length } lm [] := by
    refine ⟨c, x₁', none_s _ cN, none_s _ dN, (by show D + 1 ≠ D; omega), .refl _, fun a ha => .inl (by simp only [List.mem_cons, List.not_mem_nil, or_false] at ha ⊢; rcases ha with h | h <;> simp [h]), (by show (relabel scope env).kind = _; exact hkind), ⟨_, hns₁⟩, fun y c hc => fv.live y c hc, fun y a hy => ?_, ⟨[], 0, hDo, .nil⟩⟩
    obtain ⟨g1, g2, c', v, g3, g4, g5⟩ := fv.var y a hy
    obtain ⟨o, g6, g7⟩ := g4
    refine ⟨v, .inr ⟨lookup_relabel_free he g1 g2, c', g3, o, x₁'.keep _ _ g6, g7⟩, g5.mono fun b ob e => Vw.mk (x₁'.keep _ _ (Vw.get e)) fun hm => ?_⟩
    rcases List.mem_cons.mp hm with h | hm
    · have := Vw.get e; rw [h] at this; have h2 := none_s _ cN; rw [show cenv.locals = D + 1 from rfl, h2] at this; cases this
    rcases List.mem_cons.mp hm with h | hm
    · have := Vw.get e; rw [h, none_s _ dN] at this; cases this
    · exact Vw.off e hm
  have ok' : ItOk prog w A (cenv.locals :: D :: X) n it s (.ref I) { sI with heap := h₁, toks := sI.toks + ([] : List (Str × Value)).length } := ok.grow x₁ fun b hb => by
    rcases List.mem_cons.mp hb with h | hb
    · exact .inr (h ▸ cN)
    rcases List.mem_cons.mp hb with h | hb
    · exact .inr (h ▸ dN)
    · exact .inl hb
  have loop : codeAny (model prog w) A (.compLoop (.ListComp elt (⟨.Name x px, iter, ifs, 0⟩ :: rest) scope pos) 0 (.ref I) (.ref D) cenv) (compPost (model prog w) A E use Q (.ref D) cenv.locals) { sI with heap := h₁, toks := sI.toks + ([] : List (Str × Value)).length } :=
    comp_loop (heq cenv I D) ok' (.refl _) (.inl (by simp)) f (lookup_relabel_local hx) J j0 (fun i lm' xs' s₂ E' hi hj f Qb hq => turn cenv D i lm' xs' s₂ E' ce hi hj f Qb hq) fun lm' xs' s' hj f => fin cenv D lm' xs' s' _ ce hj f
  obtain ⟨I', fp, P, St, e, _, _, W, st0, _⟩ := ok'
  cases e
  exact codeAny_compStart_list loop (W.self 0 _ _ _ st0 loop)

/-- what a block leaves -/
theorem Cf.leave {D : Addr} {cenv : Env} {xs : List AV} {h' : Heap} (f : Cf K s₀ mk cenv D X s lm xs) (hs : Heap.SameBut cenv.locals s.heap h') : Ext s₀ { s with heap := h' } ∧ FreshL X s₀ xs (.ref D) { s with heap := h' } := by
  have kc : ∀ b o, b ≠ cenv.locals → s.heap.get? b = some o → h'.get? b = some o := fun b o hb e => hs.extBut b o hb e
  refine ⟨⟨f.ext.gens, f.ext.drawn, f.ext.os, fun b o e => kc b o (fun h => by rw [h, f.c0] at e; cases e) (f.ext.keep b o e)⟩, ?_⟩
  obtain ⟨vs, n, h1, h2⟩ := f.acc
  refine ⟨D, vs, n, rfl, f.d0, kc _ _ f.cd.symm h1, h2.mono fun b o e => Vw.mk (kc b o (fun h => Vw.off e (by simp [h])) (Vw.get e)) fun hm => Vw.off e (List.mem_cons_of_mem _ hm)⟩

def addB (prog : Program) (w : World) (A : Around) (elt : Expr) (cenv : Env) (D : Addr) (Q : Shared → Prop) (E : Value → Shared → Prop) (s : Shared) : Prop :=
  wpAny (model prog w) A (eval elt cenv) (fun v s₁ => wpAny (model prog w) A (call (.builtin "list.append") [.ref D, v]) (fun _ s₂ => Q s₂) E s₁) E s
/-- the element put in, and on to the next turn -/
theorem addB.on {elt : Expr} {cenv : Env} {D : Addr} {c : Code} {Q : Fin → Shared → Prop} {E : Value → Shared → Prop} (h : addB prog w A elt cenv D (fun s' => Q (.again c) s') E s) :
    wpAny (model prog w) A ((eval elt cenv >>= fun v => call (.builtin "list.append") [.ref D, v] >>= fun _ => pure ()) >>= fun _ => again c) Q E s :=
  wpAny_bind (wpAny_bind (wpAny_mono h (fun _ _ g => wpAny_bind (wpAny_mono g (fun _ _ k => wpAny_pure (wpAny_pure k)) fun _ _ => id)) fun _ _ => id))
theorem turn_plain {elt iter : Expr} {x : Str} {px pos : Pos} {I D : Addr} {cenv : Env} : TurnIs prog w A (.ListComp elt [⟨.Name x px, iter, [], 0⟩] scope pos) 0 x px I D cenv (addB prog w A elt cenv D) := by
  intro s Q E h
  rw [compTurn_list1]
  refine wpAny_bind (wpAny_standAt (wpAny_bind (wpAny_mono h ?_ fun _ _ => id)))
  rintro (_ | v) s₁ g
  · exact wpAny_pure g
  · exact wpAny_bind (wpAny_pure (wpAny_bind (wpAny_mono g (fun _ _ => addB.on) fun _ _ => id)))
theorem turn_if {elt iter t : Expr} {x : Str} {px pos : Pos} {I D : Addr} {cenv : Env} : TurnIs prog w A (.ListComp elt [⟨.Name x px, iter, [t], 0⟩] scope pos) 0 x px I D cenv
    (fun Q E s => wpAny (model prog w) A (isTrue t cenv (eval t cenv)) (fun ok s₁ => if ok = true then addB prog w A elt cenv D Q E s₁ else Q s₁) E s) := by
  intro s Q E h
  rw [compTurn_list]
  refine wpAny_bind (wpAny_standAt (wpAny_bind (wpAny_mono h ?_ fun _ _ => id)))
  rintro (_ | v) s₁ g
  · exact wpAny_pure g
  · refine wpAny_bind (wpAny_pure (wpAny_bind (wpAny_mono g (fun _ s₂ g₂ => wpAny_bind (wpAny_mono (wpAny_tests_one g₂) ?_ fun _ _ => id)) fun _ _ => id)))
    rintro (_ | _) s₃ g₃
    · exact wpAny_pure g₃
    · exact addB.on g₃

/-- [elt for x in iter] -/
theorem evf_comp {elt iter : Expr} {x : Str} {px : Pos} {pos : Pos} {n : Nat} {it el : Nat → AV}
    (hh : A.handled = none) (c : Cx K X s.heap) (hit : Iter prog w A env X s iter n it) (fv : FreeV scope cl env s X lm) (hz : n < 1000000)
    (he : env.scope.kind = .function) (hg : env.globals = mainGlobals) (hb : env.builtins = builtinsNs)
    (hclos : closureFor scope env = pure cl) (hcell : ∀ y ∈ scope.names, y.2 ≠ .cell) (hkind : scope.kind = .function) (hnames : ∀ x ∈ scope.names, x.2 = .local → scope.names.lookup x.1 = some .local) (hx : scope.names.lookup x = some .local) (hlm : lm x = none)
    (hs : ∀ x, foldedSetIterable iter env x = pure x)
    (helt : ∀ cenv D i s₂, CEnv scope cl env cenv → i < n → Vars cenv s₂.heap (cenv.locals :: D :: X) (upd lm x (it i)) → Cx K (cenv.locals :: D :: X) s₂.heap → Ev prog w A cenv (cenv.locals :: D :: X) s₂ elt (el i)) :
    EvF prog w A env X s (.ListComp elt [⟨.Name x px, iter, [], 0⟩] scope pos) ((List.range n).map el) := by
  intro s₁ Q E x₁ q
  rw [eval_ListComp]
  have c₁ := c.mono x₁.keep
  refine comp_core (s := s₁) hh c₁ (fun s₂ Q E x₂ => hit s₂ Q E (x₁.trans x₂)) (fv.ext x₁) he hg hb hclos hcell hkind hnames hx hs (fun cenv I D => turn_plain) (fun i lm' xs' => (∀ y a, lm y = some a → lm' y = some a) ∧ xs' = (List.range i).map el) ⟨fun _ _ h => h, rfl⟩ ?_ ?_
  · rintro cenv D i lm' xs' s₂ E' ce hi ⟨hj, rfl⟩ f Qb hq
    refine Ev.of (helt cenv D i s₂ ce hi (fun y a hy => f.vars y a ?_) f.cxs) fun v s₃ x₃ r => ?_
    · unfold upd at hy ⊢
      split at hy
      · rename_i h; rw [if_pos h]; exact hy
      · rename_i h; rw [if_neg h]; exact hj y a hy
    · refine (f.after x₃).append r (by rw [List.length_map, List.length_range]; omega) fun u s₄ f₄ => hq _ _ _ f₄ ⟨fun y a hy => ?_, ?_⟩
      · have : y ≠ x := fun h => by rw [h, hlm] at hy; cases hy
        unfold upd; rw [if_neg this]; exact hj y a hy
      · rw [List.range_succ, List.map_append]; rfl
  · rintro cenv D lm' xs' s' mk ce ⟨_, rfl⟩ f
    obtain ⟨m, hm⟩ := f.ns
    refine ⟨m, hm, fun h' hs => ?_⟩
    obtain ⟨l1, a, vs, k, l2, l3, l4, l5⟩ := f.leave hs
    refine q _ _ l1 ⟨a, vs, k, l2, ?_, l4, l5⟩
    cases e : s.heap.get? a with
    | none => rfl
    | some o => have := x₁.keep _ _ e; rw [l3] at this; cases this

theorem sub_upd {lm' : LM} {x : Str} {a : AV} (hj : ∀ y a, lm y = some a → lm' y = some a) : ∀ y b, upd lm x a y = some b → upd lm' x a y = some b := fun y b hy => by
  unfold upd at hy ⊢
  split at hy
  · rename_i h; rw [if_pos h]; exact hy
  · rename_i h; rw [if_neg h]; exact hj y b hy
theorem sub_upd' {lm' : LM} {x : Str} {a : AV} (hlm : lm x = none) (hj : ∀ y a, lm y = some a → lm' y = some a) : ∀ y b, lm y = some b → upd lm' x a y = some b := fun y b hy => by
  have : y ≠ x := fun h => by rw [h, hlm] at hy; cases hy
  unfold upd; rw [if_neg this]; exact hj y b hy
def filtA (n : Nat) (p : Nat → Bool) (el : Nat → AV) : List AV := ((List.range n).filter p).map el
theorem filtA_succ (n : Nat) (p : Nat → Bool) (el : Nat → AV) : filtA (n + 1) p el = filtA n p el ++ (if p n = true then [el n] else []) := by
  unfold filtA
  rw [List.range_succ, List.filter_append, List.map_append]
  congr 1
  cases h : p n <;> simp [h]
theorem filtA_len (n : Nat) (p : Nat → Bool) (el : Nat → AV) : (filtA n p el).length ≤ n := by
  unfold filtA
  rw [List.length_map]
  exact Nat.le_trans (List.length_filter_le _ _) (by simp)

/-- [elt for x in iter if t], up to its end -/
theorem compIf_core {elt iter t : Expr} {x : Str} {px : Pos} {pos p : Pos} {n : Nat} {it el : Nat → AV} {pr : Nat → Bool} {use : Option (Value → Sem Unit)} {Q : Value → Shared → Prop} {E : Value → Shared → Prop}
    (hh : A.handled = none) (c : Cx K X s.heap) (hit : Iter prog w A env X s iter n it) (fv : FreeV scope cl env s X lm) (hz : n < 1000000)
    (he : env.scope.kind = .function) (hg : env.globals = mainGlobals) (hb : env.builtins = builtinsNs)
    (hclos : closureFor scope env = pure cl) (hcell : ∀ y ∈ scope.names, y.2 ≠ .cell) (hkind : scope.kind = .function) (hnames : ∀ x ∈ scope.names, x.2 = .local → scope.names.lookup x.1 = some .local) (hx : scope.names.lookup x = some .local) (hlm : lm x = none)
    (hs : ∀ x, foldedSetIterable iter env x = pure x)
    (htst : ∀ cenv D i s₂, CEnv scope cl env cenv → i < n → Vars cenv s₂.heap (cenv.locals :: D :: X) (upd lm x (it i)) → Cx K (cenv.locals :: D :: X) s₂.heap → Ts prog w A cenv s₂ t (pr i))
    (helt : ∀ cenv D i s₂, CEnv scope cl env cenv → i < n → Vars cenv s₂.heap (cenv.locals :: D :: X) (upd lm x (it i)) → Cx K (cenv.locals :: D :: X) s₂.heap → Ev prog w A cenv (cenv.locals :: D :: X) s₂ elt (el i))
    (fin : ∀ cenv D lm' s' mk, CEnv scope cl env cenv → Cf K s mk cenv D X s' lm' (filtA n pr el) → compPost (model prog w) A E use Q (.ref D) cenv.locals (.ok .next) s') :
    wpAny (model prog w) A (comprehension (.ListComp elt [⟨.Name x px, iter, [t], 0⟩] scope pos) scope env p (newList []) false (eval iter env) use) Q E s := by
  refine comp_core hh c hit fv he hg hb hclos hcell hkind hnames hx hs (fun cenv I D => turn_if) (fun i lm' xs' => (∀ y a, lm y = some a → lm' y = some a) ∧ xs' = filtA i pr el) ⟨fun _ _ h => h, rfl⟩ ?_ ?_
  · rintro cenv D i lm' xs' s₂ E' ce hi ⟨hj, rfl⟩ f Qb hq
    have hv : ∀ s₃, Ext s₂ s₃ → Vars cenv s₃.heap (cenv.locals :: D :: X) (upd lm x (it i)) := fun s₃ x₃ y a hy => (f.after x₃).vars y a (sub_upd hj y a hy)
    refine htst cenv D i s₂ ce hi (hv _ (.refl _)) f.cxs s₂ _ _ (.refl _) fun s₃ x₃ => ?_
    have f₃ := f.after x₃
    cases hp : pr i with
    | false =>
      rw [if_neg (by decide)]
      refine hq _ _ _ f₃ ⟨sub_upd' hlm hj, ?_⟩
      rw [filtA_succ, hp]; simp
    | true =>
      rw [if_pos rfl]
      refine Ev.of (helt cenv D i s₃ ce hi (hv _ x₃) f₃.cxs) fun v s₄ x₄ r => ?_
      refine (f₃.after x₄).append r (by have := filtA_len i pr el; omega) fun u s₅ f₅ => hq _ _ _ f₅ ⟨sub_upd' hlm hj, ?_⟩
      rw [filtA_succ, hp]; simp
  · rintro cenv D lm' xs' s' mk ce ⟨_, rfl⟩ f
    exact fin cenv D lm' s' mk ce f

theorem evf_compIf {elt iter t : Expr} {x : Str} {px : Pos} {pos : Pos} {n : Nat} {it el : Nat → AV} {pr : Nat → Bool}
    (hh : A.handled = none) (c : Cx K X s.heap) (hit : Iter prog w A env X s iter n it) (fv : FreeV scope cl env s X lm) (hz : n < 1000000)
    (he : env.scope.kind = .function) (hg : env.globals = mainGlobals) (hb : env.builtins = builtinsNs)
    (hclos : closureFor scope env = pure cl) (hcell : ∀ y ∈ scope.names, y.2 ≠ .cell) (hkind : scope.kind = .function) (hnames : ∀ x ∈ scope.names, x.2 = .local → scope.names.lookup x.1 = some .local) (hx : scope.names.lookup x = some .local) (hlm : lm x = none)
    (hs : ∀ x, foldedSetIterable iter env x = pure x)
    (htst : ∀ cenv D i s₂, CEnv scope cl env cenv → i < n → Vars cenv s₂.heap (cenv.locals :: D :: X) (upd lm x (it i)) → Cx K (cenv.locals :: D :: X) s₂.heap → Ts prog w A cenv s₂ t (pr i))
    (helt : ∀ cenv D i s₂, CEnv scope cl env cenv → i < n → Vars cenv s₂.heap (cenv.locals :: D :: X) (upd lm x (it i)) → Cx K (cenv.locals :: D :: X) s₂.heap → Ev prog w A cenv (cenv.locals :: D :: X) s₂ elt (el i)) :
    EvF prog w A env X s (.ListComp elt [⟨.Name x px, iter, [t], 0⟩] scope pos) (filtA n pr el) := by
  intro s₁ Q E x₁ q
  rw [eval_ListComp]
  refine compIf_core (s := s₁) hh (c.mono x₁.keep) (fun s₂ Q E x₂ => hit s₂ Q E (x₁.trans x₂)) (fv.ext x₁) hz he hg hb hclos hcell hkind hnames hx hlm hs htst helt ?_
  intro cenv D lm' s' mk ce f
  obtain ⟨m, hm⟩ := f.ns
  refine ⟨m, hm, fun h' hs => ?_⟩
  obtain ⟨l1, a, vs, k, l2, l3, l4, l5⟩ := f.leave hs
  refine q _ _ l1 ⟨a, vs, k, l2, ?_, l4, l5⟩
  cases e : s.heap.get? a with
  | none => rfl
  | some o => have := x₁.keep _ _ e; rw [l3] at this; cases this
end
end Mine
end

section
set_option maxRecDepth 100000
namespace Mine
open PySem PySem.W PySem.Calls PyProof.Rows

section
variable {prog : Program} {w : World} {A : Around} {env : Env} {Y X X₀ : List Addr} {s s' s₀ : Shared} {K : Frag} {lm : LM} {om : OM} {mk : Mk} {scope : Scope} {cl : List (Str × Addr)}

/-- an address that only the block knew -/
theorem Fm.take {C : Addr} (f : Fm K s₀ mk env Y X₀ s lm om) (x : Ext s s') (hn : s.heap.get? C = none) (hl : ∃ o, s'.heap.get? C = some o) : Fm K s₀ mk env (C :: Y) X₀ s' lm om := by
  have f' := f.after x
  have hsb : C ∈ mk.z ∨ mk.sb.heap.get? C = none := by
    by_cases hz : C ∈ mk.z
    · exact .inl hz
    · right
      cases e : mk.sb.heap.get? C with
      | none => rfl
      | some o => have := f.since.keep C o hz e; rw [hn] at this; cases this
  have h0 : s₀.heap.get? C = none := by
    cases e : s₀.heap.get? C with
    | none => rfl
    | some o => have := f.ext.keep C o e; rw [hn] at this; cases this
  have sub : Sub (Vw s.heap (Y ++ X₀)) (Vw s'.heap (C :: Y ++ X₀)) := fun b o e => Vw.mk (x.keep _ _ (Vw.get e)) (by
    intro h
    rcases List.mem_cons.mp h with h | h
    · subst h; have := Vw.get e; rw [hn] at this; cases this
    · exact Vw.off e h)
  refine ⟨f.cx, f'.ext, fun a ha => ?_, f'.since, fun a ha => ?_, f'.sto.more fun b hb => List.mem_cons_of_mem _ hb, fun y a hy => ?_, fun y ys hy => ?_, f'.apart⟩
  · rcases List.mem_cons.mp ha with rfl | ha
    · exact ⟨h0, hl⟩
    · exact f'.ys a ha
  · rcases List.mem_cons.mp ha with rfl | ha
    · exact hsb
    · exact f.yz a ha
  · obtain ⟨v, h1, h2⟩ := f.lo y a hy
    exact ⟨v, h1.mono x.keep, h2.mono sub⟩
  · obtain ⟨b, vs, n, g1, g2, g3, g4, g5, g9⟩ := f.ow y ys hy
    exact ⟨b, vs, n, g1.mono x.keep, List.mem_cons_of_mem _ g2, g3, g4, x.keep _ _ g5, g9.mono sub⟩
theorem Fm.drop {C : Addr} (f : Fm K s₀ mk env (C :: Y) X₀ s lm om) (hl : env.locals ∈ Y) (hC : C ∉ Y) (hcell : ∀ y c, env.cells.lookup y = some c → c ∈ Y) (how : ∀ o, s.heap.get? C = some o → ∀ a n, o.data ≠ .seq a n) (x : ExtB [C] s s') : Fm K s₀ mk env Y X₀ s' lm om := by
  have kk : ∀ b o, b ≠ C → s.heap.get? b = some o → s'.heap.get? b = some o := fun b o hb e => x.keep b o (by simpa using hb) e
  have nl : env.locals ≠ C := fun h => hC (h ▸ hl)
  have nc : ∀ y c, env.cells.lookup y = some c → c ≠ C := fun y c h e => hC (e ▸ hcell y c h)
  have rk : ∀ y u, Rd env s.heap y u → Rd env s'.heap y u := fun y u r => r.keep (fun o e => kk _ o nl e) fun c hc o e => kk c o (nc y c hc) e
  have sub : Sub (Vw s.heap (C :: Y ++ X₀)) (Vw s'.heap (Y ++ X₀)) := fun b o e => Vw.mk (kk b o (fun h => Vw.off e (by simp [h])) (Vw.get e)) fun h => Vw.off e (List.mem_cons_of_mem _ h)
  refine ⟨f.cx, ⟨x.gens.trans f.ext.gens, x.drawn.trans f.ext.drawn, x.os.trans f.ext.os, fun b o e => kk b o (fun h => by rw [h, (f.ys C (by simp)).1] at e; cases e) (f.ext.keep b o e)⟩, fun a ha => ⟨(f.ys a (List.mem_cons_of_mem _ ha)).1, let ⟨o, e⟩ := (f.ys a (List.mem_cons_of_mem _ ha)).2; ⟨o, kk a o (fun h => hC (h ▸ ha)) e⟩⟩,
    f.since.step x (fun d hd => by rw [List.mem_singleton.mp hd]; exact f.yz C (by simp)), fun a ha => f.yz a (List.mem_cons_of_mem _ ha), ?_, fun y a e => ?_, fun y xs e => ?_, fun y z a h1 h2 h3 h4 => ?_⟩
  · have st := f.sto.keep (h' := s'.heap) fun b o hb e => kk b o (by
      rcases hb with rfl | ⟨y, hb⟩
      · exact nl
      · exact nc y b hb) e
    exact ⟨st.fn, st.ns, hl, fun y c h => ⟨hcell y c h, (st.cell y c h).2⟩, st.inj⟩
  · obtain ⟨v, h1, h2⟩ := f.lo y a e
    exact ⟨v, rk y v h1, h2.mono sub⟩
  · obtain ⟨a, vs, n, h1, h2, h3, h4, h5, h9⟩ := f.ow y xs e
    have na : a ≠ C := fun h => how _ (h ▸ h5) _ _ rfl
    exact ⟨a, vs, n, rk _ _ h1, (List.mem_cons.mp h2).resolve_left na, h3, h4, kk a _ na h5, h9.mono sub⟩
  · obtain ⟨ys, ey⟩ := Option.ne_none_iff_exists'.mp h3
    obtain ⟨zs, ez⟩ := Option.ne_none_iff_exists'.mp h4
    obtain ⟨b, _, _, g1, _⟩ := f.ow y ys ey
    obtain ⟨c, _, _, g2, _⟩ := f.ow z zs ez
    have e1 := (rk _ _ g1).inj h1
    have e2 := (rk _ _ g2).inj h2
    cases e1; cases e2
    exact f.apart y z a g1 g2 h3 h4

/-- a list of the frame's own that will not change any more -/
theorem Fm.freeze {x : Str} {xs : List AV} (f : Fm K s₀ mk env Y X₀ s lm om) (h : om x = some xs) : ∃ Y', Fm K s₀ mk env Y' X₀ s (upd lm x (.list xs)) (del om x) := by
  obtain ⟨a, vs, n, h1, h2, h3, h4, h5, h9⟩ := f.ow x xs h
  have sub : Sub (Vw s.heap (Y ++ X₀)) (Vw s.heap (Y.filter (· != a) ++ X₀)) := Vw.less fun b hb => by
    rcases List.mem_append.mp hb with h | h
    · exact List.mem_append_left _ (List.mem_filter.mp h).1
    · exact List.mem_append_right _ h
  have inY : ∀ b, b ∈ Y → b ≠ a → b ∈ Y.filter (· != a) := fun b hb hne => List.mem_filter.mpr ⟨hb, by simpa using hne⟩
  refine ⟨Y.filter (· != a), ⟨f.cx, f.ext, fun b hb => f.ys b (List.mem_filter.mp hb).1, f.since, fun b hb => f.yz b (List.mem_filter.mp hb).1, ?_, fun y b hy => ?_, fun y ys hy => ?_, fun y z b g1 g2 g3 g4 => ?_⟩⟩
  · exact ⟨f.sto.fn, f.sto.ns, inY _ f.sto.ly h3.symm, fun y c e => ⟨inY _ (f.sto.cell y c e).1 fun h => h4 y (h ▸ e), (f.sto.cell y c e).2⟩, f.sto.inj⟩
  · unfold upd at hy
    by_cases hyx : y = x
    · rw [if_pos hyx] at hy; cases hy; subst hyx
      refine ⟨_, h1, .list (Vw.mk h5 fun hm => ?_) (h9.mono sub)⟩
      rcases List.mem_append.mp hm with hm | hm
      · have := (List.mem_filter.mp hm).2; simp at this
      · obtain ⟨o, e⟩ := f.cx.live a hm
        rw [(f.ys a h2).1] at e; cases e
    · rw [if_neg hyx] at hy
      obtain ⟨u, g1, g2⟩ := f.lo y b hy
      exact ⟨u, g1, g2.mono sub⟩
  · unfold del at hy
    by_cases hyx : y = x
    · rw [if_pos hyx] at hy; cases hy
    · rw [if_neg hyx] at hy
      obtain ⟨b, us, m, g1, g2, g3, g4, g5, g9⟩ := f.ow y ys hy
      refine ⟨b, us, m, g1, inY _ g2 (fun hba => hyx ?_), g3, g4, g5, g9.mono sub⟩
      subst hba
      exact f.apart y x _ g1 h1 (by rw [hy]; simp) (by rw [h]; simp)
  · unfold del at g3 g4
    by_cases hy : y = x
    · rw [if_pos hy] at g3; exact absurd rfl g3
    · by_cases hz : z = x
      · rw [if_pos hz] at g4; exact absurd rfl g4
      · rw [if_neg hy] at g3; rw [if_neg hz] at g4
        exact f.apart y z b g1 g2 g3 g4

/-- x = [elt for y in iter if t], x a local name -/
theorem st_compIf {v : Str} {elt iter t : Expr} {x : Str} {px pv : Pos} {pos spos : Pos} {n : Nat} {it el : Nat → AV} {pr : Nat → Bool} {lmF : LM} {Q : Flow → Shared → Prop} {E : Value → Shared → Prop} (f : Fm K s₀ mk env Y X₀ s lm om)
    (hh : A.handled = none) (hit : Iter prog w A env (Y ++ X₀) s iter n it) (fv : FreeV scope cl env s (Y ++ X₀) lmF) (hz : n < 1000000)
    (hg : env.globals = mainGlobals) (hb : env.builtins = builtinsNs)
    (hclos : closureFor scope env = pure cl) (hcell : ∀ y ∈ scope.names, y.2 ≠ .cell) (hkind : scope.kind = .function) (hnames : ∀ x ∈ scope.names, x.2 = .local → scope.names.lookup x.1 = some .local) (hx : scope.names.lookup x = some .local) (hlm : lmF x = none)
    (hs : ∀ x, foldedSetIterable iter env x = pure x)
    (htst : ∀ cenv D i s₂, CEnv scope cl env cenv → i < n → Vars cenv s₂.heap (cenv.locals :: D :: (Y ++ X₀)) (upd lmF x (it i)) → Cx K (cenv.locals :: D :: (Y ++ X₀)) s₂.heap → Ts prog w A cenv s₂ t (pr i))
    (helt : ∀ cenv D i s₂, CEnv scope cl env cenv → i < n → Vars cenv s₂.heap (cenv.locals :: D :: (Y ++ X₀)) (upd lmF x (it i)) → Cx K (cenv.locals :: D :: (Y ++ X₀)) s₂.heap → Ev prog w A cenv (cenv.locals :: D :: (Y ++ X₀)) s₂ elt (el i))
    (hk : StoreOk env v) (hsw : swapsWith (.ListComp elt [⟨.Name x px, iter, [t], 0⟩] scope pos) (some (.Name v pv)) spos.line env = pure true)
    (q : ∀ s', Fm K s₀ mk env Y X₀ s' (upd lm v (.list (filtA n pr el))) (del om v) → Q .next s') :
    wpAny (model prog w) A (exec (.Assign [.Name v pv] (.ListComp elt [⟨.Name x px, iter, [t], 0⟩] scope pos) spos) env) Q E s := by
  rw [exec_Assign_Name_used _ _ _ _ hsw]
  refine wpAny_bind (wpAny_standAt (wpAny_bind ?_))
  show wpAny _ _ ((comprehension _ scope env _ (newList []) false (eval iter env) (some (assign (.Name v pv) env))) >>= fun _ => pure ()) _ _ _
  refine wpAny_bind (compIf_core (Q := fun _ s' => wpAny (model prog w) A (pure ()) (fun _ s' => wpAny (model prog w) A (pure Flow.next) Q E s') E s') hh f.cxs hit fv hz f.sto.fn hg hb hclos hcell hkind hnames hx hlm hs htst helt ?_)
  intro cenv D lm' s₁ mk₁ ce g
  have hCl : ∃ o, s₁.heap.get? cenv.locals = some o := g.cxs.live _ (by simp)
  have f₁ := f.take g.ext g.c0 hCl
  have hD : D ∉ cenv.locals :: Y ++ X₀ := fun hm => by
    rcases List.mem_cons.mp hm with h | h
    · exact g.cd h.symm
    · exact f.cxs.off g.d0 h
  have hCY : cenv.locals ∉ Y := fun h => f.cxs.off g.c0 (List.mem_append_left _ h)
  obtain ⟨vs, k, h1, h2⟩ := g.acc
  have rv : Rp (Vw s₁.heap (cenv.locals :: Y ++ X₀)) (.ref D) (.list (filtA n pr el)) := .list (Vw.mk h1 hD) (h2.mono (Vw.less fun b hb => by
    rcases List.mem_cons.mp hb with h | h
    · simp [h]
    · exact List.mem_cons_of_mem _ (List.mem_cons_of_mem _ h)))
  show wpAny (model prog w) A (assign (.Name v pv) env (.ref D)) _ _ _
  refine wpAny_assign_Name (f₁.storeD rv hk fun s₂ f₂ x₂ ⟨d, hd, xd⟩ => ?_)
  have hdC : cenv.locals ≠ d := fun h => by
    rcases hd with rfl | ⟨y, hy⟩
    · exact hCY (h ▸ f.sto.ly)
    · exact hCY (h ▸ (f.sto.cell y d hy).1)
  obtain ⟨m, hm⟩ := g.ns
  have hm₂ : s₂.heap.Ns cenv.locals m := hm.at' fun o e => xd.keep _ _ (by simpa using hdC) e
  refine ⟨m, hm₂, fun h' hs => wpAny_pure (wpAny_pure (q _ ?_))⟩
  refine f₂.drop f.sto.ly hCY (fun y c h => (f.sto.cell y c h).1) (fun o e a n he => ?_) ⟨rfl, rfl, rfl, fun b o hb e => hs.extBut b o (by simpa using hb) e⟩
  obtain ⟨o', es, ep, e1, e2, _⟩ := hm₂
  rw [e] at e1; cases e1; rw [he] at e2; cases e2
end
end Mine
end

section
set_option maxRecDepth 100000
namespace Mine
open PySem PySem.W PySem.Calls PyProof.Rows

section
variable {prog : Program} {w : World} {A : Around} {env : Env} {Y X X₀ : List Addr} {s s' s₀ : Shared} {K : Frag} {lm : LM} {om : OM} {mk : Mk} {scope : Scope} {cl : List (Str × Addr)}

theorem turn_two0 {elt iter iter' : Expr} {x x' : Str} {px px' pos : Pos} {I D : Addr} {cenv : Env} (hA : A.handled = none) (hs : ∀ x, foldedSetIterable iter' cenv x = pure x) :
    TurnIs prog w A (.ListComp elt [⟨.Name x px, iter, [], 0⟩, ⟨.Name x' px', iter', [], 0⟩] scope pos) 0 x px I D cenv
    (fun Q E s => wpAny (model prog w) A (eval iter' cenv) (fun v s₁ => wpAny (model prog w) A (pyIter v) (fun it s₂ =>
      codeAny (model prog w) A (.compStart (.ListComp elt [⟨.Name x px, iter, [], 0⟩, ⟨.Name x' px', iter', [], 0⟩] scope pos) 1 it (.ref D) cenv) (fun r s₃ => match r with | .ok _ => Q s₃ | .error _ => False) s₂) E s₁) E s) := by
  intro s Q E h
  unfold compTurn
  refine wpAny_bind (wpAny_standAt (wpAny_bind (wpAny_mono h (fun r s₁ h₁ => ?_) fun _ _ e => e)))
  cases r with
  | none => exact wpAny_pure h₁
  | some v =>
    refine wpAny_bind (wpAny_pure (wpAny_bind (wpAny_mono h₁ (fun _ s₂ h₂ => ?_) fun _ _ e => e)))
    refine wpAny_bind ?_
    rw [List.forIn_nil]
    refine wpAny_pure ?_
    show wpAny _ _ (eval iter' cenv >>= _) _ _ _
    refine wpAny_bind (wpAny_mono h₂ (fun u s₃ h₃ => ?_) fun _ _ e => e)
    refine wpAny_bind (wpAny_standAt (wpAny_bind (wpAny_of_eq (hs u) ?_)))
    refine wpAny_bind (wpAny_holding (wpAny_mono h₃ (fun it s₄ h₄ => ?_) fun _ _ e => e))
    have eA : A.mark none = A := by obtain ⟨a, b, c, d, e⟩ := A; rfl
    refine wpAny_bind (wpAny_runOwn ?_)
    rw [eA]
    refine codeAny_mono h₄ fun r s₅ h₅ => ?_
    cases r with
    | ok f => exact wpAny_pure h₅
    | error e => exact h₅.elim
theorem turn_two1 {elt iter iter' : Expr} {x x' : Str} {px px' pos : Pos} {I D : Addr} {cenv : Env} :
    TurnIs prog w A (.ListComp elt [⟨.Name x px, iter, [], 0⟩, ⟨.Name x' px', iter', [], 0⟩] scope pos) 1 x' px' I D cenv (addB prog w A elt cenv D) := by
  intro s Q E h
  unfold compTurn
  refine wpAny_bind (wpAny_standAt (wpAny_bind (wpAny_mono h ?_ fun _ _ => id)))
  rintro (_ | v) s₁ g
  · exact wpAny_pure g
  · exact wpAny_bind (wpAny_pure (wpAny_bind (wpAny_mono g (fun _ _ k => wpAny_bind (wpAny_tests_nil (env := cenv) (addB.on k))) fun _ _ => id)))
theorem ite_both {a b : Prop} (c : Prop) [Decidable c] (ha : a) (hb : b) : if c then a else b := by
  by_cases h : c
  · rwa [if_pos h]
  · rwa [if_neg h]
theorem compStart1 {R : Result → Shared → Prop} {elt iter iter' : Expr} {x x' : Str} {px px' pos : Pos} {it acc : Value} {cenv : Env}
    (h0 : codeAny (model prog w) A (.compLoop (.ListComp elt [⟨.Name x px, iter, [], 0⟩, ⟨.Name x' px', iter', [], 0⟩] scope pos) 1 it acc cenv) R s)
    (h : wpAny (model prog w) A (pyIter it) (fun it' s' => codeAny (model prog w) A (.compLoop (.ListComp elt [⟨.Name x px, iter, [], 0⟩, ⟨.Name x' px', iter', [], 0⟩] scope pos) 1 it' acc cenv) R s')
      (notedBy (model prog w) A cenv fun x s' => R (.error x) s') s) :
    codeAny (model prog w) A (.compStart (.ListComp elt [⟨.Name x px, iter, [], 0⟩, ⟨.Name x' px', iter', [], 0⟩] scope pos) 1 it acc cenv) R s := by
  refine codeAny_of_tree (wpAny_notedAt (pos := theWindowsPlace) (env := cenv) ?_)
  unfold compStart
  wp_walk using wpAny_askSetting
  have on : wpAny (model prog w) A (pyIter it >>= fun it' => again (.compLoop (.ListComp elt [⟨.Name x px, iter, [], 0⟩, ⟨.Name x' px', iter', [], 0⟩] scope pos) 1 it' acc cenv))
      (fun fin s' => match fin with | .done f => R (.ok f) s' | .again c' => c'.quiet = true ∧ codeAny (model prog w) A c' R s') (notedBy (model prog w) A cenv fun e s' => R (.error e) s') s :=
    wpAny_bind (wpAny_mono h (fun _ _ k => wpAny_pure ⟨rfl, k⟩) fun _ _ => id)
  refine wpAny_ite (ite_both _ (wpAny_pure ⟨rfl, h0⟩) (wpAny_bind (wpAny_rule (wpAny_bind (wpAny_standAt on)))))

/-- [elt for x in iter for x' in iter'] -/
theorem evf_comp2 {elt iter iter' : Expr} {x x' : Str} {px px' : Pos} {pos : Pos} {n : Nat} {it : Nat → AV} {n' : Nat → Nat} {it' el : Nat → Nat → AV}
    (hh : A.handled = none) (c : Cx K X s.heap) (hit : Iter prog w A env X s iter n it) (fv : FreeV scope cl env s X lm) (hz : n < 1000) (hz' : ∀ i, i < n → n' i < 1000)
    (he : env.scope.kind = .function) (hg : env.globals = mainGlobals) (hb : env.builtins = builtinsNs)
    (hclos : closureFor scope env = pure cl) (hcell : ∀ y ∈ scope.names, y.2 ≠ .cell) (hkind : scope.kind = .function) (hnames : ∀ x ∈ scope.names, x.2 = .local → scope.names.lookup x.1 = some .local) (hx : scope.names.lookup x = some .local) (hx' : scope.names.lookup x' = some .local) (hlm : lm x = none) (hlm' : lm x' = none)
    (hs : ∀ x, foldedSetIterable iter env x = pure x) (hs' : ∀ cenv x, foldedSetIterable iter' cenv x = pure x)
    (hit' : ∀ cenv D i s₂, CEnv scope cl env cenv → i < n → Vars cenv s₂.heap (cenv.locals :: D :: X) (upd lm x (it i)) → Cx K (cenv.locals :: D :: X) s₂.heap → Iter prog w A cenv (cenv.locals :: D :: X) s₂ iter' (n' i) (it' i))
    (helt : ∀ cenv D i j s₂, CEnv scope cl env cenv → i < n → j < n' i → Vars cenv s₂.heap (cenv.locals :: D :: X) (upd lm x' (it' i j)) → Cx K (cenv.locals :: D :: X) s₂.heap → Ev prog w A cenv (cenv.locals :: D :: X) s₂ elt (el i j)) :
    EvF prog w A env X s (.ListComp elt [⟨.Name x px, iter, [], 0⟩, ⟨.Name x' px', iter', [], 0⟩] scope pos) ((List.range n).flatMap fun i => (List.range (n' i)).map (el i)) := by
  intro s₁ Q E x₁ q
  rw [eval_ListComp]
  have c₁ := c.mono x₁.keep
  have eA : A.mark none = A := by obtain ⟨a, b, c, d, e⟩ := A; rfl
  have hlen : ∀ i, i ≤ n → ((List.range i).flatMap fun i => (List.range (n' i)).map (el i)).length ≤ i * 1000 := by
    intro i
    induction i with
    | zero => simp
    | succ i ih =>
      intro hi
      rw [List.range_succ, List.flatMap_append, List.length_append]
      have h1 := ih (by omega)
      have h2 := hz' i (by omega)
      simp only [List.flatMap_cons, List.flatMap_nil, List.append_nil, List.length_map, List.length_range]
      omega
  refine comp_core (s := s₁) hh c₁ (fun s₂ Q E x₂ => hit s₂ Q E (x₁.trans x₂)) (fv.ext x₁) he hg hb hclos hcell hkind hnames hx hs (fun cenv I D => turn_two0 hh (hs' cenv)) (fun i lm' xs' => (∀ y a, lm y = some a → lm' y = some a) ∧ xs' = (List.range i).flatMap fun i => (List.range (n' i)).map (el i)) ⟨fun _ _ h => h, rfl⟩ ?_ ?_
  · rintro cenv D i lm' xs' s₂ E' ce hi ⟨hj, rfl⟩ f Qb hq
    refine hit' cenv D i s₂ ce hi (fun y a hy => f.vars y a (sub_upd hj y a hy)) f.cxs s₂ _ _ (.refl _) fun v sI ok => ?_
    obtain ⟨I, rfl⟩ : ∃ I, v = .ref I := by obtain ⟨I, _, _, _, e, _⟩ := ok; exact ⟨I, e⟩
    have xI : Ext s₂ sI := by obtain ⟨_, _, _, _, _, x, _⟩ := ok; exact x
    have hI : s₂.heap.get? I = none := by obtain ⟨_, _, _, _, e, _, h, _⟩ := ok; cases e; exact h
    have f₃ := f.after xI
    have loop : codeAny (model prog w) A (.compLoop (.ListComp elt [⟨.Name x px, iter, [], 0⟩, ⟨.Name x' px', iter', [], 0⟩] scope pos) 1 (.ref I) (.ref D) cenv) (fun r s₃ => match r with | .ok _ => Qb s₃ | .error _ => False) sI := by
      refine comp_loop turn_two1 ok f.ext (.inr hI) f₃ (by show cenv.scope.names.lookup _ = _; rw [ce.names]; exact lookup_relabel_local hx')
        (fun j lm'' xs'' => (∀ y a, lm y = some a → lm'' y = some a) ∧ xs'' = ((List.range i).flatMap fun i => (List.range (n' i)).map (el i)) ++ (List.range j).map (el i)) ⟨sub_upd' hlm hj, by simp⟩ ?_ ?_
      · rintro j lm'' xs'' s₄ E'' hj' ⟨hk, rfl⟩ g Qc hc
        refine Ev.of (helt cenv D i j s₄ ce hi hj' (fun y a hy => g.vars y a (sub_upd hk y a hy)) g.cxs) fun v s₅ x₅ r => ?_
        refine (g.after x₅).append r ?_ fun u s₆ f₆ => hc _ _ _ f₆ ⟨sub_upd' hlm' hk, ?_⟩
        · have h1 := hlen i (by omega)
          have h2 := hz' i hi
          rw [List.length_append, List.length_map, List.length_range]
          omega
        · rw [List.range_succ, List.map_append, List.append_assoc]; rfl
      · rintro lm'' xs'' s₄ ⟨hk, rfl⟩ g
        refine hq _ _ _ g ⟨hk, ?_⟩
        rw [List.range_succ, List.flatMap_append]; simp
    obtain ⟨I', fp, P, St, e, _, _, W, st0, _⟩ := ok
    cases e
    exact compStart1 loop (W.self 0 _ _ _ st0 loop)
  · rintro cenv D lm' xs' s' mk ce ⟨_, rfl⟩ f
    obtain ⟨m, hm⟩ := f.ns
    refine ⟨m, hm, fun h' hs => ?_⟩
    obtain ⟨l1, a, vs, k, l2, l3, l4, l5⟩ := f.leave hs
    refine q _ _ l1 ⟨a, vs, k, l2, ?_, l4, l5⟩
    cases e : s.heap.get? a with
    | none => rfl
    | some o => have := x₁.keep _ _ e; rw [l3] at this; cases this
end
end Mine
end

section
set_option maxRecDepth 100000
namespace Mine
open PySem PySem.W PySem.Calls PyProof.Rows

def tabS : Str := Str.ofString "\t"
def splitT (x : Str) : List Str :=
  if (decide (x.length < tabS.length) || decide (Builtin.Str.strKind x < Builtin.Str.strKind tabS)) = true then [x]
  else if (Builtin.Str.occurrences x tabS 0 x.length (x.length + 1)).isEmpty = true then [x]
  else Builtin.Str.partsBetween x (Builtin.Str.occurrences x tabS 0 x.length (x.length + 1)) tabS.length
theorem RpL.strs {V : View} : ∀ (xs : List Str) (t : Nat), RpL V (strsFrom t xs) (xs.map AV.str)
  | [], _ => .nil
  | x :: xs, t => .cons (.str _ _) (RpL.strs xs (t + 1))

section
variable {prog : Program} {w : World} {A : Around} {env : Env} {Y X X₀ : List Addr} {s s' s₀ : Shared} {K : Frag} {lm : LM} {om : OM} {mk : Mk} {scope : Scope} {cl : List (Str × Addr)}

theorem split_ok {x : Str} (hz : x.length < 1000) (hn : (splitT x).length < 1000) : CallOk prog w A X (.builtin "str.split") [.str x, .str tabS] (FreshL X s ((splitT x).map AV.str)) s.heap := by
  intro s₁ vs Q E k r q
  obtain ⟨v, u, rfl, rv, ru⟩ := r.two
  cases rv with | str _ tx =>
  cases ru with | str _ tu =>
  unfold splitT at q hn
  have hself : ∀ (q : ∀ v s₂, Ext s₁ s₂ → FreshL X s [AV.str x] v s₂ → Q v s₂), listOfItself x tx A (wants Q E) s₁ := fun q => q _ _ (.of' (Kp.push _ _)) ⟨_, [.str x tx], 0, rfl, fresh_none k, Heap.get?_push_size _ rfl, .cons (.str _ _) .nil⟩
  by_cases h1 : (decide (x.length < tabS.length) || decide (Builtin.Str.strKind x < Builtin.Str.strKind tabS)) = true
  · rw [if_pos h1] at q
    exact call_meets PySem.F.slot_str_split (typeIs_str s₁ _ _) PySem.F.entry_str_split (PySem.F.args_str_split_2 _ _) (meets_str_split_cannot_occur x tabS tx tu h1) (hself q)
  rw [if_neg h1] at q hn
  have h1' := Bool.eq_false_iff.mpr h1
  by_cases h2 : (Builtin.Str.occurrences x tabS 0 x.length (x.length + 1)).isEmpty = true
  · rw [if_pos h2] at q
    exact call_meets PySem.F.slot_str_split (typeIs_str s₁ _ _) PySem.F.entry_str_split (PySem.F.args_str_split_2 _ _) (meets_str_split_not_found x tabS tx tu h1' (by decide +kernel) h2) (hself q)
  rw [if_neg h2] at q hn
  refine call_meets PySem.F.slot_str_split (typeIs_str s₁ _ _) PySem.F.entry_str_split (PySem.F.args_str_split_2 _ _) (meets_str_split_sep x tabS tx tu h1' (by decide +kernel) (Bool.eq_false_iff.mpr h2) (by rw [sizeLine_eq]; omega) (by rw [sizeLine_eq]; omega)) ?_
  exact q _ _ (.of (Kp.push _ _)) ⟨_, _, 0, rfl, fresh_none k, Heap.get?_push_size _ rfl, RpL.strs _ _⟩

theorem evf_split {o e : Expr} {apos pos : Pos} {x : Str} (h1 : Ev prog w A env X s o (.str x)) (h2 : Ev prog w A env X s e (.str tabS)) (hz : x.length < 1000) (hn : (splitT x).length < 1000)
    (hbase : attributeBase o (Str.ofString "split") env (eval o env) = eval o env) (hline : (apos.endLine == pos.line) = true) (hst : starEach [e] env = (false, eval e env) :: starEach [] env) : EvF prog w A env X s (.Call (.Attribute o (Str.ofString "split") apos) [e] [] pos) ((splitT x).map AV.str) :=
  ev_meth1 F.plainAttrs_str PySem.F.slot_str_split F.type_str_split of_str h1 h2 (split_ok hz hn) hbase hline hst
end

def maxOf (ns : List Int) : Int := ns.tail.foldl max (ns.headD 0)
theorem foldl_max : ∀ (l : List Int) (a : Int), (∀ b ∈ l, b ≤ l.foldl max a) ∧ a ≤ l.foldl max a ∧ (l.foldl max a = a ∨ l.foldl max a ∈ l)
  | [], a => ⟨fun _ h => (by cases h), Int.le_refl _, .inl rfl⟩
  | c :: l, a => by
    obtain ⟨h1, h2, h3⟩ := foldl_max l (max a c)
    rw [List.foldl_cons]
    refine ⟨fun b hb => ?_, by omega, ?_⟩
    · rcases List.mem_cons.mp hb with rfl | hb
      · omega
      · exact h1 b hb
    · rcases h3 with h | h
      · rw [h]
        by_cases hac : c ≤ a
        · left; omega
        · right; have : max a c = c := by omega
          rw [this]; exact List.mem_cons_self
      · right; exact List.mem_cons_of_mem _ h
theorem maxOf_is {ns : List Int} {M : Int} (h1 : M ∈ ns) (h2 : ∀ a ∈ ns, a ≤ M) : M = maxOf ns := by
  cases ns with
  | nil => cases h1
  | cons a l =>
    obtain ⟨g1, g2, g3⟩ := foldl_max l a
    show M = l.foldl max a
    have e1 : M ≤ l.foldl max a := by
      rcases List.mem_cons.mp h1 with rfl | h
      · exact g2
      · exact g1 M h
    have e2 : l.foldl max a ≤ M := by
      rcases g3 with h | h
      · rw [h]; exact h2 a List.mem_cons_self
      · exact h2 _ (List.mem_cons_of_mem _ h)
    omega

def longs (leads : List Str) : List Int := leads.flatMap fun l => (splitT l).map fun r => (r.length : Int)
def longest (leads : List Str) : Int := maxOf (longs leads)

section
variable {prog : Program} {w : World} {A : Around} {env : Env} {Y X X₀ : List Addr} {s s' s₀ : Shared} {K : Frag} {lm : LM} {om : OM} {mk : Mk} {scope : Scope} {cl : List (Str × Addr)}
/-- the place that max ends at holds the greatest number -/
theorem best_is (xs : Array (Int × Tok)) (h : 0 < xs.size) : numAt xs (argBest (fun i j => decide (numAt xs i > numAt xs j)) (xs.size - 1)) = maxOf (xs.toList.map (·.1)) := by
  have at_ : ∀ i (hi : i < xs.size), numAt xs i = (xs.toList.map (·.1))[i]'(by simpa using hi) := fun i hi => by simp [numAt, Array.getElem?_eq_getElem hi]
  have best := argBest_gt (numAt xs) (xs.size - 1)
  refine maxOf_is ?_ fun a ha => ?_
  · rw [at_ _ (by omega)]; exact List.getElem_mem _
  · obtain ⟨i, hi, rfl⟩ := List.mem_iff_getElem.mp ha
    rw [List.length_map, Array.length_toList] at hi
    exact at_ i hi ▸ best.2 i (by omega)
theorem maxl_ok {ns : List Int} {h : Heap} (hh : A.handled = none) (hne : 0 < ns.length) : CallOk prog w A X (.builtin "max") [.list (ns.map AV.int)] (fun v _ => ∃ t, v = .int (maxOf ns) t) h := by
  intro s₁ vs Q E k r q
  obtain ⟨v, rfl, rv⟩ := r.one
  cases rv with | list ho rl =>
  rename_i l us n
  obtain ⟨xs, e⟩ := rl.ints.allInts.items
  have same : xs.toList.map (·.1) = ns := by rw [← nums_intItems, ← e]; exact rl.ints.numsOf
  have some_ : 0 < xs.size := by simpa [← same] using hne
  refine max_intList (xs := xs) hh ⟨_, Vw.get ho, rfl, n, by rw [← e]⟩ some_ fun v h' tk hv hk => ?_
  obtain ⟨t, rfl⟩ := intItems_at hv
  exact q _ _ (.of hk) ⟨t, by rw [best_is xs some_, same]⟩
end

theorem Iter.len {prog : Program} {w : World} {A : Around} {env : Env} {X : List Addr} {s : Shared} {e : Expr} {n n' : Nat} {it : Nat → AV} (h : Iter prog w A env X s e n it) (hn : n = n') : Iter prog w A env X s e n' it := hn ▸ h
theorem freeV_none {scope : Scope} {env : Env} {s : Shared} {X : List Addr} : FreeV scope [] env s X noM := ⟨fun y a h => (by cases h), fun y c h => (by cases h)⟩
section
variable {prog : Program} {w : World} {K : Frag}
theorem getD_str (xs : List Str) (i : Nat) (h : i < xs.length) : (xs.map AV.str).getD i AV.none = .str xs[i] := by
  rw [List.getD_eq_getElem?_getD, List.getElem?_map, List.getElem?_eq_getElem h]; rfl
theorem fn_long (T : Kt K) (leads : List Str) (hz : leads.length < 100) (hl : ∀ x ∈ leads, x.length < 100 ∧ (splitT x).length < 100 ∧ ∀ r ∈ splitT x, r.length < 100) (hne : 0 < (longs leads).length) : Fn prog w K 1 142 [.list (leads.map AV.str)] (.int (longest leads)) := by
  refine fn1 (st := longS) (p1 := Str.ofString "leads") T.b T.fLong (fun fd v h1 h2 h3 => params1 h1 h2 h3 fun _ _ _ _ _ _ _ _ _ _ _ _ => rfl) (by decide +kernel) (by decide +kernel) rfl rfl rfl ?_
  intro env s s₁ X A mk R e r f q
  refine wpAny_execs_cons (st_ret f (ev_of_int (i := longest leads) (ev_callB (X := [env.locals] ++ X) (as := [.list ((longs leads).map AV.int)]) (evp_builtin T.b f.cxs e.fn e.glob e.bi e.gl (by decide +kernel) T.nMax (by decide +kernel) (by decide +kernel)) (evl_one ?_ rfl) (maxl_ok r.hd hne) rfl fun _ => rfl)) q rfl)
  refine Ev.cast (EvF.ev (evf_comp2 (lm := noM) (cl := []) (n := leads.length) (it := fun i => (leads.map AV.str).getD i .none) (n' := fun i => (splitT (leads.getD i ⟨#[]⟩)).length) (it' := fun i j => ((splitT (leads.getD i ⟨#[]⟩)).map AV.str).getD j .none) (el := fun i j => .int ((splitT (leads.getD i ⟨#[]⟩)).getD j ⟨#[]⟩).length) r.hd f.cxs ?_ freeV_none (by omega) (fun i hi => ?_) e.fn e.glob e.bi (closureFor_none (by decide +kernel)) (by decide +kernel) rfl (by decide +kernel) (by decide +kernel) (by decide +kernel) rfl rfl (fun _ => rfl) (fun _ _ => rfl) (fun cenv D i s₂ ce hi hv hc => ?_) (fun cenv D i j s₂ ce hi hj hv hc => ?_)) f.cxs) ?_
  · exact (iter_list r.hd f.cxs (lv f upd_eq)).len (List.length_map ..)
  · have hm : leads.getD i ⟨#[]⟩ ∈ leads := by rw [List.getD_eq_getElem?_getD, List.getElem?_eq_getElem hi]; exact List.getElem_mem hi
    have := (hl _ hm).2.1
    omega
  · have hm : leads.getD i ⟨#[]⟩ = leads[i] := by rw [List.getD_eq_getElem?_getD, List.getElem?_eq_getElem hi]; rfl
    have hl' := hl _ (List.getElem_mem hi)
    have h1 := hv
    rw [getD_str leads i hi] at h1
    rw [hm]
    exact (iter_list r.hd hc (EvF.ev (evf_split (x := leads[i]) (ev_var h1 upd_eq (ce.b (K := K)).fn (by decide +kernel)) ev_str (by omega) (by omega) rfl rfl rfl) hc)).len (List.length_map ..)
  · have h1 := hv
    have e1 : (splitT (leads.getD i ⟨#[]⟩)).getD j ⟨#[]⟩ = (splitT (leads.getD i ⟨#[]⟩))[j] := by rw [List.getD_eq_getElem?_getD, List.getElem?_eq_getElem hj]; rfl
    have hm : leads.getD i ⟨#[]⟩ ∈ leads := by rw [List.getD_eq_getElem?_getD, List.getElem?_eq_getElem hi]; exact List.getElem_mem hi
    have hl' := (hl _ hm).2.2 _ (List.getElem_mem hj)
    rw [getD_str _ j hj] at h1
    rw [e1]
    exact ev_lenS T ce.b hc (ev_var h1 upd_eq (ce.b (K := K)).fn (by decide +kernel)) (by omega) ce.gl rfl
  · congr 1
    unfold longs
    rw [List.map_flatMap]
    have e1 : ∀ l : List Str, (l.map fun r => AV.int (r.length : Int)) = (List.range l.length).map fun j => AV.int ((l.getD j ⟨#[]⟩).length : Int) := by
      intro l
      refine List.ext_getElem (by simp) fun j h1 h2 => ?_
      have hj : j < l.length := by simpa using h1
      simp only [List.getElem_map, List.getElem_range]
      rw [List.getD_eq_getElem?_getD, List.getElem?_eq_getElem hj]; rfl
    have e2 : ∀ l : List Str, (List.range l.length).flatMap (fun i => (List.range (splitT (l.getD i ⟨#[]⟩)).length).map fun j => AV.int (((splitT (l.getD i ⟨#[]⟩)).getD j ⟨#[]⟩).length : Int)) = l.flatMap fun x => ((splitT x).map fun r => (r.length : Int)).map AV.int := by
      intro l
      have e3 : l = (List.range l.length).map fun i => l.getD i ⟨#[]⟩ := by
        refine List.ext_getElem (by simp) fun j h1 h2 => ?_
        simp only [List.getElem_map, List.getElem_range]
        rw [List.getD_eq_getElem?_getD, List.getElem?_eq_getElem h1]; rfl
      have e4 : l.flatMap (fun x => ((splitT x).map fun r => (r.length : Int)).map AV.int) = ((List.range l.length).map fun i => l.getD i ⟨#[]⟩).flatMap fun x => ((splitT x).map fun r => (r.length : Int)).map AV.int := by rw [← e3]
      rw [e4, List.flatMap_map]
      congr 1
      funext i
      rw [List.map_map, ← e1]; rfl
    exact e2 leads
end
end Mine
end

section
set_option maxRecDepth 100000
namespace Mine
open PySem PySem.W PySem.Calls PyProof.Rows

section
variable {prog : Program} {w : World} {A : Around} {env : Env} {Y X X₀ : List Addr} {s s' s₀ : Shared} {K : Frag} {lm : LM} {om : OM} {mk : Mk}

theorem RpL.dropLast {V : View} {vs : List Value} {xs : List AV} (r : RpL V vs xs) : RpL V vs.dropLast xs.dropLast := by
  rw [List.dropLast_eq_take, List.dropLast_eq_take, r.length]
  exact r.take _

theorem st_pop {x : Str} {xp apos pos pos' : Pos} {xs : List AV} {Q : Flow → Shared → Prop} {E : Value → Shared → Prop} (f : Fm K s₀ mk env Y X₀ s lm om) (h : om x = some xs) (hne : 0 < xs.length) (hz : xs.length < 1000000)
    (hd : (x == ("__debug__" : Str)) = false) (hbase : attributeBase (.Name x xp) (Str.ofString "pop") env (eval (.Name x xp) env) = eval (.Name x xp) env) (hline : (apos.endLine == pos.line) = true) (hsw : swapsWith (.Call (.Attribute (.Name x xp) (Str.ofString "pop") apos) [] [] pos) none pos'.line env = pure false)
    (q : ∀ s', Fm K s₀ mk env Y X₀ s' lm (upd om x xs.dropLast) → Q .next s') : wpAny (model prog w) A (exec (.Expr (.Call (.Attribute (.Name x xp) (Str.ofString "pop") apos) [] [] pos) pos') env) Q E s := by
  refine wpAny_Expr_any ?_ (by show (env.scope.kind == .module && _) = false; rw [f.sto.fn]; rfl) hsw
  obtain ⟨a₀, vs₀, n₀, h1, _⟩ := f.change (ys := xs.dropLast) h
  refine wpAny_Call_method0_late hbase hline (evp_var h1 f.sto.fn hd s _ _ (.refl _) fun v s₁ x₁ ev => ?_)
  subst ev
  obtain ⟨a₁, vs, n, g1, g2, g3, g4⟩ := (f.after x₁).change (ys := xs.dropLast) h
  have := (h1.mono x₁.keep).inj g1; cases this
  refine ⟨"list", "list.pop", F.plainAttrs_list, F.slot_list_pop, F.type_list_pop, ⟨_, g2, rfl⟩, fun b e => by cases e; exact ⟨_, g2, rfl⟩, callWith_method0 (env := env) ?_⟩
  have hlen := g3.length
  have hl : vs.toArray[vs.toArray.size - 1]? = some (vs[vs.length - 1]'(by omega)) := by
    rw [List.size_toArray, List.getElem?_toArray, List.getElem?_eq_getElem (by omega)]
  refine call_meets PySem.F.slot_list_pop ⟨_, g2, rfl⟩ PySem.F.entry_list_pop (PySem.F.args_list_pop_1 _) (PySem.MeetsSeq.list_pop_last a₀ vs.toArray n _ hl (by rw [List.size_toArray, sizeLine_eq]; omega)) ⟨g2, ?_⟩
  have e1 : vs.toArray.eraseIdxIfInBounds (vs.toArray.size - 1) = vs.dropLast.toArray := by
    apply Array.toList_inj.mp
    rw [Array.eraseIdxIfInBounds_eq, dif_pos (by rw [List.size_toArray]; omega)]
    simp [List.dropLast_eq_take, List.eraseIdx_eq_take_drop_succ]
    omega
  obtain ⟨n', e⟩ : ∃ n', Obj.mapSeq (fun xs => xs.eraseIdxIfInBounds (vs.toArray.size - 1)) (lstO vs n) = lstO vs.dropLast n' := by
    refine ⟨if vs.dropLast.toArray.size == vs.toArray.size then n else n + 1, ?_⟩
    unfold Obj.mapSeq
    dsimp only [lstO]
    rw [e1]
  exact q _ (g4 _ vs.dropLast n' ⟨rfl, rfl, rfl, fun b o hb e => (Heap.get?_update_ne _ _ _ _ (by simpa using hb)).trans e⟩ (e ▸ Heap.get?_update_self _ g2 (e ▸ rfl)) g3.dropLast)
end

/-! _law_nanny -/
def eqB (d d' : Wd) : Bool := decide (d.cnt = d'.cnt ∧ d.tr = d'.tr)
def wd0 : Wd := wsOf ⟨#[]⟩
def popTo (r : List Wd) (d : Wd) : List Wd := r.dropWhile fun e => !eqB e d
def nanGo : List Wd → List Wd → List Int → List Int
  | [], _, acc => acc
  | d :: ds, r, acc =>
    if lessB (r.headD wd0) d = true then nanGo ds (d :: r) (acc ++ [(r.length : Int)])
    else if popTo r d = [] then acc else nanGo ds (popTo r d) (acc ++ [((popTo r d).length : Int) - 1])
def nanOf (ds : List Wd) : List Int := nanGo ds [wd0] []
def stk (r : List Wd) : List AV := r.reverse.map AV.ws
theorem stk_len (r : List Wd) : (stk r).length = r.length := by simp [stk]
theorem stk_cons (d : Wd) (r : List Wd) : stk (d :: r) = stk r ++ [.ws d] := by simp [stk]
theorem stk_tail (d : Wd) (r : List Wd) : (stk (d :: r)).dropLast = stk r := by rw [stk_cons, List.dropLast_concat]
theorem stk_last (d : Wd) (r : List Wd) : (stk (d :: r))[(-1 + ((stk (d :: r)).length : Int)).toNat]? = some (.ws d) := by
  have e : (-1 + ((stk (d :: r)).length : Int)).toNat = (stk r).length := by rw [stk_len, stk_len, List.length_cons]; omega
  rw [e, stk_cons, List.getElem?_append_right (Nat.le_refl _), Nat.sub_self]; rfl

section
variable {prog : Program} {w : World} {K : Frag}
theorem fn_nan (T : Kt K) (W : Kw K) (lines : List Str) (hz : lines.length < 100) (hl : ∀ x ∈ lines, x.length < 200) : Fn prog w K 3 156 [.list (lines.map AV.str)] (.list ((nanOf (lines.map wsOf)).map AV.int)) := by
  refine fn1 (st := nanS) (p1 := Str.ofString "lines") T.b T.fNan (fun fd v h1 h2 h3 => params1 h1 h2 h3 fun _ _ _ _ _ _ _ _ _ _ _ _ => rfl) (by decide +kernel) (by decide +kernel) rfl rfl rfl ?_
  intro env s s₁ X A mk R e r f q
  have ok0 : Wok wd0 := wsOk _ (by decide +kernel)
  refine wpAny_execs_cons (st_assign_own f (xs := stk [wd0]) (evf_list (evl_one (ev_call f.cxs (evp_global T.b f.cxs e.fn e.glob e.gl (by decide +kernel) T.gWs) W.keepC (evl_one ev_str rfl) (fn_ws T W ⟨#[]⟩ (by decide +kernel) A _ s₁ (r.le (by decide)) f.cxs) rfl fun _ => rfl) rfl) (by show 1 ≤ sizeLine; decide)) e.loc rfl fun a₂ s₂ f₂ => ?_)
  refine wpAny_execs_cons (st_assign_own f₂ (xs := (([] : List Int).map AV.int)) (evf_list evl_nil (by decide)) e.loc rfl fun a₃ s₃ f₃ => ?_)
  refine wpAny_execs_cons (st_for f₃ ((iter_list r.hd f₃.cxs (lv f₃ (dl (dl upd_eq)))).len (List.length_map ..)) e.loc
    (fun i lm om => ∃ st acc, om (Str.ofString "stack") = some (stk st) ∧ om (Str.ofString "depths") = some (acc.map AV.int) ∧ st ≠ [] ∧ (∀ d ∈ st, Wok d) ∧ st.length ≤ i + 1 ∧ acc.length ≤ i ∧ nanGo ((lines.map wsOf).drop i) st acc = nanOf (lines.map wsOf)) (fun _ _ => False)
    ⟨[wd0], [], up upd_eq, upd_eq, by simp, fun d hd => by rw [List.mem_singleton.mp hd]; exact ok0, by simp, by simp, rfl⟩ ?_ ?_ (fun _ => rfl))
  · rintro i Y' lm' om' s₄ E' hi ⟨st, acc, hs, ha, hne, hok, hl1, hl2, hg⟩ f₄
    have hit := getD_str lines i hi
    rw [hit] at f₄
    have hi' : i < (lines.map wsOf).length := by simpa using hi
    have hdrop : (lines.map wsOf).drop i = wsOf lines[i] :: (lines.map wsOf).drop (i + 1) := by rw [List.drop_eq_getElem_cons hi', List.getElem_map]
    have hlen : lines[i].length < 200 := hl _ (List.getElem_mem hi)
    have okd := wsOk lines[i] hlen
    rw [hdrop, nanGo] at hg
    obtain ⟨t, st', rfl⟩ : ∃ t st', st = t :: st' := by cases st with | nil => exact absurd rfl hne | cons t st' => exact ⟨t, st', rfl⟩
    have okt := hok t List.mem_cons_self
    rw [List.headD_cons] at hg
    refine wpAny_execs_cons (st_assign f₄ (ev_call f₄.cxs (evp_global T.b f₄.cxs e.fn e.glob e.gl (by decide +kernel) T.gWs) W.keepC (evl_one (lv f₄ upd_eq) rfl) (fn_ws T W lines[i] hlen A _ s₄ (r.le (by decide)) f₄.cxs) rfl fun _ => rfl) e.loc rfl fun s₅ f₅ => ?_)
    have hs₅ : (del (del om' (Str.ofString "line")) (Str.ofString "here")) (Str.ofString "stack") = some (stk (t :: st')) := dl (dl hs)
    have ha₅ : (del (del om' (Str.ofString "line")) (Str.ofString "here")) (Str.ofString "depths") = some (acc.map AV.int) := dl (dl ha)
    refine wpAny_execs_cons (wpAny_mono (Q := fun fl s' => match fl with
        | .next => ∃ Y'' lm'' om'' r', Fm K s ⟨s₄, Y'⟩ env Y'' X s' lm'' om'' ∧ om'' (Str.ofString "stack") = some (stk r') ∧ om'' (Str.ofString "depths") = some (acc.map AV.int) ∧ r' ≠ [] ∧ (∀ d ∈ r', Wok d) ∧ r'.length ≤ i + 2 ∧ nanGo ((lines.map wsOf).drop (i + 1)) r' (acc ++ [(r'.length : Int) - 1]) = nanOf (lines.map wsOf)
        | .ret v => R v s'
        | _ => False) (E := E') ?_ ?_ fun _ _ h => h)
    · refine st_if (ts_val (X := []) (ev_wsm W T.fLess f₅.cx0 (ev_itemN (a := .ws t) (ev_own f₅ hs₅ (by decide +kernel)) (ev_neg ev_int) (by decide) (by rw [stk_len, List.length_cons]; omega) (stk_last t st') (by decide) (fun _ _ => rfl)) W.mLess W.tLess (by decide +kernel) (evl_one (ev_var f₅.v0 upd_eq f₅.sto.fn (by decide +kernel)) rfl) (fn_less T W t (wsOf lines[i]) okt okd A [] s₅ (r.le (by decide)) f₅.cx0) rfl rfl rfl) rfl) fun s₆ x₆ => ?_
      have f₆ := f₅.after x₆
      by_cases h1 : lessB t (wsOf lines[i]) = true
      · rw [if_pos h1]
        rw [if_pos h1] at hg
        refine wpAny_execs_cons (st_append f₆ hs₅ (lv f₆ upd_eq) (by rw [stk_len]; omega) (by decide +kernel) rfl rfl rfl fun s₇ f₇ => ?_)
        refine wpAny_execs_nil ⟨_, _, _, wsOf lines[i] :: t :: st', f₇, by rw [stk_cons (wsOf lines[i])]; exact upd_eq, up ha₅, by simp, ?_, by rw [List.length_cons]; omega, ?_⟩
        · intro d hd
          rcases List.mem_cons.mp hd with rfl | hd
          · exact okd
          · exact hok d hd
        · rw [← hg, List.length_cons]
          congr 2
          push_cast; simp
      · rw [if_neg h1]
        rw [if_neg h1] at hg
        refine wpAny_execs_cons (st_while f₆ (fun k lm om => ∃ r', k = r'.length ∧ lm (Str.ofString "here") = some (.ws (wsOf lines[i])) ∧ om (Str.ofString "stack") = some (stk r') ∧ om (Str.ofString "depths") = some (acc.map AV.int) ∧ (∀ d ∈ r', Wok d) ∧ r'.length ≤ i + 1 ∧ popTo r' (wsOf lines[i]) = popTo (t :: st') (wsOf lines[i])) _ ⟨t :: st', rfl, upd_eq, hs₅, ha₅, hok, hl1, rfl⟩ ?_)
        rintro k Y'' lm'' om'' s₇ ⟨r', rfl, k1, k2, k3, k4, k5, k6⟩ f₇
        refine ⟨decide (0 < (r'.length : Int)) && !eqB (r'.headD wd0) (wsOf lines[i]), ts_and (Ts.cast (ts_cmp (X := []) (ev_lenL T e.b f₇.cx0 (ev_own f₇ k2 (by decide +kernel)) (by rw [stk_len]; omega) e.gl rfl) ev_int cmp_gt rfl) (by rw [stk_len])) (fun hb => ?_), fun hb s₈ E'' f₈ => ?_, fun hb s₈ f₈ => ?_⟩
        · have hb' : 0 < (r'.length : Int) := by simpa using hb
          obtain ⟨t', r'', rfl⟩ : ∃ t' r'', r' = t' :: r'' := by cases r' with | nil => exact absurd hb' (by simp) | cons t' r'' => exact ⟨t', r'', rfl⟩
          rw [List.headD_cons]
          exact ts_not (ts_val (X := []) (ev_wsm W T.fEqu f₇.cx0 (ev_itemN (a := .ws t') (ev_own f₇ k2 (by decide +kernel)) (ev_neg ev_int) (by decide) (by rw [stk_len, List.length_cons]; omega) (stk_last t' r'') (by decide) (fun _ _ => rfl)) W.mEqu W.tEqu (by decide +kernel) (evl_one (ev_var f₇.v0 k1 f₇.sto.fn (by decide +kernel)) rfl) (fn_equ T W t' (wsOf lines[i]) A [] s₇ (r.le (by decide)) f₇.cx0) rfl rfl rfl) rfl)
        · obtain ⟨hb1, hb2⟩ := Bool.and_eq_true_iff.mp hb
          have hb1' : 0 < (r'.length : Int) := by simpa using hb1
          obtain ⟨t', r'', rfl⟩ : ∃ t' r'', r' = t' :: r'' := by cases r' with | nil => exact absurd hb1' (by simp) | cons t' r'' => exact ⟨t', r'', rfl⟩
          rw [List.headD_cons] at hb2
          refine wpAny_execs_cons (st_pop f₈ k2 (by rw [stk_len, List.length_cons]; omega) (by rw [stk_len]; omega) (by decide +kernel) rfl rfl rfl fun s₉ f₉ => ?_)
          rw [stk_tail] at f₉
          refine wpAny_execs_nil ⟨r''.length, by rw [List.length_cons]; omega, _, _, _, f₉, r'', rfl, k1, upd_eq, up k3, fun d hd => k4 d (List.mem_cons_of_mem _ hd), by rw [List.length_cons] at k5; omega, ?_⟩
          rw [← k6]
          unfold popTo
          rw [List.dropWhile_cons, if_pos hb2]
        · have hr : popTo r' (wsOf lines[i]) = r' := by
            cases r' with
            | nil => rfl
            | cons t' r'' =>
              have hb' : (!eqB t' (wsOf lines[i])) = false := by
                rw [Bool.and_eq_false_iff] at hb
                rcases hb with h | h
                · exact absurd h (by simp)
                · rw [List.headD_cons] at h; exact h
              unfold popTo
              rw [List.dropWhile_cons, if_neg (by rw [hb']; decide)]
          rw [hr] at k6
          rw [← k6] at hg
          refine wpAny_execs_cons (st_if (Ts.cast (ts_cmp (X := []) (ev_lenL T e.b f₈.cx0 (ev_own f₈ k2 (by decide +kernel)) (by rw [stk_len]; omega) e.gl rfl) ev_int cmp_eq rfl) (show _ = decide (r' = []) by rw [stk_len]; cases r' <;> simp; omega)) fun s₉ x₉ => ?_)
          have f₉ := f₈.after x₉
          by_cases h2 : r' = []
          · rw [if_pos (decide_eq_true h2)]
            rw [if_pos h2] at hg
            rw [hg] at k3
            exact wpAny_execs_cons (st_return_own f₉ k3 (by decide +kernel) q)
          · rw [if_neg (by simpa using h2)]
            rw [if_neg h2] at hg
            exact wpAny_execs_nil (wpAny_execs_nil ⟨_, _, _, r', f₉, k2, k3, h2, k4, by omega, hg⟩)
    · rintro fl s₅ hm
      cases fl with
      | next =>
        obtain ⟨Y'', lm'', om'', r', f₅, g1, g2, g3, g4, g5, g6⟩ := hm
        refine wpAny_execs_cons (st_append f₅ g2 (a := .int ((r'.length : Int) - 1)) ?_ (by rw [List.length_map]; omega) (by decide +kernel) rfl rfl rfl fun s₆ f₆ => ?_)
        · exact (Ev.cast (ev_sub (ev_lenL T e.b f₅.cx0 (ev_own f₅ g1 (by decide +kernel)) (by rw [stk_len]; omega) e.gl rfl) ev_int) (by rw [stk_len])).imm
        · exact wpAny_execs_nil ⟨_, _, _, f₆, r', acc ++ [(r'.length : Int) - 1], up g1, by rw [List.map_append]; exact upd_eq, g3, g4, by omega, by rw [List.length_append, List.length_singleton]; omega, g6⟩
      | ret v => exact hm
      | brk => exact hm.elim
      | cont => exact hm.elim
  · rintro Y' lm' om' s₄ hj f₄
    obtain ⟨st, acc, hs, ha, hne, hok, hl1, hl2, hg⟩ := hj.resolve_right id
    have e1 : (lines.map wsOf).drop lines.length = [] := List.drop_eq_nil_of_le (by rw [List.length_map]; exact Nat.le_refl _)
    rw [e1, nanGo] at hg
    rw [hg] at ha
    exact wpAny_execs_cons (st_return_own f₄ ha (by decide +kernel) q)
end
end Mine
end

section
set_option maxRecDepth 100000
namespace Mine
open PySem PySem.W PySem.Calls PyProof.Rows

section
variable {prog : Program} {w : World} {A : Around} {env : Env} {Y X X₀ : List Addr} {s s' s₀ : Shared} {K : Frag} {lm : LM} {om : OM} {mk : Mk}

/-- all kept but a table -/
structure ButT (Z : Addr) (s s' : Shared) : Prop where
  keep : ∀ b o, b ≠ Z → s.heap.get? b = some o → s'.heap.get? b = some o
  was : ∃ o vs, s.heap.get? Z = some o ∧ o.data = .fields vs
  is : ∃ o, s'.heap.get? Z = some o

theorem ButT.rp {Z : Addr} (x : ButT Z s s') {v : Value} {a : AV} (r : Rp (Vw s.heap X) v a) : Rp (Vw s'.heap X) v a := by
  have hF : FieldsAt (Vw s.heap X) Z := fun o' e => by
    obtain ⟨o, vs, h1, h2⟩ := x.was
    have := Vw.get e; rw [h1] at this; cases this; exact ⟨vs, h2⟩
  refine (r.skip hF).mono fun b o e => ?_
  unfold Vout at e
  split at e
  · cases e
  · rename_i h; exact Vw.mk (x.keep b o h (Vw.get e)) (Vw.off e)
theorem ButT.rpl {Z : Addr} (x : ButT Z s s') : ∀ {vs : List Value} {xs : List AV}, RpL (Vw s.heap X) vs xs → RpL (Vw s'.heap X) vs xs
  | _, _, .nil => .nil
  | _, _, .cons h r => .cons (x.rp h) (x.rpl r)
theorem ButT.cx {Z : Addr} (x : ButT Z s s') (hK : K.lookup Z = none) (c : Cx K X s.heap) : Cx K X s'.heap := by
  obtain ⟨oz, vz, z1, z2⟩ := x.was
  refine ⟨fun a o e => x.keep a o (fun h => by rw [h, hK] at e; cases e) (c.top a o e), ?_, fun a ha => ?_⟩
  · obtain ⟨mb, ⟨o, es, ep, h1, h2, h3⟩, hb⟩ := c.bi
    refine ⟨mb, ⟨o, es, ep, x.keep _ _ (fun h => ?_) h1, h2, h3⟩, hb⟩
    rw [h, z1] at h1; cases h1; rw [z2] at h2; cases h2
  · obtain ⟨o, e⟩ := c.live a ha
    by_cases h : a = Z
    · rw [h]; exact x.is
    · exact ⟨o, x.keep a o h e⟩

/-- the frame on a new ground -/
theorem Fm.rebase {Z : Addr} (f : Fm K s₀ mk env Y X₀ s lm om) (x : ButT Z s s') (hK : K.lookup Z = none) (hZ : Z ∉ Y) : Fm K { s' with heap := hideAll s'.heap Y } ⟨s', Y⟩ env Y X₀ s' lm om := by
  have kk : ∀ b o, b ≠ Z → s.heap.get? b = some o → s'.heap.get? b = some o := x.keep
  have nl : env.locals ≠ Z := fun h => hZ (h ▸ f.sto.ly)
  have nc : ∀ y c, env.cells.lookup y = some c → c ≠ Z := fun y c h e => hZ (e ▸ (f.sto.cell y c h).1)
  have rk : ∀ y u, Rd env s.heap y u → Rd env s'.heap y u := fun y u r => r.keep (fun o e => kk _ o nl e) fun c hc o e => kk c o (nc y c hc) e
  have c' := x.cx hK f.cxs
  have offY : ∀ b o, s₀.heap.get? b = some o → b ∉ Y := fun b o e h => by rw [(f.ys b h).1] at e; cases e
  refine ⟨⟨fun a o e => hideAll_get _ (c'.top a o e) (offY a o (f.cx.top a o e)), ?_, fun a ha => ?_⟩, ⟨rfl, rfl, rfl, fun b o e => of_hideAll _ e⟩, fun a ha => ⟨hideAll_none _ ha, c'.live a (List.mem_append_left _ ha)⟩, .refl _, fun a ha => .inl ha, ?_, fun y a e => ?_, fun y xs e => ?_, fun y z a h1 h2 h3 h4 => ?_⟩
  · obtain ⟨mb, ⟨o, es, ep, h1, h2, h3⟩, hb⟩ := c'.bi
    obtain ⟨_, ⟨o', _, _, g1, _⟩, _⟩ := f.cx.bi
    exact ⟨mb, ⟨o, es, ep, hideAll_get _ h1 (offY _ _ g1), h2, h3⟩, hb⟩
  · obtain ⟨o, e⟩ := c'.live a (List.mem_append_right _ ha)
    obtain ⟨o', e'⟩ := f.cx.live a ha
    exact ⟨o, hideAll_get _ e (offY _ _ e')⟩
  · refine f.sto.keep fun b o hb e => kk b o ?_ e
    rcases hb with rfl | ⟨y, hb⟩
    · exact nl
    · exact nc y b hb
  · obtain ⟨v, h1, h2⟩ := f.lo y a e
    exact ⟨v, rk y v h1, x.rp h2⟩
  · obtain ⟨a, vs, n, h1, h2, h3, h4, h5, h9⟩ := f.ow y xs e
    exact ⟨a, vs, n, rk _ _ h1, h2, h3, h4, kk a _ (fun h => hZ (h ▸ h2)) h5, x.rpl h9⟩
  · obtain ⟨ys, ey⟩ := Option.ne_none_iff_exists'.mp h3
    obtain ⟨zs, ez⟩ := Option.ne_none_iff_exists'.mp h4
    obtain ⟨b, _, _, g1, _⟩ := f.ow y ys ey
    obtain ⟨c, _, _, g2, _⟩ := f.ow z zs ez
    have e1 := (rk _ _ g1).inj h1
    have e2 := (rk _ _ g2).inj h2
    cases e1; cases e2
    exact f.apart y z a g1 g2 h3 h4

def intS (k : Int) : Str := Str.ofString (toString k)
theorem ev_strOf (T : Kt K) (b : BEnv K env) (c : Cx K X s.heap) {e : Expr} {p pos : Pos} {k : Int} (h : Ev prog w A env X s e (.int k)) (h0 : -1000000 < k) (h1 : k < 1000000) (hx : env.kindOf (Str.ofString "str") = some .globalImplicit)
    (he : starEach [e] env = (false, eval e env) :: starEach [] env) : Ev prog w A env X s (.Call (.Name (Str.ofString "str") p) [e] [] pos) (.str (intS k)) := by
  refine ev_callT (T := "str") (evp_builtin T.b c b.fn b.glob b.bi hx (by decide +kernel) T.nStr (by decide +kernel) (by decide +kernel)) (evl_one h he) (fun s₁ vs Q E _ r q => ?_) he fun _ => rfl
  obtain ⟨v, rfl, rv⟩ := r.one
  cases rv
  refine str_of_int_fit (N := 1000000) (by split <;> omega) (by decide) fun _ => q _ _ (.tok s₁ _) (.str _ _)
end

/-- what format_witnesses reads off the top -/
structure Kf (K : Frag) : Prop where
  code : (fdIn K 123).code = .ref 122
  bi : ∃ bm o, nsIn K mainGlobals (Str.ofString "__builtins__") = some (some (.ref bm)) ∧ bm ≠ builtinsNs ∧ K.lookup bm = some o ∧ o.cls = .type "module" ∧ o.dict = some builtinsNs ∧ o.data = .plain
  no : K.lookup 118 = none

section
variable {prog : Program} {w : World} {A : Around} {env : Env} {Y X X₀ : List Addr} {s s' s₀ : Shared} {K : Frag} {lm : LM} {om : OM} {mk : Mk}
theorem builtinsFor_K {Q : Addr → Shared → Prop} {E : Value → Shared → Prop} {M : Model} (F : Kf K) (c : Cx K X s.heap) {run : Addr} (q : Q builtinsNs s) : wpAny M A (builtinsFor mainGlobals run) Q E s := by
  obtain ⟨bm, ⟨cl, di, da, sl⟩, h1, h2, h3, rfl, rfl, rfl⟩ := F.bi
  unfold builtinsFor
  wp_walk using (looks_nsIn c.top h1).here
  exact wpAny_load (c.top _ _ h3) (wpAny_pure q)

theorem GenAt.move {a C : Addr} {g : Nat} {fp wr : List Addr} {pz : Nat → Bool} {n₀ : Nat} {F : Nat → Value → Prop} {j : Nat} (h : GenAt prog w A a g C fp wr pz n₀ F j s) (hg : s'.gens = s.gens) (hs : cStatics ∈ fp) (hk : ∀ b ∈ a :: C :: fp, ∀ o, s.heap.get? b = some o → s'.heap.get? b = some o) : GenAt prog w A a g C fp wr pz n₀ F j s' := by
  obtain ⟨⟨o, nm, qn, ho, r⟩, ⟨mc, hns, hnn⟩, gs, hgs, hgo⟩ := h
  refine ⟨⟨o, nm, qn, hk a (List.mem_cons_self ..) o ho, r⟩, ⟨mc, hns.at' fun o e => hk cStatics (List.mem_cons_of_mem _ (List.mem_cons_of_mem _ hs)) o e, hnn⟩, gs, by rw [hg]; exact hgs, fun s'' hal => hgo s'' fun b hb o e => hal b hb o (hk b (List.mem_cons_of_mem _ hb) o e)⟩
end
end Mine
end

section
set_option maxRecDepth 100000
set_option maxHeartbeats 0
namespace Mine
open PySem PySem.W PySem.Calls PyProof.Rows

def witItems (ts : List Int) (f1 f2 : Int → Int) : List AV := ts.map fun t => .tup [.int t, .int (f1 t), .int (f2 t)]
def joinT (sep : Str) (ts : List Int) : Str := Txt.join sep (ts.map intS)
def sizesT (ts : List Int) : Str := (if 1 < (ts.length : Int) then Str.ofString "at tab size" ++ Str.ofString "s" else Str.ofString "at tab size")
def fmtT (ts : List Int) : Str := sizesT ts ++ Str.ofString " " ++ joinT (Str.ofString ", ") ts

def stVal : Stmt → Expr
  | .Assign _ v _ => v
  | _ => .Name (Str.ofString "") default
def geElt : Expr → Expr
  | .GeneratorExp e _ _ _ => e
  | x => x
def geIter : Expr → Expr
  | .GeneratorExp _ (⟨_, i, _, _⟩ :: _) _ _ => i
  | x => x
def gePx : Expr → Pos
  | .GeneratorExp _ (⟨.Name _ p, _, _, _⟩ :: _) _ _ => p
  | _ => default
def geScope : Expr → Scope
  | .GeneratorExp _ _ sc _ => sc
  | _ => default
def gePos : Expr → Pos
  | .GeneratorExp _ _ _ p => p
  | _ => default
def genX : Expr := stVal (nthS (bodyOf fmtS) 0)
def genC : Expr := .GeneratorExp (geElt genX) [⟨.Name (Str.ofString "tup") (gePx genX), geIter genX, [], 0⟩] (geScope genX) (gePos genX)

theorem intS_len {t : Int} (h : 0 ≤ t ∧ t < 100) : (intS t).length ≤ 102 := by
  have h1 := len_str_of_int t
  show (Str.ofString (toString t)).length ≤ 102
  omega
theorem joinT_len (ts : List Int) (hb : ∀ t ∈ ts, 0 ≤ t ∧ t < 100) : (joinT (Str.ofString ", ") ts).length ≤ ts.length * 104 := by
  unfold joinT
  have h2 : (Txt.join (Str.ofString ", ") (ts.map intS)).length ≤ ((ts.map intS).map (·.length)).sum + (ts.map intS).length * (Str.ofString ", ").length := by
    show (Builtin.Str.glued (Str.ofString ", ") (ts.map intS)).length ≤ _
    rw [StrLaws.glued_eq_join]
    exact StrLaws.join_length_le _ _
  have h3 : (Str.ofString ", ").length = 2 := by decide +kernel
  have h4 : ∀ l : List Int, (∀ t ∈ l, 0 ≤ t ∧ t < 100) → ((l.map intS).map (·.length)).sum ≤ l.length * 102 := by
    intro l
    induction l with
    | nil => intro _; simp
    | cons a l ih =>
      intro hl
      have h1 := intS_len (hl a List.mem_cons_self)
      have h5 := ih fun t ht => hl t (List.mem_cons_of_mem _ ht)
      rw [List.map_cons, List.map_cons, List.sum_cons, List.length_cons, Nat.add_mul, Nat.one_mul]
      omega
  have h5 := h4 ts hb
  rw [List.length_map, h3] at h2
  omega

/-- what a call that makes a generator leaves -/
structure After (s s' : Shared) : Prop where
  keep : ∀ b o, b ≠ 118 → s.heap.get? b = some o → s'.heap.get? b = some o
  table : ∃ more, s'.heap.TableAt 122 118 (#[] ++ more)
  os : s'.os = s.os
  gens : AllBare s.gens → AllBare s'.gens

section
variable {prog : Program} {w : World} {A : Around} {env : Env} {Y X X₀ : List Addr} {s s' s₀ : Shared} {K : Frag}

theorem enter_coreC {n : Nat} {f : Addr} {st : Stmt} {vs : List Value} {binds : List (Str × Value)} {Q E : Value → Shared → Prop} (B : Kb K) (F : FnIs K f st) (r : Room A (n + 1)) (c : Cx K X s.heap)
    (hb : ∀ fd : FuncData, fd.params = paramsOf st → fd.defaults = .none → fd.kwdefaults = .none → bindArgs fd ⟨vs, []⟩ = pure binds)
    (hcell : ∀ x ∈ (scopeOf st).names, x.2 ≠ .cell) (hloc : ∀ x ∈ binds, (scopeOf st).names.lookup x.1 = some .local)
    (hco : (scopeOf st).isCoroutine = false) (hgen : (scopeOf st).isGenerator = false) (hk : (scopeOf st).kind = .function)
    (h : ∀ (env : Env) (s₁ : Shared) (A' : Around), FEnv st env → env.code = (fdIn K f).code → s.heap.get? env.locals = none → Room A' n → Ext s s₁ → s₁.heap.Ns env.locals (fun x => binds.reverse.lookup x) →
      wpAny (model prog w) A' (execs (bodyOf st) env) (fun fl s' => Q (flowV fl) s') (fun _ _ => False) s₁) :
    wpAny (model prog w) A (call (.ref f) vs) Q E s := by
  obtain ⟨o, ho, hd⟩ := F.get
  have hcd := codeRec_of c.top F.code
  refine wpAny_call (codeAny_call_def (fd := fdIn K f) (by have := r.dp; omega) (c.top _ _ ho) hd (noLimit_of B c.top) hcd F.body (BindsTo.of_eq (hb _ F.params F.dflt F.kwd)) (by rw [F.scope]; exact hcell) (by rw [F.scope]; exact hloc) (fun h₀ hn hk₀ => ?_) (by rw [F.scope]; exact hco) (by rw [F.scope]; exact hgen) (by rw [F.scope]; exact hk))
  refine wpAny_mono (h (callEnv (fdIn K f) s.heap.objs.size f) _ _ ⟨F.scope, F.glob, F.bi, F.clos, by show (fdIn K f).scope.kind = _; rw [F.scope]; exact hk⟩ rfl (push_none _) (r.deeper _) (.of hk₀) hn) (fun fl s' q => ?_) fun _ _ x => x.elim
  cases fl <;> exact q

theorem fmt_call (T : Kt K) (F : Kf K) (ts : List Int) (f1 f2 : Int → Int) (hz : ts.length < 1000) (hb : ∀ t ∈ ts, 0 ≤ t ∧ t < 100) {wv : Value} {Q E : Value → Shared → Prop} (r : Room A 1) (c : Cx K X s.heap) (hIC : s.heap.IsCode 122 118 #[]) (hTA : s.heap.TableAt 122 118 #[])
    (rv : Rp (Vw s.heap X) wv (.list (witItems ts f1 f2))) (q : ∀ t s', After s s' → Q (.str (fmtT ts) t) s') : wpAny (model prog w) A (call (.ref 123) [wv]) Q E s := by
  refine enter_coreC (st := fmtS) (binds := [(Str.ofString "w", wv)]) T.b T.fFmt r c (fun fd h1 h2 h3 => params1 h1 h2 h3 fun _ _ _ _ _ _ _ _ _ _ _ _ => rfl) (by decide +kernel) (by intro x hx; simp at hx; subst hx; dsimp only; decide +kernel) rfl rfl rfl fun env s₁ A' e hcode hl r' x₁ hn => ?_
  have f₁ := fm_start (lm := upd noM (Str.ofString "w") (.list (witItems ts f1 f2))) e c hl x₁ hn (fun y a hy => by
    unfold upd at hy
    by_cases h1 : y = Str.ofString "w"
    · rw [if_pos h1] at hy; cases hy; subst h1
      exact ⟨by show env.scope.names.lookup _ = _; rw [e.scope]; decide +kernel, wv, by simp, rv⟩
    rw [if_neg h1] at hy; cases hy)
  have h118 : (118 : Addr) ≠ env.locals := fun h => by rw [← h, hTA.2] at hl; cases hl
  refine wpAny_execs_cons (wpAny_Assign_Name (wpAny_GeneratorExp_make (cl := []) rfl (closureFor_none (by decide +kernel)) (by decide +kernel) (by decide +kernel) rfl (by have := r'.dp; omega) ((lv f₁ upd_eq) s₁ _ _ (.refl _) fun xv s₂ x₂ rw_ => ?_) (fun _ => rfl)) rfl)
  cases rw_ with
  | list ho rl =>
    rename_i ax vs nx
    have hl2 : s₂.heap.IsList ax vs.toArray := ⟨_, Vw.get ho, rfl, nx, rfl⟩
    refine wpAny_pyIter_list hl2 ?_
    have f₂ := f₁.after x₂
    have x₃ : Ext s₂ { s₂ with heap := s₂.heap.push { cls := .type "list_iterator", data := .fields #[.ref ax, .int 0 0] } } := .of' (Kp.push _ _)
    have f₃ := f₂.after x₃
    have k₃ := (x₁.trans x₂).trans x₃
    refine ⟨noLimit_of T.b f₃.cxs.top, wpAny_genexprCodeX (hcode.trans F.code) (hIC.keeps k₃.keep) (hTA.keeps k₃.keep) rfl fun c' h4 tk hex hc1 hc2 hIs hRec hTab _ => ?_⟩
    rw [e.glob]
    let s₃ : Shared := { s₂ with heap := s₂.heap.push { cls := .type "list_iterator", data := .fields #[.ref ax, .int 0 0] } }
    have b₄ : ButT 118 s₃ { s₃ with heap := h4, toks := tk } := ⟨fun b o hb e => hex b o hb e, ⟨_, _, k₃.keep _ _ hTA.2, rfl⟩, ⟨_, hTab.2⟩⟩
    refine builtinsFor_K F (b₄.cx F.no f₃.cxs) ?_
    intro h' hn' hs'
    have kC : ∀ b o, h4.get? b = some o → h'.get? b = some o := fun b o e => hs'.extBut b o (Nat.ne_of_lt (Heap.lt_size e)) (Heap.get?_push_of_some _ e)
    have hsz : h'.objs.size = h4.objs.size + 1 := by rw [hs'.1, Heap.size_push]
    have hC : ∃ C, C = h4.objs.size := ⟨_, rfl⟩
    obtain ⟨C, hC⟩ := hC
    rw [← hC] at hn' hs' hsz
    have hII : s₂.heap.objs.size < C := by
      have h1 : s₂.heap.objs.size < s₃.heap.objs.size := by show _ < (s₂.heap.push _).objs.size; rw [Heap.size_push]; exact Nat.lt_succ_self _
      exact Nat.lt_of_lt_of_le h1 (Nat.le_trans hc1 (hC ▸ Nat.le_of_lt hc2))
    have liveC : ∀ b o, s₃.heap.get? b = some o → b < C := fun b o e => by
      by_cases hb : b = 118
      · rw [hb, hC]; exact Heap.lt_size hTab.2
      · rw [hC]; exact Heap.lt_size (hex b o hb e)
    have hL3 : ∃ o, s₃.heap.get? env.locals = some o := f₃.cxs.live _ (by simp)
    obtain ⟨s₆, hs₆⟩ : ∃ s₆ : Shared, s₆ = { s₃ with gens := s₃.gens.push (.fresh (.compStart genC 0 (.ref s₂.heap.objs.size) .none (genEnv (geScope genX) [] h4.objs.size (.ref c') builtinsNs env))), toks := tk + 1 + 1 + 1, heap := h'.push { cls := .type "generator", data := .fields #[.int s₃.gens.size 0, .str "<genexpr>" (tk + 1), .str (env.qual ++ "<genexpr>") (tk + 1 + 1)] } } := ⟨_, rfl⟩
    have e6h : s₆.heap = h'.push { cls := .type "generator", data := .fields #[.int s₃.gens.size 0, .str "<genexpr>" (tk + 1), .str (env.qual ++ "<genexpr>") (tk + 1 + 1)] } := by rw [hs₆]
    have e6g : s₆.gens = s₃.gens.push (.fresh (.compStart genC 0 (.ref s₂.heap.objs.size) .none (genEnv (geScope genX) [] C (.ref c') builtinsNs env))) := by rw [hs₆, hC]
    have e6o : s₆.os = s₃.os := by rw [hs₆]
    refine Eq.mp (congrArg (fun st => wpAny (model prog w) A' (storeName env (Str.ofString "firsts") (.ref h'.objs.size)) _ _ st) hs₆) ?_
    clear hs₆
    have k46 : ∀ b o, h4.get? b = some o → s₆.heap.get? b = some o := fun b o e => by rw [e6h]; exact Heap.get?_push_of_some _ (kC b o e)
    have b₆ : ButT 118 s₃ s₆ := ⟨fun b o hb e => k46 b o (hex b o hb e), b₄.was, ⟨_, k46 _ _ hTab.2⟩⟩
    have f₆ := f₃.rebase b₆ F.no (by simpa using h118)
    have haC : h'.objs.size = C + 1 := hsz
    have nL : env.locals < C := let ⟨o, e⟩ := hL3; liveC _ o e
    have hhA : A'.handled = none := r'.hd
    -- the generator's ground
    let fp : List Addr := (List.range C).filter fun b => b != env.locals
    have inFp : ∀ b, b < C → b ≠ env.locals → b ∈ fp := fun b h1 h2 => List.mem_filter.mpr ⟨List.mem_range.mpr h1, by simpa using h2⟩
    have fpIs : ∀ b, b ∈ fp → b < C ∧ b ≠ env.locals := fun b hb => ⟨List.mem_range.mp (List.mem_filter.mp hb).1, by simpa using (List.mem_filter.mp hb).2⟩
    have hIn : s₂.heap.get? s₂.heap.objs.size = none := push_none _
    have hIL : s₂.heap.objs.size ≠ env.locals := fun h => by
      obtain ⟨o, e⟩ := f₂.cxs.live env.locals (by simp)
      rw [← h, hIn] at e; cases e
    have hax : ax ≠ s₂.heap.objs.size := Nat.ne_of_lt (Heap.lt_size (Vw.get ho))
    have hxL : ax ≠ env.locals := fun h => Vw.off ho (by simp [h])
    have W₀ : ∀ A'' : Around, A''.handled = none → Walks prog w A'' s₂.heap.objs.size fp [s₂.heap.objs.size] vs.toArray.size (fun i v => vs.toArray[i]? = some v) (fun i h => h.IsListIter s₂.heap.objs.size ax i ∧ h.IsList ax vs.toArray) := fun A'' hA => (Walks.list hA s₂.heap.objs.size ax hax vs.toArray).mono_fp fun b hb => by
      simp only [List.mem_cons, List.not_mem_nil, or_false] at hb
      rcases hb with rfl | rfl
      · exact inFp _ hII hIL
      · exact inFp _ (liveC _ _ (x₃.keep _ _ (Vw.get ho))) hxL
    have c₆ := f₆.cxs
    have hcs : cStatics < C ∧ cStatics ≠ env.locals ∧ cStatics ≠ s₂.heap.objs.size := by
      obtain ⟨m, ⟨o, es, ep, g1, g2⟩, _⟩ := noLimit_of T.b c.top
      have g3 := k₃.keep _ _ g1
      refine ⟨liveC _ _ g3, fun h => ?_, fun h => ?_⟩
      · rw [h, hl] at g1; cases g1
      · have := x₂.keep _ _ (x₁.keep _ _ g1); rw [h, hIn] at this; cases this
    let gv : Env := genEnv (geScope genX) [] C (.ref c') builtinsNs env
    let FF : Nat → Value → Prop := fun i y => ∃ t, y = .str (intS (ts.getD i 0)) t
    have quiet : QuietGen prog w gv (Str.ofString "tup") [] (geElt genX) fp [s₂.heap.objs.size] (fun i v => vs.toArray[i]? = some v) (fun _ => true) FF s₆.heap := by
      refine ⟨fun A'' E'' i v s₉ m₉ hA hP hn₉ hm₉ hk₉ => ?_, fun A'' E'' i v s₉ m₉ hA hP _ hn₉ hm₉ hk₉ => ?_⟩
      · rw [List.forIn_nil]; exact wpAny_pure ⟨rfl, (Ext.refl s₉).keeps⟩
      · have hP' : vs[i]? = some v := by simpa using hP
        obtain ⟨y, ey, ry⟩ := rl.get' hP'
        have hi : i < ts.length := by
          have := (List.getElem?_eq_some_iff.mp ey).1
          unfold witItems at this; rw [List.length_map] at this; exact this
        have ey' : y = .tup [.int ts[i], .int (f1 ts[i]), .int (f2 ts[i])] := by
          unfold witItems at ey
          rw [List.getElem?_map, List.getElem?_eq_getElem hi] at ey
          exact (Option.some.inj ey).symm
        subst ey'
        have hti : ts.getD i 0 = ts[i] := by rw [List.getD_eq_getElem?_getD, List.getElem?_eq_getElem hi]; rfl
        have k29 : ∀ b o, b ≠ 118 → b ≠ env.locals → s₂.heap.get? b = some o → s₉.heap.get? b = some o := fun b o h1 h2 e => by
          have e3 := x₃.keep b o e
          exact hk₉ b (inFp b (liveC b o e3) h2) (by
            intro hm
            rw [List.mem_singleton.mp hm, hIn] at e; cases e) o (b₆.keep b o h1 e3)
        have hF : FieldsAt (Vw s₂.heap ([env.locals] ++ X)) 118 := fun o e => by
          have := Vw.get e
          rw [(x₁.trans x₂).keep _ _ hTA.2] at this; cases this; exact ⟨_, rfl⟩
        have r₉ : Rp (Vw s₉.heap []) v (.tup [.int ts[i], .int (f1 ts[i]), .int (f2 ts[i])]) := (ry.skip hF).mono fun b o e => by
          unfold Vout at e
          split at e
          · cases e
          · rename_i h
            exact Vw.mk (k29 b o h (fun hb => Vw.off e (by simp [hb])) (Vw.get e)) (by simp)
        have c₉ : Cx K [] s₉.heap := by
          have c₂ := f₂.cx.mono f₂.ext.keep
          refine ⟨fun a o e => k29 a o (fun h => by rw [h, F.no] at e; cases e) (fun h => ?_) (c₂.top a o e), ?_, fun a ha => by cases ha⟩
          · have := f₁.cx.top a o e; rw [h, hl] at this; cases this
          · obtain ⟨mb, ⟨o, es, ep, g1, g2, g3⟩, gb⟩ := f₁.cx.bi
            refine ⟨mb, ⟨o, es, ep, k29 _ _ (fun h => ?_) (fun h => ?_) ((x₁.trans x₂).keep _ _ g1), g2, g3⟩, gb⟩
            · rw [h, hTA.2] at g1; cases g1; cases g2
            · rw [h, hl] at g1; cases g1
        have bE : BEnv K gv := ⟨by show (geScope genX).kind = _; decide +kernel, e.glob, rfl⟩
        have vE : Vars gv s₉.heap [] (upd noM (Str.ofString "tup") (.tup [.int ts[i], .int (f1 ts[i]), .int (f2 ts[i])])) := fun y a hy => by
          unfold upd at hy
          by_cases h1 : y = Str.ofString "tup"
          · rw [if_pos h1] at hy; cases hy; subst h1
            exact ⟨v, .inl ⟨by show (geScope genX).names.lookup _ = _; decide +kernel, m₉, hn₉, hm₉⟩, r₉⟩
          rw [if_neg h1] at hy; cases hy
        have hbi := hb ts[i] (List.getElem_mem hi)
        refine Ev.of (ev_strOf (k := ts[i]) T bE c₉ (ev_itemT (a := .int ts[i]) (ev_var vE upd_eq bE.fn (by decide +kernel)) ev_int (by decide) rfl (by decide) (fun _ _ => rfl)) (by omega) (by omega) (by show (geScope genX).names.lookup _ = _; decide +kernel) rfl) fun y s₁₀ x₁₀ ry => ?_
        cases ry
        exact ⟨⟨_, by rw [hti]⟩, x₁₀.keeps⟩
    have hgen : s₆.heap.IsGen h'.objs.size s₃.gens.size := ⟨_, _, _, by rw [e6h]; exact Heap.get?_push_size _ rfl, rfl, rfl, rfl⟩
    have ga : GenAt prog w A'.in1.in1 h'.objs.size s₃.gens.size C fp [s₂.heap.objs.size] (fun _ => true) vs.toArray.size FF 0 s₆ := by
      refine GenAt.fresh (A := A'.in1.in1) (elt := geElt genX) (iter := geIter genX) (px := gePx genX) (scope := geScope genX) (pos := gePos genX) (ifs := []) (x := Str.ofString "tup") (cenv := gv) (m := fun y => if y = (".0" : Str) then some (.ref s₂.heap.objs.size) else none) hhA W₀ (fun _ => true) FF (by show (geScope genX).names.lookup _ = _; decide +kernel) (by show (((geScope genX).kind == .class) || (((geScope genX).kind == .module) && _)) = false; rfl) (by show (geScope genX).isCoroutine = false; decide +kernel) (fun hm => ?_) quiet hgen (by rw [e6g]; exact Array.getElem?_push_size ..) ?_ (by rw [e6h]; exact hn'.push _) (noLimit_of T.b c₆.top)
      · have := (fpIs _ hm).1; exact absurd this (Nat.lt_irrefl _)
      · have st3 : s₃.heap.IsListIter s₂.heap.objs.size ax 0 ∧ s₃.heap.IsList ax vs.toArray := ⟨⟨_, Heap.get?_push_size _ rfl, rfl, rfl⟩, hl2.push _⟩
        have W := Walks.list (prog := prog) (w := w) (A := A') hhA s₂.heap.objs.size ax hax vs.toArray
        refine W.frame _ _ _ st3 fun b hb o e => b₆.keep b o (fun h => ?_) e
        simp only [List.mem_cons, List.not_mem_nil, or_false] at hb
        rcases hb with hb | hb
        · rw [← hb, h, (x₁.trans x₂).keep _ _ hTA.2] at hIn; cases hIn
        · have := Vw.get ho; rw [← hb, h, (x₁.trans x₂).keep _ _ hTA.2] at this; cases this
    have WS := WalksS.genexpQ (prog := prog) (w := w) (A := A'.in1.in1) hhA h'.objs.size s₃.gens.size C fp [s₂.heap.objs.size] (fun _ => true) vs.toArray.size FF (by rw [haC]; exact Nat.succ_ne_self _) (fun hm => absurd (fpIs _ hm).1 (by rw [haC]; exact Nat.not_lt.mpr (Nat.le_succ C))) (fun b hb => by rw [List.mem_singleton.mp hb]; exact inFp _ hII hIL) (by have := r'.dp; show A'.depth < _; omega) (inFp _ hcs.1 hcs.2.1) (Nat.ne_of_lt hcs.1) (by simpa using hcs.2.2)
    -- firsts, prefix
    refine f₆.store (.obj h'.objs.size) e.loc fun s₇ f₇ x₇ => ?_
    refine wpAny_execs_cons (st_assign f₇ ev_str e.loc rfl fun s₈ f₈ => ?_)
    refine wpAny_execs_cons (wpAny_mono (Q := fun fl s' => fl = .next ∧ ∃ lm' om', Fm K { s₆ with heap := hideAll s₆.heap [env.locals] } ⟨s₆, [env.locals]⟩ env [env.locals] X s' lm' om' ∧ lm' (Str.ofString "firsts") = some (.obj h'.objs.size) ∧ lm' (Str.ofString "prefix") = some (.str (sizesT ts))) (E := fun _ _ => False) ?_ ?_ fun _ _ h => h)
    · have ll : (witItems ts f1 f2).length = ts.length := List.length_map ..
      refine st_if (Ts.cast (ts_cmp (X := [env.locals] ++ X) (ev_lenL T e.b f₈.cxs (lv f₈ (up (up upd_eq))) (by omega) e.gl rfl) ev_int cmp_gt rfl) (by rw [ll])) fun s₉ x₉ => ?_
      have f₉ := f₈.after x₉
      by_cases h1 : 1 < (ts.length : Int)
      · rw [if_pos (decide_eq_true h1)]
        refine wpAny_execs_cons (st_assign f₉ (ev_addS (lv f₉ upd_eq) ev_str (by decide +kernel)) e.loc rfl fun s₁₀ f₁₀ => ?_)
        exact wpAny_execs_nil ⟨rfl, _, _, f₁₀, up (up upd_eq), by unfold sizesT; rw [if_pos h1]; exact upd_eq⟩
      · rw [if_neg (by simpa using h1)]
        exact wpAny_execs_nil ⟨rfl, _, _, f₉, up upd_eq, by unfold sizesT; rw [if_neg h1]; exact upd_eq⟩
    rintro fl s₉ ⟨rfl, lm', om', f₉, g1, g2⟩
    have hsl : (sizesT ts).length ≤ 12 := by unfold sizesT; split <;> decide +kernel
    -- the join
    have hsp : (Str.ofString " ").length = 1 := by decide +kernel
    refine wpAny_execs_cons (wpAny_Return_some (wpAny_BinOp ((ev_addS (b := Str.ofString " ") (lv f₉ g2) ev_str (by omega)).of fun vl s₁₀ x₁₀ ra => ?_)))
    cases ra
    have f₁₀ := f₉.after x₁₀
    refine wpAny_Call_method1_late rfl rfl rfl ((ev_str (X := []) (s := s₁₀)).of fun vo s₁₁ x₁₁ rvo => ?_)
    cases rvo
    have f₁₁ := f₁₀.after x₁₁
    refine ⟨"str", "str.join", PySem.F.plainAttrs_str, PySem.F.slot_str_join, PySem.F.type_str_join, typeIs_str _ _ _, (fun a e => by cases e), callWith_builtin rfl (evalArgs_plain (spliced_cons ((lv f₁₁ g1).of fun vf s₁₂ x₁₂ rf => ?_)))⟩
    cases rf
    have f₁₂ := f₁₁.after x₁₂
    refine spliced_nil ?_
    have hvl : vs.length = ts.length := by rw [rl.length]; unfold witItems; exact List.length_map ..
    have kS : ∀ b ∈ h'.objs.size :: C :: fp, ∀ o, s₆.heap.get? b = some o → s₁₂.heap.get? b = some o := fun b hb o e => f₁₂.since.keep b o (by
      intro hm
      rw [List.mem_singleton.mp hm] at hb
      rcases List.mem_cons.mp hb with h | hb
      · rw [h, haC] at nL; exact absurd nL (Nat.not_lt.mpr (Nat.le_succ C))
      rcases List.mem_cons.mp hb with h | hb
      · rw [h] at nL; exact absurd nL (Nat.lt_irrefl _)
      · exact (fpIs _ hb).2 rfl) e
    have ga₁₂ : GenAt prog w A'.in1.in1 h'.objs.size s₃.gens.size C fp [s₂.heap.objs.size] (fun _ => true) vs.toArray.size FF 0 s₁₂ := GenAt.move ga f₁₂.since.gens (inFp _ hcs.1 hcs.2.1) kS
    have ha₁₂ : h'.objs.size < s₁₂.heap.objs.size := by
      obtain ⟨o, _, _, g, _⟩ := ga₁₂.1
      exact Heap.lt_size g
    have hpass : passing (fun _ => true) vs.toArray.size 0 = List.range ts.length := by
      unfold passing; rw [List.drop_zero, List.size_toArray, hvl]; simp
    refine SC.joinGen WS (fun i st h => h.1.typeIs) ga₁₂ (fun b hb => ?_) (List.mem_cons_self ..) (fun i v hv => ?_) (fun s' l hm hit => ?_) ?_
    · rcases List.mem_cons.mp hb with rfl | hb
      · exact ha₁₂
      rcases List.mem_cons.mp hb with rfl | hb
      · exact Nat.lt_trans (by rw [haC]; exact Nat.lt_succ_self _) ha₁₂
      · exact Nat.lt_trans (fpIs b hb).1 (Nat.lt_trans (by rw [haC]; exact Nat.lt_succ_self _) ha₁₂)
    · obtain ⟨i', _, t, rfl⟩ := hv
      exact ⟨_, _, rfl⟩
    · have hll : l.map (·.1) = ts.map intS := by
        obtain ⟨hs1, hs2⟩ := hit
        have hlen : l.length = ts.length := by
          have h1 : (strValues l).length = l.length := by unfold strValues; exact List.length_map ..
          rw [List.size_toArray, h1, hpass, List.length_range] at hs1
          exact hs1
        refine List.ext_getElem (by rw [List.length_map, List.length_map, hlen]) fun j h1 h2 => ?_
        rw [List.length_map] at h1 h2
        have hj : (strValues l).toArray[j]? = some (.str l[j].1 l[j].2) := by
          unfold strValues
          rw [List.getElem?_toArray, List.getElem?_map, List.getElem?_eq_getElem h1]; rfl
        obtain ⟨i', e1, t, e2⟩ := hs2 j _ hj
        rw [hpass, List.getElem?_range h2] at e1
        cases e1
        rw [List.getElem_map, List.getElem_map]
        injection e2 with e3 e4
        rw [e3, List.getD_eq_getElem?_getD, List.getElem?_eq_getElem h2]; rfl
      rw [hll]
      refine ⟨?_, fun t' k => ?_⟩
      · have hj : ∀ (l : List Int) (n : Nat), (∀ t ∈ l, 0 ≤ t ∧ t < 100) → (l.map intS).foldl (fun a (b : Str) => a + b.length + (Str.ofString ", ").length) n ≤ n + l.length * 104 := by
          intro l
          induction l with
          | nil => intro n _; simp
          | cons a l ih =>
            intro n hl
            have h1 := len_str_of_int a
            have h2 := hl a List.mem_cons_self
            have h3 : (intS a).length ≤ 102 := by show (Str.ofString (toString a)).length ≤ 102; omega
            have h4 : (Str.ofString ", ").length = 2 := by decide +kernel
            have h5 := ih (n + (intS a).length + (Str.ofString ", ").length) fun t ht => hl t (List.mem_cons_of_mem _ ht)
            rw [List.map_cons, List.foldl_cons, List.length_cons, Nat.add_mul, Nat.one_mul]
            omega
        have h1 := hj ts 0 hb
        unfold JoinOk
        rw [Bool.not_eq_true', List.foldl_toArray]
        show decide (_ > sizeLine) = false
        rw [sizeLine_eq, decide_eq_false_iff_not]
        omega
      · refine PyProof.Rows.add_str (fun t'' tk' => ?_) ?_
        · show Q (.str (fmtT ts) t'') _
          have k312 : ∀ b o, b ≠ env.locals → s₆.heap.get? b = some o → s₁₂.heap.get? b = some o := fun b o hb e => f₁₂.since.keep b o (by simpa using hb) e
          have notL : ∀ b o, s.heap.get? b = some o → b ≠ env.locals := fun b o e h => by rw [h, hl] at e; cases e
          have notI : ∀ b o, s.heap.get? b = some o → b ≠ s₂.heap.objs.size := fun b o e h => by have := (x₁.trans x₂).keep b o e; rw [h, hIn] at this; cases this
          have notC : ∀ b o, s.heap.get? b = some o → b ≠ C := fun b o e => Nat.ne_of_lt (liveC b o (k₃.keep b o e))
          have kEnd : ∀ b o o', s.heap.get? b = some o → s₆.heap.get? b = some o' → s'.heap.get? b = some o' := fun b o o' e e' => hm.heap b o' (by
            intro hmem
            simp only [List.mem_cons, List.not_mem_nil, or_false] at hmem
            rcases hmem with h | h
            · exact notC b o e h
            · exact notI b o e h) (k312 b o' (notL b o e) e')
          refine q _ _ ⟨fun b o hb e => kEnd b o o e (b₆.keep b o hb (k₃.keep b o e)), ?_, ?_, fun hbare => ?_⟩
          · obtain ⟨⟨o, vs', t1, t2, t3, t4⟩, t5⟩ := hTab
            obtain ⟨⟨o0, vs0, u1, _⟩, u5⟩ := hTA
            exact ⟨_, ⟨o, vs', kEnd _ _ _ u1 (k46 _ _ t1), t2, t3, t4⟩, kEnd _ _ _ u5 (k46 _ _ t5)⟩
          · show s'.os = s.os
            rw [hm.os, f₁₂.since.os, e6o]
            exact k₃.os
          · show AllBare s'.gens
            refine AllBare.moved ?_ hm.gens
            rw [f₁₂.since.gens]
            show AllBare s₆.gens
            rw [e6g]
            refine AllBare.push ?_ rfl
            have : s₃.gens = s.gens := k₃.gens
            rw [this]; exact hbare
        · have h1 := joinT_len ts hb
          unfold joinT at h1
          rw [Str.length_append, sizeLine_eq]
          omega
    · rw [hpass, List.length_range, sizeLine_eq]; omega
end
end Mine
end

section
set_option maxRecDepth 100000
namespace Mine
open PySem PySem.W PySem.Calls PyProof.Rows

def lawC (L : Addr) : List (Str × Addr) := [(Str.ofString "two", L + 8), (Str.ofString "alike", L + 7), (Str.ofString "told", L + 6), (Str.ofString "columns", L + 5), (Str.ofString "width", L + 4), (Str.ofString "shown", L + 3), (Str.ofString "lines", L + 2), (Str.ofString "leads", L + 1)]
theorem lawC_is (L : Addr) : cellsFrom (L + 1) (scopeOf lawS).names [] = lawC L := by kernel_rfl

structure LEnv (env : Env) : Prop where
  scope : env.scope = scopeOf lawS
  glob : env.globals = mainGlobals
  bi : env.builtins = builtinsNs
  cells : env.cells = lawC env.locals
  fn : env.scope.kind = .function

section
variable {prog : Program} {w : World} {A : Around} {env : Env} {Y X X₀ : List Addr} {s s' s₀ : Shared} {K : Frag} {lm : LM} {om : OM} {mk : Mk}
theorem LEnv.b (e : LEnv env) : BEnv K env := ⟨e.fn, e.glob, e.bi⟩
theorem LEnv.gl {x : Str} (e : LEnv env) (h : (scopeOf lawS).names.lookup x = some .globalImplicit := by decide +kernel) : env.kindOf x = some .globalImplicit := by show env.scope.names.lookup x = _; rw [e.scope]; exact h
theorem LEnv.loc {x : Str} (e : LEnv env) (h : (scopeOf lawS).names.lookup x = some .local := by decide +kernel) : StoreOk env x := .inl (by show env.scope.names.lookup x = _; rw [e.scope]; exact h)
theorem LEnv.cell {x : Str} (e : LEnv env) (h : (scopeOf lawS).names.lookup x = some .cell := by decide +kernel) (h2 : ((lawC 0).lookup x).isSome = true := by decide +kernel) : StoreOk env x := by
  refine .inr ⟨by show env.scope.names.lookup x = _; rw [e.scope]; exact h, ?_⟩
  rw [e.cells]
  have go : ∀ (l l' : List (Str × Addr)), l.map (·.1) = l'.map (·.1) → (l.lookup x).isSome = true → ∃ c, l'.lookup x = some c := by
    intro l
    induction l with
    | nil => intro l' _ h; cases h
    | cons p l ih =>
      intro l' hm hs
      cases l' with
      | nil => cases hm
      | cons p' l' =>
        obtain ⟨n, a⟩ := p
        obtain ⟨n', a'⟩ := p'
        rw [List.map_cons, List.map_cons] at hm
        injection hm with h1 h2
        dsimp only at h1
        subst h1
        rw [List.lookup_cons] at hs ⊢
        cases hx : x == n with
        | true => exact ⟨_, rfl⟩
        | false => rw [hx] at hs; exact ih l' h2 hs
  exact go (lawC 0) (lawC env.locals) rfl h2

theorem law_enter {n : Nat} {v : Value} {a : AV} {Q E : Value → Shared → Prop} (B : Kb K) (F : FnIs K 161 lawS) (r : Room A (n + 1)) (c : Cx K X s.heap) (rv : Rp (Vw s.heap X) v a)
    (h : ∀ (env : Env) (s₁ : Shared) (A' : Around) (Y : List Addr), LEnv env → Room A' n → Fm K s ⟨s₁, Y⟩ env Y X s₁ (upd noM (Str.ofString "script") a) noM →
      wpAny (model prog w) A' (execs (bodyOf lawS) env) (fun fl s' => Q (flowV fl) s') (fun _ _ => False) s₁) :
    wpAny (model prog w) A (call (.ref 161) [v]) Q E s := by
  obtain ⟨o, ho, hd⟩ := F.get
  have hcd := codeRec_of c.top F.code
  have hb : bindArgs (fdIn K 161) ⟨[v], []⟩ = pure [(Str.ofString "script", v)] := params1 F.params F.dflt F.kwd fun _ _ _ _ _ _ _ _ _ _ _ _ => rfl
  have hks : (scopeOf lawS).names.lookup (Str.ofString "script") = some .local := by decide +kernel
  refine wpAny_call (codeAny_call_cells (fd := fdIn K 161) (by have := r.dp; omega) (c.top _ _ ho) hd (noLimit_of B c.top) hcd F.body hb F.clos (by intro x hx; rw [List.mem_singleton.mp hx, F.scope]; exact .inl hks) (fun s₁ x => ?_) (by rw [F.scope]; rfl) (by rw [F.scope]; rfl) (by rw [F.scope]; rfl))
  have e : LEnv (callEnvC (fdIn K 161) s.heap.objs.size 161) := ⟨F.scope, F.glob, F.bi, by
    show cellsFrom (s.heap.objs.size + 1) (fdIn K 161).scope.names [] = _
    rw [F.scope]; exact lawC_is _, by show (fdIn K 161).scope.kind = _; rw [F.scope]; rfl⟩
  generalize hE : callEnvC (fdIn K 161) s.heap.objs.size 161 = env at e x ⊢
  have hL : env.locals = s.heap.objs.size := by rw [← hE]; rfl
  obtain ⟨⟨h₁, tk, rfl⟩, hn, hk, hfr⟩ := x.toInCall
  have none_ : ∀ a, s.heap.objs.size ≤ a → s.heap.get? a = none := fun a ha => by
    cases e : s.heap.get? a with
    | none => rfl
    | some o => exact absurd (Heap.lt_size e) (Nat.not_lt.mpr ha)
  have hx₁ : Ext s { s with heap := h₁, toks := tk } := .of hk
  have cm : ∀ y c, env.cells.lookup y = some c → c ∈ env.cells.map (·.2) ∧ env.locals < c := fun y c hc => by
    have hm := mem_of_lookup hc
    exact ⟨List.mem_map.mpr ⟨(y, c), hm, rfl⟩, x.above y c hm⟩
  refine wpAny_mono (h env _ _ (env.locals :: env.cells.map (·.2)) e (r.deeper _) ⟨c, hx₁, fun a ha => ?_, .refl _, fun a ha => .inl ha, ⟨e.fn, ⟨_, hn⟩, List.mem_cons_self, fun y c hc => ⟨List.mem_cons_of_mem _ (cm y c hc).1, Nat.ne_of_gt (cm y c hc).2, _, x.cell y c hc⟩, fun y z c h1 h2 => ?_⟩, fun y b hy => ?_, fun y ys hy => (by cases hy), fun y z a _ _ h3 => absurd rfl h3⟩) (fun fl s' q => ?_) fun _ _ x => x.elim
  · rcases List.mem_cons.mp ha with rfl | ha
    · obtain ⟨o, _, _, ho, _⟩ := hn
      exact ⟨none_ _ hfr, o, ho⟩
    · obtain ⟨⟨y, c'⟩, hm, rfl⟩ := List.mem_map.mp ha
      have hab := x.above y c' hm
      refine ⟨none_ _ (Nat.le_of_lt (Nat.lt_of_le_of_lt hfr hab)), ?_⟩
      have hlk : ∃ y', env.cells.lookup y' = some c' := by
        rw [e.cells] at hm ⊢
        simp only [lawC, List.mem_cons, List.not_mem_nil, or_false, Prod.mk.injEq] at hm
        rcases hm with ⟨rfl, rfl⟩ | ⟨rfl, rfl⟩ | ⟨rfl, rfl⟩ | ⟨rfl, rfl⟩ | ⟨rfl, rfl⟩ | ⟨rfl, rfl⟩ | ⟨rfl, rfl⟩ | ⟨rfl, rfl⟩
        · exact ⟨Str.ofString "two", by kernel_rfl⟩
        · exact ⟨Str.ofString "alike", by kernel_rfl⟩
        · exact ⟨Str.ofString "told", by kernel_rfl⟩
        · exact ⟨Str.ofString "columns", by kernel_rfl⟩
        · exact ⟨Str.ofString "width", by kernel_rfl⟩
        · exact ⟨Str.ofString "shown", by kernel_rfl⟩
        · exact ⟨Str.ofString "lines", by kernel_rfl⟩
        · exact ⟨Str.ofString "leads", by kernel_rfl⟩
      obtain ⟨y', hy'⟩ := hlk
      obtain ⟨o, ho, _⟩ := x.cell y' c' hy'
      exact ⟨o, ho⟩
  · have m1 := mem_of_lookup h1
    have m2 := mem_of_lookup h2
    rw [e.cells] at m1 m2
    simp only [lawC, List.mem_cons, List.not_mem_nil, or_false, Prod.mk.injEq] at m1 m2
    rcases m1 with ⟨rfl, h1'⟩ | ⟨rfl, h1'⟩ | ⟨rfl, h1'⟩ | ⟨rfl, h1'⟩ | ⟨rfl, h1'⟩ | ⟨rfl, h1'⟩ | ⟨rfl, h1'⟩ | ⟨rfl, h1'⟩ <;>
      rcases m2 with ⟨rfl, h2'⟩ | ⟨rfl, h2'⟩ | ⟨rfl, h2'⟩ | ⟨rfl, h2'⟩ | ⟨rfl, h2'⟩ | ⟨rfl, h2'⟩ | ⟨rfl, h2'⟩ | ⟨rfl, h2'⟩ <;>
      first | rfl | (exact absurd (h1'.symm.trans h2') (by show ¬ (_ : Nat) = _; omega))
  · unfold upd at hy
    by_cases h1 : y = Str.ofString "script"
    · rw [if_pos h1] at hy; cases hy; subst h1
      have hkk : env.kindOf (Str.ofString "script") = some .local := by show env.scope.names.lookup _ = _; rw [e.scope]; exact hks
      refine ⟨v, .inl ⟨hkk, _, hn, ?_⟩, rv.mono fun b o eb => Vw.mk (hx₁.keep _ _ (Vw.get eb)) fun hm => ?_⟩
      · show (bindL env.kindOf [(Str.ofString "script", v)] fun _ => none) (Str.ofString "script") = some v
        unfold bindL
        rw [if_pos hkk]
        unfold bindL
        simp
      · have lb := Heap.lt_size (Vw.get eb)
        rcases List.mem_append.mp hm with hm | hm
        · rcases List.mem_cons.mp hm with h | hm
          · rw [h] at lb; exact absurd hfr (Nat.not_le.mpr lb)
          · obtain ⟨⟨y, c'⟩, hm', rfl⟩ := List.mem_map.mp hm
            have hab := x.above y c' hm'
            exact absurd (Nat.le_of_lt (Nat.lt_of_le_of_lt hfr hab)) (Nat.not_le.mpr lb)
        · exact Vw.off eb hm
    · rw [if_neg h1] at hy; cases hy
  · cases fl <;> exact q

/-- the part of the variables that a block reads -/
def freeLM (lm : LM) (names : List Str) : LM := fun y => if y ∈ names then lm y else none
theorem fr {lm : LM} {names : List Str} {y : Str} {a : AV} (h : lm y = some a) (hm : y ∈ names := by decide +kernel) : freeLM lm names y = some a := (if_pos hm).trans h
theorem freeLM_no {lm : LM} {names : List Str} {y : Str} (hm : y ∉ names := by decide +kernel) : freeLM lm names y = none := if_neg hm
theorem Fm.freeV {scope : Scope} {cl : List (Str × Addr)} (f : Fm K s₀ mk env Y X₀ s lm om) (names : List Str) (h : ∀ y ∈ names, scope.names.lookup y = some .free ∧ env.kindOf y = some .cell ∧ cl.lookup y = env.cells.lookup y) (hl : ∀ y c, cl.lookup y = some c → env.cells.lookup y = some c) :
    FreeV scope cl env s (Y ++ X₀) (freeLM lm names) := by
  refine ⟨fun y a hy => ?_, fun y c hc => ?_⟩
  · unfold freeLM at hy
    by_cases hm : y ∈ names
    · rw [if_pos hm] at hy
      obtain ⟨h1, h2, h3⟩ := h y hm
      obtain ⟨v, rd, rp⟩ := f.lo y a hy
      rcases rd with ⟨k, _⟩ | ⟨_, c, hc, hcell⟩
      · rw [h2] at k; cases k
      · exact ⟨h1, h2, c, v, h3.trans hc, hcell, rp⟩
    · rw [if_neg hm] at hy; cases hy
  · obtain ⟨_, _, v, o, ho, _⟩ := f.sto.cell y c (hl y c hc)
    exact ⟨o, ho⟩
end
end Mine
end

section
set_option maxRecDepth 100000
namespace Mine
open PySem PySem.W PySem.Calls PyProof.Rows

theorem RpL.strOf {V : View} : ∀ {xs : List Str} {vs : List Value}, RpL V vs (xs.map AV.str) → ∃ l : List (Str × Tok), vs = strValues l ∧ l.map (·.1) = xs
  | [], _, r => by cases r; exact ⟨[], rfl, rfl⟩
  | x :: xs, _, r => by
    cases r with
    | cons h t =>
      cases h
      obtain ⟨l, h1, h2⟩ := t.strOf
      exact ⟨(x, _) :: l, by rw [h1]; rfl, by rw [List.map_cons, h2]⟩

section
variable {prog : Program} {w : World} {A : Around} {env : Env} {Y X X₀ : List Addr} {s s' s₀ : Shared} {K : Frag} {lm : LM} {om : OM} {mk : Mk}

theorem ev_toS {value : Expr} {e : Expr} {p pos : Pos} {x : Str} {j : Int} (h : Ev prog w A env X s value (.str x)) (h2 : Ev prog w A env X s e (.int j)) (hz : x.length < 1000000)
    (hs : ∀ o i, ∃ ops, subscripted (.Slice none (some e) none p) false o i = operate ops (getItem o i)) : Ev prog w A env X s (.Subscript value (.Slice none (some e) none p) pos) (.str (Txt.slice x none (some j))) := by
  intro s₁ Q E y q
  refine Subscript_ (h s₁ _ _ y fun v s₂ x₂ r => wpAny_Slice (wpAny_evalPart_none (wpAny_evalPart_some (h2 s₂ _ _ (y.trans x₂) fun u s₃ x₃ ru => wpAny_evalPart_none ?_))))
  cases r; cases ru
  rename_i t uj
  obtain ⟨T, id, hl, hT, hg⟩ := SBH.sliceItem_ns (prog := prog) (w := w) (A := A) (E := E) (P := fun h' => Kp s₃.heap h') (s := s₃) (x := x) (t := t) (j := j) (uj := uj) (Q := Q) (fun h ob k b o e => Kp.push _ _ b o (k b o e)) (fun _ _ e => e) (fun h' t' k hk => q _ _ ((x₂.trans x₃).trans (.of hk)) (.str _ _)) (by rw [sizeLine_eq]; omega)
  obtain ⟨ops, hs⟩ := hs (.str x t) (.ref s₃.heap.objs.size)
  exact tail_any hT hl hg hs
theorem ev_fromS {value : Expr} {e : Expr} {p pos : Pos} {x : Str} {i : Int} (h : Ev prog w A env X s value (.str x)) (h2 : Ev prog w A env X s e (.int i)) (hz : x.length < 1000000)
    (hs : ∀ o i, ∃ ops, subscripted (.Slice (some e) none none p) false o i = operate ops (getItem o i)) : Ev prog w A env X s (.Subscript value (.Slice (some e) none none p) pos) (.str (Txt.slice x (some i) none)) := by
  intro s₁ Q E y q
  refine Subscript_ (h s₁ _ _ y fun v s₂ x₂ r => wpAny_Slice (wpAny_evalPart_some (h2 s₂ _ _ (y.trans x₂) fun u s₃ x₃ ru => wpAny_evalPart_none (wpAny_evalPart_none ?_))))
  cases r; cases ru
  rename_i t uj
  obtain ⟨T, id, hl, hT, hg⟩ := SBH.sliceItem_sn (prog := prog) (w := w) (A := A) (E := E) (P := fun h' => Kp s₃.heap h') (s := s₃) (x := x) (t := t) (i := i) (ui := uj) (Q := Q) (fun h ob k b o e => Kp.push _ _ b o (k b o e)) (fun _ _ e => e) (fun h' t' k hk => q _ _ ((x₂.trans x₃).trans (.of hk)) (.str _ _)) (by rw [sizeLine_eq]; omega)
  obtain ⟨ops, hs⟩ := hs (.str x t) (.ref s₃.heap.objs.size)
  exact tail_any hT hl hg hs
theorem ev_mulS {l r : Expr} {pos : Pos} {x : Str} {n : Int} (h1 : Ev prog w A env X s l (.str x)) (h2 : Ev prog w A env X s r (.int n)) (h0 : 0 ≤ n) (hn : n < 1000) (hx : x.length < 1000) : Ev prog w A env X s (.BinOp l .Mult r pos) (.str (Txt.mul x n)) :=
  ev_bin h1 h2 fun s₁ va vb _ ra rb => by
    cases ra; cases rb
    intro s₂ Q E _ q
    refine SB.mul ⟨by simp; omega, fun h1 _ => ?_, fun _ _ => ?_⟩ fun t' k => q _ _ (.tok s₂ _) (.str _ _)
    · have : (2 ^ 63 - 1 : Int) / n ≥ (2 ^ 63 - 1) / 1000 := by
        apply Int.le_ediv_of_mul_le (by omega)
        have h3 : ((2 ^ 63 - 1 : Int) / 1000) * n ≤ ((2 ^ 63 - 1 : Int) / 1000) * 1000 := Int.mul_le_mul_of_nonneg_left (by omega) (by decide)
        have h4 : ((2 ^ 63 - 1 : Int) / 1000) * 1000 ≤ 2 ^ 63 - 1 := by decide
        omega
      have h5 : (2 ^ 63 - 1 : Int) / 1000 > 1000 := by decide
      omega
    · show decide (x.length * n.toNat > sizeLine) = false
      rw [decide_eq_false_iff_not, sizeLine_eq]
      have : x.length * n.toNat ≤ 1000 * 1000 := Nat.mul_le_mul (by omega) (by omega)
      omega
theorem joinl_ok {sep : Str} {xs : List Str} {h : Heap} (hok : JoinOk sep xs = true) : CallOk prog w A X (.builtin "str.join") [.str sep, .list (xs.map AV.str)] (fun v s₂ => Rp (Vw s₂.heap X) v (.str (Txt.join sep xs))) h := by
  intro s₁ vs Q E k r q
  obtain ⟨v, u, rfl, rv, ru⟩ := r.two
  cases rv with | str _ t =>
  cases ru with | list ho rl =>
  rename_i a vs n
  obtain ⟨l, rfl, rfl⟩ := rl.strOf
  unfold JoinOk at hok
  rw [Bool.not_eq_true'] at hok
  exact call_meets PySem.F.slot_str_join (typeIs_str _ _ _) PySem.F.entry_str_join (PySem.F.args_str_join_2 _ _) (meets_str_join_list sep t a l hok) ⟨⟨_, Vw.get ho, rfl, n, rfl⟩, post_join l ⟨joinFit_length hok, fun t' k => q _ _ (.tok s₁ _) (.str _ _)⟩⟩
theorem ev_join {o e : Expr} {apos pos : Pos} {sep : Str} {xs : List Str} (h1 : Ev prog w A env X s o (.str sep)) (h2 : Ev prog w A env X s e (.list (xs.map AV.str))) (hok : JoinOk sep xs = true)
    (hbase : attributeBase o (Str.ofString "join") env (eval o env) = eval o env) (hline : (apos.endLine == pos.line) = true) (hst : starEach [e] env = (false, eval e env) :: starEach [] env) : Ev prog w A env X s (.Call (.Attribute o (Str.ofString "join") apos) [e] [] pos) (.str (Txt.join sep xs)) :=
  ev_meth1 PySem.F.plainAttrs_str PySem.F.slot_str_join PySem.F.type_str_join of_str h1 h2 (joinl_ok hok) hbase hline hst
end
end Mine
end

section
set_option maxRecDepth 100000
namespace Mine
open PySem PySem.W PySem.Calls PyProof.Rows

/-! the 31 leads -/
def allL : List (List Nat) := [[]] ++ ((List.range 4).foldl (fun (acc : List (List Nat) × List (List Nat)) _ => let nx := acc.2.flatMap fun l => [l ++ [32], l ++ [9]]; (acc.1 ++ nx, nx)) ([], [[]])).1
abbrev Lead (x : Str) : Prop := x.cps.toList ∈ allL
theorem Lead.all {x : Str} (h : Lead x) {P : Str → Prop} (hp : ∀ l ∈ allL, P ⟨l.toArray⟩) : P x := by
  have := hp _ h
  simpa using this
theorem lead_of_signs (l : List Nat) (hl : l.length ≤ 4) (hs : ∀ c ∈ l, c = 32 ∨ c = 9) : l ∈ allL := by
  match l, hl, hs with
  | [], _, _ => decide +kernel
  | [a], _, hs =>
    rcases hs a (by simp) with rfl | rfl <;> decide +kernel
  | [a, b], _, hs =>
    rcases hs a (by simp) with rfl | rfl <;> rcases hs b (by simp) with rfl | rfl <;> decide +kernel
  | [a, b, c], _, hs =>
    rcases hs a (by simp) with rfl | rfl <;> rcases hs b (by simp) with rfl | rfl <;> rcases hs c (by simp) with rfl | rfl <;> decide +kernel
  | [a, b, c, d], _, hs =>
    rcases hs a (by simp) with rfl | rfl <;> rcases hs b (by simp) with rfl | rfl <;> rcases hs c (by simp) with rfl | rfl <;> rcases hs d (by simp) with rfl | rfl <;> decide +kernel
  | _ :: _ :: _ :: _ :: _ :: _, hl, _ => exact absurd hl (by simp)
theorem leadGo_signs : ∀ (k : Nat) (n : Int) (acc : List Nat), (∀ c ∈ acc, c = 32 ∨ c = 9) → (leadGo k n acc).length ≤ acc.length + k ∧ ∀ c ∈ leadGo k n acc, c = 32 ∨ c = 9
  | 0, n, acc, h => ⟨by simp [leadGo], h⟩
  | k + 1, n, acc, h => by
    unfold leadGo
    split
    · have := leadGo_signs k ((n - 1).fdiv 2) (acc ++ [if (n - 1).fmod 2 = 0 then 32 else 9]) (fun c hc => by
        rcases List.mem_append.mp hc with hc | hc
        · exact h c hc
        · rw [List.mem_singleton.mp hc]; split <;> simp)
      rw [List.length_append, List.length_singleton] at this
      exact ⟨by omega, this.2⟩
    · exact ⟨by omega, h⟩
theorem lead_leadOf (n : Int) : Lead (leadOf n) := by
  have := leadGo_signs 4 n [] (fun c hc => by cases hc)
  show (leadGo 4 n []).toArray.toList ∈ allL
  exact lead_of_signs _ (by simpa using this.1) (by simpa using this.2)

def old (leads : List Str) (n : Int) : Str := leads.getD ((n.fdiv 4).fmod leads.length).toNat ⟨#[]⟩
def turnL (rs : List Str) : List Str := (rs.take (rs.length - 1)).reverse ++ rs.drop (rs.length - 1)
def turned (x : Str) : Str := Txt.join tabS (turnL (splitT x))
def more (x : Str) (n : Int) : Str := Txt.slice (x ++ leadOf ((n.fdiv 4).fmod 6 + 1)) none (some 4)
def leadStep (leads : List Str) (n : Int) : Str :=
  if n.fmod 4 = 0 then more (leads.getLastD ⟨#[]⟩) n
  else if n.fmod 4 = 1 then old leads n
  else if n.fmod 4 = 2 then turned (old leads n)
  else leadOf (n.fdiv 4)
def mkLeads : List Int → List Str → List Str
  | [], ls => ls
  | n :: ns, ls => mkLeads ns (ls ++ [leadStep ls (n.fmod 1000003)])
def leads0 : List Str := [Str.ofString "\t", Str.ofString "\t "]

theorem lead_len {x : Str} (h : Lead x) : x.length ≤ 4 := h.all (P := fun x => x.length ≤ 4) (by decide +kernel)
theorem lead_split {x : Str} (h : Lead x) : (splitT x).length < 100 ∧ (∀ r ∈ splitT x, r.length < 100) ∧ JoinOk tabS (turnL (splitT x)) = true := h.all (P := fun x => (splitT x).length < 100 ∧ (∀ r ∈ splitT x, r.length < 100) ∧ JoinOk tabS (turnL (splitT x)) = true) (by decide +kernel)

theorem lead_turned {x : Str} (h : Lead x) : Lead (turned x) := h.all (P := fun x => Lead (turned x)) (by decide +kernel)
theorem lead_more {x : Str} (h : Lead x) (n : Int) : Lead (more x n) := by
  unfold more
  have h1 := Int.fmod_nonneg_of_pos (n.fdiv 4) (b := 6) (by decide)
  have h2 := Int.fmod_lt_of_pos (n.fdiv 4) (b := 6) (by decide)
  obtain ⟨k, hk⟩ : ∃ k : Nat, (n.fdiv 4).fmod 6 = (k : Int) := ⟨((n.fdiv 4).fmod 6).toNat, by omega⟩
  have hk6 : k < 6 := by omega
  rw [hk]
  have hh := h.all (P := fun x => ∀ k : Nat, k < 6 → Lead (Txt.slice (x ++ leadOf ((k : Int) + 1)) none (some 4))) (by decide +kernel)
  exact hh k hk6
theorem lead_old {leads : List Str} (hne : leads ≠ []) (h : ∀ x ∈ leads, Lead x) (n : Int) : Lead (old leads n) := by
  unfold old
  have hp : 0 < leads.length := List.length_pos_iff.mpr hne
  have h1 := Int.fmod_nonneg_of_pos (n.fdiv 4) (b := (leads.length : Int)) (by omega)
  have h2 := Int.fmod_lt_of_pos (n.fdiv 4) (b := (leads.length : Int)) (by omega)
  have hi : ((n.fdiv 4).fmod leads.length).toNat < leads.length := by omega
  rw [List.getD_eq_getElem?_getD, List.getElem?_eq_getElem hi]
  exact h _ (List.getElem_mem hi)
theorem last_is {leads : List Str} (hne : leads ≠ []) : leads.getLastD ⟨#[]⟩ = leads[leads.length - 1]'(by have := List.length_pos_iff.mpr hne; omega) := by
  have hp := List.length_pos_iff.mpr hne
  rw [List.getLastD_eq_getLast?, List.getLast?_eq_getElem?, List.getElem?_eq_getElem (by omega)]; rfl
theorem lead_step {leads : List Str} (hne : leads ≠ []) (h : ∀ x ∈ leads, Lead x) (n : Int) : Lead (leadStep leads n) := by
  unfold leadStep
  split
  · refine lead_more ?_ n
    rw [last_is hne]
    exact h _ (List.getElem_mem _)
  split
  · exact lead_old hne h n
  split
  · exact lead_turned (lead_old hne h n)
  · exact lead_leadOf _

section
variable {prog : Program} {w : World} {A : Around} {env : Env} {Y X X₀ : List Addr} {s s' s₀ : Shared} {K : Frag} {lm : LM} {om : OM} {mk : Mk}

theorem getD_int (ns : List Int) (i : Nat) (h : i < ns.length) : (ns.map AV.int).getD i AV.none = .int ns[i] := by
  rw [List.getD_eq_getElem?_getD, List.getElem?_map, List.getElem?_eq_getElem h]; rfl

/-- the leads -/
theorem law_leads (T : Kt K) (e : LEnv env) (r : Room A 6) (script : List Int) (hz : script.length < 1000) (f : Fm K s₀ mk env Y X₀ s (upd noM (Str.ofString "script") (.list (script.map AV.int))) noM) {Q : Flow → Shared → Prop} {E : Value → Shared → Prop}
    (q : ∀ Y' s' lm' om', Fm K s₀ mk env Y' X₀ s' lm' om' → om' (Str.ofString "leads") = some ((mkLeads (script.take 6) leads0).map AV.str) → wpAny (model prog w) A (execs ((bodyOf lawS).drop 2) env) Q E s') :
    wpAny (model prog w) A (execs (bodyOf lawS) env) Q E s := by
  refine wpAny_execs_cons (st_assign_own (xs := leads0.map AV.str) f (evf_list (evl_two ev_str ev_str rfl rfl) (by show 2 ≤ sizeLine; decide)) e.cell rfl fun a₁ s₁ f₁ => ?_)
  have hp6 : pick (script.map AV.int) none (some 6) none = (script.take 6).map AV.int := by
    have := pick_to (script.map AV.int) 6
    rw [List.map_take]; exact this
  refine wpAny_execs_cons (st_for f₁ ((iter_list r.hd f₁.cxs (Ev.cast (ev_slice f₁.cxs (lv f₁ (dl upd_eq)) part_none (part_some (X := []) ev_int) part_none (by simp) (by rw [List.length_map]; omega) (fun _ _ => ⟨_, rfl⟩)) (congrArg AV.list hp6))).len (List.length_map ..)) e.loc
    (fun i lm om => ∃ ls : List Str, om (Str.ofString "leads") = some (ls.map AV.str) ∧ ls ≠ [] ∧ (∀ x ∈ ls, Lead x) ∧ ls.length ≤ i + 2 ∧ mkLeads ((script.take 6).drop i) ls = mkLeads (script.take 6) leads0) (fun _ _ => False)
    ⟨leads0, upd_eq, by simp [leads0], by decide +kernel, by decide, rfl⟩ ?_ ?_ (fun _ => rfl))
  · rintro i Y' lm' om' s₂ E' hi ⟨ls, hl, hne, hL, hlen, hg⟩ f₂
    rw [getD_int _ i hi] at f₂
    have hdrop : (script.take 6).drop i = (script.take 6)[i] :: (script.take 6).drop (i + 1) := List.drop_eq_getElem_cons hi
    rw [hdrop, mkLeads] at hg
    generalize (script.take 6)[i] = m at f₂ hg
    have h6 : i < 6 := by have := List.length_take_le 6 script; omega
    have ll : (ls.map AV.str).length = ls.length := List.length_map ..
    have hp : 0 < ls.length := List.length_pos_iff.mpr hne
    refine wpAny_execs_cons (st_assign f₂ (ev_mod (lv f₂ upd_eq) ev_int (by decide)) e.loc rfl fun s₃ f₃ => ?_)
    generalize hn : m.fmod 1000003 = n at f₃ hg
    have g1 := Int.fmod_nonneg_of_pos (n.fdiv 4) (b := (ls.length : Int)) (by omega)
    have g2 := Int.fmod_lt_of_pos (n.fdiv 4) (b := (ls.length : Int)) (by omega)
    have hi2 : ((n.fdiv 4).fmod ls.length).toNat < ls.length := by omega
    have hold : old ls n = ls[((n.fdiv 4).fmod ls.length).toNat] := by unfold old; rw [List.getD_eq_getElem?_getD, List.getElem?_eq_getElem hi2]; rfl
    have hleads : (del (del om' (Str.ofString "number")) (Str.ofString "number")) (Str.ofString "leads") = some (ls.map AV.str) := dl (dl hl)
    refine wpAny_execs_cons (st_assign (a := .str (old ls n)) f₃ (Ev.imm (X := []) (ev_itemL (i := (n.fdiv 4).fmod ls.length) (ev_own f₃ hleads (by decide +kernel)) (Ev.cast (ev_mod (ev_div (ev_var f₃.v0 upd_eq f₃.sto.fn (by decide +kernel)) ev_int (by decide) (by decide)) (ev_lenL T e.b f₃.cx0 (ev_own f₃ hleads (by decide +kernel)) (by omega) e.gl rfl) (by rw [ll]; omega)) (by rw [ll])) g1 ?_ (by omega) (fun _ _ => rfl))) e.loc rfl fun s₄ f₄ => ?_)
    · rw [List.getElem?_map, List.getElem?_eq_getElem hi2, hold]; rfl
    have hleads₄ : (del (del (del om' (Str.ofString "number")) (Str.ofString "number")) (Str.ofString "old")) (Str.ofString "leads") = some (ls.map AV.str) := dl hleads
    have lo := lead_old hne hL n
    have lst := lead_step hne hL n
    have fin : ∀ Y'' s' lm'' om'', Fm K s₀ ⟨s₂, Y'⟩ env Y'' X₀ s' lm'' om'' → om'' (Str.ofString "leads") = some (ls.map AV.str ++ [.str (leadStep ls n)]) → LoopTo K s₀ ⟨s₂, Y'⟩ env X₀ (fun lm om => ∃ ls : List Str, om (Str.ofString "leads") = some (ls.map AV.str) ∧ ls ≠ [] ∧ (∀ x ∈ ls, Lead x) ∧ ls.length ≤ i + 1 + 2 ∧ mkLeads ((script.take 6).drop (i + 1)) ls = mkLeads (script.take 6) leads0) s' := fun Y'' s' lm'' om'' f'' h'' =>
      ⟨_, _, _, f'', ls ++ [leadStep ls n], by rw [List.map_append]; exact h'', by simp, fun x hx => by
        rcases List.mem_append.mp hx with hx | hx
        · exact hL x hx
        · rw [List.mem_singleton.mp hx]; exact lst, by rw [List.length_append, List.length_singleton]; omega, hg⟩
    have nv : ∀ {s' : Shared} {om''}, Fm K s₀ ⟨s₂, Y'⟩ env Y' X₀ s' (upd (upd (upd lm' (Str.ofString "number") (.int m)) (Str.ofString "number") (.int n)) (Str.ofString "old") (.str (old ls n))) om'' → ∀ pos, Ev prog w A env [] s' (.Name (Str.ofString "number") pos) (.int n) := fun f' pos => ev_var f'.v0 (up upd_eq) f'.sto.fn (by decide +kernel)
    refine wpAny_execs_cons (st_if (ts_cmp (ev_mod (nv f₄ _) ev_int (by decide)) ev_int cmp_eq rfl) fun s₅ x₅ => ?_)
    have f₅ := f₄.after x₅
    by_cases c0 : n.fmod 4 = 0
    · rw [if_pos (by simpa using c0)]
      have hst : leadStep ls n = more (ls.getLastD ⟨#[]⟩) n := by unfold leadStep; rw [if_pos c0]
      have hlast : ls.getLastD ⟨#[]⟩ = ls[ls.length - 1] := last_is hne
      have hLl := lead_len (hL _ (List.getElem_mem (show ls.length - 1 < ls.length by omega)))
      have hLo := lead_len (lead_leadOf ((n.fdiv 4).fmod 6 + 1))
      refine wpAny_execs_cons (st_append (a := .str (leadStep ls n)) f₅ hleads₄ ?_ (by omega) (by decide +kernel) rfl rfl rfl fun s₆ f₆ => ?_)
      · rw [hst, hlast]
        refine Ev.imm (X := []) (ev_toS (ev_addS (ev_itemN (a := .str ls[ls.length - 1]) (ev_own f₅ hleads₄ (by decide +kernel)) (ev_neg ev_int) (by decide) (by omega) ?_ (by decide) (fun _ _ => rfl)) (ev_call f₅.cx0 (evp_global T.b f₅.cx0 e.fn e.glob e.gl (by decide +kernel) T.gLead) T.fLead.keep (evl_one (ev_add (ev_mod (ev_div (nv f₅ _) ev_int (by decide) (by decide)) ev_int (by decide)) ev_int) rfl) (fn_lead T _ A [] s₅ (r.le (by decide)) f₅.cx0) rfl fun _ => rfl) (by omega)) ev_int (by rw [Str.length_append]; omega) (fun _ _ => ⟨_, rfl⟩))
        rw [List.getElem?_map, show (-1 + ((ls.map AV.str).length : Int)).toNat = ls.length - 1 by omega, List.getElem?_eq_getElem (by omega)]; rfl
      · exact wpAny_execs_nil (wpAny_execs_nil (fin _ _ _ _ f₆ upd_eq))
    rw [if_neg (by simpa using c0)]
    refine wpAny_execs_cons (st_if (ts_cmp (ev_mod (nv f₅ _) ev_int (by decide)) ev_int cmp_eq rfl) fun s₆ x₆ => ?_)
    have f₆ := f₅.after x₆
    by_cases c1 : n.fmod 4 = 1
    · rw [if_pos (by simpa using c1)]
      have hst : leadStep ls n = old ls n := by unfold leadStep; rw [if_neg c0, if_pos c1]
      refine wpAny_execs_cons (st_append (a := .str (leadStep ls n)) f₆ hleads₄ (by rw [hst]; exact lv f₆ upd_eq) (by omega) (by decide +kernel) rfl rfl rfl fun s₇ f₇ => ?_)
      exact wpAny_execs_nil (wpAny_execs_nil (wpAny_execs_nil (fin _ _ _ _ f₇ upd_eq)))
    rw [if_neg (by simpa using c1)]
    refine wpAny_execs_cons (st_if (ts_cmp (ev_mod (nv f₆ _) ev_int (by decide)) ev_int cmp_eq rfl) fun s₇ x₇ => ?_)
    have f₇ := f₆.after x₇
    by_cases c2 : n.fmod 4 = 2
    · rw [if_pos (by simpa using c2)]
      have hst : leadStep ls n = turned (old ls n) := by unfold leadStep; rw [if_neg c0, if_neg c1, if_pos c2]
      have hsp := lead_split lo
      have hll := lead_len lo
      refine wpAny_execs_cons (st_assign f₇ (EvF.ev (evf_split (lv f₇ upd_eq) ev_str (by omega) (by omega) rfl rfl rfl) f₇.cxs) e.loc rfl fun s₈ f₈ => ?_)
      have rl : ((splitT (old ls n)).map AV.str).length = (splitT (old ls n)).length := List.length_map ..
      refine wpAny_execs_cons (st_append (a := .str (leadStep ls n)) f₈ (dl hleads₄) ?_ (by omega) (by decide +kernel) rfl rfl rfl fun s₉ f₉ => ?_)
      · rw [hst]
        refine ev_join ev_str (Ev.cast (EvF.ev (evf_addL (ev_slice f₈.cxs (ev_slice f₈.cxs (lv f₈ upd_eq) part_none (part_some (X := []) (ev_neg ev_int)) part_none (by simp) (by omega) (fun _ _ => ⟨_, rfl⟩)) part_none part_none (part_some (X := []) (ev_neg ev_int)) (by simp) ?_ (fun _ _ => ⟨_, rfl⟩)) (ev_slice f₈.cxs (lv f₈ upd_eq) (part_some (X := []) (ev_neg ev_int)) part_none part_none (by simp) (by omega) (fun _ _ => ⟨_, rfl⟩)) ?_) f₈.cxs) ?_) hsp.2.2 rfl rfl rfl
        · rw [show (-(1 : Int)) = -1 from rfl, pick_butLast, List.length_take]; omega
        · rw [show (-(1 : Int)) = -1 from rfl, pick_rev, pick_butLast, pick_last, List.length_reverse, List.length_take, List.length_drop]; omega
        · rw [show (-(1 : Int)) = -1 from rfl, pick_rev, pick_butLast, pick_last, rl]
          unfold turnL
          rw [List.map_append, List.map_reverse, List.map_take, List.map_drop]
      · exact wpAny_execs_nil (wpAny_execs_nil (wpAny_execs_nil (wpAny_execs_nil (fin _ _ _ _ f₉ upd_eq))))
    · rw [if_neg (by simpa using c2)]
      have hst : leadStep ls n = leadOf (n.fdiv 4) := by unfold leadStep; rw [if_neg c0, if_neg c1, if_neg c2]
      refine wpAny_execs_cons (st_append (a := .str (leadStep ls n)) f₇ hleads₄ ?_ (by omega) (by decide +kernel) rfl rfl rfl fun s₈ f₈ => ?_)
      · rw [hst]
        exact ev_call f₇.cxs (evp_global T.b f₇.cxs e.fn e.glob e.gl (by decide +kernel) T.gLead) T.fLead.keep (evl_one (ev_div (lv f₇ (up upd_eq)) ev_int (by decide) (by decide)) rfl) (fn_lead T _ A _ s₇ (r.le (by decide)) f₇.cxs) rfl fun _ => rfl
      · exact wpAny_execs_nil (wpAny_execs_nil (wpAny_execs_nil (wpAny_execs_nil (fin _ _ _ _ f₈ upd_eq))))
  · rintro Y' lm' om' s₂ hj f₂
    obtain ⟨ls, hl, hne, hL, hlen, hg⟩ := hj.resolve_right id
    rw [List.drop_length, mkLeads] at hg
    rw [hg] at hl
    exact q _ _ _ _ f₂ hl
end
end Mine
end

section
set_option maxRecDepth 100000
namespace Mine
open PySem PySem.W PySem.Calls PyProof.Rows

def tailS : Str := Str.ofString "x \ty"
def lineOf (x : Str) : Str := x ++ tailS
def reChk (x : Str) : Bool := match reDone 50 (reStart (lineOf x)) with
  | some m => (match m.outcome with | some .matched => true | _ => false) && m.start == 0 && m.handed == x.length
  | none => false
theorem re_ok {x : Str} (h : Lead x) : ∃ m, reDone 50 (reStart (lineOf x)) = some m ∧ m.outcome = some .matched ∧ m.start = 0 ∧ m.handed = x.length := by
  have hc : reChk x = true := h.all (P := fun x => reChk x = true) (by decide +kernel)
  unfold reChk at hc
  split at hc
  · rename_i m hm
    rw [Bool.and_eq_true, Bool.and_eq_true] at hc
    obtain ⟨⟨h1, h2⟩, h3⟩ := hc
    refine ⟨m, hm, ?_, by simpa using h2, by simpa using h3⟩
    split at h1
    · assumption
    · cases h1
  · cases hc
theorem lead_line {x : Str} (h : Lead x) : (lineOf x).length ≤ 8 ∧ (⟨(lineOf x).cps.extract 0 x.length⟩ : Str) = x := by
  refine ⟨h.all (P := fun x => (lineOf x).length ≤ 8) (by decide +kernel), Str.ext' ?_⟩
  unfold lineOf
  rw [Str.cps_append]
  show (x.cps ++ tailS.cps).extract 0 x.cps.size = x.cps
  simp

section
variable {prog : Program} {w : World} {A : Around} {env : Env} {Y X X₀ : List Addr} {s s' s₀ : Shared} {K : Frag} {lm : LM} {om : OM} {mk : Mk}
theorem Fm.freeC {scope : Scope} {cl : List (Str × Addr)} (f : Fm K s₀ mk env Y X₀ s lm om) (h : ∀ p ∈ cl, scope.names.lookup p.1 = some .free ∧ env.kindOf p.1 = some .cell ∧ env.cells.lookup p.1 = some p.2) :
    FreeV scope cl env s (Y ++ X₀) (freeLM lm (cl.map (·.1))) := by
  have hl : ∀ y c, cl.lookup y = some c → env.cells.lookup y = some c := fun y c hc => (h (y, c) (mem_of_lookup hc)).2.2
  refine f.freeV _ (fun y hy => ?_) hl
  obtain ⟨p, hp, rfl⟩ := List.mem_map.mp hy
  obtain ⟨h1, h2, h3⟩ := h p hp
  refine ⟨h1, h2, ?_⟩
  have go : ∀ l : List (Str × Addr), p ∈ l → ∃ c, l.lookup p.1 = some c := by
    intro l
    induction l with
    | nil => intro h; cases h
    | cons q l ih =>
      intro hq
      obtain ⟨n, a⟩ := q
      rw [List.lookup_cons]
      cases hx : p.1 == n with
      | true => exact ⟨_, rfl⟩
      | false =>
        rcases List.mem_cons.mp hq with rfl | hq
        · simp at hx
        · exact ih hq
  obtain ⟨c, hc⟩ := go cl hp
  rw [hc, hl _ _ hc]
theorem LEnv.kc {x : Str} (e : LEnv env) (h : (scopeOf lawS).names.lookup x = some .cell := by decide +kernel) : env.kindOf x = some .cell := by show env.scope.names.lookup x = _; rw [e.scope]; exact h
theorem LEnv.with (e : LEnv env) : env = { env with cells := lawC env.locals } := by rw [← e.cells]
end

/-- what a width shows -/
def cols (leads : List Str) (w : Int) : List Int := leads.map (col w)
def pageOf (leads : List Str) (w : Int) : List Str := leads.map fun x => Txt.mul (Str.ofString " ") (col w x) ++ Txt.slice (lineOf x) (some (x.length : Int)) none
/-- the plain facts that the loop asks -/
structure WOk (leads : List Str) (w : Int) : Prop where
  exp : ∀ x ∈ leads, ((expT w.toNat x).length : Int) = col w x
  lev : ∀ x ∈ leads, ilev (wsOf (lineOf x)) w = col w x
  nan : nanOf ((pageOf leads w).map wsOf) = depOf (cols leads w)
  small : ∀ x ∈ leads, 0 ≤ col w x ∧ col w x < 100
  page : ∀ x ∈ pageOf leads w, x.length < 200

section
variable {prog : Program} {w : World} {A : Around} {env : Env} {Y X X₀ : List Addr} {s s' s₀ : Shared} {K : Frag} {lm : LM} {om : OM} {mk : Mk}

theorem range_map {α β : Type} (xs : List α) (d : α) (g : α → β) : ((List.range xs.length).map fun i => g (xs.getD i d)) = xs.map g := by
  refine List.ext_getElem (by simp) fun j h1 h2 => ?_
  have hj : j < xs.length := by simpa using h2
  simp only [List.getElem_map, List.getElem_range]
  rw [List.getD_eq_getElem?_getD, List.getElem?_eq_getElem hj]; rfl

theorem swaps_cell {elt : Expr} {gens : List Comprehension} {sc : Scope} {p pt : Pos} {t : Str} {line : Nat} (h : env.kindOf t = some .cell) : swapsWith (.ListComp elt gens sc p) (some (.Name t pt)) line env = pure false := by
  show (pure (env.blockKind == .function && env.kindOf t == some .local && pt.line == p.line && !(sc.names.any fun (n, k) => n == t && (k == .local || k == .cell))) : Sem Bool) = pure false
  rw [h, show ((some NameKind.cell : Option NameKind) == some NameKind.local) = false by decide, Bool.and_false, Bool.false_and, Bool.false_and]

theorem law_lines (T : Kt K) (e : LEnv env) (r : Room A 6) (leads : List Str) (hL : ∀ x ∈ leads, Lead x) (hz : leads.length < 20) (f : Fm K s₀ mk env Y X₀ s lm om) (hl : om (Str.ofString "leads") = some (leads.map AV.str)) {Q : Flow → Shared → Prop} {E : Value → Shared → Prop}
    (q : ∀ Y' s' lm' om', Fm K s₀ mk env Y' X₀ s' lm' om' → lm' (Str.ofString "leads") = some (.list (leads.map AV.str)) → lm' (Str.ofString "lines") = some (.list ((leads.map lineOf).map AV.str)) → om' (Str.ofString "shown") = some [] → wpAny (model prog w) A (execs ((bodyOf lawS).drop 4) env) Q E s') :
    wpAny (model prog w) A (execs ((bodyOf lawS).drop 2) env) Q E s := by
  obtain ⟨Y₁, f₁⟩ := f.freeze hl
  refine wpAny_execs_cons (st_assign (a := .list ((leads.map lineOf).map AV.str)) f₁ (Ev.cast (EvF.ev (evf_comp (lm := noM) (cl := []) (n := leads.length) (it := fun i => (leads.map AV.str).getD i .none) (el := fun i => .str (lineOf (leads.getD i ⟨#[]⟩))) r.hd f₁.cxs ((iter_list r.hd f₁.cxs (lv f₁ upd_eq)).len (List.length_map ..)) freeV_none (by omega) e.fn e.glob e.bi (closureFor_none (by decide +kernel)) (by decide +kernel) rfl (by decide +kernel) (by decide +kernel) rfl (fun _ => rfl) (fun cenv D i s₂ ce hi hv hc => ?_)) f₁.cxs) ?_) e.cell ?_ fun s₂ f₂ => ?_)
  · have h1 := hv
    rw [getD_str leads i hi] at h1
    have e1 : leads.getD i ⟨#[]⟩ = leads[i] := by rw [List.getD_eq_getElem?_getD, List.getElem?_eq_getElem hi]; rfl
    rw [e1]
    have hll := lead_len (hL _ (List.getElem_mem hi))
    have ht4 : tailS.length = 4 := by decide +kernel
    exact ev_addS (ev_var h1 upd_eq (ce.b (K := K)).fn (by decide +kernel)) ev_str (by show leads[i].length + tailS.length ≤ _; omega)
  · rw [range_map leads ⟨#[]⟩ fun x => AV.str (lineOf x), List.map_map]; rfl
  · exact swaps_cell e.kc
  · refine wpAny_execs_cons (st_assign_own f₂ (evf_list evl_nil (by decide)) e.cell rfl fun a₃ s₃ f₃ => ?_)
    exact q _ _ _ _ f₃ (dl (up upd_eq)) (dl upd_eq) upd_eq
end
end Mine
end

section
set_option maxRecDepth 100000
set_option maxHeartbeats 0
namespace Mine
open PySem PySem.W PySem.Calls PyProof.Rows

section
variable {prog : Program} {w : World} {A : Around} {env : Env} {Y X X₀ : List Addr} {s s' s₀ : Shared} {K : Frag} {lm : LM} {om : OM} {mk : Mk}

def forBody : Stmt → List Stmt
  | .For _ _ b _ _ => b
  | _ => []
theorem cmp_same {a : AV} {h : Heap} (ha : plainA a = true) (hu : A.units + (toPy a).depth < cLine) : Cmp prog w A X .NotEq a a false h := by
  have := cmp_deepNe (prog := prog) (w := w) (A := A) (X := X) (h := h) ha ha hu
  rw [SeqAt.eqv_refl _ (canLay_of ha)] at this
  exact this

theorem iter_range1 (T : Kt K) (bb : BEnv K env) (c : Cx K X s.heap) (hh : A.handled = none) {e : Expr} {p pos : Pos} {b : Int} (h1 : Ev prog w A env X s e (.int b)) (hb : -1000000 < b ∧ b < 1000000)
    (hx : env.kindOf (Str.ofString "range") = some .globalImplicit) (he : starEach [e] env = (false, eval e env) :: starEach [] env) :
    Iter prog w A env X s (.Call (.Name (Str.ofString "range") p) [e] [] pos) b.toNat (fun i => .int i) := by
  intro s₁ Q E x q
  have hr : EvP prog w A env s (.Call (.Name (Str.ofString "range") p) [e] [] pos) (fun v s₂ => ∃ r t u t', v = .ref r ∧ IsRange s₂.heap r 0 b 1 t u t') := by
    refine ev_callT (T := "range") (evp_builtin T.b c bb.fn bb.glob bb.bi hx (by decide +kernel) T.nRange (by decide +kernel) (by decide +kernel)) (evl_one h1 he) (fun s₁ vs Q E _ r q => ?_) he fun _ => rfl
    obtain ⟨v, rfl, rv⟩ := r.one
    cases rv
    exact call_range_1 (q _ _ (.of (Kp.push _ _)) ⟨_, _, _, _, rfl, IsRange.new ..⟩)
  refine hr s₁ _ _ x fun v s₂ x₂ hv => ?_
  obtain ⟨r, t, u, t', rfl, hr⟩ := hv
  refine wpAny_pyIter_range hr (small_one (by omega) (by omega) (by omega) (by omega)) ?_
  have W := Walks.range (prog := prog) (w := w) hh s₂.heap.objs.size 0 1 b.toNat
  have c₂ := c.mono (x.trans x₂).keep
  refine q _ _ (itok_before x₂ ⟨_, _, _, _, rfl, .of' (Kp.push _ _), push_none _, W, ?_, fun b hb => ?_, fun i h st => ⟨_, _, st, rfl⟩, fun i v hv => ?_⟩)
  · have := Heap.get?_push_size s₂.heap (o := { cls := .type "range_iterator", data := .fields #[rawInt 0, rawInt (Builtin.Range.rangeSize 0 b 1), rawInt 1] }) rfl
    have e1 : (0 : Int) + ((0 : Nat) : Int) * 1 = 0 := by omega
    have e2 : (b.toNat : Int) - ((0 : Nat) : Int) = if (0 : Int) < b then b - 0 else 0 := by split <;> omega
    rw [rangeSize_one] at this ⊢
    rw [e1, e2]
    exact this
  · rw [List.mem_singleton.mp hb]; exact ⟨c₂.off (push_none _), _, Heap.get?_push_size _ rfl⟩
  · obtain ⟨t, rfl⟩ := hv
    have : (0 : Int) + (i : Int) * 1 = i := by omega
    rw [this]
    exact .int _ _

def pairsOf (leads : List Str) (w : Int) : List AV := leads.map fun x => .tup [.int x.length, .int (col w x)]
theorem pairs_plain (leads : List Str) (w : Int) : plainA (.list (pairsOf leads w)) = true ∧ (toPy (.list (pairsOf leads w))).depth ≤ 2 := by
  unfold pairsOf
  have h1 : ∀ l : List Str, plainL (l.map fun x => AV.tup [.int x.length, .int (col w x)]) = true := by
    intro l
    induction l with
    | nil => simp only [List.map_nil, plainL]
    | cons x l ih => simp only [List.map_cons, plainL, plainA, ih, Bool.and_self]
  have h2 : ∀ l : List Str, PyData.depthAll (toPyL (l.map fun x => AV.tup [.int x.length, .int (col w x)])) ≤ 1 := by
    intro l
    induction l with
    | nil => simp only [List.map_nil, toPyL, PyData.depthAll]; omega
    | cons x l ih => simp only [List.map_cons, toPyL, toPy, PyData.depthAll, PyData.depth]; omega
  refine ⟨by simp only [plainA]; exact h1 leads, ?_⟩
  have := h2 leads
  simp only [toPy, PyData.depth]
  omega

theorem getD_pairs (leads : List Str) (w : Int) (i : Nat) (h : i < leads.length) : (pairsOf leads w)[i]? = some (.tup [.int leads[i].length, .int (col w leads[i])]) := by
  unfold pairsOf
  rw [List.getElem?_map, List.getElem?_eq_getElem h]; rfl

/-- one width -/
theorem law_width (T : Kt K) (W : Kw K) (Rk : Kr K) (e : LEnv env) (r : Room A 6) (leads : List Str) (hL : ∀ x ∈ leads, Lead x) (hz : leads.length < 20) (wd : Int) (h0 : 0 < wd) (h1 : wd < 100) (ok : WOk leads wd) (sh : List AV) (hsh : sh.length < 1000)
    {pos0 px0 : Pos} (f : Fm K s₀ mk env Y X₀ s lm om) (hl : lm (Str.ofString "leads") = some (.list (leads.map AV.str))) (hn : lm (Str.ofString "lines") = some (.list ((leads.map lineOf).map AV.str))) (hw : lm (Str.ofString "width") = some (.int wd)) (ho : om (Str.ofString "shown") = some sh)
    {Q : Flow → Shared → Prop} {E : Value → Shared → Prop}
    (q : ∀ s' lm', Fm K s₀ mk env Y X₀ s' lm' (upd (del (del om (Str.ofString "columns")) (Str.ofString "told")) (Str.ofString "shown") (sh ++ [.list ((depOf (cols leads wd)).map AV.int)])) → lm' (Str.ofString "leads") = some (.list (leads.map AV.str)) → lm' (Str.ofString "lines") = some (.list ((leads.map lineOf).map AV.str)) → Q .next s') :
    wpAny (model prog w) A (execs (forBody (nthS (bodyOf lawS) 4)) env) Q E s := by
  have clW : [(Str.ofString "width", env.locals + 4)].map (·.1) = [Str.ofString "width"] := rfl
  have hgd : ∀ i, i < leads.length → leads.getD i ⟨#[]⟩ = leads[i]! := fun i hi => by
    rw [List.getD_eq_getElem?_getD, List.getElem?_eq_getElem hi, List.getElem!_eq_getElem?_getD, List.getElem?_eq_getElem hi]; rfl
  -- columns
  refine wpAny_execs_cons (st_assign (a := .list ((cols leads wd).map AV.int)) f (Ev.cast (EvF.ev (evf_comp (lm := freeLM lm [Str.ofString "width"]) (cl := [(Str.ofString "width", env.locals + 4)]) (n := leads.length) (it := fun i => (leads.map AV.str).getD i .none) (el := fun i => .int (col wd (leads.getD i ⟨#[]⟩))) r.hd f.cxs ((iter_list r.hd f.cxs (lv f hl)).len (List.length_map ..)) ?_ (by omega) e.fn e.glob e.bi ?_ (by decide +kernel) rfl (by decide +kernel) (by decide +kernel) freeLM_no (fun _ => rfl) (fun cenv D i s₂ ce hi hv hc => ?_)) f.cxs) ?_) e.cell (swaps_cell e.kc) fun s₁ f₁ => ?_)
  · refine f.freeC fun p hp => ?_
    rw [List.mem_singleton.mp hp]
    dsimp only
    exact ⟨by decide +kernel, e.kc, by rw [e.cells]; kernel_rfl⟩
  · rw [e.with]; kernel_rfl
  · have hv' := hv
    rw [getD_str leads i hi] at hv'
    have e1 : leads.getD i ⟨#[]⟩ = leads[i] := by rw [List.getD_eq_getElem?_getD, List.getElem?_eq_getElem hi]; rfl
    rw [e1]
    exact ev_call hc (evp_global T.b hc (ce.b (K := K)).fn (ce.b (K := K)).glob ce.gl (by decide +kernel) T.gCol) T.fCol.keep (evl_two (ev_var hv' upd_eq (ce.b (K := K)).fn (by decide +kernel)) (ev_var hv' (up (fr hw)) (ce.b (K := K)).fn (by decide +kernel)) rfl rfl) (fn_col T.b T.fCol leads[i] wd h0 (by omega) A _ s₂ (r.le (by decide)) hc) rfl fun _ => rfl
  · rw [range_map leads ⟨#[]⟩ fun x => AV.int (col wd x)]
    unfold cols; rw [List.map_map]; rfl
  have hl₁ : (upd lm (Str.ofString "columns") (.list ((cols leads wd).map AV.int))) (Str.ofString "leads") = some (.list (leads.map AV.str)) := up hl
  have hn₁ : (upd lm (Str.ofString "columns") (.list ((cols leads wd).map AV.int))) (Str.ofString "lines") = some (.list ((leads.map lineOf).map AV.str)) := up hn
  have hw₁ : (upd lm (Str.ofString "columns") (.list ((cols leads wd).map AV.int))) (Str.ofString "width") = some (.int wd) := up hw
  have nl : (leads.map lineOf).length = leads.length := List.length_map ..
  have lineAt : ∀ i (hi : i < leads.length), ((leads.map lineOf).map AV.str).getD i AV.none = .str (lineOf leads[i]) := fun i hi => by
    rw [getD_str (leads.map lineOf) i (by rw [nl]; exact hi), List.getElem_map]
  -- told
  refine wpAny_execs_cons (st_assign (a := .list (pairsOf leads wd)) f₁ (Ev.cast (EvF.ev (evf_comp (lm := freeLM (upd lm (Str.ofString "columns") (.list ((cols leads wd).map AV.int))) [Str.ofString "width"]) (cl := [(Str.ofString "width", env.locals + 4)]) (n := leads.length) (it := fun i => ((leads.map lineOf).map AV.str).getD i .none) (el := fun i => .tup [.int (leads.getD i ⟨#[]⟩).length, .int (col wd (leads.getD i ⟨#[]⟩))]) r.hd f₁.cxs ((iter_list r.hd f₁.cxs (lv f₁ hn₁)).len (by rw [List.length_map, nl])) ?_ (by omega) e.fn e.glob e.bi ?_ (by decide +kernel) rfl (by decide +kernel) (by decide +kernel) freeLM_no (fun _ => rfl) (fun cenv D i s₂ ce hi hv hc => ?_)) f₁.cxs) ?_) e.cell (swaps_cell e.kc) fun s₂ f₂ => ?_)
  · refine f₁.freeC fun p hp => ?_
    rw [List.mem_singleton.mp hp]
    dsimp only
    exact ⟨by decide +kernel, e.kc, by rw [e.cells]; kernel_rfl⟩
  · rw [e.with]; kernel_rfl
  · have hv' := hv
    rw [lineAt i hi] at hv'
    have e1 : leads.getD i ⟨#[]⟩ = leads[i] := by rw [List.getD_eq_getElem?_getD, List.getElem?_eq_getElem hi]; rfl
    rw [e1]
    have hm := List.getElem_mem hi
    have ld := hL _ hm
    obtain ⟨m, m1, m2, m3, m4⟩ := re_ok ld
    obtain ⟨ll1, ll2⟩ := lead_line ld
    have hfn := fn_ind (prog := prog) (w := w) T Rk (lineOf leads[i]) wd h0 h1 (by omega) leads[i].length 50 m (by decide) m1 m2 m3 m4
    rw [ll2, ok.exp _ hm] at hfn
    exact ev_call hc (evp_global T.b hc (ce.b (K := K)).fn (ce.b (K := K)).glob ce.gl (by decide +kernel) T.gInd) T.fInd.keep (evl_two (ev_var hv' upd_eq (ce.b (K := K)).fn (by decide +kernel)) (ev_var hv' (up (fr hw₁)) (ce.b (K := K)).fn (by decide +kernel)) rfl rfl) (hfn A _ s₂ (r.le (by decide)) hc) rfl fun _ => rfl
  · rw [range_map leads ⟨#[]⟩ fun x => AV.tup [.int x.length, .int (col wd x)]]; rfl
  have hc₂ : (upd (upd lm (Str.ofString "columns") (.list ((cols leads wd).map AV.int))) (Str.ofString "told") (.list (pairsOf leads wd))) (Str.ofString "columns") = some (.list ((cols leads wd).map AV.int)) := up upd_eq
  have hl₂ : (upd (upd lm (Str.ofString "columns") (.list ((cols leads wd).map AV.int))) (Str.ofString "told") (.list (pairsOf leads wd))) (Str.ofString "leads") = some (.list (leads.map AV.str)) := up hl₁
  have hn₂ : (upd (upd lm (Str.ofString "columns") (.list ((cols leads wd).map AV.int))) (Str.ofString "told") (.list (pairsOf leads wd))) (Str.ofString "lines") = some (.list ((leads.map lineOf).map AV.str)) := up hn₁
  have hw₂ : (upd (upd lm (Str.ofString "columns") (.list ((cols leads wd).map AV.int))) (Str.ofString "told") (.list (pairsOf leads wd))) (Str.ofString "width") = some (.int wd) := up hw₁
  have ht₂ : (upd (upd lm (Str.ofString "columns") (.list ((cols leads wd).map AV.int))) (Str.ofString "told") (.list (pairsOf leads wd))) (Str.ofString "told") = some (.list (pairsOf leads wd)) := upd_eq
  generalize hlm : upd (upd lm (Str.ofString "columns") (.list ((cols leads wd).map AV.int))) (Str.ofString "told") (.list (pairsOf leads wd)) = lm₂ at f₂ hc₂ hl₂ hn₂ hw₂ ht₂
  have pp := pairs_plain leads wd
  have run := r.un
  -- if told != ..
  refine wpAny_execs_cons (st_if (b := false) (ts_cmp (X := Y ++ X₀) (lv f₂ ht₂) (Ev.cast (EvF.ev (evf_comp (lm := freeLM lm₂ [Str.ofString "leads", Str.ofString "columns"]) (cl := [(Str.ofString "leads", env.locals + 1), (Str.ofString "columns", env.locals + 5)]) (n := leads.length) (it := fun i => .int i) (el := fun i => .tup [.int (leads.getD i ⟨#[]⟩).length, .int (col wd (leads.getD i ⟨#[]⟩))]) r.hd f₂.cxs ((iter_range1 T e.b f₂.cxs r.hd (Ev.cast (ev_lenL T e.b f₂.cxs (lv f₂ hl₂) (by rw [List.length_map]; omega) e.gl rfl) (by rw [List.length_map])) (by omega) e.gl rfl).len (Int.toNat_natCast _)) ?_ (by omega) e.fn e.glob e.bi ?_ (by decide +kernel) rfl (by decide +kernel) (by decide +kernel) freeLM_no (fun _ => rfl) (fun cenv D i s₃ ce hi hv hc => ?_)) f₂.cxs) ?_) (cmp_same pp.1 (by omega)) rfl) fun s₃ x₃ => ?_)
  · refine f₂.freeC fun p hp => ?_
    simp only [List.mem_cons, List.not_mem_nil, or_false] at hp
    rcases hp with rfl | rfl
    · dsimp only
      exact ⟨by decide +kernel, e.kc, by rw [e.cells]; kernel_rfl⟩
    · dsimp only
      exact ⟨by decide +kernel, e.kc, by rw [e.cells]; kernel_rfl⟩
  · rw [e.with]; kernel_rfl
  · have e1 : leads.getD i ⟨#[]⟩ = leads[i] := by rw [List.getD_eq_getElem?_getD, List.getElem?_eq_getElem hi]; rfl
    rw [e1]
    have hll := lead_len (hL _ (List.getElem_mem hi))
    have bf := (ce.b (K := K)).fn
    refine ev_tuple hc (evl_two (ev_lenS T ce.b hc (ev_itemL (a := .str leads[i]) (ev_var hv (up (fr hl₂)) bf (by decide +kernel)) (ev_var hv upd_eq bf (by decide +kernel)) (by omega) ?_ (by omega) (fun _ _ => rfl)) (by omega) ce.gl rfl) (ev_itemL (a := .int (col wd leads[i])) (ev_var hv (up (fr hc₂)) bf (by decide +kernel)) (ev_var hv upd_eq bf (by decide +kernel)) (by omega) ?_ (by omega) (fun _ _ => rfl)) rfl rfl) (by show 2 ≤ sizeLine; decide)
    · rw [Int.toNat_natCast, List.getElem?_map, List.getElem?_eq_getElem hi]; rfl
    · rw [Int.toNat_natCast]; unfold cols
      rw [List.map_map, List.getElem?_map, List.getElem?_eq_getElem hi]; rfl
  · rw [range_map leads ⟨#[]⟩ fun x => AV.tup [.int x.length, .int (col wd x)]]; rfl
  have f₃ := f₂.after x₃
  rw [if_neg (by decide)]
  refine wpAny_execs_nil ?_
  -- if [..indent_level..] != columns
  have pc : plainA (.list ((cols leads wd).map AV.int)) = true := by simp only [plainA, plain_ints]
  have dc : (toPy (.list ((cols leads wd).map AV.int))).depth ≤ 1 := by simp only [toPy, PyData.depth, depth_ints]; omega
  refine wpAny_execs_cons (st_if (b := false) (ts_cmp (X := Y ++ X₀) (Ev.cast (EvF.ev (evf_comp (lm := freeLM lm₂ [Str.ofString "width"]) (cl := [(Str.ofString "width", env.locals + 4)]) (n := leads.length) (it := fun i => ((leads.map lineOf).map AV.str).getD i .none) (el := fun i => .int (col wd (leads.getD i ⟨#[]⟩))) r.hd f₃.cxs ((iter_list r.hd f₃.cxs (lv f₃ hn₂)).len (by rw [List.length_map, nl])) ?_ (by omega) e.fn e.glob e.bi ?_ (by decide +kernel) rfl (by decide +kernel) (by decide +kernel) freeLM_no (fun _ => rfl) (fun cenv D i s₄ ce hi hv hc => ?_)) f₃.cxs) ?_) (lv f₃ hc₂) (cmp_same pc (by omega)) rfl) fun s₄ x₄ => ?_)
  · refine f₃.freeC fun p hp => ?_
    rw [List.mem_singleton.mp hp]
    dsimp only
    exact ⟨by decide +kernel, e.kc, by rw [e.cells]; kernel_rfl⟩
  · rw [e.with]; kernel_rfl
  · have hv' := hv
    rw [lineAt i hi] at hv'
    have e1 : leads.getD i ⟨#[]⟩ = leads[i] := by rw [List.getD_eq_getElem?_getD, List.getElem?_eq_getElem hi]; rfl
    rw [e1]
    have hm := List.getElem_mem hi
    have ld := hL _ hm
    obtain ⟨ll1, ll2⟩ := lead_line ld
    have okw := wsOk (lineOf leads[i]) (by omega)
    have bf := (ce.b (K := K)).fn
    have hfn := fn_ilev (prog := prog) (w := w) T W (wsOf (lineOf leads[i])) wd h0 (by omega) (by have := okw.len; omega)
    rw [ok.lev _ hm] at hfn
    exact ev_wsm W T.fIlev hc (ev_call hc (evp_global T.b hc bf (ce.b (K := K)).glob ce.gl (by decide +kernel) T.gWs) W.keepC (evl_one (ev_var hv' upd_eq bf (by decide +kernel)) rfl) (fn_ws T W (lineOf leads[i]) (by omega) A _ s₄ (r.le (by decide)) hc) rfl fun _ => rfl) W.mIlev W.tIlev (by decide +kernel) (evl_one (ev_var hv' (up (fr hw₂)) bf (by decide +kernel)) rfl) (hfn A _ s₄ (r.le (by decide)) hc) rfl rfl rfl
  · rw [range_map leads ⟨#[]⟩ fun x => AV.int (col wd x)]
    unfold cols; rw [List.map_map]; rfl
  have f₄ := f₃.after x₄
  rw [if_neg (by decide)]
  refine wpAny_execs_nil ?_
  -- shown.append
  have cl_ : (cols leads wd).length = leads.length := by unfold cols; exact List.length_map ..
  have ho₄ : (del (del om (Str.ofString "columns")) (Str.ofString "told")) (Str.ofString "shown") = some sh := dl (dl ho)
  refine wpAny_execs_cons (st_append (a := .list ((depOf (cols leads wd)).map AV.int)) f₄ ho₄ (ev_call f₄.cxs (evp_global T.b f₄.cxs e.fn e.glob e.gl (by decide +kernel) T.gDep) T.fDep.keep (evl_one (lv f₄ hc₂) rfl) (fn_dep T (cols leads wd) (by omega) A _ s₄ (r.le (by decide)) f₄.cxs) rfl fun _ => rfl) (by omega) (by decide +kernel) rfl rfl rfl fun s₅ f₅ => ?_)
  -- if _law_nanny(..) != shown[-1]
  have pd : plainA (.list ((depOf (cols leads wd)).map AV.int)) = true := by simp only [plainA, plain_ints]
  have dd : (toPy (.list ((depOf (cols leads wd)).map AV.int))).depth ≤ 1 := by simp only [toPy, PyData.depth, depth_ints]; omega
  have pl : (pageOf leads wd).length = leads.length := by unfold pageOf; exact List.length_map ..
  have hnan := fn_nan (prog := prog) (w := w) T W (pageOf leads wd) (by omega) ok.page
  rw [ok.nan] at hnan
  refine wpAny_execs_cons (st_if (b := false) (ts_cmp (X := []) (ev_call f₅.cx0 (evp_global T.b f₅.cx0 e.fn e.glob e.gl (by decide +kernel) T.gNan) T.fNan.keep (evl_one (Ev.less (X := Y ++ X₀) (Ev.cast (EvF.ev (evf_comp (lm := freeLM lm₂ [Str.ofString "told", Str.ofString "lines"]) (cl := [(Str.ofString "told", env.locals + 6), (Str.ofString "lines", env.locals + 2)]) (n := leads.length) (it := fun i => .int i) (el := fun i => .str (Txt.mul (Str.ofString " ") (col wd (leads.getD i ⟨#[]⟩)) ++ Txt.slice (lineOf (leads.getD i ⟨#[]⟩)) (some ((leads.getD i ⟨#[]⟩).length : Int)) none)) r.hd f₅.cxs ((iter_range1 T e.b f₅.cxs r.hd (Ev.cast (ev_lenL T e.b f₅.cxs (lv f₅ hn₂) (by rw [List.length_map, nl]; omega) e.gl rfl) (by rw [List.length_map, nl])) (by omega) e.gl rfl).len (Int.toNat_natCast _)) ?_ (by omega) e.fn e.glob e.bi ?_ (by decide +kernel) rfl (by decide +kernel) (by decide +kernel) freeLM_no (fun _ => rfl) (fun cenv D i s₆ ce hi hv hc => ?_)) f₅.cxs) (b := .list ((pageOf leads wd).map AV.str)) ?_) (by simp)) rfl) (hnan A [] s₅ (r.le (by decide)) f₅.cx0) rfl fun _ => rfl) (ev_itemN (a := .list ((depOf (cols leads wd)).map AV.int)) (ev_own f₅ upd_eq (by decide +kernel)) (ev_neg ev_int) (by decide) (by rw [List.length_append, List.length_singleton]; omega) ?_ (by decide) (fun _ _ => rfl)) (cmp_same pd (by omega)) rfl) fun s₆ x₆ => ?_)
  · refine f₅.freeC fun p hp => ?_
    simp only [List.mem_cons, List.not_mem_nil, or_false] at hp
    rcases hp with rfl | rfl
    · dsimp only
      exact ⟨by decide +kernel, e.kc, by rw [e.cells]; kernel_rfl⟩
    · dsimp only
      exact ⟨by decide +kernel, e.kc, by rw [e.cells]; kernel_rfl⟩
  · rw [e.with]; kernel_rfl
  · have e1 : leads.getD i ⟨#[]⟩ = leads[i] := by rw [List.getD_eq_getElem?_getD, List.getElem?_eq_getElem hi]; rfl
    rw [e1]
    have hm := List.getElem_mem hi
    have ld := hL _ hm
    have sm := ok.small _ hm
    obtain ⟨ll1, ll2⟩ := lead_line ld
    have bf := (ce.b (K := K)).fn
    have hpg := ok.page (Txt.mul (Str.ofString " ") (col wd leads[i]) ++ Txt.slice (lineOf leads[i]) (some (leads[i].length : Int)) none) (List.mem_map.mpr ⟨leads[i], hm, rfl⟩)
    rw [Str.length_append] at hpg
    have tk : ∀ pos pos' pos'', Ev prog w A cenv (cenv.locals :: D :: (Y ++ X₀)) s₆ (.Subscript (.Name (Str.ofString "told") pos) (.Name (Str.ofString "k") pos') pos'') (.tup [.int leads[i].length, .int (col wd leads[i])]) := fun pos pos' pos'' =>
      ev_itemL (ev_var hv (up (fr ht₂)) bf (by decide +kernel)) (ev_var hv upd_eq bf (by decide +kernel)) (by omega) (by rw [Int.toNat_natCast]; exact getD_pairs leads wd i hi) (by omega) (fun _ _ => rfl)
    refine ev_addS (ev_mulS ev_str (ev_itemT (a := .int (col wd leads[i])) (tk _ _ _) ev_int (by decide) rfl (by decide) (fun _ _ => rfl)) sm.1 (by omega) (by decide +kernel)) (ev_fromS (ev_itemL (a := .str (lineOf leads[i])) (ev_var hv (up (fr hn₂)) bf (by decide +kernel)) (ev_var hv upd_eq bf (by decide +kernel)) (by omega) ?_ (by omega) (fun _ _ => rfl)) (ev_itemT (a := .int leads[i].length) (tk _ _ _) ev_int (by decide) rfl (by decide) (fun _ _ => rfl)) (by omega) (fun _ _ => ⟨_, rfl⟩)) (by omega)
    rw [Int.toNat_natCast, List.map_map, List.getElem?_map, List.getElem?_eq_getElem hi]; rfl
  · unfold pageOf
    rw [range_map leads ⟨#[]⟩ fun x => AV.str (Txt.mul (Str.ofString " ") (col wd x) ++ Txt.slice (lineOf x) (some (x.length : Int)) none), List.map_map]; rfl
  · have e2 : (-1 + ((sh ++ [AV.list ((depOf (cols leads wd)).map AV.int)]).length : Int)).toNat = sh.length := by rw [List.length_append, List.length_singleton]; omega
    show (sh ++ [AV.list ((depOf (cols leads wd)).map AV.int)])[(-1 + ((sh ++ [AV.list ((depOf (cols leads wd)).map AV.int)]).length : Int)).toNat]? = _
    rw [e2, List.getElem?_append_right (Nat.le_refl _), Nat.sub_self]; rfl
  have f₆ := f₅.after x₆
  rw [if_neg (by decide)]
  exact wpAny_execs_nil (wpAny_execs_nil (q _ _ f₆ hl₂ hn₂))
end
end Mine
end

section
set_option maxRecDepth 100000
set_option maxHeartbeats 0
namespace Mine
open PySem PySem.W PySem.Calls PyProof.Rows

def rowsOf (leads : List Str) : List (List Int) := (List.range (longest leads + 2).toNat).map fun (j : Nat) => depOf (cols leads (1 + (j : Int)))
def rowsA (rows : List (List Int)) : List AV := rows.map fun r => .list (r.map AV.int)
def badRow (rows : List (List Int)) (a : Nat) (row : List Int) : Bool := (row.length == a) || decide (row.take (a + 1) ≠ (rows.headD []).take (a + 1))
def alikeAt (rows : List (List Int)) (n a : Nat) : Bool := decide (a < n) && (rows.filter (badRow rows a)).isEmpty
def alikeGo (rows : List (List Int)) (n : Nat) : Nat → Nat → Nat
  | 0, a => a
  | k + 1, a => if alikeAt rows n a = true then alikeGo rows n k (a + 1) else a
def alikeOf (leads : List Str) : Nat := alikeGo (rowsOf leads) leads.length leads.length 0

section
variable {prog : Program} {w : World} {A : Around} {env : Env} {Y X X₀ : List Addr} {s s' s₀ : Shared} {K : Frag} {lm : LM} {om : OM} {mk : Mk}

theorem law_loop (T : Kt K) (W : Kw K) (Rk : Kr K) (e : LEnv env) (r : Room A 6) (leads : List Str) (hL : ∀ x ∈ leads, Lead x) (hz : leads.length < 20) (hlo : 0 ≤ longest leads ∧ longest leads ≤ 4) (hne : 0 < (longs leads).length) (ok : ∀ j : Nat, (j : Int) < longest leads + 2 → WOk leads (1 + j))
    (f : Fm K s₀ mk env Y X₀ s lm om) (hl : lm (Str.ofString "leads") = some (.list (leads.map AV.str))) (hn : lm (Str.ofString "lines") = some (.list ((leads.map lineOf).map AV.str))) (ho : om (Str.ofString "shown") = some [])
    {Q : Flow → Shared → Prop} {E : Value → Shared → Prop}
    (q : ∀ Y' s' lm' om', Fm K s₀ mk env Y' X₀ s' lm' om' → lm' (Str.ofString "leads") = some (.list (leads.map AV.str)) → lm' (Str.ofString "lines") = some (.list ((leads.map lineOf).map AV.str)) → lm' (Str.ofString "shown") = some (.list (rowsA (rowsOf leads))) → lm' (Str.ofString "alike") = some (.int ((0 : Nat) : Int)) → wpAny (model prog w) A (execs ((bodyOf lawS).drop 6) env) Q E s') :
    wpAny (model prog w) A (execs ((bodyOf lawS).drop 4) env) Q E s := by
  have hfl := fn_long (prog := prog) (w := w) T leads (by omega) (fun x hx => by
    have h1 := lead_len (hL x hx)
    have h2 := lead_split (hL x hx)
    exact ⟨by omega, h2.1, h2.2.1⟩) hne
  refine wpAny_execs_cons (st_for f (iter_range T e.b f.cxs r.hd ev_int (ev_add (ev_call f.cxs (evp_global T.b f.cxs e.fn e.glob e.gl (by decide +kernel) T.gLong) T.fLong.keep (evl_one (lv f hl) rfl) (hfl A _ s (r.le (by decide)) f.cxs) rfl fun _ => rfl) ev_int) (by omega) (by omega) e.gl rfl rfl) e.cell
    (fun i lm om => lm (Str.ofString "leads") = some (.list (leads.map AV.str)) ∧ lm (Str.ofString "lines") = some (.list ((leads.map lineOf).map AV.str)) ∧ om (Str.ofString "shown") = some (rowsA ((List.range i).map fun (j : Nat) => depOf (cols leads (1 + (j : Int)))))) (fun _ _ => False)
    ⟨hl, hn, ho⟩ ?_ ?_ (fun _ => rfl))
  · rintro i Y' lm' om' s₂ E' hi ⟨g1, g2, g3⟩ f₂
    have hi' : (i : Int) < longest leads + 2 := by omega
    refine law_width (pos0 := default) (px0 := default) T W Rk e r leads hL hz (1 + (i : Int)) (by omega) (by omega) (ok i hi') (rowsA ((List.range i).map fun (j : Nat) => depOf (cols leads (1 + (j : Int))))) (by unfold rowsA; rw [List.length_map, List.length_map, List.length_range]; omega) f₂ (up g1) (up g2) upd_eq (dl g3) fun s' lm'' f' k1 k2 => ?_
    refine ⟨_, _, _, f', k1, k2, upd_eq.trans ?_⟩
    rw [List.range_succ, List.map_append]
    unfold rowsA
    rw [List.map_append]; rfl
  · rintro Y' lm' om' s₂ hj f₂
    obtain ⟨g1, g2, g3⟩ := hj.resolve_right id
    have e1 : (longest leads + 3 - 1).toNat = (longest leads + 2).toNat := by congr 1; omega
    rw [e1] at g3
    obtain ⟨Y₃, f₃⟩ := f₂.freeze g3
    refine wpAny_execs_cons (st_assign (a := .int ((0 : Nat) : Int)) f₃ ev_int e.cell rfl fun s₃ f₄ => ?_)
    exact q _ _ _ _ f₄ (up (up g1)) (up (up g2)) (up upd_eq) upd_eq

theorem rows_plain (rows : List (List Int)) : plainA (.list (rowsA rows)) = true ∧ (toPy (.list (rowsA rows))).depth ≤ 2 := by
  unfold rowsA
  have h1 : ∀ l : List (List Int), plainL (l.map fun r => AV.list (r.map AV.int)) = true := by
    intro l
    induction l with
    | nil => simp only [List.map_nil, plainL]
    | cons x l ih => simp only [List.map_cons, plainL, plainA, plain_ints, ih, Bool.and_self]
  have h2 : ∀ l : List (List Int), PyData.depthAll (toPyL (l.map fun r => AV.list (r.map AV.int))) ≤ 1 := by
    intro l
    induction l with
    | nil => simp only [List.map_nil, toPyL, PyData.depthAll]; omega
    | cons x l ih => simp only [List.map_cons, toPyL, toPy, PyData.depthAll, PyData.depth, depth_ints]; omega
  refine ⟨by simp only [plainA]; exact h1 rows, ?_⟩
  have := h2 rows
  simp only [toPy, PyData.depth]
  omega

theorem cmp_eqNil {rows : List (List Int)} {h : Heap} (hu : A.units + 2 < cLine) : Cmp prog w A X .Eq (.list (rowsA rows)) (.list []) rows.isEmpty h := by
  have hp := rows_plain rows
  have := cmp_deepEq (prog := prog) (w := w) (A := A) (X := X) (h := h) (a := .list (rowsA rows)) (b := .list []) hp.1 (by simp only [plainA, plainL]) (by omega)
  have e1 : PyData.eqv (toPy (.list (rowsA rows))) (toPy (.list [])) = rows.isEmpty := by
    cases rows with
    | nil => simp [rowsA, toPy, toPyL, PyData.eqv, PyData.eqvAll]
    | cons x l => simp [rowsA, toPy, toPyL, PyData.eqv, PyData.eqvAll]
  rw [e1] at this
  exact this

theorem rowsA_get (rows : List (List Int)) (i : Nat) (h : i < rows.length) : (rowsA rows).getD i AV.none = .list (rows[i].map AV.int) := by
  unfold rowsA
  rw [List.getD_eq_getElem?_getD, List.getElem?_map, List.getElem?_eq_getElem h]; rfl
end
end Mine
end

section
set_option maxRecDepth 100000
set_option maxHeartbeats 0
namespace Mine
open PySem PySem.W PySem.Calls PyProof.Rows

theorem depGo_len : ∀ (cs st acc : List Int), (depGo cs st acc).length ≤ acc.length + cs.length
  | [], st, acc => by simp [depGo]
  | c :: cs, st, acc => by
    unfold depGo
    split
    · have := depGo_len cs (st ++ [c]) (acc ++ [(st.length : Int)])
      rw [List.length_append, List.length_singleton] at this
      rw [List.length_cons]; omega
    · split
      · have := depGo_len cs (st.take (st.idxOf c + 1)) (acc ++ [(st.idxOf c : Int)])
        rw [List.length_append, List.length_singleton] at this
        rw [List.length_cons]; omega
      · omega
theorem rows_len (leads : List Str) : ∀ row ∈ rowsOf leads, row.length ≤ leads.length := by
  intro row hr
  unfold rowsOf at hr
  obtain ⟨j, _, rfl⟩ := List.mem_map.mp hr
  have := depGo_len (cols leads (1 + (j : Int))) [0] []
  unfold depOf
  have h2 : (cols leads (1 + (j : Int))).length = leads.length := by unfold cols; exact List.length_map ..
  simp only [List.length_nil] at this
  omega

section
variable {prog : Program} {w : World} {A : Around} {env : Env} {Y X X₀ : List Addr} {s s' s₀ : Shared} {K : Frag} {lm : LM} {om : OM} {mk : Mk}

theorem filtA_rows (rows : List (List Int)) (p : List Int → Bool) : filtA rows.length (fun i => p (rows.getD i [])) (fun i => (rowsA rows).getD i .none) = rowsA (rows.filter p) := by
  have go : ∀ k, k ≤ rows.length → filtA k (fun i => p (rows.getD i [])) (fun i => (rowsA rows).getD i .none) = rowsA ((rows.take k).filter p) := by
    intro k
    induction k with
    | zero => intro _; rfl
    | succ k ih =>
      intro hk
      have hk' : k < rows.length := by omega
      rw [filtA_succ, ih (by omega), List.take_add_one, List.getElem?_eq_getElem hk', rowsA_get rows k hk']
      have e1 : rows.getD k [] = rows[k] := by rw [List.getD_eq_getElem?_getD, List.getElem?_eq_getElem hk']; rfl
      rw [e1]
      simp only [Option.toList]
      rw [List.filter_append]
      unfold rowsA
      rw [List.map_append]
      congr 1
      cases h : p rows[k] <;> simp [h]
  have := go rows.length (Nat.le_refl _)
  rw [List.take_length] at this
  exact this

theorem law_alike (T : Kt K) (e : LEnv env) (r : Room A 6) (leads : List Str) (rows : List (List Int)) (hz : leads.length < 20) (hr : rows.length < 100) (hr0 : 0 < rows.length) (hrow : ∀ row ∈ rows, row.length ≤ 20)
    (f : Fm K s₀ mk env Y X₀ s lm om) (hl : lm (Str.ofString "leads") = some (.list (leads.map AV.str))) (hn : lm (Str.ofString "lines") = some (.list ((leads.map lineOf).map AV.str))) (hs : lm (Str.ofString "shown") = some (.list (rowsA rows))) (ha : lm (Str.ofString "alike") = some (.int ((0 : Nat) : Int)))
    {Q : Flow → Shared → Prop} {E : Value → Shared → Prop}
    (q : ∀ Y' s' lm' om', Fm K s₀ mk env Y' X₀ s' lm' om' → lm' (Str.ofString "leads") = some (.list (leads.map AV.str)) → lm' (Str.ofString "lines") = some (.list ((leads.map lineOf).map AV.str)) → lm' (Str.ofString "shown") = some (.list (rowsA rows)) → lm' (Str.ofString "alike") = some (.int (alikeGo rows leads.length leads.length 0 : Nat)) → wpAny (model prog w) A (execs ((bodyOf lawS).drop 7) env) Q E s') :
    wpAny (model prog w) A (execs ((bodyOf lawS).drop 6) env) Q E s := by
  have run := r.un
  have nl : ((leads.map lineOf).map AV.str).length = leads.length := by rw [List.length_map, List.length_map]
  have hA : (rowsA rows).length = rows.length := by unfold rowsA; exact List.length_map ..
  refine wpAny_execs_cons (st_while f (fun k lm om => ∃ a : Nat, k + a = leads.length ∧ lm (Str.ofString "leads") = some (.list (leads.map AV.str)) ∧ lm (Str.ofString "lines") = some (.list ((leads.map lineOf).map AV.str)) ∧ lm (Str.ofString "shown") = some (.list (rowsA rows)) ∧ lm (Str.ofString "alike") = some (.int (a : Int)) ∧ alikeGo rows leads.length k a = alikeGo rows leads.length leads.length 0) leads.length ⟨0, rfl, hl, hn, hs, ha, rfl⟩ ?_)
  rintro k Y' lm' om' s₁ ⟨a, hka, g1, g2, g3, g4, g5⟩ f₁
  have sl : ∀ (row : List Int), pick (row.map AV.int) none (some ((a : Int) + 1)) none = (row.take (a + 1)).map AV.int := fun row => by
    have := pick_to (row.map AV.int) (a + 1)
    push_cast at this
    rw [this, List.map_take]
  refine ⟨alikeAt rows leads.length a, Ts.cast (ts_and (b := decide ((a : Int) < (leads.length : Int))) (c := (rows.filter (badRow rows a)).isEmpty) (Ts.cast (ts_cmp (X := Y' ++ X₀) (lv f₁ g4) (ev_lenL T e.b f₁.cxs (lv f₁ g2) (by omega) e.gl rfl) cmp_lt rfl) (by rw [nl])) (fun hb => ?_)) (by unfold alikeAt; simp), fun hb s₂ E' f₂ => ?_, fun hb s₂ f₂ => ?_⟩
  · refine ts_cmp (X := Y' ++ X₀) (Ev.cast (EvF.ev (evf_compIf (lm := freeLM lm' [Str.ofString "shown", Str.ofString "alike"]) (cl := [(Str.ofString "shown", env.locals + 3), (Str.ofString "alike", env.locals + 7)]) (n := rows.length) (it := fun i => (rowsA rows).getD i .none) (el := fun i => (rowsA rows).getD i .none) (pr := fun i => badRow rows a (rows.getD i [])) r.hd f₁.cxs ((iter_list r.hd f₁.cxs (lv f₁ g3)).len hA) ?_ (by omega) e.fn e.glob e.bi ?_ (by decide +kernel) rfl (by decide +kernel) (by decide +kernel) freeLM_no (fun _ => rfl) (fun cenv D i s₂ ce hi hv hc => ?_) (fun cenv D i s₂ ce hi hv hc => ?_)) f₁.cxs) (congrArg AV.list (filtA_rows rows (badRow rows a)))) (EvF.ev (evf_list evl_nil (by decide)) f₁.cxs) (cmp_eqNil (by omega)) rfl
    · refine f₁.freeC fun p hp => ?_
      simp only [List.mem_cons, List.not_mem_nil, or_false] at hp
      rcases hp with rfl | rfl
      · dsimp only
        exact ⟨by decide +kernel, e.kc, by rw [e.cells]; kernel_rfl⟩
      · dsimp only
        exact ⟨by decide +kernel, e.kc, by rw [e.cells]; kernel_rfl⟩
    · rw [e.with]; kernel_rfl
    · have bf := (ce.b (K := K)).fn
      have hv' := hv
      rw [rowsA_get rows i hi] at hv'
      have e1 : rows.getD i [] = rows[i] := by rw [List.getD_eq_getElem?_getD, List.getElem?_eq_getElem hi]; rfl
      have e0 : rows.headD [] = rows[0] := by cases rows with | nil => exact absurd hr0 (by simp) | cons x l => rfl
      rw [e1]
      have hri := hrow _ (List.getElem_mem hi)
      have hr00 := hrow _ (List.getElem_mem hr0)
      have av : ∀ pos, Ev prog w A cenv (cenv.locals :: D :: (Y' ++ X₀)) s₂ (.Name (Str.ofString "alike") pos) (.int (a : Int)) := fun pos => ev_var hv' (up (fr g4)) bf (by decide +kernel)
      refine Ts.cast (ts_or (ts_cmp (ev_lenL T ce.b hc (ev_var hv' upd_eq bf (by decide +kernel)) (by rw [List.length_map]; omega) ce.gl rfl) (av _) cmp_eq rfl) (c := decide (rows[i].take (a + 1) ≠ rows[0].take (a + 1))) fun _ => ts_cmp (Ev.cast (ev_slice hc (ev_var hv' upd_eq bf (by decide +kernel)) part_none (part_some (ev_add (av _) ev_int)) part_none (by simp) (by rw [List.length_map]; omega) (fun _ _ => ⟨_, rfl⟩)) (congrArg AV.list (sl rows[i]))) (Ev.cast (ev_slice (xs := rows[0].map AV.int) hc (ev_itemL (ev_var hv' (up (fr g3)) bf (by decide +kernel)) ev_int (by decide) ?_ (by decide) (fun _ _ => rfl)) part_none (part_some (ev_add (av _) ev_int)) part_none (by simp) (by rw [List.length_map]; omega) (fun _ _ => ⟨_, rfl⟩)) (congrArg AV.list (sl rows[0]))) (cmp_neI (by omega)) rfl) ?_
      · unfold rowsA
        rw [List.getElem?_map, show (0 : Int).toNat = 0 from rfl, List.getElem?_eq_getElem hr0]; rfl
      · unfold badRow
        rw [e0, List.length_map]
        congr 1
        by_cases h : rows[i].length = a
        · subst h; simp
        · have h2 : ¬ (rows[i].length : Int) = (a : Int) := by omega
          rw [beq_eq_false_iff_ne.mpr h, beq_eq_false_iff_ne.mpr h2]
    · exact ev_var hv upd_eq (ce.b (K := K)).fn (by decide +kernel)
  · refine wpAny_execs_cons (st_assign (a := .int ((a + 1 : Nat) : Int)) f₂ (Ev.cast (ev_add (lv f₂ g4) ev_int) (by push_cast; rfl)) e.cell rfl fun s₃ f₃ => ?_)
    have hlt : a < leads.length := by
      unfold alikeAt at hb
      have := (Bool.and_eq_true_iff.mp hb).1
      simpa using this
    obtain ⟨k', rfl⟩ : ∃ k', k = k' + 1 := ⟨k - 1, by omega⟩
    refine wpAny_execs_nil ⟨k', by omega, _, _, _, f₃, a + 1, by omega, up g1, up g2, up g3, upd_eq, ?_⟩
    rw [← g5, alikeGo, if_pos hb]
  · have e1 : alikeGo rows leads.length k a = a := by
      cases k with
      | zero => rfl
      | succ k => rw [alikeGo, if_neg (by rw [hb]; decide)]
    rw [e1] at g5
    rw [g5] at g4
    exact q _ _ _ _ f₂ g1 g2 g3 g4
end
end Mine
end

section
set_option maxRecDepth 100000
set_option maxHeartbeats 0
namespace Mine
open PySem PySem.W PySem.Calls PyProof.Rows

theorem After.of_ext {s s' : Shared} (x : Ext s s') (t : s.heap.TableAt 122 118 #[]) : After s s' :=
  ⟨fun b o _ e => x.keep b o e, ⟨#[], by simpa using t.keeps x.keep⟩, x.os, fun h => by rw [x.gens]; exact h⟩

/-- the widths at which the first stands no farther left -/
def sizesOf (a b : Str) : List Int := ((List.range (longest [a, b] + 1).toNat).filter fun (i : Nat) => decide (col (1 + (i : Int)) a ≥ col (1 + (i : Int)) b)).map fun (i : Nat) => 1 + (i : Int)

/-- the plain facts that the end asks -/
structure EndOk (leads : List Str) (al : Nat) : Prop where
  nan : nanOf ((leads.map lineOf).map wsOf) = ((rowsOf leads).headD []).take al
  le : al ≤ leads.length
  one : al < leads.length → 1 ≤ al
  long : ∀ a b, leads[al - 1]? = some a → leads[al]? = some b → al < leads.length → 0 ≤ longest [a, b] ∧ longest [a, b] ≤ 4 ∧ 0 < (longs [a, b]).length ∧ sizesOf a b ≠ [] ∧ witL (wsOf (lineOf a)) (wsOf (lineOf b)) = sizesOf a b

section
variable {prog : Program} {w : World} {A : Around} {env : Env} {Y X X₀ : List Addr} {s s' s₀ : Shared} {K : Frag} {lm : LM} {om : OM} {mk : Mk}

theorem law_end1 (T : Kt K) (W : Kw K) (e : LEnv env) (r : Room A 6) (leads : List Str) (hL : ∀ x ∈ leads, Lead x) (hz : leads.length < 20) (hr0 : 0 < (rowsOf leads).length) (al : Nat) (ok : EndOk leads al) (t0 : s₀.heap.TableAt 122 118 #[])
    (f : Fm K s₀ mk env Y X₀ s lm om) (hl : lm (Str.ofString "leads") = some (.list (leads.map AV.str))) (hn : lm (Str.ofString "lines") = some (.list ((leads.map lineOf).map AV.str))) (hs : lm (Str.ofString "shown") = some (.list (rowsA (rowsOf leads)))) (ha : lm (Str.ofString "alike") = some (.int (al : Int)))
    {Q : Flow → Shared → Prop} {E : Value → Shared → Prop} (qr : ∀ s', After s₀ s' → Q (.ret (.bool true)) s')
    (q : al < leads.length → ∀ a b s' lm' om', leads[al - 1]? = some a → leads[al]? = some b → Fm K s₀ mk env Y X₀ s' lm' om' → lm' (Str.ofString "lines") = some (.list ((leads.map lineOf).map AV.str)) → lm' (Str.ofString "alike") = some (.int (al : Int)) → lm' (Str.ofString "two") = some (.list ([a, b].map AV.str)) → wpAny (model prog w) A (execs ((bodyOf lawS).drop 10) env) Q E s') :
    wpAny (model prog w) A (execs ((bodyOf lawS).drop 7) env) Q E s := by
  have run := r.un
  have nl : ((leads.map lineOf).map AV.str).length = leads.length := by rw [List.length_map, List.length_map]
  have hnan := fn_nan (prog := prog) (w := w) T W (leads.map lineOf) (by rw [List.length_map]; omega) (fun x hx => by
    obtain ⟨y, hy, rfl⟩ := List.mem_map.mp hx
    have := (lead_line (hL y hy)).1; omega)
  rw [ok.nan] at hnan
  have e0 : (rowsOf leads).headD [] = (rowsOf leads)[0] := by
    generalize hh : rowsOf leads = rows at hr0 ⊢
    cases rows with | nil => exact absurd hr0 (by simp) | cons x l => rfl
  have hr00 := rows_len leads _ (List.getElem_mem hr0)
  have sl : pick ((rowsOf leads)[0].map AV.int) none (some (al : Int)) none = ((rowsOf leads)[0].take al).map AV.int := by rw [pick_to, List.map_take]
  have pd : plainA (.list (((rowsOf leads)[0].take al).map AV.int)) = true := by simp only [plainA, plain_ints]
  have dd : (toPy (.list (((rowsOf leads)[0].take al).map AV.int))).depth ≤ 1 := by simp only [toPy, PyData.depth, depth_ints]; omega
  rw [e0] at hnan
  refine wpAny_execs_cons (st_if (b := false) (ts_cmp (X := Y ++ X₀) (ev_call f.cxs (evp_global T.b f.cxs e.fn e.glob e.gl (by decide +kernel) T.gNan) T.fNan.keep (evl_one (lv f hn) rfl) (hnan A _ s (r.le (by decide)) f.cxs) rfl fun _ => rfl) (Ev.cast (ev_slice (xs := (rowsOf leads)[0].map AV.int) f.cxs (ev_itemL (lv f hs) ev_int (by decide) ?_ (by decide) (fun _ _ => rfl)) part_none (part_some (lv f ha)) part_none (by simp) (by rw [List.length_map]; omega) (fun _ _ => ⟨_, rfl⟩)) (congrArg AV.list sl)) (cmp_same pd (by omega)) rfl) fun s₁ x₁ => ?_)
  · unfold rowsA
    rw [List.getElem?_map, show (0 : Int).toNat = 0 from rfl, List.getElem?_eq_getElem hr0]; rfl
  have f₁ := f.after x₁
  rw [if_neg (by decide)]
  refine wpAny_execs_nil ?_
  refine wpAny_execs_cons (st_if (b := decide (al = leads.length)) (Ts.cast (ts_cmp (lv f₁ ha) (ev_lenL T e.b f₁.cxs (lv f₁ hn) (by omega) e.gl rfl) cmp_eq rfl) (by
    rw [nl]
    by_cases h : al = leads.length
    · subst h; simp
    · have h2 : ¬ (al : Int) = (leads.length : Int) := by omega
      rw [beq_eq_false_iff_ne.mpr h2]; simp [h])) fun s₂ x₂ => ?_)
  have f₂ := f₁.after x₂
  by_cases hal : al = leads.length
  · rw [if_pos (decide_eq_true hal)]
    refine wpAny_execs_cons (st_return (X := []) (a := .bool true) ev_bool fun v s₃ x₃ rv => ?_)
    cases rv
    exact qr _ (.of_ext (f₂.ext.trans x₃) t0)
  rw [if_neg (by simpa using hal)]
  refine wpAny_execs_nil ?_
  have hlt : al < leads.length := by have := ok.le; omega
  have h1 := ok.one hlt
  have hp : pick (leads.map AV.str) (some ((al : Int) - 1)) (some ((al : Int) + 1)) none = [leads[al - 1], leads[al]].map AV.str := by
    have := pick_mid (leads.map AV.str) (al - 1) (al + 1) (by omega)
    have e1 : ((al - 1 : Nat) : Int) = (al : Int) - 1 := by omega
    have e2 : ((al + 1 : Nat) : Int) = (al : Int) + 1 := by omega
    rw [e1, e2] at this
    rw [this, show al + 1 - (al - 1) = 2 by omega, ← List.map_drop, ← List.map_take]
    congr 1
    rw [List.drop_eq_getElem_cons (show al - 1 < leads.length by omega)]
    have e3 : al - 1 + 1 = al := by omega
    rw [e3, List.drop_eq_getElem_cons hlt]
    rfl
  refine wpAny_execs_cons (st_assign (a := .list ([leads[al - 1], leads[al]].map AV.str)) f₂ (Ev.cast (ev_slice f₂.cxs (lv f₂ hl) (part_some (ev_sub (lv f₂ ha) ev_int)) (part_some (ev_add (lv f₂ ha) ev_int)) part_none (by simp) (by rw [List.length_map]; omega) (fun _ _ => ⟨_, rfl⟩)) (congrArg AV.list hp)) e.cell rfl fun s₃ f₃ => ?_)
  exact q hlt _ _ _ _ _ (List.getElem?_eq_getElem (by omega)) (List.getElem?_eq_getElem hlt) f₃ (up hn) (up ha) upd_eq
end
end Mine
end

section
set_option maxRecDepth 100000
set_option maxHeartbeats 0
namespace Mine
open PySem PySem.W PySem.Calls PyProof.Rows

theorem sizes_bound (a b : Str) (h : longest [a, b] ≤ 4) : ∀ t ∈ sizesOf a b, 0 ≤ t ∧ t < 100 := by
  intro t ht
  unfold sizesOf at ht
  obtain ⟨i, hi, rfl⟩ := List.mem_map.mp ht
  have := List.mem_range.mp (List.mem_filter.mp hi).1
  omega
theorem sizes_len (a b : Str) (h : longest [a, b] ≤ 4) : (sizesOf a b).length ≤ 5 := by
  unfold sizesOf
  rw [List.length_map]
  refine Nat.le_trans (List.length_filter_le _ _) ?_
  rw [List.length_range]; omega

section
variable {prog : Program} {w : World} {A : Around} {env : Env} {Y X X₀ : List Addr} {s s' s₀ : Shared} {K : Frag} {lm : LM} {om : OM} {mk : Mk}

theorem law_end2 (T : Kt K) (W : Kw K) (F : Kf K) (e : LEnv env) (r : Room A 6) (leads : List Str) (hL : ∀ x ∈ leads, Lead x) (hz : leads.length < 20) (al : Nat) (hlt : al < leads.length) (h1 : 1 ≤ al) (a b : Str) (ea : leads[al - 1]? = some a) (eb : leads[al]? = some b)
    (lo : 0 ≤ longest [a, b] ∧ longest [a, b] ≤ 4 ∧ 0 < (longs [a, b]).length ∧ sizesOf a b ≠ [] ∧ witL (wsOf (lineOf a)) (wsOf (lineOf b)) = sizesOf a b)
    (i0 : s₀.heap.IsCode 122 118 #[]) (t0 : s₀.heap.TableAt 122 118 #[])
    (f : Fm K s₀ mk env Y X₀ s lm om) (hn : lm (Str.ofString "lines") = some (.list ((leads.map lineOf).map AV.str))) (ha : lm (Str.ofString "alike") = some (.int (al : Int))) (h2 : lm (Str.ofString "two") = some (.list ([a, b].map AV.str)))
    {Q : Flow → Shared → Prop} {E : Value → Shared → Prop} (qr : ∀ s', After s₀ s' → Q (.ret (.bool true)) s') :
    wpAny (model prog w) A (execs ((bodyOf lawS).drop 10) env) Q E s := by
  have run := r.un
  have nl : ((leads.map lineOf).map AV.str).length = leads.length := by rw [List.length_map, List.length_map]
  have la : Lead a := hL a (List.mem_of_getElem? ea)
  have lb : Lead b := hL b (List.mem_of_getElem? eb)
  have hfl := fn_long (prog := prog) (w := w) T [a, b] (by simp) (fun x hx => by
    have hx' : Lead x := by
      simp only [List.mem_cons, List.not_mem_nil, or_false] at hx
      rcases hx with rfl | rfl
      · exact la
      · exact lb
    have h1 := lead_len hx'
    have h2 := lead_split hx'
    exact ⟨by omega, h2.1, h2.2.1⟩) lo.2.2.1
  -- sizes
  have k2 : env.kindOf (Str.ofString "two") = some .cell := e.kc
  refine wpAny_execs_cons (st_compIf (lmF := freeLM lm [Str.ofString "two"]) (cl := [(Str.ofString "two", env.locals + 8)]) (n := (longest [a, b] + 1).toNat) (it := fun i => .int (1 + (i : Int))) (el := fun i => .int (1 + (i : Int))) (pr := fun i => decide (col (1 + (i : Int)) a ≥ col (1 + (i : Int)) b)) f r.hd ((iter_range T e.b f.cxs r.hd ev_int (ev_add (ev_call f.cxs (evp_global T.b f.cxs e.fn e.glob e.gl (by decide +kernel) T.gLong) T.fLong.keep (evl_one (lv f h2) rfl) (hfl A _ s (r.le (by decide)) f.cxs) rfl fun _ => rfl) ev_int) (by omega) (by omega) e.gl rfl rfl).len (by omega)) ?_ (by omega) e.glob e.bi ?_ (by decide +kernel) rfl (by decide +kernel) (by decide +kernel) freeLM_no (fun _ => rfl) (fun cenv D i s₂ ce hi hv hc => ?_) (fun cenv D i s₂ ce hi hv hc => ?_) e.loc ?_ fun s₁ f₁ => ?_)
  · refine f.freeC fun p hp => ?_
    rw [List.mem_singleton.mp hp]
    dsimp only
    exact ⟨by decide +kernel, e.kc, by rw [e.cells]; kernel_rfl⟩
  · rw [e.with]; kernel_rfl
  · have bf := (ce.b (K := K)).fn
    have fc : ∀ x : Str, Fn prog w K 1 137 [.str x, .int (1 + (i : Int))] (.int (col (1 + (i : Int)) x)) := fun x => fn_col T.b T.fCol x (1 + (i : Int)) (by omega) (by omega)
    refine ts_cmp (ev_call hc (evp_global T.b hc bf (ce.b (K := K)).glob ce.gl (by decide +kernel) T.gCol) T.fCol.keep (evl_two (ev_itemL (a := .str a) (ev_var hv (up (fr h2)) bf (by decide +kernel)) ev_int (by decide) rfl (by decide) (fun _ _ => rfl)) (ev_var hv upd_eq bf (by decide +kernel)) rfl rfl) (fc a A _ s₂ (r.le (by decide)) hc) rfl fun _ => rfl) (ev_call hc (evp_global T.b hc bf (ce.b (K := K)).glob ce.gl (by decide +kernel) T.gCol) T.fCol.keep (evl_two (ev_itemL (a := .str b) (ev_var hv (up (fr h2)) bf (by decide +kernel)) ev_int (by decide) rfl (by decide) (fun _ _ => rfl)) (ev_var hv upd_eq bf (by decide +kernel)) rfl rfl) (fc b A _ s₂ (r.le (by decide)) hc) rfl fun _ => rfl) cmp_ge rfl
  · exact ev_var hv upd_eq (ce.b (K := K)).fn (by decide +kernel)
  · have hE : env = { env with scope := scopeOf lawS } := by rw [← e.scope]
    rw [hE]; kernel_rfl
  have hsz : filtA (longest [a, b] + 1).toNat (fun i => decide (col (1 + (i : Int)) a ≥ col (1 + (i : Int)) b)) (fun i => .int (1 + (i : Int))) = (sizesOf a b).map AV.int := by
    unfold filtA sizesOf
    rw [List.map_map]; rfl
  rw [hsz] at f₁
  have sb := sizes_bound a b lo.2.1
  have sn := sizes_len a b lo.2.1
  have hn₁ : (upd lm (Str.ofString "sizes") (.list ((sizesOf a b).map AV.int))) (Str.ofString "lines") = some (.list ((leads.map lineOf).map AV.str)) := up hn
  have ha₁ : (upd lm (Str.ofString "sizes") (.list ((sizesOf a b).map AV.int))) (Str.ofString "alike") = some (.int (al : Int)) := up ha
  -- words
  have lla := (lead_line la).1
  have llb := (lead_line lb).1
  have okA := wsOk (lineOf a) (by omega)
  have okB := wsOk (lineOf b) (by omega)
  have lineA : ((leads.map lineOf).map AV.str)[((al : Int) - 1).toNat]? = some (.str (lineOf a)) := by
    rw [List.getElem?_map, List.getElem?_map, show ((al : Int) - 1).toNat = al - 1 by omega, ea]; rfl
  have lineB : ((leads.map lineOf).map AV.str)[(al : Int).toNat]? = some (.str (lineOf b)) := by
    rw [List.getElem?_map, List.getElem?_map, Int.toNat_natCast, eb]; rfl
  have wsv : ∀ {s' : Shared} (f' : Fm K s₀ mk env Y X₀ s' (upd lm (Str.ofString "sizes") (.list ((sizesOf a b).map AV.int))) (del om (Str.ofString "sizes"))), ∀ x, (lineOf x).length < 200 → CallOk prog w A (Y ++ X₀) (.ref 112) [.str (lineOf x)] (fun v s₂ => Rp (Vw s₂.heap (Y ++ X₀)) v (.ws (wsOf (lineOf x)))) s'.heap := fun {s'} f' x hx => fn_ws T W (lineOf x) hx A _ s' (r.le (by decide)) f'.cxs
  refine wpAny_execs_cons (wpAny_Assign_Name (wpAny_Call_NameR (evp_global T.b f₁.cxs e.fn e.glob e.gl (by decide +kernel) T.gFmt s₁ _ _ (.refl _) fun v s₂ x₂ ev => ?_)) rfl)
  subst ev
  have f₂ := f₁.after x₂
  refine callWith_K f₂.cxs.top T.fFmt.keep (evl_one (X := Y ++ X₀) (a := .list (witA (wsOf (lineOf a)) (wsOf (lineOf b)))) (ev_wsm W T.fWit f₂.cxs (ev_call f₂.cxs (evp_global T.b f₂.cxs e.fn e.glob e.gl (by decide +kernel) T.gWs) W.keepC (evl_one (ev_itemL (lv f₂ hn₁) (ev_sub (lv f₂ ha₁) ev_int) (by omega) lineA (by omega) (fun _ _ => rfl)) rfl) (wsv f₂ a (by omega)) rfl fun _ => rfl) W.mWit W.tWit (by decide +kernel) (evl_one (ev_call f₂.cxs (evp_global T.b f₂.cxs e.fn e.glob e.gl (by decide +kernel) T.gWs) W.keepC (evl_one (ev_itemL (lv f₂ hn₁) (lv f₂ ha₁) (by omega) lineB (by omega) (fun _ _ => rfl)) rfl) (wsv f₂ b (by omega)) rfl fun _ => rfl) rfl) (fn_wit T W (wsOf (lineOf a)) (wsOf (lineOf b)) okA okB A _ s₂ (r.le (by decide)) f₂.cxs) rfl rfl rfl) rfl s₂ _ _ _ (.refl _) fun vs s₃ x₃ rl => ⟨f₂.cxs.top.keeps x₃.keep, ?_⟩) rfl rfl
  obtain ⟨wv, rfl, rv⟩ := rl.one
  have f₃ := f₂.after x₃
  have eT : witL (wsOf (lineOf a)) (wsOf (lineOf b)) = sizesOf a b := lo.2.2.2.2
  have rv' : Rp (Vw s₃.heap (Y ++ X₀)) wv (.list (witItems (sizesOf a b) (fun t => ilev (wsOf (lineOf a)) t) (fun t => ilev (wsOf (lineOf b)) t))) := by
    rw [← eT]; exact rv
  have hZ : (118 : Addr) ∉ Y := fun hm => by have h5 := t0.2; rw [(f₃.ys _ hm).1] at h5; cases h5
  refine fmt_call T F (sizesOf a b) _ _ (by omega) sb (r.le (by decide)) f₃.cxs (i0.keeps f₃.ext.keep) (t0.keeps f₃.ext.keep) rv' fun t s₄ af => ?_
  have bt : ButT 118 s₃ s₄ := ⟨af.keep, ⟨_, _, f₃.ext.keep _ _ t0.2, rfl⟩, let ⟨m, h⟩ := af.table; ⟨_, h.2⟩⟩
  have f₄ := f₃.rebase bt F.no hZ
  refine f₄.store (.str (fmtT (sizesOf a b)) t) e.loc fun s₅ f₅ x₅ => ?_
  have hs₅ : (upd (upd lm (Str.ofString "sizes") (.list ((sizesOf a b).map AV.int))) (Str.ofString "words") (.str (fmtT (sizesOf a b)))) (Str.ofString "sizes") = some (.list ((sizesOf a b).map AV.int)) := up upd_eq
  have sl : ((sizesOf a b).map AV.int).length = (sizesOf a b).length := List.length_map ..
  have jok : JoinOk (Str.ofString ", ") ((sizesOf a b).map intS) = true := by
    unfold JoinOk
    rw [Bool.not_eq_true', List.foldl_toArray]
    show decide (_ > sizeLine) = false
    rw [sizeLine_eq, decide_eq_false_iff_not]
    have hj : ∀ (l : List Int) (n : Nat), (∀ t ∈ l, 0 ≤ t ∧ t < 100) → (l.map intS).foldl (fun a (b : Str) => a + b.length + (Str.ofString ", ").length) n ≤ n + l.length * 104 := by
      intro l
      induction l with
      | nil => intro n _; simp
      | cons a l ih =>
        intro n hl
        have h3 := intS_len (hl a List.mem_cons_self)
        have h4 : (Str.ofString ", ").length = 2 := by decide +kernel
        have h5 := ih (n + (intS a).length + (Str.ofString ", ").length) fun t ht => hl t (List.mem_cons_of_mem _ ht)
        rw [List.map_cons, List.foldl_cons, List.length_cons, Nat.add_mul, Nat.one_mul]
        omega
    have := hj (sizesOf a b) 0 sb
    omega
  have jl := joinT_len (sizesOf a b) sb
  unfold joinT at jl
  have l1 : (Str.ofString "at tab size").length = 11 := by decide +kernel
  have l2 : (Str.ofString "s").length = 1 := by decide +kernel
  have l3 : (Str.ofString "").length = 0 := by decide +kernel
  have l4 : (Str.ofString " ").length = 1 := by decide +kernel
  have hS : ∀ (p : Prop) [Decidable p], ((if p then Str.ofString "s" else Str.ofString "") : Str).length ≤ 1 := fun p _ => by split <;> omega
  have due : (Str.ofString "at tab size" ++ (if 1 < ((sizesOf a b).length : Int) then Str.ofString "s" else Str.ofString "")) ++ Str.ofString " " ++ Txt.join (Str.ofString ", ") ((sizesOf a b).map intS) = fmtT (sizesOf a b) := by
    unfold fmtT sizesT joinT
    by_cases h : 1 < ((sizesOf a b).length : Int)
    · rw [if_pos h, if_pos h]
    · rw [if_neg h, if_neg h]
      have : Str.ofString "at tab size" ++ Str.ofString "" = Str.ofString "at tab size" := by decide +kernel
      rw [this]
  refine wpAny_execs_cons (st_assign (a := .str (fmtT (sizesOf a b))) f₅ (Ev.cast (ev_addS (ev_addS (a := Str.ofString "at tab size" ++ (if 1 < ((sizesOf a b).length : Int) then Str.ofString "s" else Str.ofString "")) (ev_addS (b := if 1 < ((sizesOf a b).length : Int) then Str.ofString "s" else Str.ofString "") ev_str (ev_if (b := decide (1 < ((sizesOf a b).length : Int))) (Ts.cast (ts_cmp (X := Y ++ X₀) (ev_lenL T e.b f₅.cxs (lv f₅ hs₅) (by omega) e.gl rfl) ev_int cmp_gt rfl) (by rw [sl])) ?_) ?_) ev_str ?_) (ev_join (xs := (sizesOf a b).map intS) ev_str (Ev.cast (EvF.ev (evf_comp (lm := noM) (cl := []) (n := (sizesOf a b).length) (it := fun i => ((sizesOf a b).map AV.int).getD i .none) (el := fun i => .str (intS ((sizesOf a b).getD i 0))) r.hd f₅.cxs ((iter_list r.hd f₅.cxs (lv f₅ hs₅)).len sl) freeV_none (by omega) e.fn e.glob e.bi (closureFor_none (by decide +kernel)) (by decide +kernel) rfl (by decide +kernel) (by decide +kernel) rfl (fun _ => rfl) (fun cenv D i s₆ ce hi hv hc => ?_)) f₅.cxs) ?_) jok rfl rfl rfl) ?_) (congrArg AV.str due)) e.loc rfl fun s₆ f₆ => ?_)
  · by_cases h : 1 < ((sizesOf a b).length : Int)
    · rw [if_pos h, if_pos (decide_eq_true h)]; exact ev_str
    · rw [if_neg h, if_neg (by simpa using h)]; exact ev_str
  · have := hS (1 < ((sizesOf a b).length : Int)); omega
  · have := hS (1 < ((sizesOf a b).length : Int)); rw [Str.length_append]; omega
  · have h1 := hv
    rw [getD_int (sizesOf a b) i hi] at h1
    have e1 : (sizesOf a b).getD i 0 = (sizesOf a b)[i] := by rw [List.getD_eq_getElem?_getD, List.getElem?_eq_getElem hi]; rfl
    rw [e1]
    have hbi := sb _ (List.getElem_mem hi)
    exact ev_strOf T ce.b hc (ev_var h1 upd_eq (ce.b (K := K)).fn (by decide +kernel)) (by omega) (by omega) ce.gl rfl
  · rw [range_map (sizesOf a b) 0 fun t => AV.str (intS t), List.map_map]; rfl
  · have := hS (1 < ((sizesOf a b).length : Int)); rw [Str.length_append, Str.length_append]; omega
  have hs₆ : (upd (upd (upd lm (Str.ofString "sizes") (.list ((sizesOf a b).map AV.int))) (Str.ofString "words") (.str (fmtT (sizesOf a b)))) (Str.ofString "due") (.str (fmtT (sizesOf a b)))) (Str.ofString "sizes") = some (.list (((sizesOf a b)).map AV.int)) := up hs₅
  -- the answer
  have cn : Cmp prog w A (Y ++ X₀) .NotEq (.list ((sizesOf a b).map AV.int)) (.list (([] : List Int).map AV.int)) (decide (sizesOf a b ≠ [])) s₆.heap := cmp_neI (by omega)
  rw [decide_eq_true lo.2.2.2.1] at cn
  refine wpAny_execs_cons (wpAny_Return_some (wpAny_And2 (Ev.of (X := []) (ev_cmp (lv f₆ hs₆) (EvF.ev (evf_list evl_nil (by decide)) f₆.cxs) cn rfl) fun v s₇ x₇ rv => ?_)))
  cases rv
  have f₇ := f₆.after x₇
  refine wpAny_truthy_bool ?_
  rw [if_pos rfl]
  refine Ev.of (X := []) (ev_cmp (X := Y ++ X₀) (lv f₇ (up upd_eq)) (lv f₇ upd_eq) cmp_eqS rfl) fun v s₈ x₈ rv => ?_
  cases rv
  rw [beq_self_eq_true]
  refine qr _ ?_
  -- what is left
  have xB := f₇.ext.trans x₈
  have nY : ∀ b o, s₀.heap.get? b = some o → b ∉ Y := fun b o h hm => by rw [(f₃.ys b hm).1] at h; cases h
  have kEnd : ∀ b o o', s₀.heap.get? b = some o → s₄.heap.get? b = some o' → s₈.heap.get? b = some o' := fun b o o' h h' => xB.keep b o' (hideAll_get _ h' (nY b o h))
  refine ⟨fun b o hb h => kEnd b o o h (af.keep b o hb (f₃.ext.keep b o h)), ?_, ?_, fun hbare => ?_⟩
  · obtain ⟨m, ⟨o, vs', t1, t2, t3, t4⟩, t5⟩ := af.table
    obtain ⟨⟨o0, vs0, u1, _⟩, u5⟩ := t0
    exact ⟨m, ⟨o, vs', kEnd _ _ _ u1 t1, t2, t3, t4⟩, kEnd _ _ _ u5 t5⟩
  · have h1 : s₈.os = s₄.os := xB.os
    rw [h1, af.os]; exact f₃.ext.os
  · have h1 : s₈.gens = s₄.gens := xB.gens
    rw [h1]
    refine af.gens ?_
    rw [f₃.ext.gens]; exact hbare
end
end Mine
end

section
set_option maxRecDepth 100000
set_option maxHeartbeats 0
namespace Mine
open PySem PySem.W PySem.Calls PyProof.Rows

def leadsOf (script : List Int) : List Str := mkLeads (script.take 6) leads0
theorem mkLeads_ok : ∀ (ns : List Int) (ls : List Str), ls ≠ [] → (∀ x ∈ ls, Lead x) → (∀ x ∈ mkLeads ns ls, Lead x) ∧ (mkLeads ns ls).length = ls.length + ns.length
  | [], ls, _, h => ⟨h, rfl⟩
  | n :: ns, ls, hne, h => by
    have := mkLeads_ok ns (ls ++ [leadStep ls (n.fmod 1000003)]) (by simp) (fun x hx => by
      rcases List.mem_append.mp hx with hx | hx
      · exact h x hx
      · rw [List.mem_singleton.mp hx]; exact lead_step hne h _)
    rw [mkLeads]
    refine ⟨this.1, ?_⟩
    rw [this.2, List.length_append, List.length_singleton, List.length_cons]; omega
theorem leadsOf_ok (script : List Int) : (∀ x ∈ leadsOf script, Lead x) ∧ (leadsOf script).length < 20 := by
  have := mkLeads_ok (script.take 6) leads0 (by simp [leads0]) (by decide +kernel)
  refine ⟨this.1, ?_⟩
  show (mkLeads (script.take 6) leads0).length < 20
  have h2 := List.length_take_le 6 script
  have h3 : leads0.length = 2 := rfl
  omega

/-- the plain law: all that the walk asks of the leads -/
structure Plain (leads : List Str) : Prop where
  lo : 0 ≤ longest leads ∧ longest leads ≤ 4
  ne : 0 < (longs leads).length
  wid : ∀ j : Nat, (j : Int) < longest leads + 2 → WOk leads (1 + j)
  fin : EndOk leads (alikeOf leads)

section
variable {prog : Program} {w : World} {A : Around} {X : List Addr} {s : Shared} {K : Frag}
/-- the law's call -/
theorem law_call (T : Kt K) (W : Kw K) (Rk : Kr K) (F : Kf K) (FL : FnIs K 161 lawS) (r : Room A 7) (c : Cx K X s.heap) (script : List Int) (hz : script.length < 1000) (pl : Plain (leadsOf script)) {v : Value} (rv : Rp (Vw s.heap X) v (.list (script.map AV.int)))
    (i0 : s.heap.IsCode 122 118 #[]) (t0 : s.heap.TableAt 122 118 #[]) {Q E : Value → Shared → Prop} (q : ∀ s', After s s' → Q (.bool true) s') : wpAny (model prog w) A (call (.ref 161) [v]) Q E s := by
  obtain ⟨hL, hlen⟩ := leadsOf_ok script
  have rl : (rowsOf (leadsOf script)).length = (longest (leadsOf script) + 2).toNat := by unfold rowsOf; rw [List.length_map, List.length_range]
  have hlo := pl.lo
  refine law_enter T.b FL r c rv fun env s₁ A' Y e r' f₁ => ?_
  refine law_leads T e r' script hz f₁ fun Y₂ s₂ lm₂ om₂ f₂ h₂ => ?_
  refine law_lines T e r' (leadsOf script) hL hlen f₂ h₂ fun Y₃ s₃ lm₃ om₃ f₃ a₃ b₃ c₃ => ?_
  refine law_loop T W Rk e r' (leadsOf script) hL hlen pl.lo pl.ne pl.wid f₃ a₃ b₃ c₃ fun Y₄ s₄ lm₄ om₄ f₄ a₄ b₄ c₄ d₄ => ?_
  refine law_alike T e r' (leadsOf script) (rowsOf (leadsOf script)) hlen (by omega) (by omega) (fun row hr => by have := rows_len _ row hr; omega) f₄ a₄ b₄ c₄ d₄ fun Y₅ s₅ lm₅ om₅ f₅ a₅ b₅ c₅ d₅ => ?_
  refine law_end1 T W e r' (leadsOf script) hL hlen (by omega) (alikeOf (leadsOf script)) pl.fin t0 f₅ a₅ b₅ c₅ d₅ (fun s' af => q s' af) fun hlt a b s₆ lm₆ om₆ ea eb f₆ a₆ b₆ c₆ => ?_
  exact law_end2 T W F e r' (leadsOf script) hL hlen (alikeOf (leadsOf script)) hlt (pl.fin.one hlt) a b ea eb (pl.fin.long a b ea eb hlt) i0 t0 f₆ a₆ b₆ c₆ fun s' af => q s' af
end
end Mine
end

section
set_option maxRecDepth 1000000
set_option maxHeartbeats 0
namespace Mine
open PySem PySem.W PySem.Calls PyProof.Rows

def wds (m : Nat) : List Int := (List.range m).map fun (j : Nat) => 1 + (j : Int)
abbrev wdOf (x : Str) : Wd := wsOf (lineOf x)
theorem Lead.pair {a b : Str} (ha : Lead a) (hb : Lead b) {P : Str → Str → Prop} (hp : ∀ l ∈ allL, ∀ l' ∈ allL, P ⟨l.toArray⟩ ⟨l'.toArray⟩) : P a b := by
  have := hp _ ha _ hb
  simpa using this
theorem less_is {a b : Str} (ha : Lead a) (hb : Lead b) : ∀ m : Nat, m < 7 → longest [a, b] + 2 ≤ (m : Int) → lessB (wdOf a) (wdOf b) = (wds m).all fun w => decide (col w a < col w b) :=
  ha.pair hb (P := fun a b => ∀ m : Nat, m < 7 → longest [a, b] + 2 ≤ (m : Int) → lessB (wdOf a) (wdOf b) = (wds m).all fun w => decide (col w a < col w b)) (by decide +kernel)
theorem eq_is {a b : Str} (ha : Lead a) (hb : Lead b) : ∀ m : Nat, m < 7 → longest [a, b] + 2 ≤ (m : Int) → eqB (wdOf a) (wdOf b) = (wds m).all fun w => decide (col w a = col w b) :=
  ha.pair hb (P := fun a b => ∀ m : Nat, m < 7 → longest [a, b] + 2 ≤ (m : Int) → eqB (wdOf a) (wdOf b) = (wds m).all fun w => decide (col w a = col w b)) (by decide +kernel)
theorem wit_is {a b : Str} (ha : Lead a) (hb : Lead b) : witL (wdOf a) (wdOf b) = sizesOf a b :=
  ha.pair hb (P := fun a b => witL (wdOf a) (wdOf b) = sizesOf a b) (by decide +kernel)
theorem size_is {a b : Str} (ha : Lead a) (hb : Lead b) : sizesOf a b = [] → ∀ w ∈ wds 6, col w a < col w b :=
  ha.pair hb (P := fun a b => sizesOf a b = [] → ∀ w ∈ wds 6, col w a < col w b) (by decide +kernel)
theorem one_is {a : Str} (ha : Lead a) : ∀ w ∈ wds 6, ((expT w.toNat a).length : Int) = col w a ∧ ilev (wdOf a) w = col w a ∧ 0 ≤ col w a ∧ col w a < 100 :=
  ha.all (P := fun a => ∀ w ∈ wds 6, ((expT w.toNat a).length : Int) = col w a ∧ ilev (wdOf a) w = col w a ∧ 0 ≤ col w a ∧ col w a < 100) (by decide +kernel)
def pg (x : Str) (w : Int) : Str := Txt.mul (Str.ofString " ") (col w x) ++ Txt.slice (lineOf x) (some (x.length : Int)) none
theorem pg_is {a : Str} (ha : Lead a) : ∀ w ∈ wds 6, (wsOf (pg a w)).n = col w a ∧ (wsOf (pg a w)).nt = 0 ∧ (wsOf (pg a w)).cnt = [] ∧ (wsOf (pg a w)).tr = col w a ∧ (pg a w).length < 200 :=
  ha.all (P := fun a => ∀ w ∈ wds 6, (wsOf (pg a w)).n = col w a ∧ (wsOf (pg a w)).nt = 0 ∧ (wsOf (pg a w)).cnt = [] ∧ (wsOf (pg a w)).tr = col w a ∧ (pg a w).length < 200) (by decide +kernel)
theorem runs_is {a : Str} (ha : Lead a) : 0 < (splitT a).length ∧ ∀ r ∈ splitT a, r.length ≤ 4 :=
  ha.all (P := fun a => 0 < (splitT a).length ∧ ∀ r ∈ splitT a, r.length ≤ 4) (by decide +kernel)

theorem mem_wds {w : Int} {m : Nat} : w ∈ wds m ↔ 1 ≤ w ∧ w < 1 + (m : Int) := by
  unfold wds
  constructor
  · intro h
    obtain ⟨j, hj, rfl⟩ := List.mem_map.mp h
    have := List.mem_range.mp hj
    omega
  · intro h
    exact List.mem_map.mpr ⟨(w - 1).toNat, List.mem_range.mpr (by omega), by omega⟩
theorem maxOf_mem {ns : List Int} (h : ns ≠ []) : maxOf ns ∈ ns ∧ ∀ a ∈ ns, a ≤ maxOf ns := by
  cases ns with
  | nil => exact absurd rfl h
  | cons a l =>
    obtain ⟨g1, g2, g3⟩ := foldl_max l a
    show l.foldl max a ∈ a :: l ∧ ∀ b ∈ a :: l, b ≤ l.foldl max a
    refine ⟨?_, fun b hb => ?_⟩
    · rcases g3 with h | h
      · rw [h]; exact List.mem_cons_self
      · exact List.mem_cons_of_mem _ h
    · rcases List.mem_cons.mp hb with rfl | hb
      · exact g2
      · exact g1 b hb
theorem longs_ok {leads : List Str} (hL : ∀ x ∈ leads, Lead x) (hne : leads ≠ []) : 0 < (longs leads).length ∧ 0 ≤ longest leads ∧ longest leads ≤ 4 := by
  have h1 : longs leads ≠ [] := by
    cases leads with
    | nil => exact absurd rfl hne
    | cons x l =>
      intro h
      have := (runs_is (hL x List.mem_cons_self)).1
      unfold longs at h
      rw [List.flatMap_cons] at h
      have h2 := (List.append_eq_nil_iff.mp h).1
      have h3 := congrArg List.length h2
      rw [List.length_map] at h3
      simp at h3
      rw [h3] at this
      simp at this
  refine ⟨List.length_pos_iff.mpr h1, ?_⟩
  have h2 := (maxOf_mem h1).1
  show 0 ≤ maxOf (longs leads) ∧ maxOf (longs leads) ≤ 4
  unfold longs at h2 ⊢
  obtain ⟨x, hx, hr⟩ := List.mem_flatMap.mp h2
  obtain ⟨r, hr1, hr2⟩ := List.mem_map.mp hr
  have := (runs_is (hL x hx)).2 r hr1
  omega
/-- the longest of some is no longer than the longest of all -/
theorem longest_le {leads sub : List Str} (hs : ∀ x ∈ sub, x ∈ leads) (hL : ∀ x ∈ leads, Lead x) (hne : sub ≠ []) : longest sub ≤ longest leads := by
  have h1 : longs sub ≠ [] := List.length_pos_iff.mp (longs_ok (fun x hx => hL x (hs x hx)) hne).1
  have hne' : leads ≠ [] := by
    obtain ⟨x, hx⟩ := List.exists_mem_of_ne_nil sub hne
    intro h; rw [h] at hs; cases hs x hx
  have h2 : longs leads ≠ [] := List.length_pos_iff.mp (longs_ok hL hne').1
  refine (maxOf_mem h2).2 _ ?_
  have h3 := (maxOf_mem h1).1
  unfold longest
  unfold longs at h3 ⊢
  obtain ⟨x, hx, hr⟩ := List.mem_flatMap.mp h3
  exact List.mem_flatMap.mpr ⟨x, hs x hx, hr⟩

/-! runs without a heap of answers -/
def depR : List Int → List Int → List Int
  | [], _ => []
  | c :: cs, st =>
    if st.getLastD 0 < c then (st.length : Int) :: depR cs (st ++ [c])
    else if st.any (· == c) then (st.idxOf c : Int) :: depR cs (st.take (st.idxOf c + 1))
    else []
theorem depGo_is : ∀ (cs st acc : List Int), depGo cs st acc = acc ++ depR cs st
  | [], st, acc => by simp [depGo, depR]
  | c :: cs, st, acc => by
    unfold depGo depR
    split
    · rw [depGo_is cs]; simp
    · split
      · rw [depGo_is cs]; simp
      · simp
def nanR : List Wd → List Wd → List Int
  | [], _ => []
  | d :: ds, r =>
    if lessB (r.headD wd0) d = true then (r.length : Int) :: nanR ds (d :: r)
    else if popTo r d = [] then [] else (((popTo r d).length : Int) - 1) :: nanR ds (popTo r d)
theorem nanGo_is : ∀ (ds r : List Wd) (acc : List Int), nanGo ds r acc = acc ++ nanR ds r
  | [], r, acc => by simp [nanGo, nanR]
  | d :: ds, r, acc => by
    unfold nanGo nanR
    split
    · rw [nanGo_is ds]; simp
    · split
      · simp
      · rw [nanGo_is ds]; simp

/-- going back in a stack that falls strictly (top first) -/
theorem stack_back : ∀ (S : List Int) (c : Int), S.Pairwise (· > ·) → c ∈ S → (S.reverse.take (S.reverse.idxOf c + 1)) = (S.dropWhile fun e => !(e == c)).reverse ∧ (S.reverse.idxOf c : Nat) + 1 = (S.dropWhile fun e => !(e == c)).length
  | [], c, _, h => by cases h
  | t :: S, c, hp, h => by
    obtain ⟨h1, h2⟩ := List.pairwise_cons.mp hp
    rw [List.reverse_cons]
    by_cases ht : t = c
    · subst ht
      have hn : t ∉ S.reverse := fun hm => by have := h1 t (List.mem_reverse.mp hm); omega
      have e1 : (S.reverse ++ [t]).idxOf t = S.length := by
        rw [List.idxOf_append, if_neg hn]; simp
      rw [e1, List.dropWhile_cons, if_neg (by simp)]
      refine ⟨?_, by simp⟩
      rw [List.take_of_length_le (by simp)]; simp
    · have hm : c ∈ S := (List.mem_cons.mp h).resolve_left (Ne.symm ht)
      obtain ⟨g1, g2⟩ := stack_back S c h2 hm
      have hm' : c ∈ S.reverse := List.mem_reverse.mpr hm
      have e1 : (S.reverse ++ [t]).idxOf c = S.reverse.idxOf c := by rw [List.idxOf_append, if_pos hm']
      have hlt : S.reverse.idxOf c < S.reverse.length := List.idxOf_lt_length_iff.mpr hm'
      rw [e1, List.dropWhile_cons, if_pos (by simpa using ht)]
      refine ⟨?_, g2⟩
      rw [List.take_append_of_le_length (by omega)]
      exact g1
end Mine
end

section
set_option maxRecDepth 1000000
set_option maxHeartbeats 0
namespace Mine
open PySem PySem.W PySem.Calls PyProof.Rows

structure SpW (d : Wd) : Prop where
  cnt : d.cnt = []
  nt : d.nt = 0
  tr : d.tr = d.n
theorem less_sp {t d : Wd} (ht : SpW t) (hd : SpW d) : lessB t d = decide (t.n < d.n) := by
  unfold lessB
  by_cases h : t.n ≥ d.n
  · rw [if_pos h]
    have : ¬ t.n < d.n := by omega
    simp [this]
  · rw [if_neg h, if_pos (by rw [ht.cnt, hd.cnt]; simp), ht.nt, hd.nt]
    have : t.n < d.n := by omega
    simp [this]
theorem eq_sp {t d : Wd} (ht : SpW t) (hd : SpW d) : eqB t d = (t.n == d.n) := by
  unfold eqB
  rw [ht.cnt, hd.cnt, ht.tr, hd.tr]
  by_cases h : t.n = d.n
  · simp [h]
  · simp [h]
theorem popTo_map {r : List Wd} {d : Wd} (g : Wd → Int) (c : Int) (h : ∀ e ∈ r, eqB e d = (g e == c)) : (popTo r d).map g = (r.map g).dropWhile fun e => !(e == c) := by
  unfold popTo
  induction r with
  | nil => rfl
  | cons t r ih =>
    have h1 := h t List.mem_cons_self
    rw [List.map_cons, List.dropWhile_cons, List.dropWhile_cons, h1]
    split
    · exact ih fun e he => h e (List.mem_cons_of_mem _ he)
    · rfl
theorem dropWhile_suffix {α : Type} (p : α → Bool) : ∀ l : List α, ∀ x ∈ l.dropWhile p, x ∈ l
  | [], x, h => h
  | a :: l, x, h => by
    rw [List.dropWhile_cons] at h
    split at h
    · exact List.mem_cons_of_mem _ (dropWhile_suffix p l x h)
    · exact h
theorem dropWhile_pairwise {α : Type} {R : α → α → Prop} (p : α → Bool) : ∀ l : List α, l.Pairwise R → (l.dropWhile p).Pairwise R
  | [], h => h
  | a :: l, h => by
    rw [List.dropWhile_cons]
    split
    · exact dropWhile_pairwise p l (List.pairwise_cons.mp h).2
    · exact h
theorem dropWhile_nil_iff (S : List Int) (c : Int) : (S.dropWhile fun e => !(e == c)) = [] ↔ c ∉ S := by
  induction S with
  | nil => simp
  | cons t S ih =>
    rw [List.dropWhile_cons]
    by_cases h : t = c
    · subst h; simp
    · rw [if_pos (by simpa using h), ih, List.mem_cons]
      constructor
      · intro h1 h2
        rcases h2 with h2 | h2
        · exact h h2.symm
        · exact h1 h2
      · intro h1 h2; exact h1 (.inr h2)
theorem getLastD_rev (t : Int) (S : List Int) : (t :: S).reverse.getLastD 0 = t := by
  rw [List.reverse_cons, List.getLastD_eq_getLast?]; simp

theorem nan_dep : ∀ (ds r : List Wd), r ≠ [] → (∀ d ∈ ds, SpW d) → (∀ d ∈ r, SpW d) → (r.map (·.n)).Pairwise (· > ·) → nanR ds r = depR (ds.map (·.n)) (r.map (·.n)).reverse
  | [], r, _, _, _, _ => rfl
  | d :: ds, [], hne, _, _, _ => absurd rfl hne
  | d :: ds, t :: r, _, hd, hr, hp => by
    have ht := hr t List.mem_cons_self
    have hd0 := hd d List.mem_cons_self
    have hds : ∀ d ∈ ds, SpW d := fun x hx => hd x (List.mem_cons_of_mem _ hx)
    have ep := popTo_map (r := t :: r) (d := d) (·.n) d.n fun e he => eq_sp (hr e he) hd0
    unfold nanR
    rw [List.map_cons (l := ds)]
    unfold depR
    rw [List.headD_cons, less_sp ht hd0]
    have gl : ((t :: r).map (·.n)).reverse.getLastD 0 = t.n := by rw [List.map_cons]; exact getLastD_rev _ _
    rw [gl]
    by_cases h1 : t.n < d.n
    · rw [if_pos (decide_eq_true h1), if_pos h1]
      have ih := nan_dep ds (d :: t :: r) (by simp) hds (fun x hx => by
        rcases List.mem_cons.mp hx with rfl | hx
        · exact hd0
        · exact hr x hx) (by
        rw [List.map_cons]
        refine List.pairwise_cons.mpr ⟨fun x hx => ?_, hp⟩
        rw [List.map_cons] at hx
        rcases List.mem_cons.mp hx with rfl | hx
        · exact h1
        · have : t.n > x := (List.pairwise_cons.mp hp).1 x hx
          show d.n > x
          omega)
      rw [ih]
      simp
    · rw [if_neg (by simpa using h1), if_neg h1]
      by_cases h2 : d.n ∈ (t :: r).map (·.n)
      · have hne : popTo (t :: r) d ≠ [] := by
          intro h
          rw [h] at ep
          exact (dropWhile_nil_iff _ _).mp ep.symm h2
        obtain ⟨g1, g2⟩ := stack_back ((t :: r).map (·.n)) d.n hp h2
        rw [if_neg hne, if_pos (by rw [List.any_eq_true]; exact ⟨d.n, List.mem_reverse.mpr h2, by simp⟩), g1, ← ep]
        have ih := nan_dep ds (popTo (t :: r) d) hne hds (fun x hx => hr x (dropWhile_suffix _ _ x hx)) (by rw [ep]; exact dropWhile_pairwise _ _ hp)
        rw [ih]
        congr 1
        rw [← ep, List.length_map] at g2
        omega
      · have hnil : popTo (t :: r) d = [] := by
          have := (dropWhile_nil_iff _ _).mpr h2
          rw [← ep] at this
          exact List.map_eq_nil_iff.mp this
        rw [if_pos hnil, if_neg]
        rw [List.any_eq_true]
        rintro ⟨x, hx, hxc⟩
        have : x = d.n := by simpa using hxc
        exact h2 (this ▸ List.mem_reverse.mp hx)

theorem wok {leads : List Str} (hL : ∀ x ∈ leads, Lead x) {w : Int} (hw : w ∈ wds 6) : WOk leads w := by
  refine ⟨fun x hx => (one_is (hL x hx) w hw).1, fun x hx => (one_is (hL x hx) w hw).2.1, ?_, fun x hx => (one_is (hL x hx) w hw).2.2, fun x hx => ?_⟩
  · have sp0 : SpW wd0 := ⟨by decide +kernel, by decide +kernel, by decide +kernel⟩
    have hds : ∀ d ∈ (pageOf leads w).map wsOf, SpW d := fun d hd => by
      obtain ⟨y, hy, rfl⟩ := List.mem_map.mp hd
      obtain ⟨x, hx, rfl⟩ := List.mem_map.mp hy
      have := pg_is (hL x hx) w hw
      exact ⟨this.2.2.1, this.2.1, this.2.2.2.1.trans this.1.symm⟩
    unfold nanOf depOf
    rw [nanGo_is, depGo_is, nan_dep _ [wd0] (by simp) hds (fun d hd => by rw [List.mem_singleton.mp hd]; exact sp0) (by simp)]
    congr 2
    · unfold pageOf cols
      rw [List.map_map, List.map_map]
      refine List.map_congr_left fun x hx => (pg_is (hL x hx) w hw).1
  · obtain ⟨y, hy, rfl⟩ := List.mem_map.mp hx
    exact (pg_is (hL y hy) w hw).2.2.2.2
end Mine
end

section
set_option maxRecDepth 1000000
set_option maxHeartbeats 0
namespace Mine
open PySem PySem.W PySem.Calls PyProof.Rows

theorem pairwise_inj {f : Str → Int} : ∀ {l : List Str}, (l.map f).Pairwise (· > ·) → ∀ a ∈ l, ∀ b ∈ l, f a = f b → a = b
  | [], _, a, ha, _, _, _ => by cases ha
  | t :: l, hp, a, ha, b, hb, h => by
    rw [List.map_cons] at hp
    obtain ⟨h1, h2⟩ := List.pairwise_cons.mp hp
    rcases List.mem_cons.mp ha with ha' | ha' <;> rcases List.mem_cons.mp hb with hb' | hb'
    · rw [ha', hb']
    · have : f t > f b := h1 _ (List.mem_map.mpr ⟨b, hb', rfl⟩)
      rw [ha'] at h; omega
    · have : f t > f a := h1 _ (List.mem_map.mpr ⟨a, ha', rfl⟩)
      rw [hb'] at h; omega
    · exact pairwise_inj h2 a ha' b hb' h

theorem alikeAt_cons (rows : List (List Int)) (hr : rows ≠ []) (d : Int) (n a : Nat) : alikeAt (rows.map (d :: ·)) (n + 1) (a + 1) = alikeAt rows n a := by
  unfold alikeAt
  congr 1
  · by_cases h : a < n
    · simp [h]
    · simp [h]
  · rw [List.filter_map, List.isEmpty_map]
    congr 2
    funext row
    show badRow (rows.map (d :: ·)) (a + 1) (d :: row) = badRow rows a row
    unfold badRow
    have e1 : (rows.map (d :: ·)).headD [] = d :: rows.headD [] := by cases rows with | nil => exact absurd rfl hr | cons x l => rfl
    rw [e1]
    simp
theorem alikeGo_cons (rows : List (List Int)) (hr : rows ≠ []) (d : Int) (n : Nat) : ∀ k a, alikeGo (rows.map (d :: ·)) (n + 1) k (a + 1) = alikeGo rows n k a + 1
  | 0, a => rfl
  | k + 1, a => by
    unfold alikeGo
    rw [alikeAt_cons rows hr]
    split
    · exact alikeGo_cons rows hr d n k (a + 1)
    · rfl
theorem alike_cons (rows : List (List Int)) (hr : rows ≠ []) (d : Int) (n : Nat) : alikeGo (rows.map (d :: ·)) (n + 1) (n + 1) 0 = alikeGo rows n n 0 + 1 := by
  have h0 : alikeAt (rows.map (d :: ·)) (n + 1) 0 = true := by
    unfold alikeAt
    rw [Bool.and_eq_true]
    refine ⟨by simp, ?_⟩
    rw [List.isEmpty_iff, List.filter_eq_nil_iff]
    intro row hrow
    obtain ⟨r', _, rfl⟩ := List.mem_map.mp hrow
    unfold badRow
    have e1 : (rows.map (d :: ·)).headD [] = d :: rows.headD [] := by cases rows with | nil => exact absurd rfl hr | cons x l => rfl
    rw [e1]
    simp
  rw [alikeGo, if_pos h0]
  exact alikeGo_cons rows hr d n n 0

def rowW (xs S : List Str) (w : Int) : List Int := depR (xs.map (col w)) ((S.map (col w)).reverse)
def rowsW (m : Nat) (xs S : List Str) : List (List Int) := (wds m).map (rowW xs S)

theorem wds_ne {m : Nat} (h : 0 < m) : wds m ≠ [] := by
  intro h'
  have : (1 : Int) ∈ wds m := mem_wds.mpr (by omega)
  rw [h'] at this; cases this

theorem main_law {m : Nat} (hm : m < 7) (hm0 : 0 < m) {U : Str → Prop} (hU : ∀ a, U a → Lead a) (hUU : ∀ a b, U a → U b → longest [a, b] + 2 ≤ (m : Int)) :
    ∀ (xs : List Str) (t : Str) (S : List Str) (p : Str), (∀ x ∈ xs, U x) → (∀ x ∈ t :: S, U x) → (∀ w ∈ wds m, ((t :: S).map (col w)).Pairwise (· > ·)) → (∀ w ∈ wds m, col w p = col w t) →
      nanR (xs.map wdOf) ((t :: S).map wdOf) = ((rowsW m xs (t :: S)).headD []).take (alikeGo (rowsW m xs (t :: S)) xs.length xs.length 0) ∧
      (alikeGo (rowsW m xs (t :: S)) xs.length xs.length 0 < xs.length → ∀ q b, (p :: xs)[alikeGo (rowsW m xs (t :: S)) xs.length xs.length 0]? = some q → xs[alikeGo (rowsW m xs (t :: S)) xs.length xs.length 0]? = some b → ¬ ∀ w ∈ wds m, col w q < col w b) := by
  intro xs
  induction xs with
  | nil => intro t S p _ _ _ _; exact ⟨rfl, fun h => absurd h (by simp)⟩
  | cons x xs ih =>
    intro t S p hx hS hp hpt
    have ux := hx x List.mem_cons_self
    have ut := hS t List.mem_cons_self
    have hxs : ∀ y ∈ xs, U y := fun y hy => hx y (List.mem_cons_of_mem _ hy)
    have lx := hU x ux
    have less := less_is (hU t ut) lx m hm (hUU t x ut ux)
    have rne : ∀ S', rowsW m xs S' ≠ [] := fun S' h => wds_ne hm0 (List.map_eq_nil_iff.mp h)
    -- a step that all widths take alike
    have step : ∀ (d : Int) (e : Str) (S' : List Str), (∀ w ∈ wds m, rowW (x :: xs) (t :: S) w = d :: rowW xs (e :: S') w) → (∀ y ∈ e :: S', U y) → (∀ w ∈ wds m, ((e :: S').map (col w)).Pairwise (· > ·)) → (∀ w ∈ wds m, col w x = col w e) →
        nanR ((x :: xs).map wdOf) ((t :: S).map wdOf) = d :: nanR (xs.map wdOf) ((e :: S').map wdOf) →
        nanR ((x :: xs).map wdOf) ((t :: S).map wdOf) = ((rowsW m (x :: xs) (t :: S)).headD []).take (alikeGo (rowsW m (x :: xs) (t :: S)) (x :: xs).length (x :: xs).length 0) ∧
        (alikeGo (rowsW m (x :: xs) (t :: S)) (x :: xs).length (x :: xs).length 0 < (x :: xs).length → ∀ q b, (p :: x :: xs)[alikeGo (rowsW m (x :: xs) (t :: S)) (x :: xs).length (x :: xs).length 0]? = some q → (x :: xs)[alikeGo (rowsW m (x :: xs) (t :: S)) (x :: xs).length (x :: xs).length 0]? = some b → ¬ ∀ w ∈ wds m, col w q < col w b) := by
      intro d e S' hrow hS' hp' hxe hnan
      have er : rowsW m (x :: xs) (t :: S) = (rowsW m xs (e :: S')).map (d :: ·) := by
        unfold rowsW
        rw [List.map_map]
        exact List.map_congr_left hrow
      obtain ⟨i1, i2⟩ := ih e S' x hxs hS' hp' hxe
      rw [er, List.length_cons, alike_cons _ (rne _)]
      have e1 : ((rowsW m xs (e :: S')).map (d :: ·)).headD [] = d :: (rowsW m xs (e :: S')).headD [] := by
        generalize hh : rowsW m xs (e :: S') = rows at *
        cases rows with | nil => exact absurd hh (rne _) | cons y l => rfl
      rw [e1, List.take_succ_cons, ← i1, hnan]
      refine ⟨rfl, fun hlt q b hq hb => ?_⟩
      rw [List.getElem?_cons_succ] at hq hb
      exact i2 (by omega) q b hq hb
    have gl : ∀ w, ((t :: S).map (col w)).reverse.getLastD 0 = col w t := fun w => by rw [List.map_cons]; exact getLastD_rev _ _
    by_cases c1 : lessB (wdOf t) (wdOf x) = true
    · -- deeper at all widths
      have hall : ∀ w ∈ wds m, col w t < col w x := by
        rw [less, List.all_eq_true] at c1
        exact fun w hw => by simpa using c1 w hw
      refine step ((t :: S).length : Int) x (t :: S) (fun w hw => ?_) (fun y hy => ?_) (fun w hw => ?_) (fun _ _ => rfl) ?_
      · unfold rowW
        rw [List.map_cons (l := xs), depR, gl, if_pos (hall w hw), List.length_reverse, List.length_map]
        rw [List.map_cons (l := t :: S), List.reverse_cons (as := (t :: S).map (col w))]
      · rcases List.mem_cons.mp hy with rfl | hy
        · exact ux
        · exact hS y hy
      · rw [List.map_cons]
        refine List.pairwise_cons.mpr ⟨fun y hy => ?_, hp w hw⟩
        have h1 := hall w hw
        rw [List.map_cons] at hy
        rcases List.mem_cons.mp hy with rfl | hy
        · exact h1
        · have : col w t > y := by
            have := hp w hw
            rw [List.map_cons] at this
            exact (List.pairwise_cons.mp this).1 y hy
          show col w x > y
          omega
      · rw [List.map_cons (l := xs), nanR]
        rw [show ((t :: S).map wdOf).headD wd0 = wdOf t from rfl, if_pos c1, List.length_map]
        rfl
    · by_cases c2 : ∃ e ∈ t :: S, eqB (wdOf e) (wdOf x) = true
      · -- back to one of the stack
        obtain ⟨e, he, hee⟩ := c2
        have ue := hS e he
        have heq : ∀ w ∈ wds m, col w e = col w x := by
          rw [eq_is (hU e ue) lx m hm (hUU e x ue ux), List.all_eq_true] at hee
          exact fun w hw => by simpa using hee w hw
        have eqv : ∀ w ∈ wds m, ∀ y ∈ t :: S, eqB (wdOf y) (wdOf x) = (col w y == col w x) := by
          intro w hw y hy
          by_cases h : col w y = col w x
          · have : y = e := pairwise_inj (hp w hw) y hy e he (h.trans (heq w hw).symm)
            rw [this, hee]
            simp [heq w hw]
          · have hf : eqB (wdOf y) (wdOf x) = false := by
              rw [eq_is (hU y (hS y hy)) lx m hm (hUU y x (hS y hy) ux), List.all_eq_false]
              exact ⟨w, hw, by simpa using h⟩
            rw [hf]; simp [h]
        have pm : ∀ w ∈ wds m, ((t :: S).dropWhile fun y => !eqB (wdOf y) (wdOf x)).map (col w) = ((t :: S).map (col w)).dropWhile fun c => !(c == col w x) := by
          intro w hw
          have h := eqv w hw
          generalize t :: S = l at h
          induction l with
          | nil => rfl
          | cons y l ihl =>
            rw [List.map_cons, List.dropWhile_cons, List.dropWhile_cons, h y List.mem_cons_self]
            split
            · exact ihl fun z hz => h z (List.mem_cons_of_mem _ hz)
            · rfl
        have pw : popTo ((t :: S).map wdOf) (wdOf x) = ((t :: S).dropWhile fun y => !eqB (wdOf y) (wdOf x)).map wdOf := by
          unfold popTo
          generalize t :: S = l
          induction l with
          | nil => rfl
          | cons y l ihl =>
            rw [List.map_cons, List.dropWhile_cons, List.dropWhile_cons]
            split
            · exact ihl
            · rfl
        have hin : ∀ w ∈ wds m, col w x ∈ (t :: S).map (col w) := fun w hw => List.mem_map.mpr ⟨e, he, heq w hw⟩
        have w1 : (1 : Int) ∈ wds m := mem_wds.mpr (by omega)
        obtain ⟨e', S', hdw⟩ : ∃ e' S', ((t :: S).dropWhile fun y => !eqB (wdOf y) (wdOf x)) = e' :: S' := by
          cases h : (t :: S).dropWhile fun y => !eqB (wdOf y) (wdOf x) with
          | nil =>
            have h2 := pm 1 w1
            rw [h] at h2
            exact absurd (hin 1 w1) ((dropWhile_nil_iff _ _).mp h2.symm)
          | cons e' S' => exact ⟨e', S', rfl⟩
        have hmem : ∀ y ∈ e' :: S', y ∈ t :: S := fun y hy => dropWhile_suffix _ _ y (hdw ▸ hy)
        have he' : eqB (wdOf e') (wdOf x) = true := by
          have h2 : ∀ l : List Str, ∀ a b, l.dropWhile (fun y => !eqB (wdOf y) (wdOf x)) = a :: b → eqB (wdOf a) (wdOf x) = true := by
            intro l
            induction l with
            | nil => intro a b h; cases h
            | cons y l ihl =>
              intro a b h
              rw [List.dropWhile_cons] at h
              split at h
              · exact ihl a b h
              · rename_i hn
                injection h with h1 h2
                subst h1
                simpa using hn
          exact h2 _ _ _ hdw
        have hle : ∀ w ∈ wds m, ¬ col w t < col w x := fun w hw => by
          have h1 := hp w hw
          rw [List.map_cons] at h1
          have h2 := hin w hw
          rw [List.map_cons] at h2
          rcases List.mem_cons.mp h2 with h2 | h2
          · omega
          · have : col w t > col w x := (List.pairwise_cons.mp h1).1 _ h2
            omega
        refine step (S'.length : Int) e' S' (fun w hw => ?_) (fun y hy => hS y (hmem y hy)) (fun w hw => ?_) (fun w hw => ?_) ?_
        · obtain ⟨g1, g2⟩ := stack_back ((t :: S).map (col w)) (col w x) (hp w hw) (hin w hw)
          rw [← pm w hw, hdw] at g1 g2
          unfold rowW
          rw [List.map_cons (l := xs), depR, gl, if_neg (hle w hw), if_pos (by rw [List.any_eq_true]; exact ⟨_, List.mem_reverse.mpr (hin w hw), by simp⟩), g1]
          congr 1
          rw [List.length_map, List.length_cons] at g2
          omega
        · have h1 := dropWhile_pairwise (fun c => !(c == col w x)) _ (hp w hw)
          rw [← pm w hw, hdw] at h1
          exact h1
        · have h1 := eqv w hw e' (hmem e' List.mem_cons_self)
          rw [he'] at h1
          have : col w e' = col w x := by simpa using h1.symm
          exact this.symm
        · rw [List.map_cons (l := xs), nanR]
          rw [show ((t :: S).map wdOf).headD wd0 = wdOf t from rfl, if_neg c1, pw, hdw, if_neg (by simp), List.length_map, List.length_cons]
          congr 1
          push_cast; omega
      · -- the nanny ends
        have hno : ∀ y ∈ t :: S, eqB (wdOf y) (wdOf x) = false := fun y hy => by
          cases h : eqB (wdOf y) (wdOf x) with
          | false => rfl
          | true => exact absurd ⟨y, hy, h⟩ c2
        have pw : popTo ((t :: S).map wdOf) (wdOf x) = [] := by
          unfold popTo
          generalize t :: S = l at hno
          induction l with
          | nil => rfl
          | cons y l ihl =>
            rw [List.map_cons, List.dropWhile_cons, if_pos (by rw [hno y List.mem_cons_self]; rfl)]
            exact ihl fun z hz => hno z (List.mem_cons_of_mem _ hz)
        have hn : nanR ((x :: xs).map wdOf) ((t :: S).map wdOf) = [] := by
          rw [List.map_cons (l := xs), nanR]
          rw [show ((t :: S).map wdOf).headD wd0 = wdOf t from rfl, if_neg c1, if_pos pw]
        have nall : ¬ ∀ w ∈ wds m, col w t < col w x := fun h => c1 (by
          rw [less, List.all_eq_true]
          exact fun w hw => by simpa using h w hw)
        have h0 : alikeAt (rowsW m (x :: xs) (t :: S)) (x :: xs).length 0 = false := by
          cases hA : alikeAt (rowsW m (x :: xs) (t :: S)) (x :: xs).length 0 with
          | false => rfl
          | true =>
            exfalso
            unfold alikeAt at hA
            have hE := (Bool.and_eq_true_iff.mp hA).2
            rw [List.isEmpty_iff, List.filter_eq_nil_iff] at hE
            have hrow : ∀ w ∈ wds m, (rowW (x :: xs) (t :: S) w).length ≠ 0 ∧ (rowW (x :: xs) (t :: S) w).take 1 = ((rowsW m (x :: xs) (t :: S)).headD []).take 1 := fun w hw => by
              have := hE _ (List.mem_map.mpr ⟨w, hw, rfl⟩)
              unfold badRow at this
              simp only [Bool.or_eq_true, beq_iff_eq, decide_eq_true_eq, not_or, Decidable.not_not] at this
              exact this
            -- the first answer of each width
            have first : ∀ w ∈ wds m, (col w t < col w x ∧ (rowW (x :: xs) (t :: S) w).take 1 = [((t :: S).length : Int)]) ∨ (¬ col w t < col w x ∧ col w x ∈ (t :: S).map (col w) ∧ (rowW (x :: xs) (t :: S) w).take 1 = [(((t :: S).map (col w)).reverse.idxOf (col w x) : Int)]) := fun w hw => by
              have h1 := (hrow w hw).1
              unfold rowW at h1 ⊢
              rw [List.map_cons (l := xs), depR, gl] at h1 ⊢
              by_cases ha : col w t < col w x
              · left
                rw [if_pos ha, List.length_reverse, List.length_map]
                exact ⟨ha, rfl⟩
              · rw [if_neg ha] at h1 ⊢
                by_cases hb : (((t :: S).map (col w)).reverse.any fun y => y == col w x) = true
                · right
                  rw [if_pos hb]
                  refine ⟨ha, ?_, rfl⟩
                  obtain ⟨y, hy, hyx⟩ := List.any_eq_true.mp hb
                  have : y = col w x := by simpa using hyx
                  exact this ▸ List.mem_reverse.mp hy
                · rw [if_neg hb] at h1
                  exact absurd rfl h1
            have w1 : (1 : Int) ∈ wds m := mem_wds.mpr (by omega)
            have idxLt : ∀ w ∈ wds m, col w x ∈ (t :: S).map (col w) → ((t :: S).map (col w)).reverse.idxOf (col w x) < (t :: S).length := fun w hw hin => by
              have := List.idxOf_lt_length_iff.mpr (List.mem_reverse.mpr hin)
              rw [List.length_reverse, List.length_map] at this
              exact this
            rcases first 1 w1 with ⟨_, hd⟩ | ⟨_, hin1, hd⟩
            · -- all deeper
              refine nall fun w hw => ?_
              rcases first w hw with ⟨h, _⟩ | ⟨_, hin, h⟩
              · exact h
              · have h2 := (hrow w hw).2.trans (hrow 1 w1).2.symm
                rw [h, hd] at h2
                have h3 := idxLt w hw hin
                injection h2 with h4 _
                omega
            · -- all back to one place
              have hk := idxLt 1 w1 hin1
              have hk' : ((t :: S).map (col 1)).reverse.idxOf (col 1 x) < (t :: S).reverse.length := by rw [List.length_reverse]; exact hk
              refine c2 ⟨(t :: S).reverse[((t :: S).map (col 1)).reverse.idxOf (col 1 x)], List.mem_reverse.mp (List.getElem_mem hk'), ?_⟩
              have um := hS _ (List.mem_reverse.mp (List.getElem_mem hk'))
              rw [eq_is (hU _ um) lx m hm (hUU _ x um ux), List.all_eq_true]
              intro w hw
              rw [decide_eq_true_eq]
              rcases first w hw with ⟨_, h⟩ | ⟨_, hin, h⟩
              · have h2 := (hrow w hw).2.trans (hrow 1 w1).2.symm
                rw [h, hd] at h2
                injection h2 with h4 _
                omega
              · have h2 := (hrow w hw).2.trans (hrow 1 w1).2.symm
                rw [h, hd] at h2
                injection h2 with h4 _
                have h5 : ((t :: S).map (col w)).reverse.idxOf (col w x) = ((t :: S).map (col 1)).reverse.idxOf (col 1 x) := by omega
                have h6 := List.getElem_idxOf (List.idxOf_lt_length_iff.mpr (List.mem_reverse.mpr hin))
                rw [← h6]
                have h7 : ((t :: S).map (col w)).reverse = (t :: S).reverse.map (col w) := by rw [List.map_reverse]
                simp only [h7] at h5 ⊢
                rw [List.getElem_map]
                congr 1
                simp only [h5]
        have ha : alikeGo (rowsW m (x :: xs) (t :: S)) (x :: xs).length (x :: xs).length 0 = 0 := by
          rw [List.length_cons, alikeGo, ← List.length_cons (a := x), if_neg (by rw [h0]; decide)]
        rw [ha, hn]
        refine ⟨rfl, fun _ q b hq hb hall => ?_⟩
        rw [List.getElem?_cons_zero] at hq hb
        cases hq; cases hb
        exact nall fun w hw => by rw [← hpt w hw]; exact hall w hw
end Mine
end

section
set_option maxRecDepth 1000000
set_option maxHeartbeats 0
namespace Mine
open PySem PySem.W PySem.Calls PyProof.Rows

def emptyS : Str := ⟨#[]⟩
theorem strip_less (t : Wd) (d : Wd) (h : (t.n, t.nt, t.cnt, t.tr) = (d.n, d.nt, d.cnt, d.tr)) (e : Wd) : lessB t e = lessB d e ∧ eqB t e = eqB d e := by
  obtain ⟨r1, n1, t1, c1, x1⟩ := t
  obtain ⟨r2, n2, t2, c2, x2⟩ := d
  simp only [Prod.mk.injEq] at h
  obtain ⟨rfl, rfl, rfl, rfl⟩ := h
  exact ⟨rfl, rfl⟩
def keyW (d : Wd) : Int × Int × List Int × Int := (d.n, d.nt, d.cnt, d.tr)
theorem popTo_key (d : Wd) : ∀ (r r' : List Wd), r.map keyW = r'.map keyW → (popTo r d).map keyW = (popTo r' d).map keyW
  | [], [], _ => rfl
  | [], _ :: _, h => by cases h
  | _ :: _, [], h => by cases h
  | a :: r, a' :: r', h => by
    rw [List.map_cons, List.map_cons] at h
    injection h with h1 h2
    have he := (strip_less a a' h1 d).2
    have ih := popTo_key d r r' h2
    unfold popTo at ih ⊢
    rw [List.dropWhile_cons, List.dropWhile_cons, he]
    split
    · exact ih
    · rw [List.map_cons, List.map_cons, h1, h2]
theorem nanR_key : ∀ (ds r r' : List Wd), r ≠ [] → r.map keyW = r'.map keyW → nanR ds r = nanR ds r'
  | [], r, r', _, _ => rfl
  | d :: ds, [], r', hne, _ => absurd rfl hne
  | d :: ds, a :: r, [], _, h => by cases h
  | d :: ds, a :: r, a' :: r', _, h => by
    have hk := h
    rw [List.map_cons, List.map_cons] at h
    injection h with h1 h2
    have hp := popTo_key d (a :: r) (a' :: r') hk
    have hlen : (popTo (a :: r) d).length = (popTo (a' :: r') d).length := by
      have := congrArg List.length hp
      rwa [List.length_map, List.length_map] at this
    rw [nanR, nanR, List.headD_cons, List.headD_cons, (strip_less a a' h1 d).1]
    have hl2 : (a :: r).length = (a' :: r').length := by
      have := congrArg List.length hk
      rwa [List.length_map, List.length_map] at this
    by_cases c : lessB a' d = true
    · rw [if_pos c, if_pos c, hl2, nanR_key ds (d :: a :: r) (d :: a' :: r') (by simp) (by rw [List.map_cons, hk, ← List.map_cons])]
    · rw [if_neg c, if_neg c]
      by_cases hn : popTo (a :: r) d = []
      · have hn' : popTo (a' :: r') d = [] := List.length_eq_zero_iff.mp (by rw [← hlen, hn]; rfl)
        rw [if_pos hn, if_pos hn']
      · have hn' : ¬ popTo (a' :: r') d = [] := fun h' => hn (List.length_eq_zero_iff.mp (by rw [hlen, h']; rfl))
        rw [if_neg hn, if_neg hn', hlen, nanR_key ds _ _ hn hp]

theorem alikeGo_le (rows : List (List Int)) (n : Nat) : ∀ k a, k + a = n → alikeGo rows n k a ≤ n
  | 0, a, h => by unfold alikeGo; omega
  | k + 1, a, h => by
    unfold alikeGo
    split
    · exact alikeGo_le rows n k (a + 1) (by omega)
    · omega

theorem longest_base {leads : List Str} (hL : ∀ x ∈ leads, Lead x) (hne : leads ≠ []) : longest (emptyS :: leads) ≤ longest leads := by
  have h0 := longs_ok hL hne
  have h1 : longs (emptyS :: leads) = 0 :: longs leads := by
    unfold longs
    rw [List.flatMap_cons]
    have : (splitT emptyS).map (fun r => (r.length : Int)) = [0] := by decide +kernel
    rw [this]; rfl
  have h2 : longs leads ≠ [] := List.length_pos_iff.mp h0.1
  have h3 := (maxOf_mem (ns := longs (emptyS :: leads)) (by rw [h1]; simp)).1
  show maxOf (longs (emptyS :: leads)) ≤ maxOf (longs leads)
  generalize hM : maxOf (longs (emptyS :: leads)) = M at h3 ⊢
  rw [h1] at h3
  rcases List.mem_cons.mp h3 with h | h
  · rw [h]; exact h0.2.1
  · exact (maxOf_mem h2).2 M h

theorem mkLeads_head : ∀ (ns : List Int) (ls : List Str) (x : Str), ls[0]? = some x → (mkLeads ns ls)[0]? = some x
  | [], ls, x, h => h
  | n :: ns, ls, x, h => by
    rw [mkLeads]
    refine mkLeads_head ns _ x ?_
    cases ls with
    | nil => cases h
    | cons y l => exact h
end Mine
end

section
set_option maxRecDepth 1000000
set_option maxHeartbeats 0
namespace Mine
open PySem PySem.W PySem.Calls PyProof.Rows

theorem plain_of {leads : List Str} (hL : ∀ x ∈ leads, Lead x) (h0 : leads[0]? = some (Str.ofString "\t")) : Plain leads := by
  have hne : leads ≠ [] := by intro h; rw [h] at h0; cases h0
  obtain ⟨q1, q2, q3⟩ := longs_ok hL hne
  obtain ⟨m, hm⟩ : ∃ m : Nat, longest leads + 2 = (m : Int) := ⟨(longest leads + 2).toNat, by omega⟩
  have hm7 : m < 7 := by omega
  have hm0 : 0 < m := by omega
  have eR : rowsOf leads = rowsW m leads [emptyS] := by
    unfold rowsOf rowsW wds
    rw [List.map_map, show (longest leads + 2).toNat = m by omega]
    refine List.map_congr_left fun j _ => ?_
    show depOf (cols leads (1 + (j : Int))) = rowW leads [emptyS] (1 + (j : Int))
    unfold depOf rowW cols
    rw [depGo_is, List.nil_append]
    rfl
  let U : Str → Prop := fun a => a ∈ emptyS :: leads
  have lE : Lead emptyS := by decide +kernel
  have hUL : ∀ a, U a → Lead a := fun a ha => by
    rcases List.mem_cons.mp ha with rfl | ha
    · exact lE
    · exact hL a ha
  have hUU : ∀ a b, U a → U b → longest [a, b] + 2 ≤ (m : Int) := fun a b ha hb => by
    have h1 := longest_le (leads := emptyS :: leads) (sub := [a, b]) (fun x hx => by
      simp only [List.mem_cons, List.not_mem_nil, or_false] at hx
      rcases hx with rfl | rfl
      · exact ha
      · exact hb) hUL (by simp)
    have h2 := longest_base hL hne
    omega
  obtain ⟨m1, m2⟩ := main_law hm7 hm0 hUL hUU leads emptyS [] emptyS (fun x hx => List.mem_cons_of_mem _ hx) (fun x hx => by rw [List.mem_singleton.mp hx]; exact List.mem_cons_self) (fun w _ => by simp) (fun _ _ => rfl)
  have al_ : alikeOf leads = alikeGo (rowsW m leads [emptyS]) leads.length leads.length 0 := by unfold alikeOf; rw [eR]
  rw [← al_] at m1 m2
  have hone : alikeOf leads < leads.length → 1 ≤ alikeOf leads := fun hlt => by
    rcases Nat.eq_zero_or_pos (alikeOf leads) with h | h
    · exfalso
      refine m2 hlt emptyS (Str.ofString "\t") (by rw [h]; rfl) (by rw [h]; exact h0) fun w hw => ?_
      have hw6 : w ∈ wds 6 := by rw [mem_wds] at hw ⊢; omega
      have : ∀ w ∈ wds 6, col w emptyS < col w (Str.ofString "\t") := by decide +kernel
      exact this w hw6
    · exact h
  refine ⟨⟨q2, q3⟩, q1, fun j hj => wok hL (mem_wds.mpr (by omega)), ⟨?_, ?_, hone, fun a b ea eb hlt => ?_⟩⟩
  · unfold nanOf
    rw [nanGo_is, List.nil_append, eR, ← m1, List.map_map]
    exact nanR_key _ [wd0] [wdOf emptyS] (by simp) (by decide +kernel)
  · unfold alikeOf; exact alikeGo_le _ _ _ _ rfl
  · have h1 := hone hlt
    have la := hL a (List.mem_of_getElem? ea)
    have lb := hL b (List.mem_of_getElem? eb)
    have hp := longs_ok (leads := [a, b]) (fun x hx => by
      simp only [List.mem_cons, List.not_mem_nil, or_false] at hx
      rcases hx with rfl | rfl
      · exact la
      · exact lb) (by simp)
    refine ⟨hp.2.1, hp.2.2, hp.1, fun hs => ?_, wit_is la lb⟩
    have hall := size_is la lb hs
    refine m2 hlt a b ?_ eb fun w hw => hall w (by rw [mem_wds] at hw ⊢; omega)
    obtain ⟨k, hk⟩ : ∃ k, alikeOf leads = k + 1 := ⟨alikeOf leads - 1, by omega⟩
    rw [hk] at ea ⊢
    rw [List.getElem?_cons_succ]
    exact ea

theorem plain (script : List Int) : Plain (leadsOf script) := plain_of (leadsOf_ok script).1 (mkLeads_head _ _ _ rfl)
end Mine
end

section
set_option maxRecDepth 1000000
set_option maxHeartbeats 0
namespace Mine
open PySem PySem.W PySem.Calls PyProof.Rows

def noT (H : Frag) : Frag := H.filter fun p => p.1 != 118
theorem noT_lookup : ∀ (H : Frag) (a : Addr) (o : Obj), (noT H).lookup a = some o → a ≠ 118 ∧ H.lookup a = some o
  | [], a, o, h => by cases h
  | (b, ob) :: H, a, o, h => by
    unfold noT at h
    rw [List.filter_cons] at h
    by_cases hb : b = 118
    · subst hb
      rw [if_neg (by simp)] at h
      obtain ⟨h1, h2⟩ := noT_lookup H a o h
      refine ⟨h1, ?_⟩
      rw [List.lookup_cons, show (a == 118) = false by simpa using h1]
      exact h2
    · rw [if_pos (by simpa using hb), List.lookup_cons] at h
      rw [List.lookup_cons]
      cases hab : a == b with
      | true =>
        have : a = b := by simpa using hab
        rw [hab] at h
        exact ⟨this ▸ hb, h⟩
      | false =>
        rw [hab] at h
        exact noT_lookup H a o h
theorem noT_in {H : Frag} {h : Heap} (X : H.In h) : (noT H).In h := fun a o e => X a o (noT_lookup H a o e).2
theorem noT_no (H : Frag) : (noT H).lookup 118 = none := by
  cases h : (noT H).lookup 118 with
  | none => rfl
  | some o => exact absurd rfl (noT_lookup H _ o h).1

theorem After.good {s s' : Shared} (a : After s s') (t : s.heap.TableAt 122 118 #[]) (hg : s.gens = #[]) : OldK s.heap s'.heap ∧ s'.os = s.os ∧ AllBare s'.gens := by
  obtain ⟨more, hm⟩ := a.table
  exact ⟨OldK.step_table (OldK.refl s.heap) t t hm (fun b o hb e => a.keep b o hb e) (by decide), a.os, a.gens (AllBare.of_eq hg)⟩

theorem ints_rp {V : View} : ∀ {vs : List Value} {ns : List Int}, IntsAre vs ns → RpL V vs (ns.map AV.int)
  | _, _, .nil => .nil
  | _, _, .cons n t h => .cons (.int n t) (ints_rp h)

theorem finish {prog : Program} {w : World} {A : Around} {s : Shared} {H : Frag} {mb : Str → Option Value} {ns : List Int} {vs : List Value} {n : Nat} {Q E : Value → Shared → Prop} (X : H.In s.heap) (hb : s.heap.Ns builtinsNs mb) (hbb : ∀ x : Str, x ≠ "__name__" → mb x = bootBuiltins x)
    (T : Kt (noT H)) (W : Kw (noT H)) (Rk : Kr (noT H)) (F : Kf (noT H)) (FL : FnIs (noT H) 161 lawS) (r : Room A 7) (ho : s.heap.get? 162 = some (lstO vs n)) (hi : IntsAre vs ns) (hz : ns.length < 1000) (i0 : s.heap.IsCode 122 118 #[]) (t0 : s.heap.TableAt 122 118 #[]) (hg : s.gens = #[])
    (q : ∀ s', OldK s.heap s'.heap ∧ s'.os = s.os ∧ AllBare s'.gens → Q (.bool true) s') : wpAny (model prog w) A (call (.ref 161) [.ref 162]) Q E s :=
  law_call (X := []) T W Rk F FL r ⟨noT_in X, ⟨mb, hb, hbb⟩, fun a ha => by cases ha⟩ ns hz (plain ns) (.list (Vw.mk ho (by simp)) (ints_rp hi)) i0 t0 fun s' a => q s' (a.good t0 hg)
end Mine
end

section
set_option maxRecDepth 1000000
set_option maxHeartbeats 0
namespace Mine
open PySem PySem.W PySem.Calls PyProof.Rows

/-! readers, so that the kernel finds the witnesses by itself -/
def strTok : Option CFound → Tok
  | some (.val (.str _ t)) => t
  | _ => default
def fldsOf (o : Option Obj) : Array Value := match o with
  | some ⟨_, _, .fields vs, _⟩ => vs
  | _ => #[]
def seqNum (o : Option Obj) : Nat := match o with
  | some ⟨_, _, .seq _ n, _⟩ => n
  | _ => 0
def refOf : Option (Option Value) → Addr
  | some (some (.ref a)) => a
  | _ => 0
def objOf (o : Option Obj) : Obj := o.getD default
def theStr : Value → Str
  | .str x _ => x
  | _ => default
def theTok : Value → Tok
  | .str _ t => t
  | .int _ t => t
  | _ => default
def theInt : Value → Int
  | .int i _ => i
  | _ => 0
def theBool : Value → Bool
  | .bool b => b
  | _ => false

theorem isCode_of {H : Frag} {h : Heap} (X : H.In h) {c P : Addr} (h1 : H.lookup c = some (objOf (H.lookup c))) (h0 : (objOf (H.lookup c)).cls = .type "code") (h2 : (objOf (H.lookup c)).data = .fields (fldsOf (H.lookup c))) (h3 : (fldsOf (H.lookup c))[11]? = some (.ref P))
    (h4 : (fldsOf (H.lookup c)).getD 18 .none = .str (theStr ((fldsOf (H.lookup c)).getD 18 .none)) (theTok ((fldsOf (H.lookup c)).getD 18 .none)))
    (h5 : (fldsOf (H.lookup c)).getD 7 .none = .int (theInt ((fldsOf (H.lookup c)).getD 7 .none)) (theTok ((fldsOf (H.lookup c)).getD 7 .none)))
    (h6 : (fldsOf (H.lookup c)).getD 9 .none = .bool (theBool ((fldsOf (H.lookup c)).getD 9 .none)))
    (h7 : (fldsOf (H.lookup c)).getD 10 .none = .int (theInt ((fldsOf (H.lookup c)).getD 10 .none)) (theTok ((fldsOf (H.lookup c)).getD 10 .none)))
    (h8 : H.lookup P = some { cls := .none, data := .fields #[] }) (hne : c ≠ P) : h.IsCode c P #[] ∧ h.TableAt c P #[] := by
  have e : (fldsOf (H.lookup c)).getD 11 .none = .ref P := by rw [Array.getD_eq_getD_getElem?, h3]; rfl
  exact ⟨⟨_, _, _, _, _, _, _, _, _, _, X _ _ h1, h2, e, h4, h5, h6, h7, X _ _ h8, rfl, trivial, hne⟩, ⟨_, _, X _ _ h1, h0, h2, h3⟩, X _ _ h8⟩

theorem kr_of {K : Frag} (h1 : K.lookup 43 = some (patO ((fldsOf (K.lookup 43)).getD 0 .none) ((fldsOf (K.lookup 43)).getD 1 .none) 42))
    (h2 : K.lookup 42 = some (tupO (codeL.map fun (w : Nat) => rawInt w) (seqNum (K.lookup 42)))) : Kr K := ⟨_, _, _, h1, h2⟩
theorem kf_of {H : Frag} (h1 : (fdIn (noT H) 123).code = .ref 122) (h2 : nsIn (noT H) mainGlobals (Str.ofString "__builtins__") = some (some (.ref (refOf (nsIn (noT H) mainGlobals (Str.ofString "__builtins__"))))))
    (h3 : (refOf (nsIn (noT H) mainGlobals (Str.ofString "__builtins__")) == builtinsNs) = false)
    (h4 : (noT H).lookup (refOf (nsIn (noT H) mainGlobals (Str.ofString "__builtins__"))) = some (objOf ((noT H).lookup (refOf (nsIn (noT H) mainGlobals (Str.ofString "__builtins__"))))))
    (h5 : (objOf ((noT H).lookup (refOf (nsIn (noT H) mainGlobals (Str.ofString "__builtins__"))))).cls = .type "module")
    (h6 : (objOf ((noT H).lookup (refOf (nsIn (noT H) mainGlobals (Str.ofString "__builtins__"))))).dict = some builtinsNs)
    (h7 : (objOf ((noT H).lookup (refOf (nsIn (noT H) mainGlobals (Str.ofString "__builtins__"))))).data = .plain) : Kf (noT H) :=
  ⟨h1, ⟨_, _, h2, by simpa using h3, h4, h5, h6, h7⟩, noT_no H⟩
theorem clsTok {K : Frag} {c mc : Value} {x y : Str} (h : findCls K c mc x = some (.val (.str y (strTok (findCls K c mc x))))) : ∃ t, findCls K c mc x = some (.val (.str y t)) := ⟨_, h⟩
theorem room7 : Room callerA 7 := ⟨rfl, by decide, by decide⟩
end Mine
end

open PySem PySem.W PySem.W.X PySem.W.ZRun PyProof.Rows
set_option maxRecDepth 100000
set_option maxHeartbeats 0
theorem PySem.Challenge.cw_nb0173_01_holds : PySem.Challenge.rw_nb0173_01.Holds := by
  w_on; o_law; z_head
  case hw => w_witness2
  k_fill
  intro w s₀ s₁ mg mb G y fa o pm cd doc dV kV ho hd hcd hD hmg hg args vals as L hpre hlay hrd hwl hlo
  z_open y L KX ZH ZN ZT
  refine Ground.open G ?_
  intro T B D TE TW
  wrow_args hpre hlay hrd hwl hlo
  obtain ⟨hat, hsz⟩ := script_at L
  have htk := script_toks L ZT
  rw [ZN] at hat hsz
  subst hat
  x_fa T KX hmg
  all_lens
  z_lists L
  rename IntsAre _ _ => hi
  rename ¬(_ < _) => hc63
  rename s₁.heap.get? 162 = some _ => hol
  clear hmg hd hcd hD y TW TE D B L G
  have ic := Mine.isCode_of (c := 122) (P := 118) KX (by kernel_rfl) (by kernel_rfl) (by kernel_rfl) (by kernel_rfl) (by kernel_rfl) (by kernel_rfl) (by kernel_rfl) (by kernel_rfl) (by kernel_rfl) (by decide)
  refine Mine.finish KX T.b T.builtins ?_ ?_ (Mine.kr_of (by kernel_rfl) (by kernel_rfl)) (Mine.kf_of (by kernel_rfl) (by kernel_rfl) (by kernel_rfl) (by kernel_rfl) (by kernel_rfl) (by kernel_rfl) (by kernel_rfl)) ?_ Mine.room7 hol hi (by omega) ic.1 ic.2 hg ?_
  · refine ⟨?_, ?_, ?_, ?_, ?_, ?_, ?_, ?_, ?_, ?_, ?_, ?_, ?_, ?_, ?_, ?_, ?_, ?_, ?_, ?_, ?_, ?_, ?_, ?_, ?_, ?_, ?_, ?_⟩ <;> first | kernel_rfl | (constructor <;> kernel_rfl)
  · constructor <;> first | kernel_rfl | exact Mine.clsTok (by kernel_rfl)
  · constructor <;> kernel_rfl
  · intro s' h
    exact ⟨.inl ⟨_, _, [], rfl, fun _ => rfl, ReadsW.bool true, by kernel_rfl, fun _ => ⟨List.nodup_nil, fun _ hm => (nomatch hm)⟩⟩, h⟩
