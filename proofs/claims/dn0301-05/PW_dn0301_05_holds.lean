import PyProof.Rows.All
import Wide.All
import OpenK.AllK
import Wide.FinOn
import Lean
import PySem.Challenge.RW_dn0301_05
set_option compiler.extract_closed false
open PySem PySem.W PyProof.Rows PySem.Calls
set_option Elab.async false
set_option maxRecDepth 100000
set_option linter.unusedVariables false
namespace Mine

/-! ## abstract values, objects, contexts -/
/-- a def inside a def, as the text has it -/
structure Clo where
  name : Str
  qual : Str
  params : Arguments
  body : FuncBody
  scope : Scope
  free : List Str
inductive AVal where
  | none
  | bool (b : Bool)
  | int (i : Int)
  | str (s : Str)
  | bytes (b : Array UInt8)
  | raw (v : Value)
  | obj (a : Addr)
  | fin (C : Addr)
  | lst (xs : List AVal)
  | tup (xs : List AVal)
  | rng (a b c : Int)
  | clos (d : Clo) (xs : List AVal)
  | meth (g : Addr) (x : AVal)

inductive AObj where
  | inst (C : Addr) (as : List (Str × AVal))
  | list (xs : List AVal)
  | dict (es : List (Int × AVal))
  | cell (v : Option AVal)
  | ns (as : List (Str × AVal))
  | tab (es : List (Pos × Str))

structure Cx where
  prog : Program
  w : World
  K : Frag
  vp : Program
  loose : List Str
  mean : ExcName → Option Value
  mg : Str → Option Value
  mb : Str → Option Value
  H : Heap
  fr : List (Addr × AVal)

abbrev Fz := List (Addr × Obj)
def At (C : Cx) (fz : Fz) (a : Addr) (o : Obj) : Prop := (a, o) ∈ fz ∨ C.H.get? a = some o
theorem At.mono {C : Cx} {fz fz' : Fz} (h : ∀ p ∈ fz, p ∈ fz') {a : Addr} {o : Obj} (x : At C fz a o) : At C fz' a o := x.imp (h _) id

abbrev cloObj (d : Clo) (cs : List Addr) (doc pm : Value) (c : Addr) (ctv : Value) : Obj :=
  { cls := .type "function", data := .func { name := d.name, qualname := d.qual, params := d.params, body := d.body, scope := d.scope, globals := mainGlobals, closure := d.free.zip cs, defaults := .none, kwdefaults := .none, doc, pyModule := pm, annotations := none, code := .ref c, closureTuple := ctv, builtins := builtinsNs } }
abbrev tupOf (vs : List Value) : Obj := { cls := .type "tuple", data := .seq vs.toArray }

mutual
inductive V (P : Addr → Obj → Prop) : Value → AVal → Prop
  | none : V P .none .none
  | bool (b : Bool) : V P (.bool b) (.bool b)
  | int (i : Int) (t : Tok) : V P (.int i t) (.int i)
  | str (x : Str) (t : Tok) : V P (.str x t) (.str x)
  | bytes (b : Array UInt8) (t : Tok) : V P (.bytes b t) (.bytes b)
  | raw (v : Value) : V P v (.raw v)
  | obj (a : Addr) : V P (.ref a) (.obj a)
  | fin {a d C : Addr} : P a (instObj C d) → P d (dictOf [] 0) → V P (.ref a) (.fin C)
  | lst {a : Addr} {o : Obj} {n : Nat} {vs : List Value} {xs : List AVal} : P a o → o.cls = .type "list" → o.data = .seq vs.toArray n → Vs P vs xs → V P (.ref a) (.lst xs)
  | tup {a : Addr} {o : Obj} {n : Nat} {vs : List Value} {xs : List AVal} : P a o → o.cls = .type "tuple" → o.data = .seq vs.toArray n → Vs P vs xs → V P (.ref a) (.tup xs)
  | rng {r : Addr} {a b c : Int} {t u v : Tok} : P r { cls := .type "range", dict := none, data := .fields #[.int a t, .int b u, .int c v], slots := #[] } → V P (.ref r) (.rng a b c)
  | clos {a c : Addr} {oc : Obj} {vs : Array Value} {t : Tok} {d : Clo} {cs : List Addr} {doc pm ctv : Value} {xs : List AVal} : P a (cloObj d cs doc pm c ctv) → P c oc → oc.data = .fields vs → vs[1]? = some (.str d.qual t) → Cs P cs xs → V P (.ref a) (.clos d xs)
  | meth {a g : Addr} {v : Value} {x : AVal} : P a (methodObj (.ref g) v) → V P v x → V P (.ref a) (.meth g x)
inductive Vs (P : Addr → Obj → Prop) : List Value → List AVal → Prop
  | nil : Vs P [] []
  | cons {v : Value} {av : AVal} {vs : List Value} {xs : List AVal} : V P v av → Vs P vs xs → Vs P (v :: vs) (av :: xs)
inductive Cs (P : Addr → Obj → Prop) : List Addr → List AVal → Prop
  | nil : Cs P [] []
  | cons {c : Addr} {o : Obj} {v : Value} {x : AVal} {cs : List Addr} {xs : List AVal} : P c o → o.data = .cell (some v) → V P v x → Cs P cs xs → Cs P (c :: cs) (x :: xs)
end

mutual
theorem V.mono {P P' : Addr → Obj → Prop} (k : ∀ a o, P a o → P' a o) : ∀ {v : Value} {x : AVal}, V P v x → V P' v x
  | _, _, .none => .none
  | _, _, .bool b => .bool b
  | _, _, .int i t => .int i t
  | _, _, .str x t => .str x t
  | _, _, .bytes b t => .bytes b t
  | _, _, .raw v => .raw v
  | _, _, .obj a => .obj a
  | _, _, .fin h1 h2 => .fin (k _ _ h1) (k _ _ h2)
  | _, _, .lst h1 h2 h3 h4 => .lst (k _ _ h1) h2 h3 (Vs.mono k h4)
  | _, _, .tup h1 h2 h3 h4 => .tup (k _ _ h1) h2 h3 (Vs.mono k h4)
  | _, _, .rng h1 => .rng (k _ _ h1)
  | _, _, .clos h1 h2 h3 h4 h5 => .clos (k _ _ h1) (k _ _ h2) h3 h4 (Cs.mono k h5)
  | _, _, .meth h1 h2 => .meth (k _ _ h1) (V.mono k h2)
theorem Vs.mono {P P' : Addr → Obj → Prop} (k : ∀ a o, P a o → P' a o) : ∀ {vs : List Value} {xs : List AVal}, Vs P vs xs → Vs P' vs xs
  | _, _, .nil => .nil
  | _, _, .cons h1 h2 => .cons (V.mono k h1) (Vs.mono k h2)
theorem Cs.mono {P P' : Addr → Obj → Prop} (k : ∀ a o, P a o → P' a o) : ∀ {vs : List Addr} {xs : List AVal}, Cs P vs xs → Cs P' vs xs
  | _, _, .nil => .nil
  | _, _, .cons h1 h2 h3 h4 => .cons (k _ _ h1) h2 (V.mono k h3) (Cs.mono k h4)
end
theorem V.up {C : Cx} {fz fz' : Fz} (h : ∀ p ∈ fz, p ∈ fz') {v : Value} {x : AVal} (a : V (At C fz) v x) : V (At C fz') v x := a.mono fun _ _ => At.mono h
theorem Vs.up {C : Cx} {fz fz' : Fz} (h : ∀ p ∈ fz, p ∈ fz') {v : List Value} {x : List AVal} (a : Vs (At C fz) v x) : Vs (At C fz') v x := a.mono fun _ _ => At.mono h
theorem Vs.length {P : Addr → Obj → Prop} : ∀ {vs : List Value} {xs : List AVal}, Vs P vs xs → vs.length = xs.length
  | _, _, .nil => rfl
  | _, _, .cons _ h => by simp [h.length]
theorem Vs.append {P : Addr → Obj → Prop} : ∀ {vs : List Value} {xs : List AVal} {ws : List Value} {ys : List AVal}, Vs P vs xs → Vs P ws ys → Vs P (vs ++ ws) (xs ++ ys)
  | _, _, _, _, .nil, h => h
  | _, _, _, _, .cons a b, h => .cons a (b.append h)
theorem Vs.get {P : Addr → Obj → Prop} : ∀ {vs : List Value} {xs : List AVal}, Vs P vs xs → ∀ {i : Nat} {x : AVal}, xs[i]? = some x → ∃ v, vs[i]? = some v ∧ V P v x
  | _, _, .nil, _, _, e => by simp at e
  | _, _, .cons a b, 0, _, e => by simp at e; subst e; exact ⟨_, rfl, a⟩
  | _, _, .cons a b, i + 1, _, e => by simp at e; obtain ⟨v, h1, h2⟩ := b.get e; exact ⟨v, by simpa using h1, h2⟩
theorem Vs.reverse {P : Addr → Obj → Prop} : ∀ {vs : List Value} {xs : List AVal}, Vs P vs xs → Vs P vs.reverse xs.reverse
  | _, _, .nil => .nil
  | _, _, .cons a b => by simp only [List.reverse_cons]; exact b.reverse.append (.cons a .nil)

/-! ## attribute dicts -/
inductive Es (P : Addr → Obj → Prop) : List DictEntry → List (Str × AVal) → Prop
  | nil : Es P [] []
  | cons {h : Int} {x : Str} {t : Tok} {v : Value} {av : AVal} {es : List DictEntry} {as : List (Str × AVal)} : V P v av → Es P es as → Es P (⟨h, .str x t, v⟩ :: es) ((x, av) :: as)
def getA (x : Str) : List (Str × AVal) → Option AVal
  | [] => none
  | (y, a) :: r => if y == x then some a else getA x r
def setA (x : Str) (v : AVal) : List (Str × AVal) → List (Str × AVal)
  | [] => [(x, v)]
  | (y, a) :: r => if y == x then (y, v) :: r else (y, a) :: setA x v r
theorem Es.mono {P P' : Addr → Obj → Prop} (k : ∀ a o, P a o → P' a o) : ∀ {es : List DictEntry} {as : List (Str × AVal)}, Es P es as → Es P' es as
  | _, _, .nil => .nil
  | _, _, .cons a b => .cons (a.mono k) (b.mono k)
/-! ## abstract heap -/
abbrev AHeap := Addr → Option AObj
def AHeap.set (σ : AHeap) (a : Addr) (o : AObj) : AHeap := fun b => if b = a then some o else σ b
@[simp] theorem AHeap.set_same (σ : AHeap) (a : Addr) (o : AObj) : σ.set a o a = some o := if_pos rfl
theorem AHeap.set_ne (σ : AHeap) {a b : Addr} (o : AObj) (h : b ≠ a) : σ.set a o b = σ b := if_neg h
def AHeap.le (σ σ' : AHeap) : Prop := ∀ a o, σ a = some o → σ' a = some o

/-- what stands under names -/
def ER (P : Addr → Obj → Prop) (m : List (Str × AVal)) (mc : Str → Option Value) : Prop := ∀ x a, getA x m = some a → ∃ v, mc x = some v ∧ V P v a
theorem ER.mono {P P' : Addr → Obj → Prop} (k : ∀ a o, P a o → P' a o) {m : List (Str × AVal)} {mc : Str → Option Value} (h : ER P m mc) : ER P' m mc := fun x a e => by obtain ⟨v, h1, h2⟩ := h x a e; exact ⟨v, h1, h2.mono k⟩
/-- a dict with whole numbers as keys -/
inductive Ks (P : Addr → Obj → Prop) : List (Int × Value) → List (Int × AVal) → Prop
  | nil : Ks P [] []
  | cons {k : Int} {v : Value} {a : AVal} {kvs : List (Int × Value)} {es : List (Int × AVal)} : V P v a → Ks P kvs es → Ks P ((k, v) :: kvs) ((k, a) :: es)
theorem Ks.mono {P P' : Addr → Obj → Prop} (k : ∀ a o, P a o → P' a o) : ∀ {kvs : List (Int × Value)} {es : List (Int × AVal)}, Ks P kvs es → Ks P' kvs es
  | _, _, .nil => .nil
  | _, _, .cons a b => .cons (a.mono k) (b.mono k)
/-- a code's table of the codes made in it -/
inductive Tb (P : Addr → Obj → Prop) : List Value → List (Pos × Str) → Prop
  | nil : Tb P [] []
  | cons {pos : Pos} {qual : Str} {c : Addr} {oc : Obj} {vs : Array Value} {t : Tok} {ps : List Value} {es : List (Pos × Str)} : P c oc → oc.data = .fields vs → vs[1]? = some (.str qual t) → Tb P ps es → Tb P (rawInt pos.line :: rawInt pos.col :: .ref c :: ps) ((pos, qual) :: es)
theorem Tb.mono {P P' : Addr → Obj → Prop} (k : ∀ a o, P a o → P' a o) : ∀ {ps : List Value} {es : List (Pos × Str)}, Tb P ps es → Tb P' ps es
  | _, _, .nil => .nil
  | _, _, .cons a b c d => .cons (k _ _ a) b c (Tb.mono k d)
def OR (P : Addr → Obj → Prop) (news : List (Addr × Obj)) (d a : Addr) : AObj → Prop
  | .inst C as => (a, instObj C d) ∈ news ∧ ∃ es n, (d, dictOf es n) ∈ news ∧ Es P es as
  | .list xs => ∃ vs n, (a, listOf vs.toArray n) ∈ news ∧ Vs P vs xs
  | .dict es => ∃ o kvs, (a, o) ∈ news ∧ (∀ prog w, o.IsDictOf (intKind prog w) kvs) ∧ Ks P kvs es
  | .ns as => ∃ o mc, (a, o) ∈ news ∧ LCg.NsObj o mc ∧ ER P as mc
  | .tab es => ∃ ps, (a, tabObj ps) ∈ news ∧ Tb P ps.toList es
  | .cell none => ∃ o, (a, o) ∈ news ∧ o.data = .cell none
  | .cell (some x) => ∃ o v, (a, o) ∈ news ∧ o.data = .cell (some v) ∧ V P v x

structure HR (C : Cx) (fz pin : Fz) (σ : AHeap) (δ : Addr → Addr) (news : List (Addr × Obj)) : Prop where
  sub : ∀ p ∈ fz ++ pin, p ∈ news
  apart : ∀ p ∈ fz, ∀ q ∈ pin, p.1 ≠ q.1
  ob : ∀ a ao, σ a = some ao → OR (At C fz) news (δ a) a ao
  off : ∀ a ao, σ a = some ao → ∀ p ∈ fz ++ pin, p.1 ≠ a
  doff : ∀ a c as, σ a = some (.inst c as) → ∀ p ∈ fz ++ pin, p.1 ≠ δ a
  dσ : ∀ a c as, σ a = some (.inst c as) → σ (δ a) = none
  free : ∀ p ∈ C.fr, ∃ o v, At C fz p.1 o ∧ o.data = .cell (some v) ∧ V (At C fz) v p.2
  dinj : ∀ a c as b c' bs, σ a = some (.inst c as) → σ b = some (.inst c' bs) → δ a = δ b → a = b

theorem OR.key {P : Addr → Obj → Prop} {news : List (Addr × Obj)} {d a : Addr} {o : AObj} (h : OR P news d a o) : ∃ o', (a, o') ∈ news := by
  cases o with
  | inst C as => exact ⟨_, h.1⟩
  | list xs => obtain ⟨vs, n, h, _⟩ := h; exact ⟨_, h⟩
  | dict es => obtain ⟨o, kvs, h, _⟩ := h; exact ⟨o, h⟩
  | ns as => obtain ⟨o, mc, h, _⟩ := h; exact ⟨o, h⟩
  | tab es => obtain ⟨ps, h, _⟩ := h; exact ⟨_, h⟩
  | cell v => cases v with
    | none => obtain ⟨o, h, _⟩ := h; exact ⟨o, h⟩
    | some v => obtain ⟨o, _, h, _⟩ := h; exact ⟨o, h⟩
theorem OR.mono {P P' : Addr → Obj → Prop} {news news' : List (Addr × Obj)} {d a : Addr} {o : AObj} (k : ∀ a o, P a o → P' a o) (h : OR P news d a o) (hn : ∀ o', (a, o') ∈ news → (a, o') ∈ news') (hd : ∀ c as, o = .inst c as → ∀ o', (d, o') ∈ news → (d, o') ∈ news') : OR P' news' d a o := by
  cases o with
  | inst C as => obtain ⟨h1, es, n, h2, h3⟩ := h; exact ⟨hn _ h1, es, n, hd _ _ rfl _ h2, h3.mono k⟩
  | list xs => obtain ⟨vs, n, h1, h2⟩ := h; exact ⟨vs, n, hn _ h1, h2.mono k⟩
  | dict es => obtain ⟨o, kvs, h1, h2, h3⟩ := h; exact ⟨o, kvs, hn _ h1, h2, h3.mono k⟩
  | ns as => obtain ⟨o, mc, h1, h2, h3⟩ := h; exact ⟨o, mc, hn _ h1, h2, h3.mono k⟩
  | tab es => obtain ⟨ps, h1, h2⟩ := h; exact ⟨ps, hn _ h1, h2.mono k⟩
  | cell v => cases v with
    | none => obtain ⟨o, h1, h2⟩ := h; exact ⟨o, hn _ h1, h2⟩
    | some v => obtain ⟨o, v, h1, h2, h3⟩ := h; exact ⟨o, v, hn _ h1, h2, h3.mono k⟩

/-! ## frames, the state -/
structure Fm where
  A₀ : Around
  A : Around
  base : Heap
  h₀ : Heap
  outer : List Env
  L : Addr
  a : Addr
  cn : Str
  cs : Scope
  ccd : Value
  cl : List (Str × Addr)
  pin : Fz
  comp : Option (Scope × List (Str × Addr) × Addr)
@[reducible] def Fm.withPin (f : Fm) (p : Fz) : Fm := { f with pin := p }
/-- the function's own surroundings -/
@[reducible] def Fm.fenv (f : Fm) : Env := envX f.cn f.cs f.L f.a f.ccd f.cl
/-- those of a row built in it -/
@[reducible] def Fm.envOn (f : Fm) : Option (Scope × List (Str × Addr) × Addr) → Env
  | none => f.fenv
  | some (sc, cl, c) => compEnvC sc cl c f.fenv
@[reducible] def Fm.env (f : Fm) : Env := f.envOn f.comp
@[reducible] def Fm.withComp (f : Fm) (k : Option (Scope × List (Str × Addr) × Addr)) (p : Fz) : Fm := { f with comp := k, pin := p }

structure Fm.Ok (C : Cx) (n : Nat) (f : Fm) : Prop where
  below : Below f.A₀ f.base f.outer f.h₀
  kin : C.K.In f.h₀
  top : Top C.vp C.loose C.mean C.mg C.mb f.h₀
  hk : ∀ b o, C.H.get? b = some o → f.h₀.get? b = some o
  stack : f.A.frames = some (f.fenv :: f.outer)
  handled : f.A.handled = none
  guards : f.A.guards = some []
  depth : f.A.depth + 3 * n < recursionLimit
  units : f.A.units + 10 * n + 100 < cLine
  kind : f.cs.kind = .function
  ckind : f.env.scope.kind = .function

abbrev AEnv := List (Str × AVal)
def AEnv.get (m : AEnv) (x : Str) : Option AVal := getA x m
def AEnv.set (m : AEnv) (x : Str) (v : AVal) : AEnv := setA x v m
theorem getA_setA {x y : Str} {v : AVal} : ∀ {m : List (Str × AVal)}, getA y (setA x v m) = if y = x then some v else getA y m
  | [] => by
    unfold setA getA
    by_cases h : y = x
    · simp [h]
    · have : ¬ (x = y) := fun e => h e.symm
      simp [h, this, getA]
  | (z, a) :: r => by
    unfold setA
    by_cases hz : (z == x) = true
    · rw [if_pos hz]
      have hz' : z = x := by simpa using hz
      subst hz'
      unfold getA
      by_cases h : y = z
      · simp [h]
      · have : ¬ (z = y) := fun e => h e.symm
        simp [h, this]
    · rw [if_neg hz]
      unfold getA
      by_cases h : (z == y) = true
      · rw [if_pos h, if_pos h]
        have hz' : z = y := by simpa using h
        subst hz'
        have : ¬ z = x := by simpa using hz
        rw [if_neg this]
      · rw [if_neg h, if_neg h]; exact getA_setA
def SR (C : Cx) (f : Fm) (fz : Fz) (m : AEnv) (σ : AHeap) (s : Shared) : Prop :=
  ∃ mc news δ, Fr f.h₀ f.L s.heap mc ∧ News f.h₀ f.L s.heap news ∧ HR C fz f.pin σ δ news ∧ ER (At C fz) m mc
def Same (s s' : Shared) : Prop := ∃ h tk, s' = { s with heap := h, toks := tk }
theorem Same.rfl {s : Shared} : Same s s := ⟨s.heap, s.toks, by cases s; exact Eq.refl _⟩
theorem Same.mk {s : Shared} {h : Heap} {tk : Nat} : Same s { s with heap := h, toks := tk } := ⟨h, tk, Eq.refl _⟩
theorem Same.trans {s s₁ s₂ : Shared} (a : Same s s₁) (b : Same s₁ s₂) : Same s s₂ := by
  obtain ⟨h, t, e⟩ := a; obtain ⟨h', t', e'⟩ := b; subst e; subst e'; exact ⟨h', t', Eq.refl _⟩

section
variable {C : Cx} {f : Fm} {fz : Fz} {m : AEnv} {σ : AHeap} {s : Shared}
theorem SR.at_ {n : Nat} (ok : f.Ok C n) (x : SR C f fz m σ s) {a : Addr} {o : Obj} (h : At C fz a o) : s.heap.get? a = some o := by
  obtain ⟨mc, news, δ, F, N, R, _⟩ := x
  rcases h with h | h
  · exact (N _ (R.sub _ (List.mem_append_left _ h))).1
  · exact F.keep _ _ (ok.hk _ _ h)
theorem SR.weaken (x : SR C f fz m σ s) {m' : AEnv} {σ' : AHeap} (hm : ∀ y a, m'.get y = some a → m.get y = some a) (hσ : σ'.le σ) : SR C f fz m' σ' s := by
  obtain ⟨mc, news, δ, F, N, R, e⟩ := x
  refine ⟨mc, news, δ, F, N, ⟨R.sub, R.apart, fun a o h => R.ob a o (hσ _ _ h), fun a o h => R.off a o (hσ _ _ h), fun a c as h => R.doff a c as (hσ _ _ h), fun a c as h => ?_, R.free, fun a c as b c' bs h1 h2 => R.dinj a c as b c' bs (hσ _ _ h1) (hσ _ _ h2)⟩, fun y a h => e y a (hm _ _ h)⟩
  cases q : σ' (δ a) with
  | none => rfl
  | some o => have := hσ _ _ q; rw [R.dσ a c as (hσ _ _ h)] at this; cases this
theorem news_lt {h₀ h : Heap} {L : Addr} {news : List (Addr × Obj)} (N : News h₀ L h news) {p : Addr × Obj} (hp : p ∈ news) : p.1 < h.objs.size := Heap.lt_size (N p hp).1

/-- a heap that only grew -/
theorem SR.grow (x : SR C f fz m σ s) {h' : Heap} {t : Nat} (k : ∀ b o, s.heap.get? b = some o → h'.get? b = some o) : SR C f fz m σ { s with heap := h', toks := t } := by
  obtain ⟨mc, news, δ, F, N, R, e⟩ := x
  exact ⟨mc, news, δ, F.grownK k, fun p hp => ⟨k _ _ (N p hp).1, (N p hp).2⟩, R, e⟩

/-- new objects, frozen from the start -/
theorem SR.freeze (x : SR C f fz m σ s) {h' : Heap} {t : Nat} (k : ∀ b o, s.heap.get? b = some o → h'.get? b = some o) (new : List (Addr × Obj)) (hn : ∀ p ∈ new, s.heap.get? p.1 = none ∧ s.heap.objs.size ≤ p.1 ∧ h'.get? p.1 = some p.2) :
    SR C f (new ++ fz) m σ { s with heap := h', toks := t } := by
  obtain ⟨mc, news, δ, F, N, R, e⟩ := x
  have key : ∀ a ao, σ a = some ao → a < s.heap.objs.size := fun a ao h => by obtain ⟨o, h⟩ := (R.ob a ao h).key; exact news_lt N h
  have dkey : ∀ a c as, σ a = some (.inst c as) → δ a < s.heap.objs.size := fun a c as h => by obtain ⟨_, es, n, h, _⟩ := R.ob a _ h; exact news_lt N h
  have up : ∀ p ∈ fz, p ∈ new ++ fz := fun p hp => List.mem_append_right _ hp
  have split : ∀ p ∈ (new ++ fz) ++ f.pin, p ∈ new ∨ p ∈ fz ++ f.pin := fun p hp => by
    rw [List.append_assoc] at hp; exact List.mem_append.mp hp
  refine ⟨mc, new ++ news, δ, F.grownK k, fun p hp => ?_, ⟨fun p hp => ?_, fun p hp q hq => ?_, fun a ao h => ?_, fun a ao h p hp => ?_, fun a c as h p hp => ?_, R.dσ, fun p hp => let ⟨o, v, a, b, c⟩ := R.free p hp; ⟨o, v, a.mono up, b, c.up up⟩, R.dinj⟩, fun y a h => ?_⟩
  · rcases List.mem_append.mp hp with hp | hp
    · obtain ⟨h1, h2, h3⟩ := hn p hp
      refine ⟨h3, fun q => ?_, ?_⟩
      · obtain ⟨oL, _, _, hL, _⟩ := F.ns; rw [q, hL] at h1; cases h1
      · cases q : f.h₀.get? p.1 with
        | none => rfl
        | some o => rw [F.keep _ _ q] at h1; cases h1
    · exact ⟨k _ _ (N p hp).1, (N p hp).2⟩
  · rcases split p hp with hp | hp
    · exact List.mem_append_left _ hp
    · exact List.mem_append_right _ (R.sub _ hp)
  · rcases List.mem_append.mp hp with hp | hp
    · exact fun e => absurd (news_lt N (R.sub _ (List.mem_append_right _ hq))) (Nat.not_lt.mpr (e ▸ (hn p hp).2.1))
    · exact R.apart p hp q hq
  · exact (R.ob a ao h).mono (fun _ _ => At.mono up) (fun _ q => List.mem_append_right _ q) fun _ _ _ _ q => List.mem_append_right _ q
  · rcases split p hp with hp | hp
    · exact fun q => absurd (key a ao h) (Nat.not_lt.mpr (q ▸ (hn p hp).2.1))
    · exact R.off a ao h p hp
  · rcases split p hp with hp | hp
    · exact fun q => absurd (dkey a c as h) (Nat.not_lt.mpr (q ▸ (hn p hp).2.1))
    · exact R.doff a c as h p hp
  · obtain ⟨v, h1, h2⟩ := e y a h; exact ⟨v, h1, h2.up up⟩
end
end Mine

open PySem PySem.W PyProof.Rows PySem.Calls
namespace Mine
def upd (news : List (Addr × Obj)) (D : Addr) (o : Obj) : List (Addr × Obj) := (D, o) :: news.filter (fun p => decide (p.1 ≠ D))
theorem mem_upd {news : List (Addr × Obj)} {D : Addr} {o : Obj} {p : Addr × Obj} (h : p ∈ news) (hn : p.1 ≠ D) : p ∈ upd news D o :=
  List.mem_cons_of_mem _ (List.mem_filter.mpr ⟨h, by simpa using hn⟩)
theorem news_upd' {h₀ h h' : Heap} {L D : Addr} {news : List (Addr × Obj)} {o o' : Obj} (N : News h₀ L h news) (hD : (D, o) ∈ news) (hs : Heap.SameBut D h h') (ho : h'.get? D = some o') : News h₀ L h' (upd news D o') := by
  intro p hp
  rcases List.mem_cons.mp hp with rfl | hp
  · exact ⟨ho, (N _ hD).2⟩
  · obtain ⟨h1, h2⟩ := List.mem_filter.mp hp
    have h2 : p.1 ≠ D := by simpa using h2
    exact ⟨(hs.2 _ h2).trans (N p h1).1, (N p h1).2⟩

section
variable {C : Cx} {f : Fm} {fz : Fz} {m : AEnv} {σ : AHeap} {s : Shared}

theorem SR.list (x : SR C f fz m σ s) {a : Addr} {xs : List AVal} (h : σ a = some (.list xs)) : ∃ vs n, s.heap.get? a = some (listOf vs.toArray n) ∧ Vs (At C fz) vs xs := by
  obtain ⟨mc, news, δ, F, N, R, e⟩ := x
  obtain ⟨vs, n, h1, h2⟩ := R.ob a _ h
  exact ⟨vs, n, (N _ h1).1, h2⟩
theorem SR.lt (x : SR C f fz m σ s) {a : Addr} {o : AObj} (h : σ a = some o) : a < s.heap.objs.size := by
  obtain ⟨mc, news, δ, F, N, R, e⟩ := x
  obtain ⟨o, h⟩ := (R.ob a _ h).key; exact news_lt N h
theorem SR.fresh (x : SR C f fz m σ s) {a : Addr} (h : s.heap.objs.size ≤ a) : σ a = none := by
  cases q : σ a with
  | none => rfl
  | some o => exact absurd (x.lt q) (Nat.not_lt.mpr h)

/-- a list's, a cell's object is changed -/
theorem SR.change (x : SR C f fz m σ s) {a : Addr} {ao ao' : AObj} {h' : Heap} {t : Nat} {o' : Obj} (h : σ a = some ao) (hn : ∀ c as, ao ≠ .inst c as) (hn' : ∀ c as, ao' ≠ .inst c as) (hs : Heap.SameBut a s.heap h') (ho : h'.get? a = some o')
    (hr : ∀ news d, (a, o') ∈ news → OR (At C fz) news d a ao') : SR C f fz m (σ.set a ao') { s with heap := h', toks := t } := by
  obtain ⟨mc, news, δ, F, N, R, e⟩ := x
  obtain ⟨o, hm⟩ := (R.ob a _ h).key
  have dn : ∀ b c as, σ b = some (.inst c as) → δ b ≠ a := fun b c as hb q => by have := R.dσ b c as hb; rw [q, h] at this; cases this
  have keep : ∀ {b c as}, σ.set a ao' b = some (.inst c as) → b ≠ a ∧ σ b = some (.inst c as) := fun {b c as} hb => by
    by_cases q : b = a
    · subst q; rw [AHeap.set_same] at hb; exact absurd (Option.some.inj hb) (hn' c as)
    · rw [AHeap.set_ne _ _ q] at hb; exact ⟨q, hb⟩
  refine ⟨mc, upd news a o', δ, F.change hs (N _ hm).2.1 (N _ hm).2.2, news_upd' N hm hs ho, ⟨fun p hp => mem_upd (R.sub p hp) (R.off a _ h p hp), R.apart, fun b bo hb => ?_, fun b bo hb p hp => ?_, fun b c as hb p hp => R.doff b c as (keep hb).2 p hp, fun b c as hb => ?_, R.free, fun b c as b' c' bs h1 h2 => R.dinj b c as b' c' bs (keep h1).2 (keep h2).2⟩, e⟩
  · by_cases q : b = a
    · subst q; rw [AHeap.set_same] at hb; cases hb; exact hr _ _ (List.mem_cons_self ..)
    · rw [AHeap.set_ne _ _ q] at hb
      exact (R.ob b bo hb).mono (fun _ _ x => x) (fun _ hm => mem_upd hm q) fun c as eb _ hm => mem_upd hm (dn b c as (eb ▸ hb))
  · by_cases q : b = a
    · subst q; exact R.off b _ h p hp
    · rw [AHeap.set_ne _ _ q] at hb; exact R.off b bo hb p hp
  · rw [AHeap.set_ne _ _ (dn b c as (keep hb).2)]; exact R.dσ b c as (keep hb).2
theorem SR.setList (x : SR C f fz m σ s) {a : Addr} {xs xs' : List AVal} {h' : Heap} {t n : Nat} {vs' : List Value} (h : σ a = some (.list xs)) (hs : Heap.SameBut a s.heap h') (ho : h'.get? a = some (listOf vs'.toArray n)) (hv : Vs (At C fz) vs' xs') :
    SR C f fz m (σ.set a (.list xs')) { s with heap := h', toks := t } := x.change h (fun _ _ => nofun) (fun _ _ => nofun) hs ho fun _ _ hm => ⟨_, _, hm, hv⟩
/-- new mutable things -/
theorem SR.newThing (x : SR C f fz m σ s) {a : Addr} {ao : AObj} {h' : Heap} {t : Nat} {o : Obj} (hn : ∀ c as, ao ≠ .inst c as) (k : ∀ b o, s.heap.get? b = some o → h'.get? b = some o) (ha : s.heap.objs.size ≤ a) (ho : h'.get? a = some o)
    (hr : ∀ news d, (a, o) ∈ news → OR (At C fz) news d a ao) : SR C f fz m (σ.set a ao) { s with heap := h', toks := t } := by
  have hσ := x.fresh ha
  obtain ⟨mc, news, δ, F, N, R, e⟩ := x
  have hnone : s.heap.get? a = none := by
    cases q : s.heap.get? a with
    | none => rfl
    | some o => exact absurd (Heap.lt_size q) (Nat.not_lt.mpr ha)
  have nn : ∀ p ∈ news, p.1 ≠ a := fun p hp q => absurd (news_lt N hp) (Nat.not_lt.mpr (q ▸ ha))
  have keep : ∀ {b c as}, σ.set a ao b = some (.inst c as) → b ≠ a ∧ σ b = some (.inst c as) := fun {b c as} hb => by
    by_cases q : b = a
    · subst q; rw [AHeap.set_same] at hb; exact absurd (Option.some.inj hb) (hn c as)
    · rw [AHeap.set_ne _ _ q] at hb; exact ⟨q, hb⟩
  have dn : ∀ b c as, σ b = some (.inst c as) → δ b ≠ a := fun b c as hb => by obtain ⟨_, es, n, h, _⟩ := R.ob b _ hb; exact nn _ h
  refine ⟨mc, (a, o) :: news, δ, F.grownK k, fun p hp => ?_, ⟨fun p hp => .tail _ (R.sub p hp), R.apart, fun b bo hb => ?_, fun b bo hb p hp => ?_, fun b c as hb p hp => R.doff b c as (keep hb).2 p hp, fun b c as hb => ?_, R.free, fun b c as b' c' bs h1 h2 => R.dinj b c as b' c' bs (keep h1).2 (keep h2).2⟩, e⟩
  · rcases List.mem_cons.mp hp with rfl | hp
    · refine ⟨ho, fun q => ?_, ?_⟩
      · obtain ⟨oL, _, _, hL, _⟩ := F.ns; dsimp only at q; rw [q, hL] at hnone; cases hnone
      · cases q : f.h₀.get? a with
        | none => rfl
        | some o => rw [F.keep _ _ q] at hnone; cases hnone
    · exact ⟨k _ _ (N p hp).1, (N p hp).2⟩
  · by_cases q : b = a
    · subst q; rw [AHeap.set_same] at hb; cases hb; exact hr _ _ (List.mem_cons_self ..)
    · rw [AHeap.set_ne _ _ q] at hb
      exact (R.ob b bo hb).mono (fun _ _ x => x) (fun _ hm => .tail _ hm) fun c as eb _ hm => .tail _ hm
  · by_cases q : b = a
    · subst q; exact nn _ (R.sub p hp)
    · rw [AHeap.set_ne _ _ q] at hb; exact R.off b bo hb p hp
  · rw [AHeap.set_ne _ _ (dn b c as (keep hb).2)]; exact R.dσ b c as (keep hb).2
theorem SR.newList (x : SR C f fz m σ s) {a : Addr} {xs : List AVal} {h' : Heap} {t n : Nat} {vs : List Value} (k : ∀ b o, s.heap.get? b = some o → h'.get? b = some o) (ha : s.heap.objs.size ≤ a) (ho : h'.get? a = some (listOf vs.toArray n)) (hv : Vs (At C fz) vs xs) :
    SR C f fz m (σ.set a (.list xs)) { s with heap := h', toks := t } := x.newThing (fun _ _ => nofun) k ha ho fun _ _ hm => ⟨_, _, hm, hv⟩
/-- a name of the frame is stored -/
theorem SR.store (x : SR C f fz m σ s) {y : Str} {v : Value} {a : AVal} (hv : V (At C fz) v a) :
    ∃ mc news, Fr f.h₀ f.L s.heap mc ∧ News f.h₀ f.L s.heap news ∧ ∀ h' t, Fr f.h₀ f.L h' (fun z => if z = y then some v else mc z) → News f.h₀ f.L h' news → SR C f fz (m.set y a) σ { s with heap := h', toks := t } := by
  obtain ⟨mc, news, δ, F, N, R, e⟩ := x
  refine ⟨mc, news, F, N, fun h' t F' N' => ⟨_, news, δ, F', N', R, fun z b hz => ?_⟩⟩
  unfold AEnv.get AEnv.set at hz
  rw [getA_setA] at hz
  by_cases q : z = y
  · rw [if_pos q] at hz; cases hz; exact ⟨v, if_pos q, hv⟩
  · rw [if_neg q] at hz; obtain ⟨u, h1, h2⟩ := e z b hz; exact ⟨u, (if_neg q).trans h1, h2⟩
end
end Mine

open PySem PySem.W PyProof.Rows PySem.Calls
namespace Mine
abbrev Md (C : Cx) : Model := model C.prog C.w

def PV (C : Cx) (f : Fm) (m : AEnv) (fz : Fz) (s : Shared) (Q : AVal → AHeap → Prop) (v : Value) (s' : Shared) : Prop :=
  ∃ fz' σ' a, (∀ p ∈ fz, p ∈ fz') ∧ Same s s' ∧ SR C f fz' m σ' s' ∧ V (At C fz') v a ∧ Q a σ'
def PL (C : Cx) (f : Fm) (m : AEnv) (fz : Fz) (s : Shared) (Q : List AVal → AHeap → Prop) (v : List Value) (s' : Shared) : Prop :=
  ∃ fz' σ' a, (∀ p ∈ fz, p ∈ fz') ∧ Same s s' ∧ SR C f fz' m σ' s' ∧ Vs (At C fz') v a ∧ Q a σ'
def PB (C : Cx) (f : Fm) (m : AEnv) (fz : Fz) (s : Shared) (Q : Bool → AHeap → Prop) (b : Bool) (s' : Shared) : Prop :=
  ∃ fz' σ', (∀ p ∈ fz, p ∈ fz') ∧ Same s s' ∧ SR C f fz' m σ' s' ∧ Q b σ'
inductive AFlow where
  | next | brk | cont
  | ret (a : AVal)
def FV (P : Addr → Obj → Prop) : Flow → AFlow → Prop
  | .next, .next => True
  | .brk, .brk => True
  | .cont, .cont => True
  | .ret v, .ret a => V P v a
  | _, _ => False
def PS (C : Cx) (f : Fm) (fz : Fz) (s : Shared) (Q : AFlow → AEnv → AHeap → Prop) (fl : Flow) (s' : Shared) : Prop :=
  ∃ fz' σ' m' a, (∀ p ∈ fz, p ∈ fz') ∧ Same s s' ∧ SR C f fz' m' σ' s' ∧ FV (At C fz') fl a ∧ Q a m' σ'

theorem PV.el {C : Cx} {f : Fm} {m : AEnv} {fz : Fz} {s : Shared} {Q : AVal → AHeap → Prop} {v : Value} {s' : Shared} {P : Prop} (h : PV C f m fz s Q v s') (k : ∀ fz' σ' a, (∀ p ∈ fz, p ∈ fz') → Same s s' → SR C f fz' m σ' s' → V (At C fz') v a → Q a σ' → P) : P := by
  obtain ⟨fz', σ', a, h1, h2, h3, h4, h5⟩ := h; exact k fz' σ' a h1 h2 h3 h4 h5
theorem PL.el {C : Cx} {f : Fm} {m : AEnv} {fz : Fz} {s : Shared} {Q : List AVal → AHeap → Prop} {v : List Value} {s' : Shared} {P : Prop} (h : PL C f m fz s Q v s') (k : ∀ fz' σ' a, (∀ p ∈ fz, p ∈ fz') → Same s s' → SR C f fz' m σ' s' → Vs (At C fz') v a → Q a σ' → P) : P := by
  obtain ⟨fz', σ', a, h1, h2, h3, h4, h5⟩ := h; exact k fz' σ' a h1 h2 h3 h4 h5
theorem PB.el {C : Cx} {f : Fm} {m : AEnv} {fz : Fz} {s : Shared} {Q : Bool → AHeap → Prop} {b : Bool} {s' : Shared} {P : Prop} (h : PB C f m fz s Q b s') (k : ∀ fz' σ', (∀ p ∈ fz, p ∈ fz') → Same s s' → SR C f fz' m σ' s' → Q b σ' → P) : P := by
  obtain ⟨fz', σ', h1, h2, h3, h5⟩ := h; exact k fz' σ' h1 h2 h3 h5
theorem PS.el {C : Cx} {f : Fm} {fz : Fz} {s : Shared} {Q : AFlow → AEnv → AHeap → Prop} {fl : Flow} {s' : Shared} {P : Prop} (h : PS C f fz s Q fl s') (k : ∀ fz' σ' m' a, (∀ p ∈ fz, p ∈ fz') → Same s s' → SR C f fz' m' σ' s' → FV (At C fz') fl a → Q a m' σ' → P) : P := by
  obtain ⟨fz', σ', m', a, h1, h2, h3, h4, h5⟩ := h; exact k fz' σ' m' a h1 h2 h3 h4 h5
theorem PU.el {C : Cx} {f : Fm} {fz : Fz} {s : Shared} {Q : AEnv → AHeap → Prop} {s' : Shared} {P : Prop} (h : ∃ fz' σ' m', (∀ p ∈ fz, p ∈ fz') ∧ Same s s' ∧ SR C f fz' m' σ' s' ∧ Q m' σ') (k : ∀ fz' σ' m', (∀ p ∈ fz, p ∈ fz') → Same s s' → SR C f fz' m' σ' s' → Q m' σ' → P) : P := by
  obtain ⟨fz', σ', m', h1, h2, h3, h5⟩ := h; exact k fz' σ' m' h1 h2 h3 h5
theorem PH.el {C : Cx} {f : Fm} {m : AEnv} {fz : Fz} {s : Shared} {Q : AHeap → Prop} {s' : Shared} {P : Prop} (h : ∃ fz' σ', (∀ p ∈ fz, p ∈ fz') ∧ Same s s' ∧ SR C f fz' m σ' s' ∧ Q σ') (k : ∀ fz' σ', (∀ p ∈ fz, p ∈ fz') → Same s s' → SR C f fz' m σ' s' → Q σ' → P) : P := by
  obtain ⟨fz', σ', h1, h2, h3, h5⟩ := h; exact k fz' σ' h1 h2 h3 h5
def WE (C : Cx) (n : Nat) (f : Fm) (e : Expr) (m : AEnv) (σ : AHeap) (Q : AVal → AHeap → Prop) : Prop :=
  f.Ok C n → ∀ fz s E, SR C f fz m σ s → wpAny (Md C) f.A (eval e f.env) (PV C f m fz s Q) E s
def WL (C : Cx) (n : Nat) (f : Fm) (es : List Expr) (pos : Pos) (m : AEnv) (σ : AHeap) (Q : List AVal → AHeap → Prop) : Prop :=
  f.Ok C n → ∀ fz s E, SR C f fz m σ s → wpAny (Md C) f.A (spliced (backTo pos (starEach es f.env))) (PL C f m fz s Q) E s
def WT (C : Cx) (n : Nat) (f : Fm) (e : Expr) (m : AEnv) (σ : AHeap) (Q : Bool → AHeap → Prop) : Prop :=
  f.Ok C n → ∀ fz s E, SR C f fz m σ s → wpAny (Md C) f.A (isTrue e f.env (eval e f.env)) (PB C f m fz s Q) E s
/-- trees over one, two, many values -/
def T1 (C : Cx) (n : Nat) (f : Fm) (t : Value → Sem Value) (a : AVal) (m : AEnv) (σ : AHeap) (Q : AVal → AHeap → Prop) : Prop :=
  f.Ok C n → ∀ fz s E v, SR C f fz m σ s → V (At C fz) v a → wpAny (Md C) f.A (t v) (PV C f m fz s Q) E s
def T2 (C : Cx) (n : Nat) (f : Fm) (t : Value → Value → Sem Value) (a b : AVal) (m : AEnv) (σ : AHeap) (Q : AVal → AHeap → Prop) : Prop :=
  f.Ok C n → ∀ fz s E v w, SR C f fz m σ s → V (At C fz) v a → V (At C fz) w b → wpAny (Md C) f.A (t v w) (PV C f m fz s Q) E s
def TL (C : Cx) (n : Nat) (f : Fm) (t : List Value → Sem Value) (as : List AVal) (m : AEnv) (σ : AHeap) (Q : AVal → AHeap → Prop) : Prop :=
  f.Ok C n → ∀ fz s E vs, SR C f fz m σ s → Vs (At C fz) vs as → wpAny (Md C) f.A (t vs) (PV C f m fz s Q) E s
def TB (C : Cx) (n : Nat) (f : Fm) (t : Value → Sem Bool) (a : AVal) (m : AEnv) (σ : AHeap) (Q : Bool → AHeap → Prop) : Prop :=
  f.Ok C n → ∀ fz s E v, SR C f fz m σ s → V (At C fz) v a → wpAny (Md C) f.A (t v) (PB C f m fz s Q) E s
def W1 (C : Cx) (n : Nat) (f : Fm) (st : Stmt) (m : AEnv) (σ : AHeap) (Q : AFlow → AEnv → AHeap → Prop) : Prop :=
  f.Ok C n → ∀ fz s E, SR C f fz m σ s → wpAny (Md C) f.A (exec st f.env) (PS C f fz s Q) E s
def WS (C : Cx) (n : Nat) (f : Fm) (ss : List Stmt) (m : AEnv) (σ : AHeap) (Q : AFlow → AEnv → AHeap → Prop) : Prop :=
  f.Ok C n → ∀ fz s E, SR C f fz m σ s → wpAny (Md C) f.A (execs ss f.env) (PS C f fz s Q) E s

section
variable {C : Cx} {n : Nat} {f : Fm} {m : AEnv} {σ : AHeap} {s s₁ s' : Shared} {fz fz₁ : Fz}
theorem sub_refl {fz : Fz} : ∀ p ∈ fz, p ∈ fz := fun _ h => h
theorem PV.up {Q : AVal → AHeap → Prop} {v : Value} (h : ∀ p ∈ fz, p ∈ fz₁) (hs : Same s s₁) (x : PV C f m fz₁ s₁ Q v s') : PV C f m fz s Q v s' := by
  obtain ⟨fz', σ', a, h1, h2, h3, h4, h5⟩ := x
  exact ⟨fz', σ', a, fun p hp => h1 p (h p hp), hs.trans h2, h3, h4, h5⟩
theorem PB.up {Q : Bool → AHeap → Prop} {v : Bool} (h : ∀ p ∈ fz, p ∈ fz₁) (hs : Same s s₁) (x : PB C f m fz₁ s₁ Q v s') : PB C f m fz s Q v s' := by
  obtain ⟨fz', σ', h1, h2, h3, h5⟩ := x
  exact ⟨fz', σ', fun p hp => h1 p (h p hp), hs.trans h2, h3, h5⟩
theorem PS.up {Q : AFlow → AEnv → AHeap → Prop} {v : Flow} (h : ∀ p ∈ fz, p ∈ fz₁) (hs : Same s s₁) (x : PS C f fz₁ s₁ Q v s') : PS C f fz s Q v s' := by
  obtain ⟨fz', σ', m', a, h1, h2, h3, h4, h5⟩ := x
  exact ⟨fz', σ', m', a, fun p hp => h1 p (h p hp), hs.trans h2, h3, h4, h5⟩
theorem PV.here {Q : AVal → AHeap → Prop} {v : Value} {a : AVal} (x : SR C f fz m σ s) (hv : V (At C fz) v a) (q : Q a σ) : PV C f m fz s Q v s := ⟨fz, σ, a, sub_refl, .rfl, x, hv, q⟩
theorem PV.tok {Q : AVal → AHeap → Prop} {v : Value} {a : AVal} {t : Nat} (x : SR C f fz m σ s) (hv : V (At C fz) v a) (q : Q a σ) : PV C f m fz s Q v { s with toks := t } := ⟨fz, σ, a, sub_refl, .mk, x, hv, q⟩

/-! ## consequence -/
theorem WS.mono {ss : List Stmt} {Q Q' : AFlow → AEnv → AHeap → Prop} (h : WS C n f ss m σ Q) (k : ∀ a m σ, Q a m σ → Q' a m σ) : WS C n f ss m σ Q' :=
  fun ok fz s E x => wpAny_mono (h ok fz s E x) (fun v s' hq => hq.el fun fz' σ' m' a h1 h2 h3 h4 h5 => ⟨fz', σ', m', a, h1, h2, h3, h4, k _ _ _ h5⟩) fun _ _ x => x
/-! ## expressions -/
theorem we_int {i : Int} {k : Nat} {pos : Pos} {Q : AVal → AHeap → Prop} (h : Q (.int i) σ) : WE C n f (.Constant (.int i) k pos) m σ Q :=
  fun ok fz s E x => wpAny_Constant_int (.tok x (.int _ _) h)
theorem we_str {i : Str} {k : Nat} {pos : Pos} {Q : AVal → AHeap → Prop} (h : Q (.str i) σ) : WE C n f (.Constant (.str i) k pos) m σ Q :=
  fun ok fz s E x => wpAny_Constant_str (.tok x (.str _ _) h)
theorem we_none {k : Nat} {pos : Pos} {Q : AVal → AHeap → Prop} (h : Q .none σ) : WE C n f (.Constant .none k pos) m σ Q :=
  fun ok fz s E x => wpAny_Constant_none (.here x .none h)
theorem we_local {y : Str} {pos : Pos} {a : AVal} {Q : AVal → AHeap → Prop} (hl : f.fenv.kindOf y = some .local) (hv : m.get y = some a) (h : Q a σ) (hd : (y == ("__debug__" : Str)) = false := by decide) (hcm : f.comp = none := by rfl) : WE C n f (.Name y pos) m σ Q := fun ok fz s E x => by
  have x' := x
  obtain ⟨mc, news, δ, F, N, R, e⟩ := x
  obtain ⟨v, h1, h2⟩ := e y a hv
  have he : f.env = f.fenv := by unfold Fm.env; rw [hcm]
  rw [he]
  exact nameX_L F h1 (.here x' h2 h) ok.kind hl hd
/-- a name of a row that is being built -/
theorem we_clocal {y : Str} {pos : Pos} {sc : Scope} {cl : List (Str × Addr)} {c : Addr} {as : List (Str × AVal)} {a : AVal} {Q : AVal → AHeap → Prop} (hcm : f.comp = some (sc, cl, c)) (hl : f.env.kindOf y = some .local) (hc : σ c = some (.ns as)) (hv : getA y as = some a) (h : Q a σ) (hd : (y == ("__debug__" : Str)) = false := by decide) : WE C n f (.Name y pos) m σ Q := fun ok fz s E x => by
  have x' := x
  obtain ⟨mc, news, δ, F, N, R, e⟩ := x
  obtain ⟨o, mc', h1, h2, h3⟩ := R.ob c _ hc
  obtain ⟨v, h4, h5⟩ := h3 y a hv
  have hL : f.env.locals = c := by unfold Fm.env; rw [hcm]; rfl
  exact wpAny_Name (wpAny_loadName_local ok.ckind hl (by rw [hL]; exact h2.ns (N _ h1).1) h4 (.here x' h5 h)) hd
theorem we_global {y : Str} {pos : Pos} {v : Value} {Q : AVal → AHeap → Prop} (hl : f.env.kindOf y = some .globalImplicit) (hv : nsIn C.K mainGlobals y = some (some v)) (h : Q (.raw v) σ) (hd : (y == ("__debug__" : Str)) = false := by decide) : WE C n f (.Name y pos) m σ Q := fun ok fz s E x => by
  have x' := x
  obtain ⟨mc, news, δ, F, N, R, e⟩ := x
  have hg : f.env.globals = mainGlobals := by unfold Fm.env; cases f.comp <;> rfl
  have T := topRead_of ok.top
  exact Name_function_global ok.ckind hl (loadGlobal_global (env := f.env) (by rw [hg]; exact T.g.keeps F.keep) (mg_of ok.kin T.g hv) (.here x' (.raw v) h)) hd
theorem we_builtin {y : Str} {pos : Pos} {v : Value} {Q : AVal → AHeap → Prop} (hl : f.env.kindOf y = some .globalImplicit) (hv : nsIn C.K mainGlobals y = some none) (hb : bootBuiltins y = some v) (h : Q (.raw v) σ) (hn : y ≠ "__name__" := by decide) (hd : (y == ("__debug__" : Str)) = false := by decide) :
    WE C n f (.Name y pos) m σ Q := fun ok fz s E x => by
  have x' := x
  obtain ⟨mc, news, δ, F, N, R, e⟩ := x
  have hg : f.env.globals = mainGlobals := by unfold Fm.env; cases f.comp <;> rfl
  have hbb : f.env.builtins = builtinsNs := by unfold Fm.env; cases f.comp <;> rfl
  have T := topRead_of ok.top
  exact Name_function_global ok.ckind hl (loadGlobal_builtin (env := f.env) (by rw [hg]; exact T.g.keeps F.keep) (mg_none_of ok.kin T.g hv) (by rw [hbb]; exact T.b.keeps F.keep) ((T.builtins y hn).trans hb) (.here x' (.raw v) h)) hd
theorem we_binop {l r : Expr} {op : Operator} {pos : Pos} {Q : AVal → AHeap → Prop} (h : WE C n f l m σ fun a σ₁ => WE C n f r m σ₁ fun b σ₂ => T2 C n f (binaryOp op) a b m σ₂ Q) : WE C n f (.BinOp l op r pos) m σ Q := fun ok fz s E x => by
  refine wpAny_BinOp (wpAny_mono (h ok fz s E x) (fun v s₁ hq => hq.el fun fz₁ σ₁ a u1 e1 x1 va q1 => wpAny_mono (q1 ok fz₁ s₁ E x1) (fun w s₂ hq => hq.el fun fz₂ σ₂ b u2 e2 x2 vb q2 => ?_) fun _ _ x => x) fun _ _ x => x)
  exact wpAny_mono (q2 ok fz₂ s₂ E v w x2 (va.up u2) vb) (fun r s₃ p => .up (fun p hp => u2 p (u1 p hp)) (e1.trans e2) p) fun _ _ x => x
theorem we_compare {l r : Expr} {op : CmpOp} {pos : Pos} {Q : AVal → AHeap → Prop} (h : WE C n f l m σ fun a σ₁ => WE C n f r m σ₁ fun b σ₂ => T2 C n f (compareOp op) a b m σ₂ Q) (hm : behindInMarks op r = false := by rfl) :
    WE C n f (.Compare l [op] [r] pos) m σ Q := fun ok fz s E x => by
  refine wpAny_Compare1 (wpAny_mono (h ok fz s E x) (fun v s₁ hq => hq.el fun fz₁ σ₁ a u1 e1 x1 va q1 => wpAny_mono (q1 ok fz₁ s₁ E x1) (fun w s₂ hq => hq.el fun fz₂ σ₂ b u2 e2 x2 vb q2 => ?_) fun _ _ x => x) fun _ _ x => x) hm
  exact wpAny_mono (q2 ok fz₂ s₂ E v w x2 (va.up u2) vb) (fun r s₃ p => .up (fun p hp => u2 p (u1 p hp)) (e1.trans e2) p) fun _ _ x => x
theorem we_unary {l : Expr} {op : UnaryOp} {pos : Pos} {Q : AVal → AHeap → Prop} (h : WE C n f l m σ fun a σ₁ => T1 C n f (unaryOp op) a m σ₁ Q) : WE C n f (.UnaryOp op l pos) m σ Q := fun ok fz s E x => by
  refine wpAny_UnaryOp (wpAny_mono (h ok fz s E x) (fun v s₁ hq => hq.el fun fz₁ σ₁ a u1 e1 x1 va q1 => ?_) fun _ _ x => x)
  exact wpAny_mono (q1 ok fz₁ s₁ E v x1 va) (fun r s₃ p => .up u1 e1 p) fun _ _ x => x
theorem we_ifexp {t b o : Expr} {pos : Pos} {Q : AVal → AHeap → Prop} (h : WT C n f t m σ fun c σ₁ => (c = true → WE C n f b m σ₁ Q) ∧ (c = false → WE C n f o m σ₁ Q)) : WE C n f (.IfExp t b o pos) m σ Q := fun ok fz s E x => by
  refine wpAny_IfExp (wpAny_mono (h ok fz s E x) (fun c s₁ hq => hq.el fun fz₁ σ₁ u1 e1 x1 q1 => ?_) fun _ _ x => x)
  cases c with
  | true => exact wpAny_mono (q1.1 rfl ok fz₁ s₁ E x1) (fun r s₃ p => .up u1 e1 p) fun _ _ x => x
  | false => exact wpAny_mono (q1.2 rfl ok fz₁ s₁ E x1) (fun r s₃ p => .up u1 e1 p) fun _ _ x => x
/-! ## rows of expressions -/
theorem wl_nil {pos : Pos} {Q : List AVal → AHeap → Prop} (h : Q [] σ) : WL C n f [] pos m σ Q := fun ok fz s E x => wpAny_items_nil ⟨fz, σ, [], sub_refl, .rfl, x, .nil, h⟩
theorem wl_cons {e : Expr} {es : List Expr} {pos : Pos} {Q : List AVal → AHeap → Prop} (h : WE C n f e m σ fun a σ₁ => WL C n f es pos m σ₁ fun as σ₂ => Q (a :: as) σ₂)
    (he : starEach (e :: es) f.env = (false, eval e f.env) :: starEach es f.env := by rfl) : WL C n f (e :: es) pos m σ Q := fun ok fz s E x => by
  refine wpAny_items_cons (wpAny_mono (h ok fz s E x) (fun v s₁ hq => hq.el fun fz₁ σ₁ a u1 e1 x1 va q1 => wpAny_mono (q1 ok fz₁ s₁ E x1) (fun w s₂ hq => hq.el fun fz₂ σ₂ b u2 e2 x2 vb q2 => ?_) fun _ _ x => x) fun _ _ x => x) he
  exact ⟨fz₂, σ₂, a :: b, fun p hp => u2 p (u1 p hp), e1.trans e2, x2, .cons (va.up u2) vb, q2⟩
/-- a list display, frozen; and one that may change -/
theorem we_lst {es : List Expr} {pos : Pos} {Q : AVal → AHeap → Prop} (h : WL C n f es pos m σ fun as σ₁ => as.length ≤ sizeLine ∧ Q (.lst as) σ₁) : WE C n f (.List es pos) m σ Q := fun ok fz s E x => by
  refine wpAny_List (wpAny_mono (h ok fz s E x) (fun vs s₁ hq => hq.el fun fz₁ σ₁ as u1 e1 x1 va ⟨q0, q1⟩ => ⟨by rw [va.length]; exact q0, ?_⟩) fun _ _ x => x)
  have hs : s₁.heap.get? s₁.heap.objs.size = none := by
    cases q : s₁.heap.get? s₁.heap.objs.size with
    | none => rfl
    | some o => exact absurd (Heap.lt_size q) (Nat.lt_irrefl _)
  refine ⟨[(s₁.heap.objs.size, listOf vs.toArray 0)] ++ fz₁, σ₁, .lst as, fun p hp => List.mem_append_right _ (u1 p hp), e1.trans ⟨_, _, rfl⟩, x1.freeze (t := s₁.toks) (fun b o e => Heap.get?_push_of_some _ e) _ ?_, .lst (.inl (List.mem_append_left _ (List.mem_singleton.mpr rfl))) rfl rfl (va.up fun p hp => List.mem_append_right _ hp), q1⟩
  intro p hp
  rw [List.mem_singleton.mp hp]
  exact ⟨hs, Nat.le_refl _, Heap.get?_push_size _ rfl⟩
theorem we_tup {es : List Expr} {k : Nat} {pos : Pos} {Q : AVal → AHeap → Prop} (h : WL C n f es pos m σ fun as σ₁ => as.length ≤ sizeLine ∧ Q (.tup as) σ₁) : WE C n f (.Tuple es k pos) m σ Q := fun ok fz s E x => by
  refine wpAny_Tuple (wpAny_mono (h ok fz s E x) (fun vs s₁ hq => hq.el fun fz₁ σ₁ as u1 e1 x1 va ⟨q0, q1⟩ => ⟨by rw [va.length]; exact q0, ?_⟩) fun _ _ x => x)
  have hs : s₁.heap.get? s₁.heap.objs.size = none := by
    cases q : s₁.heap.get? s₁.heap.objs.size with
    | none => rfl
    | some o => exact absurd (Heap.lt_size q) (Nat.lt_irrefl _)
  refine ⟨[(s₁.heap.objs.size, tupOf vs)] ++ fz₁, σ₁, .tup as, fun p hp => List.mem_append_right _ (u1 p hp), e1.trans ⟨_, _, rfl⟩, x1.freeze (t := s₁.toks) (fun b o e => Heap.get?_push_of_some _ e) _ ?_, .tup (.inl (List.mem_append_left _ (List.mem_singleton.mpr rfl))) rfl rfl (va.up fun p hp => List.mem_append_right _ hp), q1⟩
  intro p hp
  rw [List.mem_singleton.mp hp]
  exact ⟨hs, Nat.le_refl _, Heap.get?_push_size _ rfl⟩
theorem we_listM {es : List Expr} {pos : Pos} {Q : AVal → AHeap → Prop} (h : WL C n f es pos m σ fun as σ₁ => as.length ≤ sizeLine ∧ ∀ a, σ₁ a = none → Q (.obj a) (σ₁.set a (.list as))) : WE C n f (.List es pos) m σ Q := fun ok fz s E x => by
  refine wpAny_List (wpAny_mono (h ok fz s E x) (fun vs s₁ hq => hq.el fun fz₁ σ₁ as u1 e1 x1 va ⟨q0, q1⟩ => ⟨by rw [va.length]; exact q0, ?_⟩) fun _ _ x => x)
  exact ⟨fz₁, _, .obj s₁.heap.objs.size, u1, e1.trans ⟨_, _, rfl⟩, x1.newList (t := s₁.toks) (fun b o e => Heap.get?_push_of_some _ e) (Nat.le_refl _) (Heap.get?_push_size _ rfl) va, .obj _, q1 _ (x1.fresh (Nat.le_refl _))⟩

/-! ## tests -/
theorem wt_compare {l r : Expr} {op : CmpOp} {pos : Pos} {Q : Bool → AHeap → Prop} (h : WE C n f l m σ fun a σ₁ => WE C n f r m σ₁ fun b σ₂ => T2 C n f (compareOp op) a b m σ₂ fun c σ₃ => TB C n f truthy c m σ₃ Q) (hm : behindInMarks op r = false := by rfl) :
    WT C n f (.Compare l [op] [r] pos) m σ Q := fun ok fz s E x => by
  refine wpAny_isTrue_Compare1 (wpAny_mono (h ok fz s E x) (fun v s₁ hq => hq.el fun fz₁ σ₁ a u1 e1 x1 va q1 => wpAny_mono (q1 ok fz₁ s₁ E x1) (fun w s₂ hq => hq.el fun fz₂ σ₂ b u2 e2 x2 vb q2 => ?_) fun _ _ x => x) fun _ _ x => x) hm
  refine wpAny_mono (q2 ok fz₂ s₂ E v w x2 (va.up u2) vb) (fun r s₃ hq => hq.el fun fz₃ σ₃ c u3 e3 x3 vc q3 => ?_) fun _ _ x => x
  exact wpAny_mono (q3 ok fz₃ s₃ E r x3 vc) (fun b s₄ p => .up (fun p hp => u3 p (u2 p (u1 p hp))) ((e1.trans e2).trans e3) p) fun _ _ x => x
/-- a chain of tests in a condition -/
def WA (C : Cx) (n : Nat) (f : Fm) (op : BoolOp) (es : List Expr) (m : AEnv) (σ : AHeap) (Q : Bool → AHeap → Prop) : Prop :=
  f.Ok C n → ∀ fz s E, SR C f fz m σ s → wpAny (Md C) f.A (allTrue op es f.env) (PB C f m fz s Q) E s
theorem tb_bool {b : Bool} {Q : Bool → AHeap → Prop} (h : Q b σ) : TB C n f truthy (.bool b) m σ Q := fun ok fz s E v x hv => by
  cases hv; exact wpAny_truthy_bool ⟨fz, σ, sub_refl, .rfl, x, h⟩

/-! ## statements -/
theorem ws_nil {Q : AFlow → AEnv → AHeap → Prop} (h : Q .next m σ) : WS C n f [] m σ Q := fun ok fz s E x => wpAny_execs_nil ⟨fz, σ, m, .next, sub_refl, .rfl, x, trivial, h⟩
theorem ws_cons {st : Stmt} {ss : List Stmt} {Q : AFlow → AEnv → AHeap → Prop} (h : W1 C n f st m σ fun a m' σ' => match a with | .next => WS C n f ss m' σ' Q | a => Q a m' σ') : WS C n f (st :: ss) m σ Q := fun ok fz s E x => by
  refine wpAny_execs_cons (wpAny_mono (h ok fz s E x) (fun fl s₁ hq => hq.el fun fz₁ σ₁ m₁ a u1 e1 x1 va q1 => ?_) fun _ _ x => x)
  cases fl with
  | next =>
    cases a with
    | next => exact wpAny_mono (q1 ok fz₁ s₁ E x1) (fun r s₃ p => .up u1 e1 p) fun _ _ x => x
    | _ => exact va.elim
  | brk => cases a <;> first | exact ⟨fz₁, σ₁, m₁, _, u1, e1, x1, va, q1⟩ | exact va.elim
  | cont => cases a <;> first | exact ⟨fz₁, σ₁, m₁, _, u1, e1, x1, va, q1⟩ | exact va.elim
  | ret v => cases a <;> first | exact ⟨fz₁, σ₁, m₁, _, u1, e1, x1, va, q1⟩ | exact va.elim
theorem w1_return {e : Expr} {pos : Pos} {Q : AFlow → AEnv → AHeap → Prop} (h : WE C n f e m σ fun a σ₁ => Q (.ret a) m σ₁) : W1 C n f (.Return (some e) pos) m σ Q := fun ok fz s E x =>
  wpAny_Return_some (wpAny_mono (h ok fz s E x) (fun v s₁ hq => hq.el fun fz₁ σ₁ a u1 e1 x1 va q1 => ⟨fz₁, σ₁, m, .ret a, u1, e1, x1, va, q1⟩) fun _ _ x => x)
theorem w1_if {t : Expr} {b o : List Stmt} {pos : Pos} {Q : AFlow → AEnv → AHeap → Prop} (h : WT C n f t m σ fun c σ₁ => (c = true → WS C n f b m σ₁ Q) ∧ (c = false → WS C n f o m σ₁ Q)) : W1 C n f (.If t b o pos) m σ Q := fun ok fz s E x => by
  refine wpAny_If (wpAny_mono (h ok fz s E x) (fun c s₁ hq => hq.el fun fz₁ σ₁ u1 e1 x1 q1 => ?_) fun _ _ x => x)
  cases c with
  | true => exact wpAny_mono (q1.1 rfl ok fz₁ s₁ E x1) (fun r s₃ p => .up u1 e1 p) fun _ _ x => x
  | false => exact wpAny_mono (q1.2 rfl ok fz₁ s₁ E x1) (fun r s₃ p => .up u1 e1 p) fun _ _ x => x
/-- storing a value under a name: as a tree -/
def TS (C : Cx) (n : Nat) (f : Fm) (y : Str) (a : AVal) (m : AEnv) (σ : AHeap) (Q : AEnv → AHeap → Prop) : Prop :=
  f.Ok C n → ∀ fz s E v, SR C f fz m σ s → V (At C fz) v a → wpAny (Md C) f.A (storeName f.env y v) (fun _ s' => ∃ fz' σ' m', (∀ p ∈ fz, p ∈ fz') ∧ Same s s' ∧ SR C f fz' m' σ' s' ∧ Q m' σ') E s
theorem ts_local {y : Str} {a : AVal} {Q : AEnv → AHeap → Prop} (hl : f.fenv.kindOf y = some .local) (h : Q (m.set y a) σ) (hcm : f.comp = none := by rfl) : TS C n f y a m σ Q := fun ok fz s E v x hv => by
  have he : f.env = f.fenv := by unfold Fm.env; rw [hcm]
  rw [he]
  obtain ⟨mc, news, F, N, k⟩ := x.store (y := y) hv
  exact storeX_L F N (fun h' F' N' => ⟨fz, σ, _, sub_refl, .mk, k h' _ F' N', h⟩) ok.kind hl
theorem w1_assign {y : Str} {py : Pos} {e : Expr} {pos : Pos} {Q : AFlow → AEnv → AHeap → Prop} (h : WE C n f e m σ fun a σ₁ => TS C n f y a m σ₁ fun m' σ' => Q .next m' σ')
    (hs : swapsWith e (some (.Name y py)) pos.line f.env = pure false := by rfl) : W1 C n f (.Assign [.Name y py] e pos) m σ Q := fun ok fz s E x => by
  refine wpAny_Assign_Name (wpAny_mono (h ok fz s E x) (fun v s₁ hq => hq.el fun fz₁ σ₁ a u1 e1 x1 va q1 => ?_) fun _ _ x => x) hs
  exact wpAny_mono (q1 ok fz₁ s₁ E v x1 va) (fun _ s₂ hq => PU.el hq fun fz₂ σ₂ m₂ u2 e2 x2 q2 => ⟨fz₂, σ₂, m₂, .next, fun p hp => u2 p (u1 p hp), e1.trans e2, x2, trivial, q2⟩) fun _ _ x => x
end
end Mine

open PySem PySem.W PyProof.Rows PySem.Calls
namespace Mine
def Near (f : Fm) (A : Around) : Prop := A.frames = f.A.frames ∧ A.handled = f.A.handled ∧ A.guards = f.A.guards ∧ A.depth ≤ f.A.depth + 2 ∧ A.units ≤ f.A.units + 4
theorem Near.refl {f : Fm} : Near f f.A := ⟨rfl, rfl, rfl, by omega, by omega⟩
def RV (C : Cx) (f : Fm) (m : AEnv) (fz : Fz) (s : Shared) (Q : AVal → AHeap → Prop) (r : Result) (s' : Shared) : Prop := ∃ v, r = .ok (.ret v) ∧ PV C f m fz s Q v s'
/-- what a call of a def of the text does -/
def Fn (C : Cx) (n : Nat) (fa : Addr) (as : List AVal) (σ : AHeap) (Q : AVal → AHeap → Prop) : Prop :=
  ∀ f m A, f.Ok C n → Near f A → ∀ fz s vs, SR C f fz m σ s → Vs (At C fz) vs as → codeAny (Md C) A (.call (.ref fa) ⟨vs, []⟩) (RV C f m fz s Q) s
def Keep (C : Cx) (h : Heap) (v : Value) : Prop := ∃ k, (k = Keeper.frame ∨ k = Keeper.machine ∨ k = Keeper.boundFrame) ∧ Looks (Md C) h (keeperOf v) k
/-- a call -/
def TC (C : Cx) (n : Nat) (f : Fm) (fv : AVal) (as : List AVal) (m : AEnv) (σ : AHeap) (Q : AVal → AHeap → Prop) : Prop :=
  f.Ok C n → ∀ fz s E v vs, SR C f fz m σ s → V (At C fz) v fv → Vs (At C fz) vs as → Keep C s.heap v ∧ wpAny (Md C) f.A (call v vs) (PV C f m fz s Q) E s
/-- a method looked up -/
def TG (C : Cx) (n : Nat) (f : Fm) (name : Str) (ov : AVal) (m : AEnv) (σ : AHeap) (Q : AVal → List AVal → AHeap → Prop) : Prop :=
  f.Ok C n → ∀ fz s E v pl, SR C f fz m σ s → V (At C fz) v ov → wpAny (Md C) f.A (getMethod v name pl) (fun fx s' => ∃ fz' σ' fa as, (∀ p ∈ fz, p ∈ fz') ∧ Same s s' ∧ SR C f fz' m σ' s' ∧ V (At C fz') fx.1 fa ∧ Vs (At C fz') fx.2 as ∧ Q fa as σ') E s

section
variable {C : Cx} {n : Nat} {f : Fm} {m : AEnv} {σ : AHeap}
theorem cw {pos : Pos} {v : Value} {first : List Value} {args : List Expr} {s : Shared} {E : Value → Shared → Prop} {Q : Value → Shared → Prop}
    (h : wpAny (Md C) f.A (spliced (backTo pos (starEach args f.env))) (fun vs s₁ => Keep C s₁.heap v ∧ wpAny (Md C) f.A (call v (first ++ vs)) Q E s₁) E s)
    (hplain : (backTo pos (starEach args f.env)).any (·.1) = false := by rfl) : wpAny (Md C) f.A (callWith pos v first (backTo pos (starEach args f.env)) (backToKw pos (keywordEach [] f.env))) Q E s := by
  show wpAny (Md C) f.A (callWith pos v first (backTo pos (starEach args f.env)) []) Q E s
  revert h hplain
  generalize backTo pos (starEach args f.env) = l
  intro h hplain
  refine callWith_of (P := fun h => Keep C h v) (by rw [hplain]; rfl) (fun h k => k) ?_
  cases l with
  | nil =>
    unfold evalArgs
    show wpAny _ _ (spliced [] >>= _) _ E s
    exact wpAny_bind (wpAny_mono h (fun vs s₁ h₁ => wpAny_bind (wpAny_pure (wpAny_holding (wpAny_bind (wpAny_pure (wpAny_bind (wpAny_pure (wpAny_pure h₁)))))))) fun _ _ x => x)
  | cons p l => 
    obtain ⟨b, x⟩ := p
    cases b with
    | true => cases hplain
    | false => exact evalArgs_plain h
theorem we_call {g : Str} {gp : Pos} {args : List Expr} {pos : Pos} {Q : AVal → AHeap → Prop} (h : WE C n f (.Name g gp) m σ fun fv σ₁ => WL C n f args pos m σ₁ fun as σ₂ => TC C n f fv as m σ₂ Q)
    (hplain : (backTo pos (starEach args f.env)).any (·.1) = false := by rfl) : WE C n f (.Call (.Name g gp) args [] pos) m σ Q := fun ok fz s E x => by
  refine wpAny_Call_ofName (wpAny_mono (h ok fz s E x) (fun v s₁ hq => hq.el fun fz₁ σ₁ a u1 e1 x1 va q1 => cw (wpAny_mono (q1 ok fz₁ s₁ E x1) (fun vs s₂ hq => hq.el fun fz₂ σ₂ as u2 e2 x2 vs' q2 => ?_) fun _ _ x => x) hplain) fun _ _ x => x)
  obtain ⟨k, c⟩ := q2 ok fz₂ s₂ E v vs x2 (va.up u2) vs'
  exact ⟨k, wpAny_mono c (fun r s₃ p => .up (fun p hp => u2 p (u1 p hp)) (e1.trans e2) p) fun _ _ x => x⟩
theorem we_method {o : Expr} {name : Str} {apos pos : Pos} {args : List Expr} {pl : Sem Bool} {Q : AVal → AHeap → Prop}
    (h : WE C n f o m σ fun ov σ₁ => TG C n f name ov m σ₁ fun fv first σ₂ => WL C n f args pos m σ₂ fun as σ₃ => TC C n f fv (first ++ as) m σ₃ Q)
    (he : eval (.Call (.Attribute o name apos) args [] pos) f.env = (do
      let ov ← eval o f.env
      standAt apos.atName
      let (g, first) ← holding [ov] (getMethod ov name pl)
      callWith pos g first (backTo pos (starEach args f.env)) (backToKw pos (keywordEach [] f.env))) := by rfl)
    (hplain : (backTo pos (starEach args f.env)).any (·.1) = false := by rfl) : WE C n f (.Call (.Attribute o name apos) args [] pos) m σ Q := fun ok fz s E x => by
  refine methodCall_KW (pl := pl) (wpAny_mono (h ok fz s E x) (fun v s₁ hq => hq.el fun fz₁ σ₁ a u1 e1 x1 va q1 => wpAny_mono (q1 ok fz₁ s₁ E v pl x1 va) (fun fx s₂ ⟨fz₂, σ₂, fa, fs, u2, e2, x2, vf, vfs, q2⟩ => cw (wpAny_mono (q2 ok fz₂ s₂ E x2) (fun vs s₃ hq => hq.el fun fz₃ σ₃ as u3 e3 x3 vs' q3 => ?_) fun _ _ x => x) hplain) fun _ _ x => x) fun _ _ x => x) he
  obtain ⟨k, c⟩ := q3 ok fz₃ s₃ E fx.1 (fx.2 ++ vs) x3 (vf.up u3) ((vfs.up u3).append vs')
  exact ⟨k, wpAny_mono c (fun r s₄ p => .up (fun p hp => u3 p (u2 p (u1 p hp))) ((e1.trans e2).trans e3) p) fun _ _ x => x⟩

/-! ## methods of own instances -/
theorem tg_fin {c g : Addr} {name : Str} {Q : AVal → List AVal → AHeap → Prop} (hg : plainGet C.K c name = true)
    (hf : findIn C.K (.ref c) name = some (some (.ref g))) (ht : isFn C.K (.ref g) = true) (h : Q (.raw (.ref g)) [.fin c] σ) : TG C n f name (.fin c) m σ Q := fun ok fz s E v pl x hv => by
  have hv' := hv
  cases hv with
  | fin p1 p2 =>
    have h1 := x.at_ ok p1
    have h2 := x.at_ ok p2
    have x' := x
    obtain ⟨mc, news, δ, F, N, R, e⟩ := x
    exact method_inst F ok.kin (⟨h1, rfl, rfl, h2⟩ : InstAt s.heap _ (instObj c _) c (some (dictOf [] 0))) hg hf ht rfl ⟨fz, σ, _, _, sub_refl, .rfl, x', .raw _, .cons hv' .nil, h⟩
theorem keep_K {g : Value} (ok : f.Ok C n) {fz : Fz} {s : Shared} (x : SR C f fz m σ s) (hk : keepIn C.K g = true) : Keep C s.heap g := by
  obtain ⟨mc, news, δ, F, N, R, e⟩ := x
  exact keeps_K hk _ (ok.kin.keeps F.keep)
theorem tc_fn {g : Addr} {as : List AVal} {Q : AVal → AHeap → Prop} (hk : keepIn C.K (.ref g) = true) (h : Fn C n g as σ Q) : TC C n f (.raw (.ref g)) as m σ Q := fun ok fz s E v vs x hv hvs => by
  cases hv
  refine ⟨keep_K ok x hk, wpAny_call (codeAny_mono (h f m f.A ok .refl fz s vs x hvs) fun r s' ⟨v, e, p⟩ => ?_)⟩
  subst e; exact p

/-! ## a def of the text, without cells -/
def retOf : AFlow → AVal
  | .ret a => a
  | _ => .none
theorem lookup_nd {β : Type} : ∀ {l : List (Str × β)}, (l.map (·.1)).Nodup → ∀ {y : Str} {v : β}, (y, v) ∈ l → l.lookup y = some v
  | [], _, _, _, h => nomatch h
  | (z, u) :: l, nd, y, v, h => by
    rw [List.map_cons, List.nodup_cons] at nd
    rcases List.mem_cons.mp h with e | h
    · cases e; simp
    · have : y ≠ z := fun e => nd.1 (List.mem_map.mpr ⟨_, h, e⟩)
      rw [List.lookup_cons]
      have hb : (y == z) = false := by simpa using this
      rw [hb]
      exact lookup_nd nd.2 h
theorem lookup_zip {P : Addr → Obj → Prop} : ∀ {ns : List Str} {vs : List Value} {as : List AVal}, Vs P vs as → ns.Nodup → ∀ {y : Str} {a : AVal}, getA y (ns.zip as) = some a → ∃ v, (ns.zip vs).reverse.lookup y = some v ∧ V P v a := by
  intro ns vs as h
  have key : ∀ {ns : List Str} {vs : List Value} {as : List AVal}, Vs P vs as → ns.Nodup → ∀ {y : Str} {a : AVal}, getA y (ns.zip as) = some a → ∃ v, (y, v) ∈ ns.zip vs ∧ V P v a := by
    intro ns
    induction ns with
    | nil => intro vs as _ _ y a e; cases as <;> cases e
    | cons z ns ih =>
      intro vs as h hd y a e
      cases h with
      | nil => cases e
      | cons hv h =>
        rw [List.zip_cons_cons] at e
        unfold getA at e
        by_cases q : (z == y) = true
        · rw [if_pos q] at e; cases e
          have : z = y := by simpa using q
          subst this
          exact ⟨_, List.mem_cons_self .., hv⟩
        · rw [if_neg q] at e
          obtain ⟨v, h1, h2⟩ := ih h (List.nodup_cons.mp hd).2 e
          exact ⟨v, List.mem_cons_of_mem _ h1, h2⟩
  intro hd y a e
  obtain ⟨v, h1, h2⟩ := key h hd e
  refine ⟨v, ?_, h2⟩
  have nd : ((ns.zip vs).reverse.map (·.1)).Nodup := by
    rw [List.map_reverse]
    refine List.pairwise_reverse.mpr (List.Pairwise.imp (fun h => Ne.symm h) ?_)
    have : (ns.zip vs).map (·.1) = ns.take vs.length := by
      clear h hd e h1 h2 key
      induction ns generalizing vs with
      | nil => simp
      | cons z ns ih => cases vs with
        | nil => simp
        | cons v vs => simp [ih]
    rw [this]
    exact List.Nodup.sublist (List.take_sublist ..) hd
  exact lookup_nd nd (List.mem_reverse.mpr h1)

theorem fn_plain {fa : Addr} {name qual : Str} {params : Arguments} {body : List Stmt} {scope : Scope} {dV kV doc pm cdv ct oc : Value} {an od : Option Addr} {osl : Array (Option Value)} {as da : List AVal} {ns : List Str} {dv : List Value} {Q : AVal → AHeap → Prop}
    (ho : C.K.lookup fa = some ⟨oc, od, .func (fnOf name qual params body scope dV kV doc pm an cdv ct), osl⟩) (hcd : codeIn C.K cdv qual = true)
    (hbind : ∀ S vs, vs.length = as.length → peek C.K S (bindArgs (fnOf name qual params body scope dV kV doc pm an cdv ct) ⟨vs, []⟩) = some (ns.zip (vs ++ dv)))
    (hd : ∀ P, Vs P dv da) (hnd : ns.Nodup) (hloc : ∀ y ∈ ns, scope.names.lookup y = some .local)
    (h : ∀ A₀ A base h₀ outer L pin, WS C n ⟨A₀, A, base, h₀, outer, L, fa, qual, scope, cdv, [], pin, none⟩ body (ns.zip (as ++ da)) σ fun fl _ σ' => ∃ σ₂ : AHeap, σ₂.le σ' ∧ Q (retOf fl) σ₂)
    (hco : scope.isCoroutine = false := by rfl) (hgen : scope.isGenerator = false := by rfl) (hk : scope.kind = .function := by rfl) (hcell : ∀ x ∈ scope.names, x.2 ≠ .cell := by decide) :
    Fn C (n + 1) fa as σ Q := fun f m A ok hn fz s vs x hvs => by
  obtain ⟨mc, news, δ, F, N, R, e⟩ := x
  have X := ok.kin.keeps F.keep
  have e2 := ok.depth
  have e3 := ok.units
  obtain ⟨n1, n2, n3, n4, n5⟩ := hn
  have hlen := hvs.length
  refine code_def (env := f.fenv) (binds := ns.zip (vs ++ dv)) ok.below F ok.kin N ok.top (n1.trans ok.stack) rfl ok.kind ho hcd (by omega) (kp_binds X fun S => hbind S vs hlen) (fun y hy => hloc _ (List.of_mem_zip hy).1) (fun g L' h₁ FG F' N' B' KG TG => ?_) hco hgen hk hcell
  let f' : Fm := ⟨A, A.deeper (envOf qual scope L' fa cdv), f.base, g, f.fenv :: f.outer, L', fa, qual, scope, cdv, [], f.pin, none⟩
  have hkH : ∀ b o, C.H.get? b = some o → g.get? b = some o := fun b o hb => FG.keep b o (ok.hk b o hb)
  have ok' : f'.Ok C n := ⟨B', KG, TG, hkH, Around.frames_deeper B'.stack, n2.trans ok.handled, n3.trans ok.guards, by show A.depth + 1 + 3 * n < _; omega, by show A.units + 3 + 10 * n + 100 < _; omega, hk, hk⟩
  have hz := hvs.append (hd (At C fz))
  have x' : SR C f' fz (ns.zip (as ++ da)) σ { s with heap := h₁, toks := s.toks + (ns.zip (vs ++ dv)).length } :=
    ⟨_, news, δ, F', N', R, fun y a hy => lookup_zip hz hnd hy⟩
  refine wpAny_mono (h A _ f.base g (f.fenv :: f.outer) L' f.pin ok' fz _ _ x') (fun fl s' hq => hq.el fun fz' σ' m' a u es x2 va ⟨σ₂, hle, q⟩ => ?_) fun _ _ z => z
  obtain ⟨mc', news', δ', F2, N2, R2, e2⟩ := x2.weaken (fun _ _ h => h) hle
  refine leaveK_ F2 N2 fun FK NK => ⟨_, rfl, fz', σ₂, retOf a, u, ?_, ⟨mc, news', δ', FK, NK, R2, fun y b hy => ?_⟩, ?_, q⟩
  · obtain ⟨hh, tt, ee⟩ := es; exact ⟨hh, tt, ee⟩
  · obtain ⟨v, h1, h2⟩ := e y b hy; exact ⟨v, h1, h2.up u⟩
  · cases fl <;> cases a <;> first | exact va.elim | exact .none | exact va
end
end Mine

open PySem PySem.W PyProof.Rows PySem.Calls
namespace Mine
/-! ## storing -/
def PU (C : Cx) (f : Fm) (fz : Fz) (s : Shared) (Q : AEnv → AHeap → Prop) (s' : Shared) : Prop := ∃ fz' σ' m', (∀ p ∈ fz, p ∈ fz') ∧ Same s s' ∧ SR C f fz' m' σ' s' ∧ Q m' σ'
def TA (C : Cx) (n : Nat) (f : Fm) (t : Expr) (a : AVal) (m : AEnv) (σ : AHeap) (Q : AEnv → AHeap → Prop) : Prop :=
  f.Ok C n → ∀ fz s E v, SR C f fz m σ s → V (At C fz) v a → wpAny (Md C) f.A (assign t f.env v) (fun _ => PU C f fz s Q) E s
def TAs (C : Cx) (n : Nat) (f : Fm) (ts : List Expr) (as : List AVal) (m : AEnv) (σ : AHeap) (Q : AEnv → AHeap → Prop) : Prop :=
  f.Ok C n → ∀ fz s E vs, SR C f fz m σ s → Vs (At C fz) vs as → wpAny (Md C) f.A (assignInOrder ((assignEach ts f.env).map (·.2)) vs) (fun _ => PU C f fz s Q) E s
def TSs (C : Cx) (n : Nat) (f : Fm) (ys : List Str) (as : List AVal) (m : AEnv) (σ : AHeap) (Q : AEnv → AHeap → Prop) : Prop :=
  f.Ok C n → ∀ fz s E vs, SR C f fz m σ s → Vs (At C fz) vs as → wpAny (Md C) f.A (assignInOrder (ys.map fun y => bindName f.env y) vs) (fun _ => PU C f fz s Q) E s
section
variable {C : Cx} {n : Nat} {f : Fm} {m : AEnv} {σ : AHeap}
theorem PU.up {s s₁ s' : Shared} {fz fz₁ : Fz} {Q : AEnv → AHeap → Prop} (h : ∀ p ∈ fz, p ∈ fz₁) (hs : Same s s₁) (x : PU C f fz₁ s₁ Q s') : PU C f fz s Q s' := by
  obtain ⟨fz', σ', m', h1, h2, h3, h4⟩ := x
  exact ⟨fz', σ', m', fun p hp => h1 p (h p hp), hs.trans h2, h3, h4⟩
theorem ta_name {y : Str} {pos : Pos} {a : AVal} {Q : AEnv → AHeap → Prop} (h : TS C n f y a m σ Q) : TA C n f (.Name y pos) a m σ Q := fun ok fz s E v x hv => assign_Name (h ok fz s E v x hv)
theorem tas_nil {Q : AEnv → AHeap → Prop} (h : Q m σ) : TAs C n f [] [] m σ Q := fun ok fz s E vs x hv => by cases hv; exact wpAny_assignInOrder_none ⟨fz, σ, m, sub_refl, .rfl, x, h⟩
theorem tas_cons {t : Expr} {ts : List Expr} {a : AVal} {as : List AVal} {Q : AEnv → AHeap → Prop} (h : TA C n f t a m σ fun m' σ' => TAs C n f ts as m' σ' Q)
    (he : (assignEach (t :: ts) f.env).map (·.2) = assign t f.env :: (assignEach ts f.env).map (·.2) := by rfl) : TAs C n f (t :: ts) (a :: as) m σ Q := fun ok fz s E vs x hv => by
  cases hv with
  | cons hv hvs =>
    rw [he]
    refine wpAny_assignInOrder_more (wpAny_mono (h ok fz s E _ x hv) (fun _ s₁ hq => PU.el hq fun fz₁ σ₁ m₁ u1 e1 x1 q1 => ?_) fun _ _ x => x)
    exact wpAny_mono (q1 ok fz₁ s₁ E _ x1 (hvs.up u1)) (fun _ s₂ p => .up u1 e1 p) fun _ _ x => x
theorem tss_nil {Q : AEnv → AHeap → Prop} (h : Q m σ) : TSs C n f [] [] m σ Q := fun ok fz s E vs x hv => by cases hv; exact wpAny_assignInOrder_none ⟨fz, σ, m, sub_refl, .rfl, x, h⟩
theorem tss_cons {y : Str} {ys : List Str} {a : AVal} {as : List AVal} {Q : AEnv → AHeap → Prop} (h : TS C n f y a m σ fun m' σ' => TSs C n f ys as m' σ' Q) : TSs C n f (y :: ys) (a :: as) m σ Q := fun ok fz s E vs x hv => by
  cases hv with
  | cons hv hvs =>
    refine wpAny_assignInOrder_more (wpAny_bindName (wpAny_mono (h ok fz s E _ x hv) (fun _ s₁ hq => PU.el hq fun fz₁ σ₁ m₁ u1 e1 x1 q1 => ?_) fun _ _ x => x))
    exact wpAny_mono (q1 ok fz₁ s₁ E _ x1 (hvs.up u1)) (fun _ s₂ p => .up u1 e1 p) fun _ _ x => x
theorem ext_keeps {h h' : Heap} (e : Heap.ExtBut h.objs.size h h') : ∀ b o, h.get? b = some o → h'.get? b = some o := fun b o q => e b o (Nat.ne_of_lt (Heap.lt_size q)) q
theorem V.tuple_ {fz : Fz} {s : Shared} (ok : f.Ok C n) (x : SR C f fz m σ s) {v : Value} {xs : List AVal} (h : V (At C fz) v (.tup xs)) : ∃ t vs, v = .ref t ∧ s.heap.IsTuple t vs.toArray ∧ Vs (At C fz) vs xs := by
  cases h with
  | tup h1 h2 h3 h4 => exact ⟨_, _, rfl, ⟨_, x.at_ ok h1, h2, _, h3⟩, h4⟩
theorem V.list_ {fz : Fz} {s : Shared} (ok : f.Ok C n) (x : SR C f fz m σ s) {v : Value} {xs : List AVal} (h : V (At C fz) v (.lst xs)) : ∃ t vs, v = .ref t ∧ s.heap.IsList t vs.toArray ∧ Vs (At C fz) vs xs := by
  cases h with
  | lst h1 h2 h3 h4 => exact ⟨_, _, rfl, ⟨_, x.at_ ok h1, h2, _, h3⟩, h4⟩
theorem ta_tup {ts : List Expr} {k : Nat} {pos : Pos} {as : List AVal} {Q : AEnv → AHeap → Prop} (h : TAs C n f ts as m σ Q) (hn : (assignEach ts f.env).length = as.length := by rfl) (hstar : (assignEach ts f.env).findIdx? (·.1) = none := by rfl) :
    TA C n f (.Tuple ts k pos) (.tup as) m σ Q := fun ok fz s E v x hv => by
  obtain ⟨t, vs, rfl, ht, hvs⟩ := hv.tuple_ ok x
  refine wpAny_assign_Tuple ok.handled ht (by rw [hn, List.size_toArray, hvs.length]) hstar fun h' he => ?_
  exact wpAny_mono (h ok fz { s with heap := h' } E vs (x.grow (t := s.toks) (ext_keeps he)) hvs) (fun _ s₂ p => .up sub_refl ⟨h', s.toks, rfl⟩ p) fun _ _ x => x
theorem ta_lst {ts : List Expr} {k : Nat} {pos : Pos} {as : List AVal} {Q : AEnv → AHeap → Prop} (h : TAs C n f ts as m σ Q) (hn : (assignEach ts f.env).length = as.length := by rfl) (hstar : (assignEach ts f.env).findIdx? (·.1) = none := by rfl) :
    TA C n f (.Tuple ts k pos) (.lst as) m σ Q := fun ok fz s E v x hv => by
  obtain ⟨t, vs, rfl, ht, hvs⟩ := hv.list_ ok x
  rw [assign_Tuple]
  refine wpAny_bind (wpAny_standAt ?_)
  unfold unpack
  have hlen : (assignEach ts f.env).length = vs.toArray.size := by rw [hn, List.size_toArray, hvs.length]
  rw [hlen, hstar]
  refine wpAny_bind (wpAny_holding (kun_itemsOf ok.handled ht fun h' he => ?_))
  exact wpAny_mono (h ok fz { s with heap := h' } E vs (x.grow (t := s.toks) (ext_keeps he)) hvs) (fun _ s₂ p => .up sub_refl ⟨h', s.toks, rfl⟩ p) fun _ _ x => x
theorem w1_assignT {ts : List Expr} {k : Nat} {tp : Pos} {e : Expr} {pos : Pos} {Q : AFlow → AEnv → AHeap → Prop} (h : WE C n f e m σ fun a σ₁ => TA C n f (.Tuple ts k tp) a m σ₁ fun m' σ' => Q .next m' σ')
    (hs : swapsWithSole [.Tuple ts k tp] e pos.line f.env = pure false := by rfl) (hw : swappedStores [.Tuple ts k tp] e f.env = pure none := by rfl) : W1 C n f (.Assign [.Tuple ts k tp] e pos) m σ Q := fun ok fz s E x => by
  refine Assign_Tuple (wpAny_mono (h ok fz s E x) (fun v s₁ hq => hq.el fun fz₁ σ₁ a u1 e1 x1 va q1 => ?_) fun _ _ x => x) hs hw
  exact wpAny_mono (q1 ok fz₁ s₁ E v x1 va) (fun _ s₂ hq => PU.el hq fun fz₂ σ₂ m₂ u2 e2 x2 q2 => ⟨fz₂, σ₂, m₂, .next, fun p hp => u2 p (u1 p hp), e1.trans e2, x2, trivial, q2⟩) fun _ _ x => x
theorem w1_assignS {ts : List Expr} {k : Nat} {tp : Pos} {e : Expr} {pos : Pos} {names : List Str} {Q : AFlow → AEnv → AHeap → Prop} (h : WE C n f e m σ fun a σ₁ => ∃ as, a = .tup as ∧ as.length = names.length ∧ TSs C n f names.reverse as.reverse m σ₁ fun m' σ' => Q .next m' σ')
    (hw : swappedStores [.Tuple ts k tp] e f.env = pure (some names)) (hs : swapsWithSole [.Tuple ts k tp] e pos.line f.env = pure false := by rfl) : W1 C n f (.Assign [.Tuple ts k tp] e pos) m σ Q := fun ok fz s E x => by
  refine Assign_Tuple_swapped (wpAny_mono (h ok fz s E x) (fun v s₁ hq => hq.el fun fz₁ σ₁ a u1 e1 x1 va ⟨as, ea, hl, q1⟩ => ?_) fun _ _ x => x) hs hw
  subst ea
  obtain ⟨t, vs, rfl, ht, hvs⟩ := va.tuple_ ok x1
  have hlen : names.length = vs.toArray.size := by rw [List.size_toArray, hvs.length, hl]
  rw [hlen]
  refine wpAny_unpackItems_tuple ok.handled ht fun h' he => ?_
  exact wpAny_mono (q1 ok fz₁ { s₁ with heap := h' } E vs.reverse (x1.grow (t := s₁.toks) (ext_keeps he)) hvs.reverse) (fun _ s₂ hq => PU.el hq fun fz₂ σ₂ m₂ u2 e2 x2 q2 => ⟨fz₂, σ₂, m₂, .next, fun p hp => u2 p (u1 p hp), (e1.trans ⟨h', s₁.toks, rfl⟩).trans e2, x2, trivial, q2⟩) fun _ _ x => x

/-! ## loops -/
/-- the state, with some addresses kept apart -/
def SX (C : Cx) (f : Fm) (fz : Fz) (m : AEnv) (σ : AHeap) (wr : List Addr) (s : Shared) : Prop :=
  ∃ mc news δ, Fr f.h₀ f.L s.heap mc ∧ News f.h₀ f.L s.heap news ∧ HR C fz f.pin σ δ news ∧ ER (At C fz) m mc ∧ (∀ p ∈ news, p.1 ∉ wr) ∧ f.L ∉ wr ∧ ∀ b ∈ wr, f.h₀.get? b = none
theorem SX.sr {fz : Fz} {wr : List Addr} {s : Shared} (x : SX C f fz m σ wr s) : SR C f fz m σ s := by
  obtain ⟨mc, news, δ, F, N, R, e, _⟩ := x; exact ⟨mc, news, δ, F, N, R, e⟩
theorem SX.step {fz : Fz} {wr : List Addr} {s : Shared} {h' : Heap} {t : Nat} (x : SX C f fz m σ wr s) (k : ∀ b o, b ∉ wr → s.heap.get? b = some o → h'.get? b = some o) : SX C f fz m σ wr { s with heap := h', toks := t } := by
  obtain ⟨mc, news, δ, F, N, R, e, h1, h2, h3⟩ := x
  refine ⟨mc, news, δ, ⟨F.ns.at' fun o q => k _ o h2 q, fun b o q => k b o (fun hb => by rw [h3 b hb] at q; cases q) (F.keep b o q), F.above⟩, fun p hp => ⟨k _ _ (h1 p hp) (N p hp).1, (N p hp).2⟩, R, e, h1, h2, h3⟩
def ownP (wr : List Addr) (h : Heap) : Fz := wr.filterMap fun b => (h.get? b).map fun o => (b, o)
theorem mem_ownP {wr : List Addr} {h : Heap} {p : Addr × Obj} : p ∈ ownP wr h ↔ p.1 ∈ wr ∧ h.get? p.1 = some p.2 := by
  unfold ownP
  rw [List.mem_filterMap]
  constructor
  · rintro ⟨b, hb, e⟩
    obtain ⟨o, ho, rfl⟩ := Option.map_eq_some_iff.mp e
    exact ⟨hb, ho⟩
  · rintro ⟨h1, h2⟩
    exact ⟨p.1, h1, by rw [h2]; rfl⟩
theorem SX.pin {fz : Fz} {wr : List Addr} {s : Shared} (x : SX C f fz m σ wr s) : SR C (f.withPin (ownP wr s.heap ++ f.pin)) fz m σ s := by
  obtain ⟨mc, news, δ, F, N, R, e, h1, h2, h3⟩ := x
  have off : ∀ {p : Addr × Obj}, p ∈ ownP wr s.heap → p.1 ∈ wr := fun hp => (mem_ownP.mp hp).1
  have three : ∀ p ∈ fz ++ (ownP wr s.heap ++ f.pin), p ∈ ownP wr s.heap ∨ p ∈ fz ++ f.pin := fun p hp => by
    rcases List.mem_append.mp hp with hp | hp
    · exact .inr (List.mem_append_left _ hp)
    · rcases List.mem_append.mp hp with hp | hp
      · exact .inl hp
      · exact .inr (List.mem_append_right _ hp)
  refine ⟨mc, ownP wr s.heap ++ news, δ, F, fun p hp => ?_, ⟨fun p hp => ?_, fun p hp q hq => ?_, fun a ao h => (R.ob a ao h).mono (fun _ _ z => z) (fun _ q => List.mem_append_right _ q) fun _ _ _ _ q => List.mem_append_right _ q, fun a ao h p hp => ?_, fun a c as h p hp => ?_, R.dσ, R.free, R.dinj⟩, e⟩
  · rcases List.mem_append.mp hp with hp | hp
    · obtain ⟨a, b⟩ := mem_ownP.mp hp
      exact ⟨b, fun q => h2 (q ▸ a), h3 _ a⟩
    · exact N p hp
  · rcases three p hp with hp | hp
    · exact List.mem_append_left _ hp
    · exact List.mem_append_right _ (R.sub p hp)
  · rcases List.mem_append.mp hq with hq | hq
    · exact fun q' => h1 p (R.sub p (List.mem_append_left _ hp)) (q' ▸ off hq)
    · exact R.apart p hp q hq
  · rcases three p hp with hp | hp
    · obtain ⟨o, ho⟩ := (R.ob a ao h).key
      exact fun q => h1 _ ho (by show a ∈ wr; rw [← q]; exact off hp)
    · exact R.off a ao h p hp
  · rcases three p hp with hp | hp
    · obtain ⟨_, es, k, ho, _⟩ := R.ob a _ h
      exact fun q => h1 _ ho (by show δ a ∈ wr; rw [← q]; exact off hp)
    · exact R.doff a c as h p hp
theorem SX.unpin {fz : Fz} {wr : List Addr} {s : Shared} {own : Fz} (hl : ∀ b ∈ wr, ∃ o, (b, o) ∈ own) (hp : ∀ p ∈ f.pin, p.1 ∉ wr) (h2 : f.L ∉ wr) (h3 : ∀ b ∈ wr, f.h₀.get? b = none) (x : SR C (f.withPin (own ++ f.pin)) fz m σ s) : SX C f fz m σ wr s := by
  obtain ⟨mc, news, δ, F, N, R, e⟩ := x
  have inpin : ∀ {b o}, (b, o) ∈ own → (b, o) ∈ fz ++ (own ++ f.pin) := fun h => List.mem_append_right _ (List.mem_append_left _ h)
  have keepM : ∀ {p : Addr × Obj}, p ∈ news → p.1 ∉ wr → p ∈ news.filter (fun p => decide (p.1 ∉ wr)) := fun h q => List.mem_filter.mpr ⟨h, by simpa using q⟩
  have anw : ∀ a ao, σ a = some ao → a ∉ wr := fun a ao h q => by obtain ⟨o, ho⟩ := hl a q; exact R.off a ao h _ (inpin ho) rfl
  have dnw : ∀ a c as, σ a = some (.inst c as) → δ a ∉ wr := fun a c as h q => by obtain ⟨o, ho⟩ := hl _ q; exact R.doff a c as h _ (inpin ho) rfl
  have up : ∀ p ∈ fz ++ f.pin, p ∈ fz ++ (own ++ f.pin) := fun p hp => (List.mem_append.mp hp).elim (fun h => List.mem_append_left _ h) fun h => List.mem_append_right _ (List.mem_append_right _ h)
  refine ⟨mc, news.filter (fun p => decide (p.1 ∉ wr)), δ, F, fun p hp => N p (List.mem_filter.mp hp).1, ⟨fun p hp' => keepM (R.sub p (up p hp')) ?_, fun p hp q hq => R.apart p hp q (List.mem_append_right _ hq), fun a ao h => (R.ob a ao h).mono (fun _ _ z => z) (fun _ q => keepM q (anw a ao h)) fun c as ea _ q => keepM q (dnw a c as (ea ▸ h)), fun a ao h p hp => R.off a ao h p (up p hp), fun a c as h p hp => R.doff a c as h p (up p hp), R.dσ, R.free, R.dinj⟩, e, fun p hp => by simpa using (List.mem_filter.mp hp).2, h2, h3⟩
  rcases List.mem_append.mp hp' with h | h
  · intro q
    obtain ⟨o, ho⟩ := hl _ q
    exact R.apart p h _ (List.mem_append_left _ ho) rfl
  · exact hp p h
theorem Fm.Ok.pin {n : Nat} {p : Fz} (ok : f.Ok C n) : (f.withPin p).Ok C n := ⟨ok.below, ok.kin, ok.top, ok.hk, ok.stack, ok.handled, ok.guards, ok.depth, ok.units, ok.kind, ok.ckind⟩

/-- what a value yields when it is walked -/
structure Wk (C : Cx) (f : Fm) (fz : Fz) (I : Addr) (wr : List Addr) (xs : List AVal) (St : Nat → Heap → Prop) (Lent : Heap → Prop) (back : AHeap → AHeap) : Prop where
  go : ∀ i (s : Shared) (Q : Option Value → Shared → Prop) (E : Value → Shared → Prop) x, xs[i]? = some x → St i s.heap →
    (∀ v h' tk, V (At C fz) v x → St (i + 1) h' → (∀ b o, b ∉ wr → s.heap.get? b = some o → h'.get? b = some o) → Q (some v) { s with heap := h', toks := tk }) → wpAny (Md C) f.A (pyNext (.ref I)) Q E s
  done : ∀ (s : Shared) (Q : Option Value → Shared → Prop) (E : Value → Shared → Prop), St xs.length s.heap →
    (∀ h' tk, (∀ b o, b ∉ wr → s.heap.get? b = some o → h'.get? b = some o) → Lent h' → Q none { s with heap := h', toks := tk }) → wpAny (Md C) f.A (pyNext (.ref I)) Q E s
  live : ∀ i h, St i h → ∀ b ∈ wr, ∃ o, h.get? b = some o
  frame : ∀ i h h', St i h → (∀ b ∈ wr, ∀ o, h.get? b = some o → h'.get? b = some o) → (∀ b o, At C fz b o ∨ (b, o) ∈ f.pin → h'.get? b = some o) → St i h'
  lent : ∀ i h, St i h → Lent h
  back : ∀ fz' m' σ' s', (∀ p ∈ fz, p ∈ fz') → SX C f fz' m' σ' wr s' → Lent s'.heap → SR C f fz' m' (back σ') s'
  self : ∀ i (s : Shared) (Q : Value → Shared → Prop) (E : Value → Shared → Prop), St i s.heap → Q (.ref I) s → wpAny (Md C) f.A (pyIter (.ref I)) Q E s
  lentF : ∀ (h h' : Heap), Lent h → (∀ b ∈ wr, ∀ o, h.get? b = some o → h'.get? b = some o) → Lent h'
structure WkT (C : Cx) (f : Fm) (fz : Fz) (I : Addr) (wr : List Addr) (xs : List (List AVal)) (St : Nat → Heap → Prop) (Lent : Heap → Prop) (back : AHeap → AHeap) : Prop where
  go : ∀ i (s : Shared) (Q : Option Value → Shared → Prop) (E : Value → Shared → Prop) x, xs[i]? = some x → St i s.heap →
    (∀ T vs h' tk, Vs (At C fz) vs x → h'.IsTuple T vs.toArray → T ∉ wr → (∀ b o, b ∉ wr → s.heap.get? b = some o → h'.get? b = some o) →
      (∀ ts k pos (s₂ : Shared) (Q₂ : Unit → Shared → Prop) (E₂ : Value → Shared → Prop), s₂.heap = h' → (∀ h₂, St (i + 1) h₂ → (∀ b o, b ∉ wr → h'.get? b = some o → h₂.get? b = some o) → Q₂ () { s₂ with heap := h₂ }) → wpAny (Md C) f.A (letOwnedTupleGo (.Tuple ts k pos) (.ref I) (.ref T)) Q₂ E₂ s₂) →
      Q (some (.ref T)) { s with heap := h', toks := tk }) → wpAny (Md C) f.A (pyNext (.ref I)) Q E s
  done : ∀ (s : Shared) (Q : Option Value → Shared → Prop) (E : Value → Shared → Prop), St xs.length s.heap →
    (∀ h' tk, (∀ b o, b ∉ wr → s.heap.get? b = some o → h'.get? b = some o) → Lent h' → Q none { s with heap := h', toks := tk }) → wpAny (Md C) f.A (pyNext (.ref I)) Q E s
  live : ∀ i h, St i h → ∀ b ∈ wr, ∃ o, h.get? b = some o
  frame : ∀ i h h', St i h → (∀ b ∈ wr, ∀ o, h.get? b = some o → h'.get? b = some o) → (∀ b o, At C fz b o ∨ (b, o) ∈ f.pin → h'.get? b = some o) → St i h'
  lent : ∀ i h, St i h → Lent h
  back : ∀ fz' m' σ' s', (∀ p ∈ fz, p ∈ fz') → SX C f fz' m' σ' wr s' → Lent s'.heap → SR C f fz' m' (back σ') s'
/-- the head of a for: the value and its iterator -/
def WI (C : Cx) (n : Nat) (f : Fm) (e : Expr) (m : AEnv) (σ : AHeap) (Q : (AHeap → AHeap) → List AVal → AHeap → Prop) : Prop :=
  f.Ok C n → ∀ fz s E, SR C f fz m σ s → wpAny (Md C) f.A (eval e f.env) (fun v s₁ => wpAny (Md C) f.A (pyIter v) (fun it s' => ∃ fz' σ' I wr xs St Lent back, it = .ref I ∧ (∀ p ∈ fz, p ∈ fz') ∧ Same s s' ∧ SX C f fz' m σ' wr s' ∧ Wk C f fz' I wr xs St Lent back ∧ St 0 s'.heap ∧ Q back xs σ') E s₁) E s
def WIT (C : Cx) (n : Nat) (f : Fm) (e : Expr) (m : AEnv) (σ : AHeap) (Q : (AHeap → AHeap) → List (List AVal) → AHeap → Prop) : Prop :=
  f.Ok C n → ∀ fz s E, SR C f fz m σ s → wpAny (Md C) f.A (eval e f.env) (fun v s₁ => wpAny (Md C) f.A (pyIter v) (fun it s' => ∃ fz' σ' I wr xs St Lent back, it = .ref I ∧ (∀ p ∈ fz, p ∈ fz') ∧ Same s s' ∧ SX C f fz' m σ' wr s' ∧ WkT C f fz' I wr xs St Lent back ∧ St 0 s'.heap ∧ Q back xs σ') E s₁) E s
def TI (C : Cx) (n : Nat) (f : Fm) (a : AVal) (m : AEnv) (σ : AHeap) (Q : (AHeap → AHeap) → List AVal → AHeap → Prop) : Prop :=
  f.Ok C n → ∀ fz s E v, SR C f fz m σ s → V (At C fz) v a → wpAny (Md C) f.A (pyIter v) (fun it s' => ∃ fz' σ' I wr xs St Lent back, it = .ref I ∧ (∀ p ∈ fz, p ∈ fz') ∧ Same s s' ∧ SX C f fz' m σ' wr s' ∧ Wk C f fz' I wr xs St Lent back ∧ St 0 s'.heap ∧ Q back xs σ') E s
theorem wi {e : Expr} {Q : (AHeap → AHeap) → List AVal → AHeap → Prop} (h : WE C n f e m σ fun a σ₁ => TI C n f a m σ₁ Q) : WI C n f e m σ Q := fun ok fz s E x =>
  wpAny_mono (h ok fz s E x) (fun v s₁ hq => hq.el fun fz₁ σ₁ a u1 e1 x1 va q1 => wpAny_mono (q1 ok fz₁ s₁ E v x1 va) (fun it s₂ ⟨fz₂, σ₂, I, wr, xs, St, Lent, back, ei, u2, e2, r⟩ => ⟨fz₂, σ₂, I, wr, xs, St, Lent, back, ei, fun p hp => u2 p (u1 p hp), e1.trans e2, r⟩) fun _ _ x => x) fun _ _ x => x
/-- one turn: what must hold behind the body -/
def Turn (back : AHeap → AHeap) (Inv : AEnv → AHeap → Prop) (Q : AFlow → AEnv → AHeap → Prop) : AFlow → AEnv → AHeap → Prop
  | .next, m, σ => ∃ m' σ', (∀ y a, AEnv.get m' y = some a → AEnv.get m y = some a) ∧ AHeap.le σ' σ ∧ Inv m' σ'
  | .cont, m, σ => ∃ m' σ', (∀ y a, AEnv.get m' y = some a → AEnv.get m y = some a) ∧ AHeap.le σ' σ ∧ Inv m' σ'
  | .brk, m, σ => Q .next m (back σ)
  | .ret a, m, σ => Q (.ret a) m (back σ)
theorem w1_forB {y : Str} {py : Pos} {iter : Expr} {body : List Stmt} {pos : Pos} {Q : AFlow → AEnv → AHeap → Prop} (Inv : (AHeap → AHeap) → List AVal → AEnv → AHeap → Prop)
    (h : WI C n f iter m σ fun back xs σ₂ => Inv back xs m σ₂)
    (turn : ∀ back pin x xs m' σ', Inv back (x :: xs) m' σ' → TS C n (f.withPin pin) y x m' σ' fun m₁ σ₁ => WS C n (f.withPin pin) body m₁ σ₁ (Turn back (Inv back xs) Q))
    (done : ∀ back m' σ', Inv back [] m' σ' → Q .next m' (back σ')) (hs : ∀ x, foldedSetIterable iter f.env x = pure x := by intro _; rfl) : W1 C n f (.For (.Name y py) iter body [] pos) m σ Q := fun ok fz s E x => by
  refine wpAny_For (wpAny_mono (h ok fz s E x) (fun v s₁ q1 => wpAny_mono q1 (fun it s₂ ⟨fz₂, σ₂, I, wr, xs, St, Lent, back, ei, u2, e2, x2, W, st, q2⟩ => ?_) fun _ _ x => x) fun _ _ x => x) hs
  subst ei
  have hpin : ∀ p ∈ f.pin, p.1 ∉ wr := by
    obtain ⟨mc, news, δ, F, N, R, e, h1, h2, h3⟩ := x2
    exact fun p hp => h1 p (R.sub p (List.mem_append_right _ hp))
  have hL : f.L ∉ wr := by obtain ⟨mc, news, δ, F, N, R, e, h1, h2, h3⟩ := x2; exact h2
  have h0 : ∀ b ∈ wr, f.h₀.get? b = none := by obtain ⟨mc, news, δ, F, N, R, e, h1, h2, h3⟩ := x2; exact h3
  refine codeAny_forLoop (fun k s' => ∃ fz' m' σ' i, (∀ p ∈ fz₂, p ∈ fz') ∧ Same s₂ s' ∧ SX C f fz' m' σ' wr s' ∧ St i s'.heap ∧ Inv back (xs.drop i) m' σ' ∧ i ≤ xs.length ∧ k = xs.length - i) ?_ (xs.length) ⟨fz₂, m, σ₂, 0, sub_refl, .rfl, x2, st, q2, Nat.zero_le _, rfl⟩
  rintro k s' ⟨fz', m', σ', i, u3, e3, x3, st3, q3, hi, rfl⟩
  have uu : ∀ p ∈ fz, p ∈ fz' := fun p hp => u3 p (u2 p hp)
  cases hx : xs[i]? with
  | none =>
    have hlen : i = xs.length := by have := List.getElem?_eq_none_iff.mp hx; omega
    subst hlen
    refine W.done _ _ _ st3 fun h' tk k hl => wpAny_execs_nil ?_
    rw [List.drop_length] at q3
    exact ⟨fz', back σ', m', .next, uu, (e2.trans e3).trans ⟨_, _, rfl⟩, W.back _ _ _ _ u3 (x3.step (t := tk) k) hl, trivial, done _ _ _ q3⟩
  | some b =>
    obtain ⟨hlt, hb⟩ := List.getElem?_eq_some_iff.mp hx
    have hd : xs.drop i = b :: xs.drop (i + 1) := by rw [List.drop_eq_getElem_cons hlt, hb]
    rw [hd] at q3
    refine W.go i _ _ _ b hx st3 fun v h' tk hv st' k => ?_
    have x4 := x3.step (t := tk) k
    have x5 := x4.pin
    refine PyProof.Rows.assign_Name (wpAny_mono (turn back (ownP wr h' ++ f.pin) b _ m' σ' q3 ok.pin fz' _ _ v x5 (hv.up u3)) (fun _ s₅ hq => PU.el hq fun fz₅ σ₅ m₅ u5 e5 x6 q5 => ?_) fun _ _ x => x)
    refine wpAny_mono (q5 ok.pin fz₅ s₅ _ x6) (fun fl s₆ hq => hq.el fun fz₆ σ₆ m₆ a₆ u6 e6 x7 va6 q6 => ?_) fun _ _ x => x
    have es : Same s s₆ := ((((e2.trans e3).trans ⟨_, _, rfl⟩).trans e5).trans e6)
    have us : ∀ p ∈ fz, p ∈ fz₆ := fun p hp => u6 p (u5 p (uu p hp))
    have u26 : ∀ p ∈ fz₂, p ∈ fz₆ := fun p hp => u6 p (u5 p (u3 p hp))
    have un : ∀ {m' : AEnv} {σ' : AHeap}, SR C (f.withPin (ownP wr h' ++ f.pin)) fz₆ m' σ' s₆ → SX C f fz₆ m' σ' wr s₆ := fun x => SX.unpin (fun b hb => by obtain ⟨o, ho⟩ := W.live _ _ st' b hb; exact ⟨o, (mem_ownP (p := (b, o))).mpr ⟨hb, ho⟩⟩) hpin hL h0 x
    have st6 : St (i + 1) s₆.heap := by
      refine W.frame _ _ _ st' (fun b hb o ho => ?_) fun b o q => ?_
      · obtain ⟨mc, news, δ, F, N, R, e⟩ := x7
        exact (N _ (R.sub _ (List.mem_append_right _ (List.mem_append_left _ ((mem_ownP (p := (b, o))).mpr ⟨hb, ho⟩))))).1
      · rcases q with q | q
        · exact (x7.at_ ok.pin (q.mono u26))
        · obtain ⟨mc, news, δ, F, N, R, e⟩ := x7
          exact (N _ (R.sub _ (List.mem_append_right _ (List.mem_append_right _ q)))).1
    have bk := W.back _ _ _ _ u26 (un x7) (W.lent _ _ st6)
    have next : Turn back (Inv back (xs.drop (i + 1))) Q .next m₆ σ₆ → ∃ m, m < xs.length - i ∧ ∃ fz' m' σ' i, (∀ p ∈ fz₂, p ∈ fz') ∧ Same s₂ s₆ ∧ SX C f fz' m' σ' wr s₆ ∧ St i s₆.heap ∧ Inv back (xs.drop i) m' σ' ∧ i ≤ xs.length ∧ m = xs.length - i := by
      rintro ⟨m₇, σ₇, hm, hσ, q7⟩
      exact ⟨xs.length - (i + 1), by omega, fz₆, m₇, σ₇, i + 1, u26, ((e3.trans ⟨_, _, rfl⟩).trans e5).trans e6, un (x7.weaken hm hσ), st6, q7, hlt, rfl⟩
    cases fl with
    | next => cases a₆ <;> first | exact next q6 | exact va6.elim
    | cont => cases a₆ <;> first | exact next q6 | exact va6.elim
    | brk => cases a₆ <;> first | exact ⟨fz₆, back σ₆, m₆, .next, us, es, bk, trivial, q6⟩ | exact va6.elim
    | ret r => cases a₆ <;> first | exact ⟨fz₆, back σ₆, m₆, .ret _, us, es, bk, va6, q6⟩ | exact va6.elim
end
end Mine

open PySem PySem.W PyProof.Rows PySem.Calls
namespace Mine
section
variable {C : Cx} {n : Nat} {f : Fm} {m : AEnv} {σ : AHeap}
/-! ## ints -/
section
variable {Q : AVal → AHeap → Prop} {a b : Int}
theorem t2_sub (h : Q (.int (a - b)) σ) : T2 C n f (binaryOp .Sub) (.int a) (.int b) m σ Q := fun ok fz s E v w x hv hw => by cases hv; cases hw; exact sub_int (.tok x (.int _ _) h)
theorem t2_div (hb : b ≠ 0) (hs : b.natAbs < 1073741824) (h : Q (.int (a.fdiv b)) σ) : T2 C n f (binaryOp .FloorDiv) (.int a) (.int b) m σ Q := fun ok fz s E v w x hv hw => by cases hv; cases hw; exact floordiv_int hb (.tok x (.int _ _) h) (.inl (PyProof.noPylong_small hs))
theorem t2_mod (hb : b ≠ 0) (hs : b.natAbs < 1073741824) (h : Q (.int (a.fmod b)) σ) : T2 C n f (binaryOp .Mod) (.int a) (.int b) m σ Q := fun ok fz s E v w x hv hw => by cases hv; cases hw; exact mod_int' hb (.tok x (.int _ _) h)
theorem t1_neg (h : Q (.int (-a)) σ) : T1 C n f (unaryOp .USub) (.int a) m σ Q := fun ok fz s E v x hv => by cases hv; exact PyProof.Rows.neg_int (.tok x (.int _ _) h)
theorem t2_eq (h : Q (.bool (a == b)) σ) : T2 C n f (compareOp .Eq) (.int a) (.int b) m σ Q := fun ok fz s E v w x hv hw => by cases hv; cases hw; exact PyProof.Rows.eq_int (.here x (.bool _) h)
theorem t2_lt (h : Q (.bool (decide (a < b))) σ) : T2 C n f (compareOp .Lt) (.int a) (.int b) m σ Q := fun ok fz s E v w x hv hw => by cases hv; cases hw; exact PyProof.Rows.lt_int (.here x (.bool _) h)
end

/-! ## None -/
def isNone : AVal → Option Bool
  | .none => some true
  | .raw _ => Option.none
  | _ => some false
theorem isNone_ok {P : Addr → Obj → Prop} {v : Value} {a : AVal} {b : Bool} (h : V P v a) (e : isNone a = some b) : (v == Value.none) = b := by
  cases h <;> simp [isNone] at e <;> subst e <;> rfl
theorem t2_isNone {a : AVal} {b : Bool} {Q : AVal → AHeap → Prop} (e : isNone a = some b) (h : Q (.bool b) σ) : T2 C n f (compareOp .Is) a .none m σ Q := fun ok fz s E v w x hv hw => by
  have := isNone_ok hv e
  cases hw; exact is_none (by rw [this]; exact .here x (.bool _) h)
/-! ## builtins called -/
theorem keep_builtin {h : Heap} {i : String} : Keep C h (.builtin i) := ⟨.machine, .inr (.inl rfl), Looks.of_pure rfl⟩
theorem keep_type {h : Heap} {i : String} : Keep C h (.type i) := ⟨.machine, .inr (.inl rfl), Looks.of_pure rfl⟩
/-! ## iterators -/
theorem SX.ofPush {fz : Fz} {s : Shared} {o : Obj} {t : Nat} (x : SR C f fz m σ s) : SX C f fz m σ [s.heap.objs.size] { s with heap := s.heap.push o, toks := t } := by
  obtain ⟨mc, news, δ, F, N, R, e⟩ := x
  obtain ⟨oL, a1, a2, hL, a3⟩ := id F.ns
  refine ⟨mc, news, δ, F.push o, fun p hp => ⟨Heap.get?_push_of_some _ (N p hp).1, (N p hp).2⟩, R, e, fun p hp hm => ?_, fun hm => ?_, fun b hb => ?_⟩
  · exact absurd (news_lt N hp) (by rw [List.mem_singleton.mp hm]; exact Nat.lt_irrefl _)
  · exact absurd (Heap.lt_size hL) (by rw [List.mem_singleton.mp hm]; exact Nat.lt_irrefl _)
  · rw [List.mem_singleton.mp hb]
    cases q : f.h₀.get? s.heap.objs.size with
    | none => rfl
    | some o => exact absurd (Heap.lt_size (F.keep _ _ q)) (Nat.lt_irrefl _)
theorem ti_lst {xs : List AVal} {Q : (AHeap → AHeap) → List AVal → AHeap → Prop} (h : Q id xs σ) : TI C n f (.lst xs) m σ Q := fun ok fz s E v x hv => by
  cases hv with
  | lst p1 p2 p3 p4 =>
    rename_i l o k vs
    have ho := x.at_ ok p1
    have hl : s.heap.IsList l vs.toArray := ⟨_, ho, p2, _, p3⟩
    have hne : l ≠ s.heap.objs.size := Nat.ne_of_lt (Heap.lt_size ho)
    refine wpAny_pyIter_list hl ?_
    have W := Walks.list (prog := C.prog) (w := C.w) ok.handled s.heap.objs.size l hne vs.toArray
    refine ⟨fz, σ, s.heap.objs.size, [s.heap.objs.size], xs, fun i h => h.IsListIter s.heap.objs.size l i ∧ h.IsList l vs.toArray, fun _ => True, id, rfl, sub_refl, ⟨_, s.toks, rfl⟩, SX.ofPush (t := s.toks) x, ⟨?_, ?_, ?_, ?_, fun _ _ _ => trivial, fun _ _ _ _ _ x _ => x.sr, fun i s Q E h q => W.self i s Q E h q, fun _ _ _ _ => trivial⟩, ⟨⟨_, Heap.get?_push_size _ rfl, rfl, rfl⟩, hl.at fun o e => Heap.get?_push_of_some _ e⟩, h⟩
    · intro i s Q E y hy hs hQ
      have hi : i < vs.toArray.size := by rw [List.size_toArray, p4.length]; exact (List.getElem?_eq_some_iff.mp hy).1
      refine W.item i s Q E hi hs fun v h' tk hv => hQ v h' tk ?_
      obtain ⟨u, h1, h2⟩ := p4.get hy
      have : vs[i]? = some v := by simpa using hv
      rw [h1] at this; cases this; exact h2
    · intro s Q E hs hQ
      have hz : vs.toArray.size = xs.length := by rw [List.size_toArray, p4.length]
      refine W.done s Q E (by rw [hz]; exact hs) fun h' tk k => hQ h' tk k trivial
    · intro i h hs b hb
      rw [List.mem_singleton.mp hb]
      obtain ⟨o, h1, _⟩ := hs.1; exact ⟨o, h1⟩
    · intro i h h' hs hw hp
      exact ⟨hs.1.at fun o e => hw _ (List.mem_singleton.mpr rfl) o e, ⟨_, hp _ _ (.inl p1), p2, _, p3⟩⟩
def rngL (a c : Int) (k : Nat) : List AVal := (List.range k).map fun (i : Nat) => AVal.int (a + (i : Int) * c)
theorem w1_for {y : Str} {py : Pos} {iter : Expr} {body : List Stmt} {pos : Pos} {Q : AFlow → AEnv → AHeap → Prop} (Inv : List AVal → AEnv → AHeap → Prop)
    (h : WI C n f iter m σ fun back xs σ₂ => back = id ∧ Inv xs m σ₂)
    (turn : ∀ pin x xs m' σ', Inv (x :: xs) m' σ' → TS C n (f.withPin pin) y x m' σ' fun m₁ σ₁ => WS C n (f.withPin pin) body m₁ σ₁ (Turn id (Inv xs) Q))
    (done : ∀ m' σ', Inv [] m' σ' → Q .next m' σ') (hs : ∀ x, foldedSetIterable iter f.env x = pure x := by intro _; rfl) : W1 C n f (.For (.Name y py) iter body [] pos) m σ Q := by
  refine w1_forB (fun back xs m σ => back = id ∧ Inv xs m σ) h (fun back pin x xs m' σ' ⟨e, q⟩ => ?_) (fun back m' σ' ⟨e, q⟩ => by subst e; exact done _ _ q) hs
  subst e
  have key : Turn id (Inv xs) Q = Turn id (fun m σ => id = (id : AHeap → AHeap) ∧ Inv xs m σ) Q := by
    funext a m σ; cases a <;> simp [Turn]
  rw [← key]
  exact turn pin x xs m' σ' q
end
end Mine

open PySem PySem.W PyProof.Rows PySem.Calls
namespace Mine
section
variable {C : Cx} {n : Nat} {f : Fm} {m : AEnv} {σ : AHeap}
theorem HR.addFz {fz pin : Fz} {δ : Addr → Addr} {news : List (Addr × Obj)} (R : HR C fz pin σ δ news) (new : Fz) (hn : ∀ p ∈ new, ∀ q ∈ news, q.1 ≠ p.1) : HR C (new ++ fz) pin σ δ (new ++ news) := by
  have up : ∀ p ∈ fz, p ∈ new ++ fz := fun p hp => List.mem_append_right _ hp
  have split : ∀ p ∈ (new ++ fz) ++ pin, p ∈ new ∨ p ∈ fz ++ pin := fun p hp => by rw [List.append_assoc] at hp; exact List.mem_append.mp hp
  refine ⟨fun p hp => ?_, fun p hp q hq => ?_, fun a ao h => (R.ob a ao h).mono (fun _ _ => At.mono up) (fun _ q => List.mem_append_right _ q) fun _ _ _ _ q => List.mem_append_right _ q, fun a ao h p hp => ?_, fun a c as h p hp => ?_, R.dσ, fun p hp => let ⟨o, v, a, b, c⟩ := R.free p hp; ⟨o, v, a.mono up, b, c.up up⟩, R.dinj⟩
  · rcases split p hp with hp | hp
    · exact List.mem_append_left _ hp
    · exact List.mem_append_right _ (R.sub _ hp)
  · rcases List.mem_append.mp hp with hp | hp
    · exact fun e => hn p hp q (R.sub _ (List.mem_append_right _ hq)) e.symm
    · exact R.apart p hp q hq
  · rcases split p hp with hp | hp
    · obtain ⟨o, ho⟩ := (R.ob a ao h).key; exact fun q => hn p hp _ ho q.symm
    · exact R.off a ao h p hp
  · rcases split p hp with hp | hp
    · obtain ⟨_, es, k, ho, _⟩ := R.ob a _ h; exact fun q => hn p hp _ ho q.symm
    · exact R.doff a c as h p hp
theorem ER.up {fz fz' : Fz} {mc : Str → Option Value} (h : ∀ p ∈ fz, p ∈ fz') (e : ER (At C fz) m mc) : ER (At C fz') m mc := fun y a hy => by obtain ⟨v, h1, h2⟩ := e y a hy; exact ⟨v, h1, h2.up h⟩

/-! ## things of a class -/
theorem tc_fin {c : Addr} {Q : AVal → AHeap → Prop} (hk : keepIn C.K (.ref c) = true) (hm : makesIn C.K c = true) (hi : findIn C.K (.ref c) "__init__" = some (some (.builtin "object.__init__"))) (h : Q (.fin c) σ) : TC C n f (.raw (.ref c)) [] m σ Q := fun ok fz s E v vs x hv hvs => by
  cases hv; cases hvs
  refine ⟨keep_K ok x hk, ?_⟩
  obtain ⟨mc, news, δ, F, N, R, e⟩ := x
  refine call_cls0 F ok.kin N hm hi fun y d h' F' N' l1 l2 => ?_
  have hn : ∀ p ∈ [(y, instObj c d), (d, dictOf [] 0)], ∀ q ∈ news, q.1 ≠ p.1 := fun p hp q hq => by
    have := l1 q hq
    rcases List.mem_cons.mp hp with rfl | hp
    · exact Nat.ne_of_lt (Nat.lt_trans this l2)
    · rw [List.mem_singleton.mp hp]; exact Nat.ne_of_lt this
  have up : ∀ p ∈ fz, p ∈ [(y, instObj c d), (d, dictOf [] 0)] ++ fz := fun p hp => List.mem_append_right _ hp
  exact ⟨[(y, instObj c d), (d, dictOf [] 0)] ++ fz, σ, .fin c, up, ⟨h', s.toks, rfl⟩, ⟨mc, _, δ, F', N', R.addFz _ hn, e.up up⟩, .fin (.inl (List.mem_append_left _ (List.mem_cons_self ..))) (.inl (List.mem_append_left _ (List.mem_cons_of_mem _ (List.mem_cons_self ..)))), h⟩
theorem HR.noneAt {fz pin : Fz} {δ : Addr → Addr} {news : List (Addr × Obj)} {y : Addr} (R : HR C fz pin σ δ news) (l : ∀ q ∈ news, q.1 ≠ y) : σ y = none := by
  cases q : σ y with
  | none => rfl
  | some o => obtain ⟨o, h⟩ := (R.ob y o q).key; exact absurd rfl (l _ h)
/-! ## type, is -/
theorem t2_isRaw {a b : Value} {Q : AVal → AHeap → Prop} (hp : plainIs a b = true) (h : Q (.bool (a == b)) σ) : T2 C n f (compareOp .Is) (.raw a) (.raw b) m σ Q := fun ok fz s E v w x hv hw => by
  cases hv; cases hw; exact wpAny_is_plain hp (.here x (.bool _) h)
/-! ## functions of ints -/
/-! ## lists -/
theorem SR.newFz {fz : Fz} {s : Shared} (x : SR C f fz m σ s) : ∃ mc news, Fr f.h₀ f.L s.heap mc ∧ News f.h₀ f.L s.heap news ∧
    ∀ h' t o, Fr f.h₀ f.L h' mc → News f.h₀ f.L h' ((s.heap.objs.size, o) :: news) → SR C f ([(s.heap.objs.size, o)] ++ fz) m σ { s with heap := h', toks := t } := by
  obtain ⟨mc, news, δ, F, N, R, e⟩ := x
  refine ⟨mc, news, F, N, fun h' t o F' N' => ⟨mc, _, δ, F', N', R.addFz [(s.heap.objs.size, o)] fun p hp q hq => ?_, e.up fun p hp => List.mem_append_right _ hp⟩⟩
  rw [List.mem_singleton.mp hp]
  exact Nat.ne_of_lt (news_lt N hq)
/-- a list, frozen or not: its items now -/
def items (σ : AHeap) : AVal → Option (List AVal)
  | .lst xs => some xs
  | .obj a => match σ a with
    | some (.list xs) => some xs
    | _ => none
  | _ => none
theorem V.items {fz : Fz} {s : Shared} (ok : f.Ok C n) (x : SR C f fz m σ s) {v : Value} {a : AVal} {xs : List AVal} (h : V (At C fz) v a) (e : items σ a = some xs) : ∃ l vs, v = .ref l ∧ s.heap.IsList l vs.toArray ∧ Vs (At C fz) vs xs := by
  cases h with
  | obj a =>
    have e' : (match σ a with | some (.list xs) => some xs | _ => Option.none) = some xs := e
    split at e'
    · rename_i ys hs; cases e'
      obtain ⟨vs, k, h1, h2⟩ := x.list hs
      exact ⟨a, vs, rfl, ⟨_, h1, rfl, _, rfl⟩, h2⟩
    · cases e'
  | lst h1 h2 h3 h4 => cases e; exact ⟨_, _, rfl, ⟨_, x.at_ ok h1, h2, _, h3⟩, h4⟩
  | _ => cases e
theorem t2_cat {a b : AVal} {xs ys : List AVal} {Q : AVal → AHeap → Prop} (ha : items σ a = some xs) (hb : items σ b = some ys) (hl : xs.length + ys.length ≤ sizeLine) (h : Q (.lst (xs ++ ys)) σ) : T2 C n f (binaryOp .Add) a b m σ Q := fun ok fz s E v w x hv hw => by
  obtain ⟨l, vs, rfl, hlv, hvs⟩ := hv.items ok x ha
  obtain ⟨l', ws, rfl, hlw, hws⟩ := hw.items ok x hb
  obtain ⟨mc, news, F, N, k⟩ := x.newFz
  refine add_lists F N hlv hlw (fun h' F' N' => ?_) (by rw [hvs.length, hws.length]; exact hl)
  exact ⟨_, σ, .lst (xs ++ ys), fun p hp => List.mem_append_right _ hp, ⟨h', s.toks, rfl⟩, k h' s.toks _ F' N', .lst (.inl (List.mem_append_left _ (List.mem_singleton.mpr rfl))) rfl rfl ((hvs.append hws).up fun p hp => List.mem_append_right _ hp), h⟩
end
end Mine

open PySem PySem.W PyProof.Rows PySem.Calls
namespace Mine
section
variable {C : Cx} {n : Nat} {f : Fm} {m : AEnv} {σ : AHeap}
def enumFrom (k : Nat) : List AVal → List (List AVal)
  | [] => []
  | x :: xs => [.int k, x] :: enumFrom (k + 1) xs
end
end Mine
namespace Mine
section
variable {C : Cx} {n : Nat} {f : Fm} {m : AEnv} {σ : AHeap}
/-! ## methods of lists -/
theorem tg_list {a : Addr} {xs : List AVal} {name : Str} {id : String} {Q : AVal → List AVal → AHeap → Prop} (slot : Slot "list" name id) (hty : typeOf (.builtin id) = pure (.type "method_descriptor")) (ha : σ a = some (.list xs)) (h : Q (.raw (.builtin id)) [.obj a] σ) : TG C n f name (.obj a) m σ Q := fun ok fz s E v pl x hv => by
  cases hv
  obtain ⟨vs, k, h1, h2⟩ := x.list ha
  exact getMethod_list_of slot hty ⟨_, h1, rfl, _, rfl⟩ ⟨_, h1, rfl⟩ ⟨fz, σ, _, _, sub_refl, .rfl, x, .raw _, .cons (.obj a) .nil, h⟩
def scalar : AVal → Bool
  | .none => true
  | .bool _ => true
  | .int _ => true
  | .str _ => true
  | _ => false
def notNone : AVal → Bool
  | .none => false
  | _ => true
end
end Mine

open PySem PySem.W PyProof.Rows PySem.Calls
namespace Mine
end Mine
namespace Mine
theorem vs_ints {P : Addr → Obj → Prop} : ∀ {vs : List Value} {ns : List Int}, IntsAre vs ns → Vs P vs (ns.map .int)
  | _, _, .nil => .nil
  | _, _, .cons n t r => .cons (.int n t) (vs_ints r)
end Mine

open PySem PySem.W PyProof.Rows PySem.Calls
namespace Mine
section
variable {C : Cx} {n : Nat} {f : Fm} {m : AEnv} {σ : AHeap}
/-! ## items by place -/
theorem we_sub {value slice : Expr} {pos : Pos} {Q : AVal → AHeap → Prop} (h : WE C n f value m σ fun a σ₁ => WE C n f slice m σ₁ fun b σ₂ => T2 C n f (subscriptTail value slice) a b m σ₂ Q) : WE C n f (.Subscript value slice pos) m σ Q := fun ok fz s E x => by
  refine Subscript_ (wpAny_mono (h ok fz s E x) (fun v s₁ hq => hq.el fun fz₁ σ₁ a u1 e1 x1 va q1 => wpAny_mono (q1 ok fz₁ s₁ E x1) (fun w s₂ hq => hq.el fun fz₂ σ₂ b u2 e2 x2 vb q2 => ?_) fun _ _ x => x) fun _ _ x => x)
  exact wpAny_mono (q2 ok fz₂ s₂ E v w x2 (va.up u2) vb) (fun r s₃ p => .up (fun p hp => u2 p (u1 p hp)) (e1.trans e2) p) fun _ _ x => x
theorem t2_item {value slice : Expr} {a : AVal} {i : Int} {xs : List AVal} {y : AVal} {Q : AVal → AHeap → Prop} (ha : items σ a = some xs) (h0 : 0 ≤ i) (hf : i < 2 ^ 63) (hy : xs[i.toNat]? = some y) (h : Q y σ)
    (hs : ∀ l u, subscripted slice false (.ref l) (.int i u) = operate [.ref l, .int i u] (getItem (.ref l) (.int i u)) := by intro _ _; rfl) : T2 C n f (subscriptTail value slice) a (.int i) m σ Q := fun ok fz s E v w x hv hw => by
  cases hw
  obtain ⟨l, vs, rfl, hl, hvs⟩ := hv.items ok x ha
  obtain ⟨u, g1, g2⟩ := hvs.get hy
  exact tail_any hl.typeIs slot_list_getitem.lookup (wpAny_getItem_list (x := u) hl h0 hf (by simpa using g1) (.here x g2 h)) (hs _ _)
/-! ## slices -/
def WO (C : Cx) (n : Nat) (f : Fm) (e : Option Expr) (m : AEnv) (σ : AHeap) (Q : AVal → AHeap → Prop) : Prop :=
  f.Ok C n → ∀ fz s E, SR C f fz m σ s → wpAny (Md C) f.A (evalPart e f.env) (PV C f m fz s Q) E s
theorem wo_none {Q : AVal → AHeap → Prop} (h : Q .none σ) : WO C n f none m σ Q := fun ok fz s E x => wpAny_pure (.here x .none h)
theorem wo_some {e : Expr} {Q : AVal → AHeap → Prop} (h : WE C n f e m σ Q) : WO C n f (some e) m σ Q := fun ok fz s E x => h ok fz s E x
def part : AVal → Option (Option Int)
  | .none => some none
  | .int i => some (some i)
  | _ => none
def pickA (xs : List AVal) (lo hi st : Option Int) : List AVal :=
  (sliceRange (sliceBounds lo hi st xs.length).1 (sliceBounds lo hi st xs.length).2.1 (sliceBounds lo hi st xs.length).2.2).filterMap (xs[·]?)
/-! ## changing a list -/
theorem tg_listM {a : Addr} {xs : List AVal} {name : Str} {id : String} {Q : AVal → List AVal → AHeap → Prop} (ha : σ a = some (.list xs)) (slot : Slot "list" name id) (hty : typeOf (.builtin id) = pure (.type "method_descriptor")) (h : Q (.raw (.builtin id)) [.obj a] σ) : TG C n f name (.obj a) m σ Q :=
  tg_list slot hty ha h
theorem tc_append {a : Addr} {xs : List AVal} {y : AVal} {Q : AVal → AHeap → Prop} (ha : σ a = some (.list xs)) (hl : xs.length ≤ sizeLine) (h : Q .none (σ.set a (.list (xs ++ [y])))) : TC C n f (.raw (.builtin "list.append")) [.obj a, y] m σ Q := fun ok fz s E v vs x hv hvs => by
  cases hv; obtain _ | ⟨h1, h2⟩ := hvs; obtain _ | ⟨h2, h3⟩ := h2; cases h3; cases h1
  obtain ⟨us, k, ho, p4⟩ := x.list ha
  refine ⟨keep_builtin, append_at ho (fun h' hs ho' => ?_) (by rw [List.size_toArray, p4.length]; exact hl)⟩
  rename_i w
  refine ⟨fz, _, .none, sub_refl, ⟨h', s.toks, rfl⟩, x.setList (t := s.toks) (vs' := us ++ [w]) ha hs (by simpa using ho') (p4.append (.cons h2 .nil)), .none, h⟩
/-- storing at a place: as a tree -/
def TU (C : Cx) (n : Nat) (f : Fm) (o i y : AVal) (m : AEnv) (σ : AHeap) (Q : AHeap → Prop) : Prop :=
  f.Ok C n → ∀ fz s E vo vi vy, SR C f fz m σ s → V (At C fz) vo o → V (At C fz) vi i → V (At C fz) vy y → wpAny (Md C) f.A (setItem vo vi vy) (fun _ s' => ∃ fz' σ', (∀ p ∈ fz, p ∈ fz') ∧ Same s s' ∧ SR C f fz' m σ' s' ∧ Q σ') E s
theorem w1_expr {e : Expr} {pos : Pos} {Q : AFlow → AEnv → AHeap → Prop} (h : WE C n f e m σ fun _ σ₁ => Q .next m σ₁) (hi : interactive f.env = false := by rfl) (hs : swapsWith e none pos.line f.env = pure false := by rfl) : W1 C n f (.Expr e pos) m σ Q := fun ok fz s E x => by
  refine wpAny_Expr_any (hi := hi) (hs := hs) (wpAny_mono (h ok fz s E x) (fun v s₁ hq => hq.el fun fz₁ σ₁ a u1 e1 x1 va q1 => ⟨fz₁, σ₁, m, .next, u1, e1, x1, trivial, q1⟩) fun _ _ x => x)
end
end Mine

open PySem PySem.W PyProof.Rows PySem.Calls
namespace Mine
section
variable {C : Cx} {n : Nat} {f : Fm} {m : AEnv} {σ : AHeap}
/-! ## rows built by a comprehension -/
def WQ (C : Cx) (n : Nat) (f : Fm) (ifs : List Expr) (m : AEnv) (σ : AHeap) (Q : Bool → AHeap → Prop) : Prop :=
  f.Ok C n → ∀ fz s E, SR C f fz m σ s → wpAny (Md C) f.A (forIn ifs true fun c r => if r = true then do let ok ← isTrue c f.env (eval c f.env); pure (ForInStep.yield ok) else pure (ForInStep.yield r)) (PB C f m fz s Q) E s
theorem wq_nil {Q : Bool → AHeap → Prop} (h : Q true σ) : WQ C n f [] m σ Q := fun ok fz s E x => wpAny_tests_nil ⟨fz, σ, sub_refl, .rfl, x, h⟩
theorem SX.sub {fz : Fz} {wr wr' : List Addr} {s : Shared} (h : ∀ b ∈ wr', b ∈ wr) (x : SX C f fz m σ wr s) : SX C f fz m σ wr' s := by
  obtain ⟨mc, news, δ, F, N, R, e, h1, h2, h3⟩ := x
  exact ⟨mc, news, δ, F, N, R, e, fun p hp q => h1 p hp (h _ q), fun q => h2 (h _ q), fun b hb => h3 b (h _ hb)⟩
theorem SX.wide {fz : Fz} {wr : List Addr} {s : Shared} {h' : Heap} {t : Nat} (x : SX C f fz m σ wr s) (new : List Addr) (k : ∀ b o, s.heap.get? b = some o → h'.get? b = some o) (hw : ∀ b ∈ new, s.heap.objs.size ≤ b) : SX C f fz m σ (new ++ wr) { s with heap := h', toks := t } := by
  obtain ⟨mc, news, δ, F, N, R, e, h1, h2, h3⟩ := x
  obtain ⟨oL, a1, a2, hL, a3⟩ := id F.ns
  refine ⟨mc, news, δ, F.grownK k, fun p hp => ⟨k _ _ (N p hp).1, (N p hp).2⟩, R, e, fun p hp hm => ?_, fun hm => ?_, fun b hb => ?_⟩
  · rcases List.mem_append.mp hm with hm | hm
    · exact absurd (news_lt N hp) (Nat.not_lt.mpr (hw _ hm))
    · exact h1 p hp hm
  · rcases List.mem_append.mp hm with hm | hm
    · exact absurd (Heap.lt_size hL) (Nat.not_lt.mpr (hw _ hm))
    · exact h2 hm
  · rcases List.mem_append.mp hb with hm | hm
    · cases q : f.h₀.get? b with
      | none => rfl
      | some o => exact absurd (Heap.lt_size (F.keep _ _ q)) (Nat.not_lt.mpr (hw _ hm))
    · exact h3 b hm
/-- an address that was kept apart becomes a frozen thing -/
theorem SX.ice {fz : Fz} {wr : List Addr} {s : Shared} {D : Addr} {o : Obj} (x : SX C f fz m σ (D :: wr) s) (hD : D ∉ wr) (ho : s.heap.get? D = some o) : SX C f ([(D, o)] ++ fz) m σ wr s := by
  obtain ⟨mc, news, δ, F, N, R, e, h1, h2, h3⟩ := x
  refine ⟨mc, [(D, o)] ++ news, δ, F, fun p hp => ?_, R.addFz [(D, o)] (fun p hp q hq => ?_), e.up fun p hp => List.mem_append_right _ hp, fun p hp q => ?_, fun q => h2 (List.mem_cons_of_mem _ q), fun b hb => h3 b (List.mem_cons_of_mem _ hb)⟩
  · rcases List.mem_append.mp hp with hp | hp
    · rw [List.mem_singleton.mp hp]; exact ⟨ho, fun q => h2 (by rw [← q]; exact List.mem_cons_self ..), h3 D (List.mem_cons_self ..)⟩
    · exact N p hp
  · rw [List.mem_singleton.mp hp]; exact fun e => h1 q hq (by rw [e]; exact List.mem_cons_self ..)
  · rcases List.mem_append.mp hp with hp | hp
    · rw [List.mem_singleton.mp hp] at q; exact hD q
    · exact h1 p hp (List.mem_cons_of_mem _ q)
/-- the row's own names become a thing of the state -/
theorem SX.names {fz : Fz} {wr : List Addr} {s : Shared} {c : Addr} {mc' : Str → Option Value} {as : List (Str × AVal)} {k : Option (Scope × List (Str × Addr) × Addr)} (x : SX C f fz m σ (c :: wr) s) (hc : c ∉ wr) (hns : s.heap.Ns c mc') (he : ER (At C fz) as mc') :
    σ c = none ∧ SR C (f.withComp k (ownP wr s.heap ++ f.pin)) fz m (σ.set c (.ns as)) s := by
  obtain ⟨o, ho, hn⟩ := LCg.ns_obj hns
  have hwr := (SX.sub (wr' := wr) (fun b hb => List.mem_cons_of_mem _ hb) x)
  obtain ⟨mc, news, δ, F, N, R, e, h1, h2, h3⟩ := x
  have nn : ∀ q ∈ news, q.1 ≠ c := fun q hq e => h1 q hq (by rw [e]; exact List.mem_cons_self ..)
  have hno : σ c = none := R.noneAt nn
  have off : ∀ {p : Addr × Obj}, p ∈ ownP wr s.heap → p.1 ∈ wr := fun hp => (mem_ownP.mp hp).1
  have three : ∀ p ∈ fz ++ (ownP wr s.heap ++ f.pin), p ∈ ownP wr s.heap ∨ p ∈ fz ++ f.pin := fun p hp => by
    rcases List.mem_append.mp hp with hp | hp
    · exact .inr (List.mem_append_left _ hp)
    · rcases List.mem_append.mp hp with hp | hp
      · exact .inl hp
      · exact .inr (List.mem_append_right _ hp)
  have keep : ∀ {b c' as'}, σ.set c (.ns as) b = some (.inst c' as') → b ≠ c ∧ σ b = some (.inst c' as') := fun {b c' as'} hb => by
    by_cases q : b = c
    · subst q; rw [AHeap.set_same] at hb; cases hb
    · rw [AHeap.set_ne _ _ q] at hb; exact ⟨q, hb⟩
  have dn : ∀ b c' as', σ b = some (.inst c' as') → δ b ≠ c := fun b c' as' hb => by obtain ⟨_, es, n, h, _⟩ := R.ob b _ hb; exact nn _ h
  have up : ∀ {p}, p ∈ news → p ∈ (c, o) :: (ownP wr s.heap ++ news) := fun h => .tail _ (List.mem_append_right _ h)
  refine ⟨hno, mc, (c, o) :: (ownP wr s.heap ++ news), δ, F, fun p hp => ?_, ⟨fun p hp => ?_, fun p hp q hq => ?_, fun b bo hb => ?_, fun b bo hb p hp => ?_, fun b c' as' hb p hp => ?_, fun b c' as' hb => ?_, R.free, fun b c' as' b' c'' bs g1 g2 => R.dinj b c' as' b' c'' bs (keep g1).2 (keep g2).2⟩, e⟩
  · rcases List.mem_cons.mp hp with rfl | hp
    · exact ⟨ho, fun q => h2 (by rw [← q]; exact List.mem_cons_self ..), h3 c (List.mem_cons_self ..)⟩
    · rcases List.mem_append.mp hp with hp | hp
      · obtain ⟨a, b⟩ := mem_ownP.mp hp
        exact ⟨b, fun q => h2 (List.mem_cons_of_mem _ (q ▸ a)), h3 _ (List.mem_cons_of_mem _ a)⟩
      · exact N p hp
  · rcases three p hp with hp | hp
    · exact .tail _ (List.mem_append_left _ hp)
    · exact up (R.sub p hp)
  · rcases List.mem_append.mp hq with hq | hq
    · exact fun q' => h1 p (R.sub p (List.mem_append_left _ hp)) (List.mem_cons_of_mem _ (q' ▸ off hq))
    · exact R.apart p hp q hq
  · by_cases q : b = c
    · subst q; rw [AHeap.set_same] at hb; cases hb; exact ⟨o, mc', List.mem_cons_self .., hn, he⟩
    · rw [AHeap.set_ne _ _ q] at hb
      exact (R.ob b bo hb).mono (fun _ _ x => x) (fun _ hm => up hm) fun _ _ eb _ hm => up hm
  · by_cases q : b = c
    · rcases three p hp with hp | hp
      · exact fun q' => hc (by rw [← q, ← q']; exact off hp)
      · rw [q]; exact nn _ (R.sub p hp)
    · rw [AHeap.set_ne _ _ q] at hb
      rcases three p hp with hp | hp
      · obtain ⟨o, ho⟩ := (R.ob b bo hb).key
        exact fun q => h1 _ ho (List.mem_cons_of_mem _ (by show b ∈ wr; rw [← q]; exact off hp))
      · exact R.off b bo hb p hp
  · rcases three p hp with hp | hp
    · obtain ⟨_, es, k, ho, _⟩ := R.ob b _ (keep hb).2
      exact fun q => h1 _ ho (List.mem_cons_of_mem _ (by show δ b ∈ wr; rw [← q]; exact off hp))
    · exact R.doff b c' as' (keep hb).2 p hp
  · rw [AHeap.set_ne _ _ (dn b c' as' (keep hb).2)]; exact R.dσ b c' as' (keep hb).2
theorem SX.unname {fz : Fz} {wr : List Addr} {s : Shared} {own : Fz} {c : Addr} {as : List (Str × AVal)} {σ' : AHeap} {k : Option (Scope × List (Str × Addr) × Addr)} (hl : ∀ b ∈ wr, ∃ o, (b, o) ∈ own) (hp : ∀ p ∈ f.pin, p.1 ∉ wr) (h2 : f.L ∉ wr) (h3 : ∀ b ∈ wr, f.h₀.get? b = none)
    (x : SR C (f.withComp k (own ++ f.pin)) fz m σ s) (hc : σ c = some (.ns as)) (hσ : σ'.le σ) (hσc : σ' c = none) : SX C f fz m σ' (c :: wr) s ∧ ∃ mc', s.heap.Ns c mc' := by
  have x' : SR C (f.withPin (own ++ f.pin)) fz m σ s := x
  have x'' := SX.unpin hl hp h2 h3 x'
  obtain ⟨mc, news, δ, F, N, R, e, g1, g2, g3⟩ := x''
  obtain ⟨o, mc', hm, hn, _⟩ := R.ob c _ hc
  have hN := N _ hm
  have inst : ∀ {a c' as'}, σ' a = some (.inst c' as') → σ a = some (.inst c' as') := fun h => hσ _ _ h
  have dc : ∀ a c' as', σ a = some (.inst c' as') → δ a ≠ c := fun a c' as' h q => by have := R.dσ a c' as' h; rw [q, hc] at this; cases this
  have keepM : ∀ {p : Addr × Obj}, p ∈ news → p.1 ≠ c → p ∈ news.filter (fun p => decide (p.1 ≠ c)) := fun h q => List.mem_filter.mpr ⟨h, by simpa using q⟩
  have ne : ∀ {a ao}, σ' a = some ao → a ≠ c := fun h q => by rw [q, hσc] at h; cases h
  refine ⟨⟨mc, news.filter (fun p => decide (p.1 ≠ c)), δ, F, fun p hp => N p (List.mem_filter.mp hp).1, ⟨fun p hp => keepM (R.sub p hp) (R.off c _ hc p hp), R.apart, fun a ao h => (R.ob a ao (hσ _ _ h)).mono (fun _ _ z => z) (fun _ q => keepM q (ne h)) fun c' as' ea _ q => keepM q (dc a c' as' (inst (ea ▸ h))), fun a ao h => R.off a ao (hσ _ _ h), fun a c' as' h => R.doff a c' as' (inst h), fun a c' as' h => ?_, R.free, fun a c' as' b c'' bs q1 q2 => R.dinj a c' as' b c'' bs (inst q1) (inst q2)⟩, e, fun p hp q => ?_, fun q => ?_, fun b hb => ?_⟩, mc', hn.ns hN.1⟩
  · cases q : σ' (δ a) with
    | none => rfl
    | some o => have := hσ _ _ q; rw [R.dσ a c' as' (inst h)] at this; cases this
  · obtain ⟨q1, q2⟩ := List.mem_filter.mp hp
    rcases List.mem_cons.mp q with q | q
    · exact (by simpa using q2 : p.1 ≠ c) q
    · exact g1 p q1 q
  · rcases List.mem_cons.mp q with q | q
    · exact hN.2.1 q.symm
    · exact g2 q
  · rcases List.mem_cons.mp hb with rfl | hb
    · exact hN.2.2
    · exact g3 b hb
theorem Fm.Ok.comp {n : Nat} {sc : Scope} {cl : List (Str × Addr)} {c : Addr} {p : Fz} (ok : f.Ok C n) (hk : sc.kind = .function) : (f.withComp (some (sc, cl, c)) p).Ok C n := ⟨ok.below, ok.kin, ok.top, ok.hk, ok.stack, ok.handled, ok.guards, ok.depth, ok.units, ok.kind, hk⟩

theorem comp_blockG {scope' : Scope} {elt iter : Expr} {x : Str} {px : Pos} {ifs : List Expr} {scope : Scope} {cl : List (Str × Addr)} {pos : Pos} {fz₂ : Fz} {σ₂ : AHeap} {I : Addr} {wr : List Addr} {xs : List AVal} {St : Nat → Heap → Prop} {Lent : Heap → Prop} {back : AHeap → AHeap} {s₂ : Shared} {E : Value → Shared → Prop} {RR : Value → Addr → Result → Shared → Prop}
    (Inv : List AVal → List AVal → AHeap → Prop) (ok : f.Ok C n) (hee₀ : ∀ c, compEnvC scope cl c f.env = f.envOn (some (scope', cl, c))) (hk' : scope'.kind = .function) (hcell : ∀ y ∈ scope.names, y.2 ≠ .cell) (hkind : scope.kind = .function) (hx : scope.names.lookup x = some .local)
    (x2 : SX C f fz₂ m σ₂ wr s₂) (W : Wk C f fz₂ I wr xs St Lent back) (st : St 0 s₂.heap) (hz : xs.length ≤ sizeLine) (q2 : Inv xs [] σ₂)
    (turn : ∀ pin c v xs ys σ', Inv (v :: xs) ys σ' → σ' c = none → WQ C n (f.withComp (some (scope', cl, c)) pin) ifs m (σ'.set c (.ns [(x, v)])) fun b σ₁ => if b = true then WE C n (f.withComp (some (scope', cl, c)) pin) elt m σ₁ fun y σ₂ => (∃ as, σ₂ c = some (.ns as)) ∧ ∃ σ₃ : AHeap, σ₃.le σ₂ ∧ σ₃ c = none ∧ Inv xs (ys ++ [y]) σ₃ else (∃ as, σ₁ c = some (.ns as)) ∧ ∃ σ₃ : AHeap, σ₃.le σ₁ ∧ σ₃ c = none ∧ Inv xs ys σ₃)
    (done : ∀ c D fz' σ' ys vs k h tk mc', (∀ p ∈ fz₂, p ∈ fz') → SX C f fz' m σ' (c :: D :: wr) { s₂ with heap := h, toks := tk } → c ∉ wr → D ∉ wr → c ≠ D → h.Ns c mc' → h.get? D = some (listOf vs.toArray k) → Vs (At C fz') vs ys → Lent h → Inv [] ys σ' → RR (.ref D) c (.ok .next) { s₂ with heap := h, toks := tk }) :
    wpAny (Md C) f.A (newList []) (fun acc s₃ => wpAny (Md C) f.A (newFunctionEnv scope f.env.globals cl [] f.env.qual none .none (some f.env)) (fun cenv s₄ =>
      codeAny (Md C) f.A (.compStart (.ListComp elt [⟨.Name x px, iter, ifs, 0⟩] scope pos) 0 (.ref I) acc { cenv with scope := relabel scope f.env }) (RR acc cenv.locals) s₄) E s₃) E s₂ := by
  refine wpAny_newObj_type (wpAny_newFunctionEnv hcell (by intro y hy; simp at hy) (fun h₁ hns₁ hsb₁ => ?_) hkind)
  dsimp only at hns₁ hsb₁ ⊢
  generalize hH2 : s₂.heap.push { cls := .type "list", dict := none, data := .seq ([] : List Value).toArray } = H2 at hns₁ hsb₁ ⊢
  have hC : H2.objs.size = s₂.heap.objs.size + 1 := by rw [← hH2, Heap.size_push]
  have hDC : s₂.heap.objs.size ≠ H2.objs.size := by rw [hC]; exact Nat.ne_of_lt (Nat.lt_succ_self _)
  have below : ∀ b, b < s₂.heap.objs.size → b ≠ H2.objs.size ∧ b ≠ s₂.heap.objs.size := fun b hb => ⟨by rw [hC]; exact Nat.ne_of_lt (Nat.lt_succ_of_lt hb), Nat.ne_of_lt hb⟩
  have old : ∀ b o, s₂.heap.get? b = some o → h₁.get? b = some o := fun b o e => hsb₁.extBut b o (below b (Heap.lt_size e)).1 (Heap.get?_push_of_some _ (hH2 ▸ Heap.get?_push_of_some _ e))
  have hacc : h₁.get? s₂.heap.objs.size = some (listOf ([] : List Value).toArray 0) := hsb₁.extBut _ _ hDC (Heap.get?_push_of_some _ (hH2 ▸ Heap.get?_push_size _ rfl))
  generalize hD : s₂.heap.objs.size = D at *
  generalize hCc : H2.objs.size = c at *
  have wlt : ∀ b ∈ wr, b < D := fun b hb => by obtain ⟨o, ho⟩ := W.live _ _ st b hb; rw [← hD]; exact Heap.lt_size ho
  have hDw : D ∉ wr := fun q => Nat.lt_irrefl _ (wlt _ q)
  have hcw : c ∉ wr := fun q => by exact absurd (wlt _ q) (by rw [hC]; exact Nat.not_lt.mpr (Nat.le_succ _))
  have hst₁ : St 0 h₁ := W.frame _ _ _ st (fun b _ o e => old b o e) fun b o q => by
    rcases q with q | q
    · exact old _ _ (x2.sr.at_ ok q)
    · obtain ⟨mc, news, δ, F, N, R, e, _⟩ := x2
      exact old _ _ (N _ (R.sub _ (List.mem_append_right _ q))).1
  have x3 : SX C f fz₂ m σ₂ (c :: D :: wr) { s₂ with heap := h₁, toks := s₂.toks + ([] : List (Str × Value)).length } := x2.wide (t := s₂.toks + ([] : List (Str × Value)).length) [c, D] old (fun b hb => by
    rcases List.mem_cons.mp hb with rfl | hb
    · rw [hC, hD]; exact Nat.le_succ _
    · rw [List.mem_singleton.mp hb, hD]; exact Nat.le_refl _)
  have hpin : ∀ p ∈ f.pin, p.1 ∉ D :: wr := by
    obtain ⟨mc, news, δ, F, N, R, e, h1, h2, h3⟩ := x3
    exact fun p hp q => h1 p (R.sub p (List.mem_append_right _ hp)) (List.mem_cons_of_mem _ q)
  have hL : f.L ∉ D :: wr := by obtain ⟨mc, news, δ, F, N, R, e, h1, h2, h3⟩ := x3; exact fun q => h2 (List.mem_cons_of_mem _ q)
  have h0 : ∀ b ∈ D :: wr, f.h₀.get? b = none := by obtain ⟨mc, news, δ, F, N, R, e, h1, h2, h3⟩ := x3; exact fun b hb => h3 b (List.mem_cons_of_mem _ hb)
  have hcD : c ∉ D :: wr := fun q => by
    rcases List.mem_cons.mp q with q | q
    · exact hDC q.symm
    · exact hcw q
  have loop : ∀ s₃ : Shared, s₃ = { s₂ with heap := h₁, toks := s₂.toks + ([] : List (Str × Value)).length } →
      codeAny (Md C) f.A (.compLoop (.ListComp elt [⟨.Name x px, iter, ifs, 0⟩] scope pos) 0 (.ref I) (.ref D) (compEnvC scope cl c f.env)) (RR (.ref D) c) s₃ := by
    rintro s₃ rfl
    refine codeAny_compLoop_tests (fun k s' => ∃ fz' σ' i h tk ys vs kk mc', s' = { s₂ with heap := h, toks := tk } ∧ (∀ p ∈ fz₂, p ∈ fz') ∧ SX C f fz' m σ' (c :: D :: wr) s' ∧ h.Ns c mc' ∧ h.get? D = some (listOf vs.toArray kk) ∧ Vs (At C fz') vs ys ∧ ys.length ≤ i ∧ St i h ∧ Inv (xs.drop i) ys σ' ∧ i ≤ xs.length ∧ k = xs.length - i) ?_ xs.length
      ⟨fz₂, σ₂, 0, h₁, _, [], [], 0, _, rfl, sub_refl, x3, hns₁, hacc, .nil, Nat.le_refl _, hst₁, q2, Nat.zero_le _, rfl⟩
    rintro k s' ⟨fz', σ', i, h, tk, ys, vs, kk, mc', rfl, u3, x4, hns, hD4, hvs, hyl, st4, q4, hi, rfl⟩
    cases hxi : xs[i]? with
    | none =>
      have hlen : i = xs.length := by have := List.getElem?_eq_none_iff.mp hxi; omega
      subst hlen
      refine W.done _ _ _ st4 fun h' tk' kp hl => ?_
      rw [List.drop_length] at q4
      exact done c D fz' σ' ys vs kk h' tk' mc' u3 (x4.step (t := tk') fun b o hb e => kp b o (fun q => hb (List.mem_cons_of_mem _ (List.mem_cons_of_mem _ q))) e) hcw hDw (Ne.symm hDC) (hns.at' fun o e => kp _ o hcw e) (kp _ _ hDw hD4) hvs hl q4
    | some b =>
      obtain ⟨hlt, hb⟩ := List.getElem?_eq_some_iff.mp hxi
      have hd : xs.drop i = b :: xs.drop (i + 1) := by rw [List.drop_eq_getElem_cons hlt, hb]
      rw [hd] at q4
      refine W.go i _ _ _ b hxi st4 fun v h₂ tk₂ hv st5 kp => ?_
      refine wpAny_assign_Name (wpAny_storeName_local (lookup_relabel_local hx) (hns.at' fun o e => kp _ o hcw e) (fun h₃ hn₃ hs₃ => ?_) (by simp [compEnvC, relabel, hkind]))
      have x5 : SX C f fz' m σ' (c :: D :: wr) { s₂ with heap := h₃, toks := tk₂ + 1 } := x4.step (t := tk₂ + 1) fun b o hb e => hs₃.extBut b o (fun q => hb (by rw [q]; exact List.mem_cons_self ..)) (kp b o (fun q => hb (List.mem_cons_of_mem _ (List.mem_cons_of_mem _ q))) e)
      have hD5 : h₃.get? D = some (listOf vs.toArray kk) := hs₃.extBut _ _ hDC (kp _ _ hDw hD4)
      have st6 : St (i + 1) h₃ := by
        refine W.frame _ _ _ st5 (fun b hb o e => hs₃.extBut b o (fun q => hcw (by have q' : b = c := q; rw [← q']; exact hb)) e) fun b o q => ?_
        rcases q with q | q
        · exact x5.sr.at_ ok (q.mono u3)
        · obtain ⟨mc, news, δ, F, N, R, e, _⟩ := x5
          exact (N _ (R.sub _ (List.mem_append_right _ q))).1
      have he : ER (At C fz') [(x, b)] (fun y => if y = x then some v else mc' y) := fun y a hy => by
        unfold getA at hy
        by_cases q : (x == y) = true
        · rw [if_pos q] at hy; cases hy
          have : x = y := by simpa using q
          exact ⟨v, if_pos this.symm, hv.up u3⟩
        · rw [if_neg q] at hy; cases hy
      obtain ⟨hcn, x6⟩ := SX.names (k := some (scope', cl, c)) x5 hcD hn₃ he
      have hee : compEnvC scope cl c f.env = (f.withComp (some (scope', cl, c)) (ownP (D :: wr) h₃ ++ f.pin)).env := hee₀ c
      have live : ∀ b ∈ D :: wr, ∃ o, (b, o) ∈ ownP (D :: wr) h₃ := fun b hb => by
        rcases List.mem_cons.mp hb with rfl | hb'
        · exact ⟨_, mem_ownP.mpr ⟨hb, hD5⟩⟩
        · obtain ⟨o, ho⟩ := W.live _ _ st6 b hb'; exact ⟨o, mem_ownP.mpr ⟨hb, ho⟩⟩
      have after : ∀ {fz₇ σ₇ s₇}, (∀ p ∈ fz', p ∈ fz₇) → SR C (f.withComp (some (scope', cl, c)) (ownP (D :: wr) h₃ ++ f.pin)) fz₇ m σ₇ s₇ → St (i + 1) s₇.heap ∧ s₇.heap.get? D = some (listOf vs.toArray kk) := by
        intro fz₇ σ₇ s₇ u7 x7
        have pinned : ∀ {b o}, (b, o) ∈ ownP (D :: wr) h₃ ++ f.pin → s₇.heap.get? b = some o := fun {b o} hm => by
          obtain ⟨mc, news, δ, F, N, R, e⟩ := x7
          exact (N _ (R.sub _ (List.mem_append_right _ hm))).1
        refine ⟨W.frame _ _ _ st6 (fun b hb o ho => pinned (List.mem_append_left _ (mem_ownP.mpr ⟨List.mem_cons_of_mem _ hb, ho⟩))) fun b o q => ?_, pinned (List.mem_append_left _ (mem_ownP.mpr ⟨List.mem_cons_self .., hD5⟩))⟩
        rcases q with q | q
        · exact x7.at_ (ok.comp hk') ((q.mono u3).mono u7)
        · exact pinned (List.mem_append_right _ q)
      rw [hee]
      refine wpAny_mono (turn (ownP (D :: wr) h₃ ++ f.pin) c b _ ys σ' q4 hcn (ok.comp hk') fz' _ _ x6) (fun bb s₇ hq => hq.el fun fz₇ σ₇ u7 e7 x7 q7 => ?_) fun _ _ x => x
      cases bb with
      | false =>
        rw [if_neg (by decide)] at q7 ⊢
        obtain ⟨⟨as, has⟩, σ₃, hle, hσc, q7⟩ := q7
        obtain ⟨x8, mc8, hn8⟩ := SX.unname live hpin hL h0 x7 has hle hσc
        obtain ⟨st8, hD8⟩ := after u7 x7
        obtain ⟨hh, tt, ee⟩ := e7
        subst ee
        exact ⟨xs.length - (i + 1), by omega, fz₇, σ₃, i + 1, hh, tt, ys, vs, kk, mc8, rfl, fun p hp => u7 p (u3 p hp), x8, hn8, hD8, hvs.up u7, by omega, st8, q7, hlt, rfl⟩
      | true =>
        rw [if_pos rfl] at q7 ⊢
        refine wpAny_mono (q7 (ok.comp hk') fz₇ s₇ _ x7) (fun y s₈ hq => hq.el fun fz₈ σ₈ ya u8 e8 x8 vy q8 => ?_) fun _ _ x => x
        obtain ⟨⟨as, has⟩, σ₃, hle, hσc, q8⟩ := q8
        obtain ⟨x9, mc9, hn9⟩ := SX.unname live hpin hL h0 x8 has hle hσc
        obtain ⟨st9, hD9⟩ := after (fun p hp => u8 p (u7 p hp)) x8
        obtain ⟨hh, tt, ee⟩ := e7.trans e8
        subst ee
        refine append_at (hsz := by rw [List.size_toArray, hvs.length]; omega) hD9 fun h₅ hs₅ hD₅ => ?_
        refine ⟨xs.length - (i + 1), by omega, fz₈, σ₃, i + 1, h₅, tt, ys ++ [ya], vs ++ [y], kk + 1, mc9, rfl, fun p hp => u8 p (u7 p (u3 p hp)), x9.step (t := tt) fun b o hb e => hs₅.extBut b o (fun q => hb (by rw [q]; exact List.mem_cons_of_mem _ (List.mem_cons_self ..))) e, hn9.sameBut hs₅ (Ne.symm hDC), by simpa using hD₅, ((hvs.up u7).up u8).append (.cons vy .nil), by simp; omega, ?_, q8, hlt, rfl⟩
        refine W.frame _ _ _ st9 (fun b hb o e => hs₅.extBut b o (fun q => hDw (q ▸ hb)) e) fun b o q => ?_
        have ne : b ≠ D := fun e => by
          rcases q with q | q
          · rcases q with q | q
            · obtain ⟨mc, news, δ, F, N, R, e', g1, g2, g3⟩ := x2.wide (t := s₂.toks) [c, D] old (fun b hb => by
                rcases List.mem_cons.mp hb with rfl | hb
                · rw [hC, hD]; exact Nat.le_succ _
                · rw [List.mem_singleton.mp hb, hD]; exact Nat.le_refl _)
              exact g1 _ (R.sub _ (List.mem_append_left _ q)) (by rw [e]; exact List.mem_cons_of_mem _ (List.mem_cons_self ..))
            · have := ok.hk _ _ q; rw [e, h0 D (List.mem_cons_self ..)] at this; cases this
          · exact hpin _ q (by rw [e]; exact List.mem_cons_self ..)
        have : hh.get? b = some o := by
          rcases q with q | q
          · exact x8.at_ (ok.comp hk') (((q.mono u3).mono u7).mono u8)
          · obtain ⟨mc, news, δ, F, N, R, e⟩ := x8
            exact (N _ (R.sub _ (List.mem_append_right _ (List.mem_append_right _ q)))).1
        exact hs₅.extBut b o ne this
  exact codeAny_compStart_list (loop _ rfl) (W.self 0 _ _ _ hst₁ (loop _ rfl))

/-- a row built in a row, as a value -/
theorem we_compG {scope' : Scope} {elt iter : Expr} {x : Str} {px : Pos} {ifs : List Expr} {scope : Scope} {cl : List (Str × Addr)} {pos : Pos} {Q : AVal → AHeap → Prop} (Inv : (AHeap → AHeap) → List AVal → List AVal → AHeap → Prop)
    (hclos : closureFor scope f.env = pure cl)
    (h : WI C n f iter m σ fun back xs σ₂ => xs.length ≤ sizeLine ∧ Inv back xs [] σ₂)
    (turn : ∀ back pin c v xs ys σ', Inv back (v :: xs) ys σ' → σ' c = none → WQ C n (f.withComp (some (scope', cl, c)) pin) ifs m (σ'.set c (.ns [(x, v)])) fun b σ₁ => if b = true then WE C n (f.withComp (some (scope', cl, c)) pin) elt m σ₁ fun y σ₂ => (∃ as, σ₂ c = some (.ns as)) ∧ ∃ σ₃ : AHeap, σ₃.le σ₂ ∧ σ₃ c = none ∧ Inv back xs (ys ++ [y]) σ₃ else (∃ as, σ₁ c = some (.ns as)) ∧ ∃ σ₃ : AHeap, σ₃.le σ₁ ∧ σ₃ c = none ∧ Inv back xs ys σ₃)
    (done : ∀ back ys σ', Inv back [] ys σ' → Q (.lst ys) (back σ'))
    (hee₀ : ∀ c, compEnvC scope cl c f.env = f.envOn (some (scope', cl, c)) := by intro _; rfl) (hk' : scope'.kind = .function := by rfl) (hcell : ∀ y ∈ scope.names, y.2 ≠ .cell := by decide) (hkind : scope.kind = .function := by rfl) (hnames : ∀ y ∈ scope.names, y.2 = .local → scope.names.lookup y.1 = some .local := by decide) (hx : scope.names.lookup x = some .local := by rfl)
    (hs : ∀ x, foldedSetIterable iter f.env x = pure x := by intro _; rfl) : WE C n f (.ListComp elt [⟨.Name x px, iter, ifs, 0⟩] scope pos) m σ Q := fun ok fz s E x0 => by
  rw [eval_ListComp]
  refine wpAny_comprehension_free (use := none) rfl hs hclos hkind hnames (wpAny_mono (h ok fz s E x0) (fun v s₁ q1 => wpAny_mono q1 (fun it s₂ ⟨fz₂, σ₂, I, wr, xs, St, Lent, back, ei, u2, e2, x2, W, st, hz, q2⟩ => ?_) fun _ _ x => x) fun _ _ x => x)
  subst ei
  refine comp_blockG (scope' := scope') (RR := fun acc c => compPost (Md C) f.A E none (PV C f m fz s Q) acc c) (Inv back) ok hee₀ hk' hcell hkind hx x2 W st hz q2 (fun pin c v xs ys σ' => turn back pin c v xs ys σ') ?_
  intro c D fz' σ' ys vs k h tk mc' u3 x3 hcw hDw hcD hns hD hvs hl q3
  refine ⟨mc', hns, fun h'' hs'' => ?_⟩
  have hk : ∀ b o, b ∉ c :: D :: wr → h.get? b = some o → h''.get? b = some o := fun b o hb e => hs''.extBut b o (fun q => hb (by rw [q]; exact List.mem_cons_self ..)) e
  have x4 : SX C f fz' m σ' (c :: D :: wr) { s₂ with heap := h'', toks := tk } := x3.step (t := tk) hk
  have x5 : SX C f fz' m σ' (D :: wr) { s₂ with heap := h'', toks := tk } := x4.sub fun b hb => List.mem_cons_of_mem _ hb
  have hD' : h''.get? D = some (listOf vs.toArray k) := hs''.extBut _ _ (Ne.symm hcD) hD
  have x6 := x5.ice hDw hD'
  have x7 := W.back _ _ _ _ (fun p hp => List.mem_append_right _ (u3 p hp)) x6 (W.lentF _ _ hl fun b hb o e => hs''.extBut b o (fun q => hcw (q ▸ hb)) e)
  exact ⟨_, _, .lst ys, fun p hp => List.mem_append_right _ (u3 p (u2 p hp)), e2.trans ⟨_, _, rfl⟩, x7, .lst (.inl (List.mem_append_left _ (List.mem_singleton.mpr rfl))) rfl rfl (hvs.up fun p hp => List.mem_append_right _ hp), done _ _ _ q3⟩
/-- a row built from a walk: as a value -/
theorem we_compB {elt iter : Expr} {x : Str} {px : Pos} {ifs : List Expr} {scope : Scope} {cl : List (Str × Addr)} {pos : Pos} {Q : AVal → AHeap → Prop} (Inv : (AHeap → AHeap) → List AVal → List AVal → AHeap → Prop)
    (hclos : closureFor scope f.env = pure cl)
    (h : WI C n f iter m σ fun back xs σ₂ => xs.length ≤ sizeLine ∧ Inv back xs [] σ₂)
    (turn : ∀ back pin c v xs ys σ', Inv back (v :: xs) ys σ' → σ' c = none → WQ C n (f.withComp (some (scope, cl, c)) pin) ifs m (σ'.set c (.ns [(x, v)])) fun b σ₁ => if b = true then WE C n (f.withComp (some (scope, cl, c)) pin) elt m σ₁ fun y σ₂ => (∃ as, σ₂ c = some (.ns as)) ∧ ∃ σ₃ : AHeap, σ₃.le σ₂ ∧ σ₃ c = none ∧ Inv back xs (ys ++ [y]) σ₃ else (∃ as, σ₁ c = some (.ns as)) ∧ ∃ σ₃ : AHeap, σ₃.le σ₁ ∧ σ₃ c = none ∧ Inv back xs ys σ₃)
    (done : ∀ back ys σ', Inv back [] ys σ' → Q (.lst ys) (back σ'))
    (hcf : f.comp = none := by rfl) (hcell : ∀ y ∈ scope.names, y.2 ≠ .cell := by decide) (hkind : scope.kind = .function := by rfl) (hnames : ∀ y ∈ scope.names, y.2 = .local → scope.names.lookup y.1 = some .local := by decide) (hx : scope.names.lookup x = some .local := by rfl)
    (hs : ∀ x, foldedSetIterable iter f.env x = pure x := by intro _; rfl) : WE C n f (.ListComp elt [⟨.Name x px, iter, ifs, 0⟩] scope pos) m σ Q :=
  we_compG (scope' := scope) Inv hclos h turn done (fun c => by have hfe : f.env = f.fenv := by unfold Fm.env; rw [hcf]
                                                                rw [hfe]) hkind hcell hkind hnames hx hs
end
end Mine

open PySem PySem.W PyProof.Rows PySem.Calls
namespace Mine
section
variable {C : Cx} {n : Nat} {f : Fm} {m : AEnv} {σ : AHeap}
/-! ## a def of the text, with cells -/
def cellS (cm : Str → Option AVal) : List (Str × Addr) → AHeap → AHeap
  | [], σ => σ
  | (y, c) :: r, σ => (cellS cm r σ).set c (.cell (cm y))
end
end Mine

open PySem PySem.W PyProof.Rows PySem.Calls
namespace Mine
/-! ## data compared -/
mutual
inductive Rd (σ : AHeap) : AVal → PyData → Prop
  | none : Rd σ .none .none
  | bool (b : Bool) : Rd σ (.bool b) (.bool b)
  | int (i : Int) : Rd σ (.int i) (.int i)
  | str (x : Str) : Rd σ (.str x) (.str x)
  | lst {xs : List AVal} {ds : List PyData} : RdAll σ xs ds → Rd σ (.lst xs) (.list ds)
  | tup {xs : List AVal} {ds : List PyData} : RdAll σ xs ds → Rd σ (.tup xs) (.tuple ds)
  | obj {a : Addr} {xs : List AVal} {ds : List PyData} : σ a = some (.list xs) → RdAll σ xs ds → Rd σ (.obj a) (.list ds)
inductive RdAll (σ : AHeap) : List AVal → List PyData → Prop
  | nil : RdAll σ [] []
  | cons {a : AVal} {d : PyData} {xs : List AVal} {ds : List PyData} : Rd σ a d → RdAll σ xs ds → RdAll σ (a :: xs) (d :: ds)
end
section
variable {C : Cx} {n : Nat} {f : Fm} {m : AEnv} {σ : AHeap}
mutual
theorem Rd.reads {fz : Fz} {s : Shared} (ok : f.Ok C n) (x : SR C f fz m σ s) : ∀ {a : AVal} {d : PyData}, Rd σ a d → ∀ {v : Value}, V (At C fz) v a → ∃ as, Reads s.heap v d as
  | _, _, .none, _, h => by cases h; exact ⟨_, .none⟩
  | _, _, .bool b, _, h => by cases h; exact ⟨_, .bool b⟩
  | _, _, .int i, _, h => by cases h; exact ⟨_, .int i _⟩
  | _, _, .str y, _, h => by cases h; exact ⟨_, .str y _⟩
  | _, _, .lst r, _, h => by
    cases h with
    | lst h1 h2 h3 h4 => obtain ⟨as, q⟩ := RdAll.reads ok x r h4; exact ⟨_, .list (x.at_ ok h1) h2 h3 (by simpa using q)⟩
  | _, _, .tup r, _, h => by
    cases h with
    | tup h1 h2 h3 h4 => obtain ⟨as, q⟩ := RdAll.reads ok x r h4; exact ⟨_, .tuple (x.at_ ok h1) h2 h3 (by simpa using q)⟩
  | _, _, .obj e r, _, h => by
    cases h with
    | obj a =>
      obtain ⟨vs, k, h1, h2⟩ := x.list e
      obtain ⟨as, q⟩ := RdAll.reads ok x r h2
      exact ⟨_, .list h1 rfl rfl (by simpa using q)⟩
theorem RdAll.reads {fz : Fz} {s : Shared} (ok : f.Ok C n) (x : SR C f fz m σ s) : ∀ {xs : List AVal} {ds : List PyData}, RdAll σ xs ds → ∀ {vs : List Value}, Vs (At C fz) vs xs → ∃ as, ReadsAll s.heap vs ds as
  | _, _, .nil, _, h => by cases h; exact ⟨_, .nil⟩
  | _, _, .cons r rs, _, h => by
    cases h with
    | cons h1 h2 =>
      obtain ⟨as, q1⟩ := Rd.reads ok x r h1
      obtain ⟨bs, q2⟩ := RdAll.reads ok x rs h2
      exact ⟨_, .cons q1 q2⟩
end
def Dk (k : Nat) (d : PyData) : Prop := d.canLay0 = true ∧ d.depth ≤ k
theorem Dk.int {k : Nat} {i : Int} : Dk k (.int i) := ⟨rfl, Nat.zero_le _⟩
theorem Dk.none {k : Nat} : Dk k .none := ⟨rfl, Nat.zero_le _⟩
theorem Dk.str {k : Nat} {x : Str} (h : PyData.strOk x = true) : Dk k (.str x) := ⟨h, Nat.zero_le _⟩
theorem dk_all {k : Nat} : ∀ {ds : List PyData}, (∀ d ∈ ds, Dk k d) → PyData.canLayAll0 ds = true ∧ PyData.depthAll ds ≤ k
  | [], _ => ⟨rfl, Nat.zero_le _⟩
  | d :: ds, h => by
    obtain ⟨a, b⟩ := h d (List.mem_cons_self ..)
    obtain ⟨c, e⟩ := dk_all fun x hx => h x (List.mem_cons_of_mem _ hx)
    exact ⟨by rw [PyData.canLayAll0, a, c]; rfl, by rw [PyData.depthAll]; exact Nat.max_le.mpr ⟨b, e⟩⟩
theorem Dk.list {k : Nat} {ds : List PyData} (h : ∀ d ∈ ds, Dk k d) : Dk (k + 1) (.list ds) := by
  obtain ⟨a, b⟩ := dk_all h
  exact ⟨by rw [PyData.canLay0]; exact a, by rw [PyData.depth]; omega⟩
theorem Dk.shaped {k : Nat} {d : PyData} (h : Dk k d) (hk : k ≤ 64) : PySem.SeqAt.shaped d = true := by
  unfold PySem.SeqAt.shaped
  rw [h.1, Bool.true_and, decide_eq_true_eq]
  exact Nat.le_trans h.2 hk
theorem t2_eqD {a b : AVal} {da db : PyData} {k : Nat} {Q : AVal → AHeap → Prop} (ra : Rd σ a da) (rb : Rd σ b db) (ha : Dk k da) (hb : Dk k db) (h : Q (.bool (PyData.eqv da db)) σ) (hk : k ≤ 64 := by decide) : T2 C n f (compareOp .Eq) a b m σ Q := fun ok fz s E v w x hv hw => by
  obtain ⟨as, r1⟩ := ra.reads ok x hv
  obtain ⟨bs, r2⟩ := rb.reads ok x hw
  have := ok.units
  exact eq_dataH r1 r2 (ha.shaped hk) (hb.shaped hk) (by omega) (.here x (.bool _) h)
theorem t2_eqS {a b : AVal} {d : PyData} {k : Nat} {Q : AVal → AHeap → Prop} (ra : Rd σ a d) (rb : Rd σ b d) (hd : Dk k d) (h : Q (.bool true) σ) (hk : k ≤ 64 := by decide) : T2 C n f (compareOp .Eq) a b m σ Q :=
  t2_eqD ra rb hd hd (by rw [PySem.SeqAt.eqv_refl d hd.1]; exact h) hk
/-! ## attributes -/
/-- an attribute stored, as a tree -/
def TW (C : Cx) (n : Nat) (f : Fm) (o : AVal) (name : Str) (y : AVal) (m : AEnv) (σ : AHeap) (Q : AHeap → Prop) : Prop :=
  f.Ok C n → ∀ fz s E vo vy, SR C f fz m σ s → V (At C fz) vo o → V (At C fz) vy y → wpAny (Md C) f.A (setAttr vo name vy) (fun _ s' => ∃ fz' σ', (∀ p ∈ fz, p ∈ fz') ∧ Same s s' ∧ SR C f fz' m σ' s' ∧ Q σ') E s
def handedA : AVal → Bool
  | .raw v => handedIn v
  | _ => true
theorem tc_type_fin {c : Addr} {Q : AVal → AHeap → Prop} (h : Q (.raw (.ref c)) σ) : TC C n f (.raw (.type "type")) [.fin c] m σ Q := fun ok fz s E v vs x hv hvs => by
  cases hv; obtain _ | ⟨h1, h2⟩ := hvs; cases h2
  cases h1 with
  | fin p1 p2 => exact ⟨keep_type, kto_own (od := some (dictOf [] 0)) ⟨x.at_ ok p1, rfl, rfl, x.at_ ok p2⟩ (.here x (.raw _) h)⟩
theorem t2_isRef {a : Addr} {Q : AVal → AHeap → Prop} (h : Q (.bool true) σ) : T2 C n f (compareOp .Is) (.raw (.ref a)) (.raw (.ref a)) m σ Q := fun ok fz s E v w x hv hw => by
  cases hv; cases hw; exact wpAny_is_ref_self (.here x (.bool _) h)
end
end Mine

open PySem PySem.W PyProof.Rows PySem.Calls
namespace Mine
def Has (m : AEnv) : List (Str × AVal) → Prop
  | [] => True
  | p :: r => m.get p.1 = some p.2 ∧ Has m r
theorem Has.sub {m : AEnv} : ∀ {l : AEnv}, Has m l → ∀ y a, AEnv.get l y = some a → m.get y = some a
  | [], _, _, _, e => by cases e
  | (z, b) :: r, h, y, a, e => by
    unfold AEnv.get getA at e
    by_cases q : (z == y) = true
    · rw [if_pos q] at e; cases e
      have : z = y := by simpa using q
      subst this; exact h.1
    · rw [if_neg q] at e; exact h.2.sub y a e
theorem AHeap.le_refl (σ : AHeap) : σ.le σ := fun _ _ h => h
theorem AHeap.le_set {σ : AHeap} {l : Addr} {o : AObj} (h : σ l = none) : σ.le (σ.set l o) := fun a b e => by rw [AHeap.set_ne]; exact e; intro q; rw [q, h] at e; cases e
theorem hp_ne {σ : AHeap} {a c : Addr} {o : AObj} (h1 : σ a = some o) (h2 : σ c = none) : a ≠ c := fun q => by rw [q, h2] at h1; cases h1
theorem items_obj {σ : AHeap} {a : Addr} {xs : List AVal} (h : σ a = some (.list xs)) : items σ (.obj a) = some xs := by show (match σ a with | some (.list xs) => some xs | _ => none) = some xs; rw [h]
theorem ret_le {σ : AHeap} {a : AVal} {Q : AVal → AHeap → Prop} (h : Q a σ) : ∃ σ₂ : AHeap, σ₂.le σ ∧ Q (retOf (.ret a)) σ₂ := ⟨σ, AHeap.le_refl σ, h⟩
theorem fmod_pos (x : Int) {y : Int} (h : 0 ≤ y) : x.fmod y = x % y := Int.fmod_eq_emod_of_nonneg x h
theorem fmod_range (x : Int) {y : Int} (h : 0 < y) : 0 ≤ x.fmod y ∧ x.fmod y < y := by
  rw [fmod_pos x (Int.le_of_lt h)]; exact ⟨Int.emod_nonneg x (Int.ne_of_gt h), Int.emod_lt_of_pos x h⟩
theorem W1.weaken {C : Cx} {n : Nat} {f : Fm} {m : AEnv} {σ : AHeap} {st : Stmt} {m' : AEnv} {σ' : AHeap} {Q : AFlow → AEnv → AHeap → Prop} (hm : ∀ y a, m'.get y = some a → m.get y = some a) (hσ : σ'.le σ) (h : W1 C n f st m' σ' Q) : W1 C n f st m σ Q :=
  fun ok fz s E x => h ok fz s E (x.weaken hm hσ)
end Mine

open PySem PySem.W PyProof.Rows PySem.Calls
namespace Mine
end Mine

open PySem PySem.W PyProof.Rows PySem.Calls
namespace Mine
section
variable {C : Cx} {n : Nat} {f : Fm} {m : AEnv} {σ : AHeap}
/-- the five things of a source, as attributes -/
def srcA (s p e b c : AVal) : List (Str × AVal) := [(Str.ofString "_InputSource__system_id", s), (Str.ofString "_InputSource__public_id", p), (Str.ofString "_InputSource__encoding", e), (Str.ofString "_InputSource__bytefile", b), (Str.ofString "_InputSource__charfile", c)]
end
end Mine

open PySem PySem.W PyProof.Rows PySem.Calls
namespace Mine
/-! ## pieces of a def of the text -/
def blkOf : Stmt → Nat → List Stmt
  | .For _ _ b _ _, 0 => b
  | .For _ _ _ o _, _ => o
  | .If _ b _ _, 0 => b
  | .If _ _ o _, _ => o
  | .FunctionDef _ _ b _ _ _ _ _ _ _, _ => b
  | _, _ => []
def subs : List Stmt → List (Nat × Nat) → List Stmt
  | ss, [] => ss
  | ss, (i, j) :: r => match ss[i]? with
    | some st => subs (blkOf st j) r
    | none => []
def segOf (p : Program) (i : Nat) (path : List (Nat × Nat)) (k : Nat) : Option (Scope × List Stmt) :=
  match p.main.body[i]? with
  | some (.FunctionDef _ _ b _ _ _ sc _ _ _) => some (sc, (subs b path).drop k)
  | _ => none
def Seg (p : Program) (i : Nat) (path : List (Nat × Nat)) (k : Nat) (P : Scope → List Stmt → Prop) : Prop :=
  match segOf p i path k with
  | some (sc, ss) => P sc ss
  | none => True
theorem seg_intro {p : Program} {i : Nat} {path : List (Nat × Nat)} {k : Nat} {P : Scope → List Stmt → Prop} {kind : ScopeKind} {names : List (Str × NameKind)} {g c : Bool} {more : List (Str × Const)} {st : Stmt} {ss : List Stmt}
    (ho : segOf p i path k = some (⟨kind, names, g, c, more⟩, st :: ss)) (h : P ⟨kind, names, g, c, more⟩ (st :: ss)) : Seg p i path k P := by
  unfold Seg; rw [ho]; exact h
theorem tc_cat1 {C : Cx} {n : Nat} {f : Fm} {m : AEnv} {σ : AHeap} {fv a : AVal} {as : List AVal} {Q : AVal → AHeap → Prop} (h : TC C n f fv (a :: as) m σ Q) : TC C n f fv ([a] ++ as) m σ Q := h
/-- one statement -/
def Seg1 (p : Program) (i : Nat) (path : List (Nat × Nat)) (k : Nat) (P : Scope → Stmt → Prop) : Prop :=
  match segOf p i path k with
  | some (sc, st :: _) => P sc st
  | _ => True
end Mine

open PySem PySem.W PyProof.Rows PySem.Calls
namespace Mine
def AHeap.del (σ : AHeap) (a : Addr) : AHeap := fun b => if b = a then none else σ b
theorem seg_elim {p : Program} {i : Nat} {path : List (Nat × Nat)} {k : Nat} {P : Scope → List Stmt → Prop} {sc : Scope} {ss : List Stmt} (h : Seg p i path k P) (ho : segOf p i path k = some (sc, ss)) : P sc ss := by
  unfold Seg at h; rw [ho] at h; exact h
section
variable {C : Cx} {n : Nat} {f : Fm} {m : AEnv} {σ : AHeap}
end
end Mine

open PySem PySem.W PyProof.Rows PySem.Calls
namespace Mine
/-! ## an attribute that is not there; a try in a called def -/
section
variable {prog : Program} {w : World} {A : Around} {E : Value → Shared → Prop} {s : Shared} {K : Frag} {x c L : Addr} {h₀ : Heap} {m : Str → Option Value} {ox : Obj} {es : List DictEntry} {n : Nat} {name : Str}
end

/-- a call out of the law's own frame -/
def Fn1 (C : Cx) (n : Nat) (fa : Addr) (as : List AVal) (σ : AHeap) (Q : AVal → AHeap → Prop) : Prop :=
  ∀ f m A, f.outer = [] → f.Ok C n → Near f A → ∀ fz s vs, SR C f fz m σ s → Vs (At C fz) vs as → codeAny (Md C) A (.call (.ref fa) ⟨vs, []⟩) (RV C f m fz s Q) s
/-- statements that raise, the state as it was -/
def XS (C : Cx) (n : Nat) (f : Fm) (ss : List Stmt) (m : AEnv) (σ : AHeap) (X : String) : Prop :=
  f.Ok C n → ∀ fz s E, SR C f fz m σ s → (∀ s₁ h' tk e fz', (∀ p ∈ fz, p ∈ fz') → Same s s₁ → SR C f fz' m σ s₁ → Heap.NewExcOf s₁.heap h' e X → E (.ref e) { s₁ with heap := h', toks := tk }) → wpAny (Md C) f.A (execs ss f.env) (fun _ _ => False) E s
section
variable {C : Cx} {n : Nat} {f : Fm} {m : AEnv} {σ : AHeap}
end
end Mine

open PySem PySem.W PyProof.Rows PySem.Calls
namespace Mine
/-! ## dicts with whole numbers as keys -/
def valA (es : List (Int × AVal)) (k : Int) : Option AVal := (es.find? fun kv => kv.1 = k).map (·.2)
def storeA (es : List (Int × AVal)) (k : Int) (v : AVal) : List (Int × AVal) := if es.any (fun kv => kv.1 = k) then es.map (fun kv => if kv.1 = k then (kv.1, v) else kv) else es ++ [(k, v)]
section
variable {C : Cx} {n : Nat} {f : Fm} {m : AEnv} {σ : AHeap}
end
/-- the law's own frame, nothing around it -/
theorem enter1 {prog : Program} {w : World} {K : Frag} {vp : Program} {loose : List Str} {mean : ExcName → Option Value} {mg mb : Str → Option Value} {H : Heap} {L fa a : Addr} {vs : List Value} {ns : List Int} {qual : Str} {scope : Scope} {cdv : Value} {body : List Stmt} {s : Shared} {Q : Flow → Shared → Prop} {E : Value → Shared → Prop}
    (B : Below callerA H [] H) (X : K.In H) (T : Top vp loose mean mg mb H) (hL : H.IsList a vs.toArray) (hI : IntsAre vs ns) (F : Fr H L s.heap (fun x => List.lookup x [(Str.ofString "script", Value.ref a)].reverse)) (hk : scope.kind = .function) (hn : ns.length ≤ 63)
    (h : ∀ A₀ A base h₀ (ns : List Int), ns.length ≤ 63 → WS ⟨prog, w, K, vp, loose, mean, mg, mb, H, []⟩ 20 ⟨A₀, A, base, h₀, [], L, fa, qual, scope, cdv, [], [], none⟩ body [(Str.ofString "script", .lst (ns.map .int))] (fun _ => none) fun fl _ _ => fl = .ret (.bool true))
    (hQ : ∀ h' tk mc', Fr H L h' mc' → Q (.ret (.bool true)) { s with heap := h', toks := tk }) :
    wpAny (model prog w) (callerA.deeper (envOf qual scope L fa cdv)) (execs body (envOf qual scope L fa cdv)) Q E s := by
  have hE : ER (At ⟨prog, w, K, vp, loose, mean, mg, mb, H, []⟩ []) [(Str.ofString "script", .lst (ns.map .int))] (fun x => List.lookup x [(Str.ofString "script", Value.ref a)].reverse) := fun y v hy => by
    unfold getA at hy
    by_cases q : (Str.ofString "script" == y) = true
    · rw [if_pos q] at hy; cases hy
      have : Str.ofString "script" = y := by simpa using q
      subst this
      obtain ⟨o, h1, h2, k, h3⟩ := hL
      exact ⟨.ref a, by simp, .lst (.inr h1) h2 h3 (vs_ints hI)⟩
    · rw [if_neg q] at hy; cases hy
  have ok : Fm.Ok ⟨prog, w, K, vp, loose, mean, mg, mb, H, []⟩ 20 ⟨callerA, callerA.deeper (envOf qual scope L fa cdv), H, H, [], L, fa, qual, scope, cdv, [], [], none⟩ :=
    ⟨B, X, T, fun _ _ h => h, rfl, rfl, rfl, (show 1 + claimMargin + 1 + 3 * 20 < recursionLimit by decide), (show 4 + 3 + 10 * 20 + 100 < cLine by decide), hk, hk⟩
  have x : SR ⟨prog, w, K, vp, loose, mean, mg, mb, H, []⟩ ⟨callerA, callerA.deeper (envOf qual scope L fa cdv), H, H, [], L, fa, qual, scope, cdv, [], [], none⟩ [] [(Str.ofString "script", .lst (ns.map .int))] (fun _ => none) s :=
    ⟨_, [], id, F, News.nil, ⟨fun p hp => (nomatch hp), fun p hp => (nomatch hp), fun a ao e => (nomatch e), fun a ao e => (nomatch e), fun a c as e => (nomatch e), fun a c as e => (nomatch e), (by rintro p ⟨⟩), fun a c as b c' bs e => (nomatch e)⟩, hE⟩
  refine wpAny_mono (h callerA _ H H ns hn ok [] s E x) (fun fl s' hq => hq.el fun fz' σ' m' a u es x2 va q => ?_) fun _ _ z => z
  subst q
  cases fl with
  | ret v =>
    cases va
    obtain ⟨h', tk, rfl⟩ := es
    obtain ⟨mc', news, δ, F', N', R, e⟩ := x2
    exact hQ h' tk mc' F'
  | _ => exact va.elim
end Mine

open PySem PySem.W PyProof.Rows PySem.Calls
set_option linter.unusedSectionVars false
namespace Mine
section
variable {C : Cx} {n : Nat} {f : Fm} {m : AEnv} {σ : AHeap}
def zipA : List AVal → List AVal → List (List AVal)
  | x :: xs, y :: ys => [x, y] :: zipA xs ys
  | _, _ => []
end
/-! ## a state by its parts -/
def up {I α : Type} [DecidableEq I] (f : I → α) (x : I) (v : α) : I → α := fun y => if y = x then v else f y
def NeQ {I : Type} (ad : I → Addr) (L : I → Prop) : Prop := ∀ x y, L x → L y → x ≠ y → ad x ≠ ad y
structure Hx {I : Type} (σ : AHeap) (ad : I → Addr) (L : I → Prop) (o : I → AObj) : Prop where
  at_ : ∀ y, L y → σ (ad y) = some (o y)
  ne : NeQ ad L
section
variable {I : Type} [DecidableEq I] {σ : AHeap} {ad : I → Addr} {L : I → Prop} {o : I → AObj}
end
/-- the five things of a source -/
def srcV (v : Nat → AVal) : List (Str × AVal) := srcA (v 0) (v 1) (v 2) (v 3) (v 4)
end Mine

open PySem PySem.W PyProof.Rows PySem.Calls
namespace Mine
end Mine

open PySem PySem.W PyProof.Rows PySem.Calls
namespace Mine
section
variable {C : Cx} {n : Nat} {f : Fm} {m : AEnv} {σ : AHeap}
end
end Mine

open PySem PySem.W PyProof.Rows PySem.Calls
namespace Mine
/-! ## defs inside defs -/
def lookT (pos : Pos) : List (Pos × Str) → Option Str
  | [] => none
  | (p, q) :: r => if ((p.line : Int) == pos.line && (p.col : Int) == pos.col) = true then some q else lookT pos r
def tabWith (pos : Pos) (q : Str) (es : List (Pos × Str)) : Option (List (Pos × Str)) := match lookT pos es with
  | some q' => if q' = q then some es else none
  | none => some (es ++ [(pos, q)])
section
variable {C : Cx} {n : Nat} {f : Fm} {m : AEnv} {σ : AHeap}
end
end Mine

open PySem PySem.W PyProof.Rows PySem.Calls
namespace Mine
section
variable {C : Cx} {n : Nat} {f : Fm} {m : AEnv} {σ : AHeap}
def CellsOf : AHeap → List Addr → List AVal → AHeap → Prop
  | σ, [], [], σ' => σ' = σ
  | σ, c :: cs, x :: xs, σ' => σ c = some (.cell (some x)) ∧ CellsOf (σ.del c) cs xs σ'
  | _, _, _, _ => False
@[reducible] def Cx.withFr (C : Cx) (l : List (Addr × AVal)) : Cx := { C with fr := l ++ C.fr }
end
end Mine

open PySem PySem.W PyProof.Rows PySem.Calls
namespace Mine
/-! ## own functions of a thing, bound methods, functions of a class -/
section
open Builtin Builtin.ObjectAttr
variable {prog : Program} {w : World} {A : Around} {E : Value → Shared → Prop} {s : Shared} {K : Frag} {x C L f : Addr} {h₀ : Heap} {m : Str → Option Value} {ox : Obj} {od : Obj} {es : List DictEntry} {n : Nat} {name : Str} {v : Value} {pl : Sem Bool}
end
section
variable {C : Cx} {n : Nat} {f : Fm} {m : AEnv} {σ : AHeap}
end
end Mine

open PySem PySem.W PyProof.Rows PySem.Calls

open PySem PySem.W PyProof.Rows PySem.Calls
namespace Mine
section
variable {C : Cx} {n : Nat} {f : Fm} {m : AEnv} {σ : AHeap}
end
end Mine

open PySem PySem.W PyProof.Rows PySem.Calls
namespace Mine
section
variable {C : Cx} {n : Nat} {f : Fm} {m : AEnv} {σ : AHeap}
/-! ## bytes -/
end
end Mine

open PySem PySem.W PyProof.Rows PySem.Calls
namespace Mine
section
variable {C : Cx} {n : Nat} {f : Fm} {m : AEnv} {σ : AHeap}
/-! ## texts -/
theorem t2_addS {x y : Str} {Q : AVal → AHeap → Prop} (hl : x.length + y.length ≤ sizeLine) (h : Q (.str (x ++ y)) σ) : T2 C n f (binaryOp .Add) (.str x) (.str y) m σ Q := fun ok fz s E v w x' hv hw => by
  cases hv; cases hw
  exact PyProof.Rows.add_str (fun t' k => .tok x' (.str _ _) h) hl
theorem t2_eqT {x y : Str} {Q : AVal → AHeap → Prop} (h : Q (.bool (x == y)) σ) : T2 C n f (compareOp .Eq) (.str x) (.str y) m σ Q := fun ok fz s E v w x' hv hw => by
  cases hv; cases hw
  exact PyProof.Rows.eq_str (.here x' (.bool _) h)
theorem tc_strInt {a : Int} {Q : AVal → AHeap → Prop} (ha : a.natAbs.log2 < 1920) (h : Q (.str (Str.ofString (toString a))) σ) : TC C n f (.raw (.type "str")) [.int a] m σ Q := fun ok fz s E v vs x hv hvs => by
  cases hv; obtain _ | ⟨h1, h2⟩ := hvs; cases h2
  cases h1
  exact ⟨keep_type, P.str_of_int ha (.tok x (.str _ _) h)⟩
theorem tc_intStr {x : Str} {a : Int} {Q : AVal → AHeap → Prop} (ha : PySem.intText? x = some a) (hl : x.length ≤ 640) (h : Q (.int a) σ) : TC C n f (.raw (.type "int")) [.str x] m σ Q := fun ok fz s E v vs x' hv hvs => by
  cases hv; obtain _ | ⟨h1, h2⟩ := hvs; cases h2
  cases h1
  exact ⟨keep_type, KIN.call_text ha hl (.tok x' (.int _ _) h)⟩
theorem tc_chr {i : Int} {Q : AVal → AHeap → Prop} (hi : (decide (i < 0) || decide (i > 0x10FFFF)) = false) (h : Q (.str ⟨#[i.toNat]⟩) σ) : TC C n f (.raw (.builtin "chr")) [.int i] m σ Q := fun ok fz s E v vs x hv hvs => by
  cases hv; obtain _ | ⟨h1, h2⟩ := hvs; cases h2
  cases h1
  exact ⟨keep_builtin, P.chr_of_int hi (.tok x (.str _ _) h)⟩
theorem tg_split {x : Str} {Q : AVal → List AVal → AHeap → Prop} (h : Q (.raw (.builtin "str.split")) [.str x] σ) : TG C n f "split" (.str x) m σ Q := fun ok fz s E v pl x' hv => by
  cases hv
  exact GM.split ⟨fz, σ, _, _, sub_refl, .rfl, x', .raw _, .cons (.str _ _) .nil, h⟩
theorem tg_rsplit {x : Str} {Q : AVal → List AVal → AHeap → Prop} (h : Q (.raw (.builtin "str.rsplit")) [.str x] σ) : TG C n f "rsplit" (.str x) m σ Q := fun ok fz s E v pl x' hv => by
  cases hv
  exact GM.rsplit ⟨fz, σ, _, _, sub_refl, .rfl, x', .raw _, .cons (.str _ _) .nil, h⟩
theorem tg_join {x : Str} {Q : AVal → List AVal → AHeap → Prop} (h : Q (.raw (.builtin "str.join")) [.str x] σ) : TG C n f "join" (.str x) m σ Q := fun ok fz s E v pl x' hv => by
  cases hv
  exact GM.join ⟨fz, σ, _, _, sub_refl, .rfl, x', .raw _, .cons (.str _ _) .nil, h⟩
theorem vs_strs {P : Addr → Obj → Prop} : ∀ (l : List (Str × Tok)), Vs P (strValues l) ((l.map (·.1)).map .str)
  | [] => .nil
  | _ :: r => .cons (.str _ _) (vs_strs r)
theorem strs_vs {P : Addr → Obj → Prop} : ∀ {vs : List Value} {ys : List Str}, Vs P vs (ys.map .str) → StrsAre vs ys
  | _, [], .nil => .nil
  | _, _ :: _, .cons (.str _ t) h => .cons _ t (strs_vs h)
theorem tc_join {x : Str} {a : AVal} {ys : List Str} {Q : AVal → AHeap → Prop} (ha : items σ a = some (ys.map .str)) (hsep : x.length ≤ 16) (hw : (ys.map (·.length)).sum + ys.length ≤ 1048576) (h : Q (.str (Txt.join x ys)) σ) : TC C n f (.raw (.builtin "str.join")) [.str x, a] m σ Q := fun ok fz s E v vs x' hv hvs => by
  cases hv; obtain _ | ⟨h1, h2⟩ := hvs; obtain _ | ⟨h3, h4⟩ := h2; cases h4
  cases h1
  obtain ⟨l, us, rfl, hlv, hus⟩ := h3.items ok x' ha
  exact ⟨keep_builtin, join_listW hlv (by simpa using strs_vs hus) hsep hw fun t' k => .tok x' (.str _ _) h⟩
theorem tc_split1 {x y : Str} {Q : AVal → AHeap → Prop} (hy : (y.length == 0) = false) (hsz : x.length + 2 ≤ sizeLine) (h : Q (.lst ((Txt.split x y).map .str)) σ) : TC C n f (.raw (.builtin "str.split")) [.str x, .str y] m σ Q := fun ok fz s E v vs x' hv hvs => by
  cases hv; obtain _ | ⟨h1, h2⟩ := hvs; obtain _ | ⟨h3, h4⟩ := h2; cases h4
  cases h1; cases h3
  obtain ⟨mc, news, F, N, k⟩ := x'.newFz
  refine ⟨keep_builtin, splitN1 F N hy (fun l h' tk e F' N' => ?_) hsz⟩
  exact ⟨_, σ, .lst ((Txt.split x y).map .str), fun p hp => List.mem_append_right _ hp, ⟨_, _, rfl⟩, k h' tk _ F' N', .lst (vs := strValues l) (.inl (List.mem_append_left _ (List.mem_singleton.mpr rfl))) rfl rfl (by rw [← e]; exact vs_strs l), h⟩
theorem tc_split2 {x y : Str} {k : Int} {Q : AVal → AHeap → Prop} (hy : (y.length == 0) = false) (hk : (decide (k < -(2 ^ 63 : Int)) || decide (k ≥ 2 ^ 63)) = false) (hsz : x.length + 2 ≤ sizeLine) (h : Q (.lst ((Txt.splitMax x y k).map .str)) σ) : TC C n f (.raw (.builtin "str.split")) [.str x, .str y, .int k] m σ Q := fun ok fz s E v vs x' hv hvs => by
  cases hv; obtain _ | ⟨h1, h2⟩ := hvs; obtain _ | ⟨h3, h4⟩ := h2; obtain _ | ⟨h5, h6⟩ := h4; cases h6
  cases h1; cases h3; cases h5
  obtain ⟨mc, news, F, N, kk⟩ := x'.newFz
  refine ⟨keep_builtin, splitN2A F N hy hk (fun l h' tk e _ _ _ F' N' => ?_) hsz⟩
  exact ⟨_, σ, .lst ((Txt.splitMax x y k).map .str), fun p hp => List.mem_append_right _ hp, ⟨_, _, rfl⟩, kk h' tk _ F' N', .lst (vs := strValues l) (.inl (List.mem_append_left _ (List.mem_singleton.mpr rfl))) rfl rfl (by rw [← e]; exact vs_strs l), h⟩
theorem tc_rsplit2 {x y : Str} {k : Int} {Q : AVal → AHeap → Prop} (hy : (y.length == 0) = false) (hk : (decide (k < -(2 ^ 63 : Int)) || decide (k ≥ 2 ^ 63)) = false) (hsz : x.length + 2 ≤ sizeLine) (h : Q (.lst ((Txt.rsplitMax x y k).map .str)) σ) : TC C n f (.raw (.builtin "str.rsplit")) [.str x, .str y, .int k] m σ Q := fun ok fz s E v vs x' hv hvs => by
  cases hv; obtain _ | ⟨h1, h2⟩ := hvs; obtain _ | ⟨h3, h4⟩ := h2; obtain _ | ⟨h5, h6⟩ := h4; cases h6
  cases h1; cases h3; cases h5
  obtain ⟨mc, news, F, N, kk⟩ := x'.newFz
  refine ⟨keep_builtin, rsplitN2A F N hy hk (fun l h' tk e _ _ _ F' N' => ?_) hsz⟩
  exact ⟨_, σ, .lst ((Txt.rsplitMax x y k).map .str), fun p hp => List.mem_append_right _ hp, ⟨_, _, rfl⟩, kk h' tk _ F' N', .lst (vs := strValues l) (.inl (List.mem_append_left _ (List.mem_singleton.mpr rfl))) rfl rfl (by rw [← e]; exact vs_strs l), h⟩
theorem tc_type_tup {xs : List AVal} {Q : AVal → AHeap → Prop} (h : Q (.raw (.type "tuple")) σ) : TC C n f (.raw (.type "type")) [.tup xs] m σ Q := fun ok fz s E v vs x hv hvs => by
  cases hv; obtain _ | ⟨h1, h2⟩ := hvs; cases h2
  obtain ⟨t, us, rfl, hl, _⟩ := h1.tuple_ ok x
  exact ⟨keep_type, call_type_of hl.typeIs (by decide) (.here x (.raw _) h)⟩
theorem we_sliceS {value : Expr} {lower upper : Option Expr} {p pos : Pos} {Q : AVal → AHeap → Prop}
    (h : WE C n f value m σ fun a σ₁ => WO C n f lower m σ₁ fun l σ₂ => WO C n f upper m σ₂ fun u σ₃ => ∃ x, a = .str x ∧ x.length ≤ sizeLine ∧ ((∃ j, l = .none ∧ u = .int j ∧ Q (.str (Txt.slice x none (some j))) σ₃) ∨ (∃ i, l = .int i ∧ u = .none ∧ Q (.str (Txt.slice x (some i) none)) σ₃)))
    (ht : ∀ b t r, letTemporaryGo value (.str b t) r = pure () := by intro _ _ _; rfl) : WE C n f (.Subscript value (.Slice lower upper none p) pos) m σ Q := fun ok fz s E x0 => by
  refine Subscript_ (wpAny_mono (h ok fz s E x0) (fun v s₁ hq => hq.el fun fz₁ σ₁ a u1 e1 x1 va q1 => wpAny_Slice (wpAny_mono (q1 ok fz₁ s₁ E x1) (fun l s₂ hq => hq.el fun fz₂ σ₂ al u2 e2 x2 vl q2 => wpAny_mono (q2 ok fz₂ s₂ E x2) (fun u s₃ hq => hq.el fun fz₃ σ₃ au u3 e3 x3 vu q3 => ?_) fun _ _ x => x) fun _ _ x => x)) fun _ _ x => x)
  obtain ⟨x, rfl, hz, q3⟩ := q3
  refine wpAny_pure ?_
  cases va
  obtain ⟨mc, news, δ, F, N, R, e⟩ := x3
  rcases q3 with ⟨j, rfl, rfl, q⟩ | ⟨i, rfl, rfl, q⟩
  · cases vu; cases vl
    refine slice_strN_ns F N (fun h' t' k F' N' => ?_) rfl (ht _ _) hz
    exact PV.up (fun p hp => u3 p (u2 p (u1 p hp))) ((e1.trans e2).trans e3) ⟨fz₃, σ₃, .str _, sub_refl, ⟨_, _, rfl⟩, ⟨mc, news, δ, F', N', R, e⟩, .str _ _, q⟩
  · cases vu; cases vl
    refine slice_strN_sn F N (fun h' t' k F' N' => ?_) rfl (ht _ _) hz
    exact PV.up (fun p hp => u3 p (u2 p (u1 p hp))) ((e1.trans e2).trans e3) ⟨fz₃, σ₃, .str _, sub_refl, ⟨_, _, rfl⟩, ⟨mc, news, δ, F', N', R, e⟩, .str _ _, q⟩
end
end Mine

open PySem PySem.W PyProof.Rows
set_option maxHeartbeats 8000000
namespace Mine
open_top hd05 for PySem.Challenge.rw_dn0301_05
end Mine

open PySem PySem.W PyProof.Rows PySem.Calls
open Mine
local macro_rules | `(tactic| walk_at "hp") => `(tactic| first
  | assumption
  | exact AHeap.set_same ..
  | (refine (AHeap.set_ne _ _ ?_).trans ?_; first | (first | assumption | exact Ne.symm (by assumption) | exact hp_ne (by assumption) (by assumption) | exact Ne.symm (hp_ne (by assumption) (by assumption)) | walk_at "hne"); walk_at "hp"))
local macro_rules | `(tactic| walk_at "we") => `(tactic| first
  | with_reducible refine we_int ?_
  | ((with_reducible refine' we_local ?h1 ?h2 ?_ ?h3 ?h4); (case h1 => rfl); (case h2 => rfl); (case h3 => decide); (case h4 => rfl))
  | ((with_reducible refine' we_cell ?h1 ?h2 ?h4 ?_ ?h3); (case h1 => rfl); (case h2 => rfl); (case h4 => walk_at "hp"); (case h3 => decide))
  | ((with_reducible refine' we_clocal ?h1 ?h2 ?h4 ?h5 ?_ ?h3); (case h1 => rfl); (case h2 => rfl); (case h4 => walk_at "hp"); (case h5 => rfl); (case h3 => decide))
  | with_reducible refine we_binop ?_
  | with_reducible refine we_str ?_
  | with_reducible refine we_none ?_
  | with_reducible refine we_bool ?_
  | with_reducible refine we_unary ?_
  | with_reducible refine we_ifexp ?_
  | with_reducible refine we_andN ?_
  | with_reducible refine we_orN ?_
  | with_reducible refine we_one ?_
  | ((with_reducible refine we_compare ?_ ?h1); (case h1 => rfl))
  | ((with_reducible refine' we_global ?h1 ?h2 ?_ ?h3); (case h1 => rfl); (case h2 => assumption); (case h3 => decide))
  | ((with_reducible refine' we_builtin ?h1 ?h2 ?h4 ?_ ?h5 ?h3); (case h1 => rfl); (case h2 => assumption); (case h4 => boot_by_name); (case h5 => decide); (case h3 => decide))
  | ((with_reducible refine we_call ?_ ?h1); (case h1 => rfl))
  | (refine we_method ?_)
  | ((with_reducible refine we_attr ?_ ?h1); (case h1 => rfl))
  | with_reducible refine we_tup ?_
  | with_reducible refine we_lst ?_
  | with_reducible refine we_sub (slice := .Name _ _) ?_
  | with_reducible refine we_sub (slice := .Constant _ _ _) ?_
  | with_reducible refine we_sub (slice := .BinOp _ _ _ _) ?_
  | with_reducible refine we_sub (slice := .UnaryOp _ _ _) ?_
  | with_reducible refine we_sub (slice := .Call _ _ _ _) ?_
  | with_reducible refine we_sub (slice := .Subscript _ _ _) ?_)
local macro_rules | `(tactic| walk_at "t2") => `(tactic| first
  | with_reducible refine t2_add ?_
  | with_reducible refine t2_sub ?_
  | with_reducible refine t2_eq ?_
  | with_reducible refine t2_ne ?_
  | with_reducible refine t2_lt ?_
  | with_reducible refine t2_gt ?_
  | ((with_reducible refine t2_div ?h1 ?h2 ?_); (case h1 => decide); (case h2 => decide))
  | ((with_reducible refine t2_mod ?h1 ?h2 ?_); (case h1 => decide); (case h2 => decide))
  | with_reducible refine t2_isNone ?_
  | with_reducible refine t2_isNotNone ?_)
local macro_rules | `(tactic| walk_at "tc") => `(tactic| first
  | with_reducible refine tc_cat1 ?_
  | walk_at "tcx"
  | ((with_reducible refine' tc_len ?h1 ?h2 ?_); (case h1 => first | rfl | exact items_obj (by walk_at "hp")); (case h2 => first | decide | (simp <;> omega)))
  | with_reducible refine tc_max ?_
  | with_reducible refine tc_min ?_)
local macro_rules | `(tactic| walk_at "fw") => `(tactic| first
  | ((with_reducible show WE _ _ _ _ _ _ _); walk_at "we")
  | ((with_reducible show WL _ _ _ _ _ _ _ _); (first | ((with_reducible refine wl_cons ?_ ?h1); (case h1 => rfl)) | with_reducible refine wl_nil ?_))
  | ((with_reducible show T2 _ _ _ _ _ _ _ _ _); walk_at "t2")
  | ((with_reducible show T1 _ _ _ _ _ _ _ _); first | with_reducible refine t1_neg ?_ | ((refine' t1_attr ?h1 ?h2 ?h3 ?h4 ?h5 ?h6 ?h7 ?_); (case h1 => walk_at "hp"); (case h2 => rfl); (case h3 => apply_assumption); (case h4 => assumption); (case h5 => assumption); (case h6 => rfl); (case h7 => first | assumption | rfl)))
  | ((with_reducible show TW _ _ _ _ _ _ _ _ _); ((refine' tw_inst ?h1 ?h2 ?h3 ?h4 ?h5 ?h6 ?_); (case h1 => walk_at "hp"); (case h2 => assumption); (case h3 => assumption); (case h4 => assumption); (case h5 => assumption); (case h6 => exact Nat.le_of_ble_eq_true (by rfl))))
  | ((with_reducible show TB _ _ _ _ _ _ _ _); with_reducible refine tb_bool ?_)
  | ((with_reducible show TG _ _ _ _ _ _ _ _); first | ((with_reducible refine' tg_fin ?h1 ?h2 ?h3 ?_); (case h1 => apply_assumption); (case h2 => assumption); (case h3 => assumption)) | ((with_reducible refine' tg_inst ?h1 ?h2 ?h3 ?h4 ?h5 ?_); (case h1 => walk_at "hp"); (case h2 => rfl); (case h3 => apply_assumption); (case h4 => assumption); (case h5 => assumption)))
  | ((with_reducible show List.length _ ≤ sizeLine ∧ _); refine And.intro (by first | decide | (simp [sizeLine_eq])) ?_)
  | ((with_reducible show (if true = true then _ else _)); rw [if_pos rfl])
  | ((with_reducible show (if false = true then _ else _)); rw [if_neg Bool.false_ne_true])
  | ((with_reducible show TC _ _ _ _ _ _ _ _); walk_at "tc")
  | ((with_reducible show WT _ _ _ _ _ _ _); first | ((with_reducible refine wt_compare ?_ ?h1); (case h1 => rfl)) | (with_reducible refine wt_bool ?_) | (with_reducible refine wt_not ?_))
  | ((with_reducible show WA _ _ _ _ _ _ _ _); first | (with_reducible refine wa_or ?_) | (with_reducible refine wa_or_nil ?_) | (with_reducible refine wa_and ?_) | (with_reducible refine wa_and_nil ?_))
  | ((with_reducible show WO _ _ _ _ _ _ _); first | (with_reducible refine wo_none ?_) | (with_reducible refine wo_some ?_))
  | ((with_reducible show WQ _ _ _ _ _ _ _); first | (with_reducible refine wq_nil ?_) | (with_reducible refine wq_one ?_))
  | ((with_reducible show WS _ _ _ _ _ _ _); (first | with_reducible refine ws_cons ?_ | with_reducible refine ws_nil ?_))
  | ((with_reducible show W1 _ _ _ _ _ _ _); (first | with_reducible refine w1_return ?_ | with_reducible refine w1_if ?_ | ((with_reducible refine w1_assign ?_ ?h1); (case h1 => rfl)) | ((with_reducible refine w1_assignT ?_ ?h1 ?h2); (case h1 => rfl); (case h2 => rfl)) | ((with_reducible refine w1_setItem ?_ ?h1); (case h1 => rfl)) | ((with_reducible refine w1_setAttr ?_ ?h1); (case h1 => rfl)) | ((with_reducible refine w1_expr ?_ ?h1 ?h2); (case h1 => rfl); (case h2 => rfl))))
  | ((with_reducible show TA _ _ _ _ _ _ _ _); (first | (refine ta_tup ?_) | (refine ta_name (ts_local (by rfl) ?_ (by rfl))) | (refine ta_name (ts_cell (by rfl) (by rfl) (by walk_at "hp") ?_)) | (with_reducible refine ta_sub ?_)))
  | ((with_reducible show TS _ _ _ _ _ _ _ _); first | (refine ts_local (by rfl) ?_ (by rfl)) | (refine ts_cell (by rfl) (by rfl) (by walk_at "hp") ?_))
  | ((with_reducible show TAs _ _ _ _ _ _ _ _); (first | (refine tas_cons ?_) | (refine tas_nil ?_)))
  | ((with_reducible show (_ = true → _) ∧ (_ = false → _)); (first | exact And.intro (fun hk => absurd hk (by decide)) (fun hk => absurd hk (by decide)) | refine And.intro (fun _ => ?_) (fun hk => absurd hk (by decide)) | refine And.intro (fun hk => absurd hk (by decide)) (fun _ => ?_) | refine And.intro (fun hk => ?_) (fun hk => ?_))))
local macro_rules | `(tactic| walk_at "fe") => `(tactic| ((fail_if_success (with_reducible show WS _ _ _ _ _ _ _)); walk_at "fw"))
namespace Mine
/-- what the text's top has -/
structure K05 (C : Cx) : Prop where
  hK : C.K = hd05.heap_39 C.w.params
  g_Locator : nsIn C.K mainGlobals (Str.ofString "Locator") = some (some (.ref 52))
  g__law_said : nsIn C.K mainGlobals (Str.ofString "_law_said") = some (some (.ref 63))
  g__law_read : nsIn C.K mainGlobals (Str.ofString "_law_read") = some (some (.ref 70))
  k_52 : keepIn C.K (.ref 52) = true
  k_63 : keepIn C.K (.ref 63) = true
  k_70 : keepIn C.K (.ref 70) = true
  b_type : nsIn C.K mainGlobals (Str.ofString "type") = some none
  b_str : nsIn C.K mainGlobals (Str.ofString "str") = some none
  b_int : nsIn C.K mainGlobals (Str.ofString "int") = some none
  b_chr : nsIn C.K mainGlobals (Str.ofString "chr") = some none
  mk_52 : makesIn C.K 52 = true
  ini_52 : findIn C.K (.ref 52) (Str.ofString "__init__") = some (some (.builtin "object.__init__"))
  pg_52 : ∀ name, plainGet C.K 52 name = true
  f_52_28 : findIn C.K (.ref 52) (Str.ofString "getColumnNumber") = some (some (.ref 28))
  i_52_28 : isFn C.K (.ref 28) = true
  k_52_28 : keepIn C.K (.ref 28) = true
  f_52_35 : findIn C.K (.ref 52) (Str.ofString "getLineNumber") = some (some (.ref 35))
  i_52_35 : isFn C.K (.ref 35) = true
  k_52_35 : keepIn C.K (.ref 35) = true
  f_52_42 : findIn C.K (.ref 52) (Str.ofString "getPublicId") = some (some (.ref 42))
  i_52_42 : isFn C.K (.ref 42) = true
  k_52_42 : keepIn C.K (.ref 42) = true
  f_52_49 : findIn C.K (.ref 52) (Str.ofString "getSystemId") = some (some (.ref 49))
  i_52_49 : isFn C.K (.ref 49) = true
  k_52_49 : keepIn C.K (.ref 49) = true
theorem k05 {C : Cx} (hK : C.K = hd05.heap_39 C.w.params) : K05 C := by
  obtain ⟨prog, w, K, vp, loose, mean, mg, mb, H⟩ := C
  dsimp only at hK
  subst hK
  constructor <;> first | kernel_rfl | rfl | (intro name; kernel_rfl)
section
variable {C : Cx} {n : Nat} {σ : AHeap} {Q : AVal → AHeap → Prop} {a : AVal}
theorem getColumnNumber (K : K05 C) (h : Q (.int (-1)) σ) : Fn C (n + 1) 28 [a] σ Q := by
  refine fn_plain (ns := [Str.ofString "self"]) (dv := []) (da := []) (ho := by rw [K.hK]; rfl) (hcd := by rw [K.hK]; kernel_rfl) (hbind := ?_) (hd := fun _ => .nil) (hnd := by decide) (hloc := by decide) (h := ?_)
  · intro S vs hv
    match vs, hv with
    | [v], _ => rfl
  · intro A₀ A base h₀ outer L pin
    exact ws_cons (w1_return (we_unary (we_int (t1_neg (ret_le h)))))
theorem getLineNumber (K : K05 C) (h : Q (.int (-1)) σ) : Fn C (n + 1) 35 [a] σ Q := by
  refine fn_plain (ns := [Str.ofString "self"]) (dv := []) (da := []) (ho := by rw [K.hK]; rfl) (hcd := by rw [K.hK]; kernel_rfl) (hbind := ?_) (hd := fun _ => .nil) (hnd := by decide) (hloc := by decide) (h := ?_)
  · intro S vs hv
    match vs, hv with
    | [v], _ => rfl
  · intro A₀ A base h₀ outer L pin
    exact ws_cons (w1_return (we_unary (we_int (t1_neg (ret_le h)))))
theorem getPublicId (K : K05 C) (h : Q .none σ) : Fn C (n + 1) 42 [a] σ Q := by
  refine fn_plain (ns := [Str.ofString "self"]) (dv := []) (da := []) (ho := by rw [K.hK]; rfl) (hcd := by rw [K.hK]; kernel_rfl) (hbind := ?_) (hd := fun _ => .nil) (hnd := by decide) (hloc := by decide) (h := ?_)
  · intro S vs hv
    match vs, hv with
    | [v], _ => rfl
  · intro A₀ A base h₀ outer L pin
    exact ws_cons (w1_return (we_none (ret_le h)))
theorem getSystemId (K : K05 C) (h : Q .none σ) : Fn C (n + 1) 49 [a] σ Q := by
  refine fn_plain (ns := [Str.ofString "self"]) (dv := []) (da := []) (ho := by rw [K.hK]; rfl) (hcd := by rw [K.hK]; kernel_rfl) (hbind := ?_) (hd := fun _ => .nil) (hnd := by decide) (hloc := by decide) (h := ?_)
  · intro S vs hv
    match vs, hv with
    | [v], _ => rfl
  · intro A₀ A base h₀ outer L pin
    exact ws_cons (w1_return (we_none (ret_le h)))
end
end Mine

open PySem PySem.W PyProof.Rows PySem.Calls
local macro_rules | `(tactic| walk_at "tcx") => `(tactic| first
  | ((with_reducible refine tc_fn ?h1 (getLineNumber ?h2 ?_)); (case h1 => assumption); (case h2 => assumption))
  | ((with_reducible refine tc_fn ?h1 (getColumnNumber ?h2 ?_)); (case h1 => assumption); (case h2 => assumption))
  | ((with_reducible refine tc_fn ?h1 (getPublicId ?h2 ?_)); (case h1 => assumption); (case h2 => assumption))
  | ((with_reducible refine tc_fn ?h1 (getSystemId ?h2 ?_)); (case h1 => assumption); (case h2 => assumption))
  | ((with_reducible refine tc_fin ?h1 ?h2 ?h3 ?_); (case h1 => assumption); (case h2 => assumption); (case h3 => assumption)))
namespace Mine

/-- a text or none -/
def optA : Option Str → AVal
  | none => .none
  | some x => .str x
def headT (p : Option Str) : Str := match p with | none => Str.ofString "" | some p => Str.ofString "(" ++ p ++ Str.ofString ") "
def sysT (s : Option Str) : Str := match s with | none => Str.ofString "<unknown>" | some s => s
def numT (a : Int) : Str := Str.ofString (toString a)
def tailT (l c : Int) : Str := Str.ofString ":" ++ numT l ++ Str.ofString ":" ++ numT c
def pref (p s : Option Str) (l c : Int) : Str := headT p ++ sysT s ++ Str.ofString ":" ++ numT l ++ Str.ofString ":" ++ numT c
def said05 (p s : Option Str) (l c : Int) (w : Str) : Str := pref p s l c ++ Str.ofString ": " ++ w
def okP (p : Option Str) : Prop := p ∈ [none, some (Str.ofString ""), some (Str.ofString "P"), some (Str.ofString "-//A//EN")]
def okS (s : Option Str) : Prop := s ∈ [none, some (Str.ofString ""), some (Str.ofString "a.xml"), some (Str.ofString "b:c")]
def okI (i : Int) : Prop := -5 ≤ i ∧ i ≤ 5
def okW (w : Str) : Prop := w ∈ [Str.ofString "no element found", Str.ofString "", Str.ofString "not well-formed"]
theorem sl_app (x y : Str) : (x ++ y).length = x.length + y.length := by
  show (x.cps ++ y.cps).size = _
  rw [Array.size_append]; rfl
theorem log_okI {i : Int} (h : okI i) : i.natAbs.log2 < 1920 := by
  obtain ⟨h1, h2⟩ := h
  have : i.natAbs < 6 := by omega
  exact Nat.lt_of_le_of_lt (Nat.log2_le_self _) (by omega)
section
variable {C : Cx} {n : Nat} {σ : AHeap} {Q : AVal → AHeap → Prop}
set_option maxHeartbeats 4000000 in
theorem said_tup (K : K05 C) {p s : Option Str} {l c : Int} {w : Str} (hl : okI l) (hc : okI c) (hz : (said05 p s l c w).length ≤ 200) (h : Q (.str (said05 p s l c w)) σ) : Fn C (n + 2) 63 [.tup [.int l, .int c, optA p, optA s], .str w] σ Q := by
  refine fn_plain (ns := [Str.ofString "place", Str.ofString "words"]) (dv := []) (da := []) (ho := by rw [K.hK]; rfl) (hcd := by rw [K.hK]; kernel_rfl) (hbind := ?_) (hd := fun _ => .nil) (hnd := by decide) (hloc := by decide) (h := ?_)
  · intro S vs hv
    match vs, hv with
    | [v1, v2], _ => rfl
  · intro A₀ A base h₀ outer L pin
    have K' := K
    cases K'
    have gl := log_okI hl
    have gc := log_okI hc
    unfold said05 pref at hz h
    repeat walk_at "fw"
    refine tc_type_tup ?_
    repeat walk_at "fw"
    refine t2_isRaw rfl ?_
    repeat walk_at "fw"
    cases p <;> cases s
    all_goals (dsimp only [headT, sysT, numT] at hz h; simp only [sl_app] at hz)
    all_goals (refine t2_isNone rfl ?_)
    all_goals (repeat first | walk_at "fw" | refine t2_isNone rfl ?_ | refine tc_strInt (by assumption) ?_ | refine t2_addS (by simp only [sl_app, sizeLine_eq]; omega) ?_)
    all_goals exact ret_le h
set_option maxHeartbeats 4000000 in
theorem said_loc (K : K05 C) {w : Str} (hz : (said05 none none (-1) (-1) w).length ≤ 200) (h : Q (.str (said05 none none (-1) (-1) w)) σ) : Fn C (n + 2) 63 [.fin 52, .str w] σ Q := by
  refine fn_plain (ns := [Str.ofString "place", Str.ofString "words"]) (dv := []) (da := []) (ho := by rw [K.hK]; rfl) (hcd := by rw [K.hK]; kernel_rfl) (hbind := ?_) (hd := fun _ => .nil) (hnd := by decide) (hloc := by decide) (h := ?_)
  · intro S vs hv
    match vs, hv with
    | [v1, v2], _ => rfl
  · intro A₀ A base h₀ outer L pin
    have K' := K
    have K'' := K
    cases K''
    have gl : (-1 : Int).natAbs.log2 < 1920 := by decide
    unfold said05 pref at hz h
    repeat walk_at "fw"
    refine tc_type_fin ?_
    repeat walk_at "fw"
    refine t2_isRef ?_
    have hs : ∀ {a : AVal} {Q : AVal → AHeap → Prop} {f m σ}, isNone a = some true → Q (.bool true) σ → T2 C (n + 1) f (compareOp .Is) a .none m σ Q := fun e h => t2_isNone e h
    with_reducible refine tb_bool ?_
    refine ⟨fun _ => ?_, fun q => nomatch q⟩
    with_reducible refine ws_cons ?_
    with_reducible refine w1_assignS (names := [Str.ofString "line", Str.ofString "column"]) ?_ ?hw ?hs'
    case hw => rfl
    case hs' => rfl
    repeat walk_at "fw"
    refine ⟨_, rfl, rfl, tss_cons (ts_local rfl (tss_cons (ts_local rfl (tss_nil ?_))))⟩
    with_reducible refine ws_cons ?_
    with_reducible refine w1_assignS (names := [Str.ofString "public", Str.ofString "system"]) ?_ ?hw ?hs'
    case hw => rfl
    case hs' => rfl
    repeat walk_at "fw"
    refine ⟨_, rfl, rfl, tss_cons (ts_local rfl (tss_cons (ts_local rfl (tss_nil ?_))))⟩
    with_reducible refine ws_nil ?_
    dsimp only [headT, sysT, numT] at hz h
    simp only [sl_app] at hz
    with_reducible show WS _ _ _ _ _ _ _
    repeat first | walk_at "fw" | refine t2_isNone rfl ?_ | refine tc_strInt (by assumption) ?_ | refine t2_addS (by simp only [sl_app, sizeLine_eq]; omega) ?_
    exact ret_le h
end
end Mine

open PySem PySem.W PyProof.Rows PySem.Calls
section
open PySem.Builtin PySem.Builtin.Str PySem.StrLaws
namespace Mine
theorem occR_shift (a b y : Str) (k : Nat) : ∀ (l : List Nat), (∀ i ∈ l, i ≤ b.length) → ∀ (st : Array Nat × Nat),
    (forIn l (st.1.map (· + a.length), st.2 + a.length) (occRBody (a ++ b) y k)).run = ((forIn l st (occRBody b y k)).run.1.map (· + a.length), (forIn l st (occRBody b y k)).run.2 + a.length)
  | [], _, st => rfl
  | i :: l, hl, st => by
    have hi : i ≤ b.length := hl i (List.mem_cons_self ..)
    have hl' : ∀ j ∈ l, j ≤ b.length := fun j hj => hl j (List.mem_cons_of_mem _ hj)
    have e1 : (a ++ b).length - i = (b.length - i) + a.length := by rw [sl_app]; omega
    have e2 : subAt (a ++ b) y ((a ++ b).length - i) = subAt b y (b.length - i) := by
      rw [subAt_eq, subAt_eq, e1]
      congr 2
      show List.drop _ (a.cps ++ b.cps).toList = _
      rw [Array.toList_append, Nat.add_comm, ← List.drop_drop]
      congr 1
      exact List.drop_left' (by rw [Array.length_toList]; rfl)
    rw [List.forIn_cons, List.forIn_cons]
    unfold occRBody
    rw [e2, e1]
    by_cases hc : (st.1.size < k ∧ b.length - i + y.length ≤ st.2) ∧ subAt b y (b.length - i) = true
    · rw [if_pos hc, if_pos ⟨⟨by rw [Array.size_map]; exact hc.1.1, by have := hc.1.2; show _ ≤ st.2 + a.length; omega⟩, hc.2⟩]
      have ih := occR_shift a b y k l hl' (st.1.push (b.length - i), b.length - i)
      dsimp only at ih
      rw [Array.map_push] at ih
      exact ih
    · rw [if_neg hc, if_neg (by rintro ⟨⟨h1, h2⟩, h3⟩; rw [Array.size_map] at h1; exact hc ⟨⟨h1, by have : b.length - i + a.length + y.length ≤ st.2 + a.length := h2; omega⟩, h3⟩)]
      exact occR_shift a b y k l hl' st
theorem occR_full (s y : Str) (k : Nat) : ∀ (l : List Nat) (st : Array Nat × Nat), k ≤ st.1.size → (forIn l st (occRBody s y k)).run = st
  | [], st, h => rfl
  | i :: l, st, h => by
    rw [List.forIn_cons]
    unfold occRBody
    rw [if_neg (fun q => absurd q.1.1 (Nat.not_lt.mpr h))]
    exact occR_full s y k l st h
theorem forIn_app {β : Type} (f : Nat → β → Id (ForInStep β)) (hf : ∀ i s, ∃ s', f i s = pure (ForInStep.yield s')) : ∀ (l l' : List Nat) (s : β), (forIn (l ++ l') s f).run = (forIn l' (forIn l s f).run f).run
  | [], l', s => rfl
  | i :: l, l', s => by
    rw [List.cons_append, List.forIn_cons, List.forIn_cons]
    obtain ⟨s', e⟩ := hf i s
    rw [e]
    exact forIn_app f hf l l' s'
theorem occR_app (a b y : Str) (k : Nat) (h : (occurrencesFromRight b y k).length = k) : occurrencesFromRight (a ++ b) y k = (occurrencesFromRight b y k).map (· + a.length) := by
  have hy : ∀ i s, ∃ s', occRBody (a ++ b) y k i s = pure (ForInStep.yield s') := fun i s => by
    unfold occRBody; split <;> exact ⟨_, rfl⟩
  rw [occR_eq] at h
  rw [occR_eq, occR_eq]
  have e : List.range' 0 ((a ++ b).length + 1) = List.range' 0 (b.length + 1) ++ List.range' (b.length + 1) a.length := by
    rw [sl_app, show a.length + b.length + 1 = (b.length + 1) + a.length by omega, ← List.range'_append_1]
    simp
  rw [e, forIn_app _ hy]
  have s := occR_shift a b y k (List.range' 0 (b.length + 1)) (fun i hi => by simp at hi; omega) (#[], b.length)
  rw [show b.length + a.length = (a ++ b).length by rw [sl_app]; omega] at s
  rw [show ((#[] : Array Nat).map (· + a.length)) = #[] by simp] at s
  rw [s, occR_full]
  · rw [Array.toList_map, List.map_reverse]
  · rw [Array.size_map]
    rw [List.length_reverse, Array.length_toList] at h
    rw [h]; exact Nat.le_refl _
theorem strSub_shift (a b : Str) (i j : Nat) : strSub (a ++ b) (i + a.length) (j + a.length) = strSub b i j := by
  unfold strSub
  congr 1
  apply Array.toList_inj.mp
  show ((a.cps ++ b.cps).extract _ _).toList = _
  simp [Array.toList_extract, Array.toList_append, Str.length]
theorem strSub_head (a b : Str) (j : Nat) : strSub (a ++ b) 0 (j + a.length) = a ++ strSub b 0 j := by
  unfold strSub
  show (⟨(a.cps ++ b.cps).extract _ _⟩ : Str) = ⟨a.cps ++ b.cps.extract 0 j⟩
  congr 1
  apply Array.toList_inj.mp
  simp [Array.toList_extract, Array.toList_append, Str.length]
  exact List.take_of_length_le (by simp)
theorem zip_shift (a b : Str) : ∀ (l m : List Nat), ((l.map (· + a.length)).zip (m.map (· + a.length))).map (fun (p : Nat × Nat) => strSub (a ++ b) p.1 p.2) = (l.zip m).map fun (p : Nat × Nat) => strSub b p.1 p.2
  | [], _ => rfl
  | _ :: _, [] => rfl
  | i :: l, j :: m => by
    simp only [List.map_cons, List.zip_cons_cons]
    rw [strSub_shift, zip_shift a b l m]
theorem parts_shift (a b : Str) (c : Nat) (cs : List Nat) (w : Nat) (h : Str) (t : List Str) (hp : partsBetween b (c :: cs) w = h :: t) : partsBetween (a ++ b) ((c :: cs).map (· + a.length)) w = (a ++ h) :: t := by
  unfold partsBetween at hp ⊢
  simp only [List.map_cons, List.cons_append, List.zip_cons_cons] at hp ⊢
  injection hp with h1 h2
  rw [strSub_head, h1, ← h2]
  congr 1
  have := zip_shift a b ((c + w) :: cs.map (· + w)) (cs ++ [b.length])
  rw [← this]
  congr 1
  simp only [List.map_cons, List.map_append, List.map_map, List.map_nil, sl_app]
  congr 1
  · congr 1
    · omega
    · apply List.map_congr_left; intro x _; simp only [Function.comp]; omega
  · rw [show a.length + b.length = b.length + a.length by omega]
theorem kind_pos (x : Str) : 1 ≤ PySem.Builtin.Str.strKind x := by unfold PySem.Builtin.Str.strKind; split <;> (try split) <;> omega
theorem rsplit_tail {a b y h : Str} {t : List Str} {k : Int} (hk0 : 0 ≤ k) (hk : PySem.Builtin.Str.strKind y = 1) (hb : y.length ≤ b.length) (hf : (occurrencesFromRight b y k.toNat).length = k.toNat) (hn : k.toNat ≠ 0) (hr : Txt.rsplitMax b y k = h :: t) : Txt.rsplitMax (a ++ b) y k = (a ++ h) :: t := by
  have l1 : ∀ x, limitOf x k = k.toNat := fun x => by unfold limitOf; rw [if_neg (by omega)]
  have k1 : ∀ x : Str, y.length ≤ x.length → (decide (x.length < y.length) || decide (PySem.Builtin.Str.strKind x < PySem.Builtin.Str.strKind y)) = false := fun x hx => by
    have := kind_pos x
    rw [hk]; simp; omega
  unfold Txt.rsplitMax at hr ⊢
  rw [k1 _ hb, if_neg Bool.false_ne_true, l1] at hr
  rw [k1 _ (by rw [sl_app]; omega), if_neg Bool.false_ne_true, l1, occR_app a b y _ hf]
  cases hc : occurrencesFromRight b y k.toNat with
  | nil => rw [hc] at hf; exact absurd hf.symm hn
  | cons c cs =>
    rw [hc] at hr
    exact parts_shift a b c cs _ h t hr
end Mine
end

open PySem PySem.W PyProof.Rows PySem.Calls
section
open PySem.Builtin PySem.Builtin.Str
namespace Mine
def pubs : List (Option Str) := [none, some (Str.ofString ""), some (Str.ofString "P"), some (Str.ofString "-//A//EN")]
def syss : List (Option Str) := [none, some (Str.ofString ""), some (Str.ofString "a.xml"), some (Str.ofString "b:c")]
def ints11 : List Int := [-5, -4, -3, -2, -1, 0, 1, 2, 3, 4, 5]
def wordsL : List Str := [Str.ofString "no element found", Str.ofString "", Str.ofString "not well-formed"]
theorem mem_ints {i : Int} (h : okI i) : i ∈ ints11 := by
  obtain ⟨h1, h2⟩ := h
  obtain rfl | rfl | rfl | rfl | rfl | rfl | rfl | rfl | rfl | rfl | rfl : i = -5 ∨ i = -4 ∨ i = -3 ∨ i = -2 ∨ i = -1 ∨ i = 0 ∨ i = 1 ∨ i = 2 ∨ i = 3 ∨ i = 4 ∨ i = 5 := by omega
  all_goals decide
theorem sassoc (a b c : Str) : a ++ b ++ c = a ++ (b ++ c) := by
  show (⟨(a.cps ++ b.cps) ++ c.cps⟩ : Str) = ⟨a.cps ++ (b.cps ++ c.cps)⟩
  rw [Array.append_assoc]
theorem sempty (a : Str) : a ++ Str.ofString "" = a := by
  show (⟨a.cps ++ (Str.ofString "").cps⟩ : Str) = a
  rw [show (Str.ofString "").cps = #[] by decide, Array.append_empty]
theorem read1 {p s : Option Str} {l c : Int} {w : Str} (hw : okW w) : Txt.rsplitMax (said05 p s l c w) (Str.ofString ": ") 1 = [pref p s l c, w] := by
  have key : ∀ w ∈ wordsL, (occurrencesFromRight (Str.ofString ": " ++ w) (Str.ofString ": ") 1).length = 1 ∧ Txt.rsplitMax (Str.ofString ": " ++ w) (Str.ofString ": ") 1 = [Str.ofString "", w] := by
    set_option maxHeartbeats 4000000 in decide +kernel
  obtain ⟨k1, k2⟩ := key w hw
  unfold said05
  rw [sassoc, rsplit_tail (h := Str.ofString "") (t := [w]) (by decide) (by decide +kernel) (by rw [sl_app]; exact Nat.le_add_right _ _) (by exact k1) (by decide) (by exact k2), sempty]
theorem read2 {p s : Option Str} {l c : Int} (hl : okI l) (hc : okI c) : Txt.rsplitMax (pref p s l c) (Str.ofString ":") 2 = [headT p ++ sysT s, numT l, numT c] := by
  have key : (ints11.all fun l => ints11.all fun c => decide ((occurrencesFromRight (tailT l c) (Str.ofString ":") 2).length = 2) && decide (Txt.rsplitMax (tailT l c) (Str.ofString ":") 2 = [Str.ofString "", numT l, numT c])) = true := by decide +kernel
  have k0 := List.all_eq_true.mp (List.all_eq_true.mp key l (mem_ints hl)) c (mem_ints hc)
  rw [Bool.and_eq_true] at k0
  have k1 := of_decide_eq_true k0.1
  have k2 := of_decide_eq_true k0.2
  have e : pref p s l c = (headT p ++ sysT s) ++ tailT l c := by
    unfold pref tailT
    simp only [sassoc]
  rw [e, rsplit_tail (h := Str.ofString "") (t := [numT l, numT c]) (by decide) (by decide +kernel) (by unfold tailT; simp only [sl_app]; generalize (Str.ofString ":").length = z; generalize (numT l).length = y; generalize (numT c).length = x; omega) (by exact k1) (by decide) (by exact k2), sempty]
theorem read3 {p s : Option Str} (hp : okP p) (hs : okS s) : (Txt.slice (headT p ++ sysT s) none (some 1) == Str.ofString "(") = p.isSome := by
  have key : ∀ p ∈ pubs, ∀ s ∈ syss, (Txt.slice (headT p ++ sysT s) none (some 1) == Str.ofString "(") = p.isSome := by decide +kernel
  exact key p hp s hs
theorem read4 {q : Str} {s : Option Str} (hp : okP (some q)) (hs : okS s) : Txt.splitMax (Txt.slice (headT (some q) ++ sysT s) (some 1) none) (Str.ofString ") ") 1 = [q, sysT s] := by
  have key : ∀ p ∈ pubs, ∀ s ∈ syss, p = none ∨ Txt.splitMax (Txt.slice (headT p ++ sysT s) (some 1) none) (Str.ofString ") ") 1 = [p.getD (Str.ofString ""), sysT s] := by decide +kernel
  exact (key (some q) hp s hs).resolve_left (fun h => nomatch h)
theorem read5 {s : Option Str} (hs : okS s) : (sysT s == Str.ofString "<unknown>") = s.isNone := by
  have key : ∀ s ∈ syss, (sysT s == Str.ofString "<unknown>") = s.isNone := by decide +kernel
  exact key s hs
theorem read6 {i : Int} (hi : okI i) : PySem.intText? (numT i) = some i ∧ (numT i).length ≤ 2 := by
  have key : ∀ i ∈ ints11, PySem.intText? (numT i) = some i ∧ (numT i).length ≤ 2 := by decide +kernel
  exact key i (mem_ints hi)
theorem read0 {s : Option Str} : headT none ++ sysT s = sysT s := by
  show (⟨(Str.ofString "").cps ++ (sysT s).cps⟩ : Str) = _
  rw [show (Str.ofString "").cps = #[] by decide, Array.empty_append]
theorem len5 {p s : Option Str} {l c : Int} {w : Str} (hp : okP p) (hs : okS s) (hl : okI l) (hc : okI c) (hw : okW w) : (headT p).length ≤ 12 ∧ (sysT s).length ≤ 12 ∧ w.length ≤ 20 ∧ (said05 p s l c w).length ≤ 200 := by
  have k1 : ∀ p ∈ pubs, (headT p).length ≤ 12 := by decide +kernel
  have k2 : ∀ s ∈ syss, (sysT s).length ≤ 12 := by decide +kernel
  have k3 : ∀ w ∈ wordsL, w.length ≤ 20 := by decide +kernel
  have a := k1 p hp
  have b := k2 s hs
  have d := k3 w hw
  have e := (read6 hl).2
  have f := (read6 hc).2
  refine ⟨a, b, d, ?_⟩
  have h1 : (Str.ofString ":").length = 1 := by decide
  have h2 : (Str.ofString ": ").length = 2 := by decide
  unfold said05 pref
  simp only [sl_app, h1, h2]
  omega
theorem mem_app (x y : Str) (k : Nat) : k ∈ (x ++ y).cps.toList ↔ k ∈ x.cps.toList ∨ k ∈ y.cps.toList := by
  show k ∈ (x.cps ++ y.cps).toList ↔ _
  rw [Array.toList_append, List.mem_append]
theorem free5 {p s : Option Str} {l c : Int} {w : Str} (hp : okP p) (hs : okS s) (hl : okI l) (hc : okI c) (hw : okW w) : 10 ∉ (said05 p s l c w).cps.toList := by
  have k1 : ∀ p ∈ pubs, 10 ∉ (headT p).cps.toList := by decide +kernel
  have k2 : ∀ s ∈ syss, 10 ∉ (sysT s).cps.toList := by decide +kernel
  have k3 : ∀ w ∈ wordsL, 10 ∉ w.cps.toList := by decide +kernel
  have k4 : ∀ i ∈ ints11, 10 ∉ (numT i).cps.toList := by decide +kernel
  have k5 : 10 ∉ (Str.ofString ":").cps.toList := by decide
  have k6 : 10 ∉ (Str.ofString ": ").cps.toList := by decide
  unfold said05 pref
  simp only [mem_app]
  have a := k1 p hp
  have b := k2 s hs
  have d := k3 w hw
  have e := k4 l (mem_ints hl)
  have f := k4 c (mem_ints hc)
  simp [a, b, d, e, f, k5, k6]
/-! ## parting what was joined -/
theorem free_cut {k : Nat} : ∀ {a b x y : List Nat}, k ∉ a → k ∉ b → a ++ k :: x = b ++ k :: y → a = b ∧ x = y
  | [], [], x, y, _, _, h => ⟨rfl, by injection h⟩
  | [], b :: bs, x, y, _, hb, h => by injection h with h1 _; exact absurd (h1 ▸ List.mem_cons_self ..) hb
  | a :: as, [], x, y, ha, _, h => by injection h with h1 _; exact absurd (h1 ▸ List.mem_cons_self ..) ha
  | a :: as, b :: bs, x, y, ha, hb, h => by
    injection h with h1 h2
    obtain ⟨e1, e2⟩ := free_cut (fun q => ha (List.mem_cons_of_mem _ q)) (fun q => hb (List.mem_cons_of_mem _ q)) h2
    exact ⟨by rw [h1, e1], e2⟩
theorem str_ext' {x y : Str} (h : x.cps.toList = y.cps.toList) : x = y := by
  cases x; cases y; congr 1; exact Array.toList_inj.mp h
theorem join_cps (k : Nat) (p q : Str) (r : List Str) : (Str.join ⟨#[k]⟩ (p :: q :: r)).cps.toList = p.cps.toList ++ k :: (Str.join ⟨#[k]⟩ (q :: r)).cps.toList := by
  show ((p.cps ++ #[k]) ++ (Str.join ⟨#[k]⟩ (q :: r)).cps).toList = _
  simp
theorem join_inj {k : Nat} : ∀ (ps qs : List Str), ps ≠ [] → qs ≠ [] → (∀ p ∈ ps, k ∉ p.cps.toList) → (∀ p ∈ qs, k ∉ p.cps.toList) → Str.join ⟨#[k]⟩ ps = Str.join ⟨#[k]⟩ qs → ps = qs
  | [], _, h, _, _, _, _ => absurd rfl h
  | _ :: _, [], _, h, _, _, _ => absurd rfl h
  | [p], [q], _, _, _, _, h => by rw [show p = q from h]
  | [p], q :: q' :: r, _, _, hp, _, h => by
    have h' : p.cps.toList = (Str.join ⟨#[k]⟩ (q :: q' :: r)).cps.toList := congrArg (fun s : Str => s.cps.toList) h
    rw [join_cps] at h'
    exact absurd (h' ▸ List.mem_append_right _ (List.mem_cons_self ..)) (hp p (List.mem_cons_self ..))
  | p :: p' :: r, [q], _, _, _, hq, h => by
    have h' : (Str.join ⟨#[k]⟩ (p :: p' :: r)).cps.toList = q.cps.toList := congrArg (fun s : Str => s.cps.toList) h
    rw [join_cps] at h'
    exact absurd (h' ▸ List.mem_append_right _ (List.mem_cons_self ..)) (hq q (List.mem_cons_self ..))
  | p :: p' :: r, q :: q' :: r', _, _, hp, hq, h => by
    have h' := congrArg (fun s : Str => s.cps.toList) h
    rw [join_cps, join_cps] at h'
    obtain ⟨e1, e2⟩ := free_cut (hp p (List.mem_cons_self ..)) (hq q (List.mem_cons_self ..)) h'
    rw [str_ext' e1, join_inj (p' :: r) (q' :: r') (by simp) (by simp) (fun x hx => hp x (List.mem_cons_of_mem _ hx)) (fun x hx => hq x (List.mem_cons_of_mem _ hx)) (str_ext' e2)]
theorem split_join10 {ps : List Str} (h0 : ps ≠ []) (hf : ∀ p ∈ ps, 10 ∉ p.cps.toList) : Txt.split (Txt.join ⟨#[10]⟩ ps) ⟨#[10]⟩ = ps := by
  have e := StrLaws.join_split (Txt.join ⟨#[10]⟩ ps) ⟨#[10]⟩
  have f := StrLaws.split_free (Txt.join ⟨#[10]⟩ ps) 10
  have g : Txt.join ⟨#[10]⟩ ps = Str.join ⟨#[10]⟩ ps := StrLaws.glued_eq_join _ _
  have hn : Txt.split (Txt.join ⟨#[10]⟩ ps) ⟨#[10]⟩ ≠ [] := by
    unfold Txt.split
    split
    · simp
    · split
      · simp
      · unfold partsBetween; simp
  exact join_inj _ _ hn h0 f hf (by rw [e, g])
end Mine
end

open PySem PySem.W PyProof.Rows PySem.Calls
namespace Mine

section
variable {C : Cx} {n : Nat} {σ : AHeap} {Q : AVal → AHeap → Prop}
def rec05 (p s : Option Str) (l c : Int) (w : Str) : AVal := .lst [.int l, .int c, optA p, optA s, .str w]
set_option maxHeartbeats 4000000 in
theorem read05 (K : K05 C) {p s : Option Str} {l c : Int} {w : Str} (hp : okP p) (hs : okS s) (hl : okI l) (hc : okI c) (hw : okW w) (h : Q (rec05 p s l c w) σ) : Fn C (n + 2) 70 [.str (said05 p s l c w)] σ Q := by
  refine fn_plain (ns := [Str.ofString "text"]) (dv := []) (da := []) (ho := by rw [K.hK]; rfl) (hcd := by rw [K.hK]; kernel_rfl) (hbind := ?_) (hd := fun _ => .nil) (hnd := by decide) (hloc := by decide) (h := ?_)
  · intro S vs hv
    match vs, hv with
    | [v1], _ => rfl
  · intro A₀ A base h₀ outer L pin
    have K' := K
    cases K'
    obtain ⟨z1, z2, z3, z4⟩ := len5 hp hs hl hc hw
    repeat walk_at "fw"
    have zz : (said05 p s l c w).length + 2 ≤ sizeLine := by rw [sizeLine_eq]; omega
    have e1 : (said05 p s l c w).length = (pref p s l c).length + (Str.ofString ": ").length + w.length := by unfold said05; simp only [sl_app]
    have zy : (pref p s l c).length + 2 ≤ sizeLine := by rw [sizeLine_eq]; omega
    have zx : (headT p ++ sysT s).length ≤ sizeLine := by rw [sl_app, sizeLine_eq]; omega
    refine tg_rsplit ?_
    repeat walk_at "fw"
    refine tc_rsplit2 (by decide) (by decide) zz ?_
    rw [read1 hw]
    dsimp only [List.map]
    refine ta_lst ?_
    repeat walk_at "fw"
    refine tg_rsplit ?_
    repeat walk_at "fw"
    refine tc_rsplit2 (by decide) (by decide) zy ?_
    rw [read2 hl hc]
    dsimp only [List.map]
    refine ta_lst ?_
    repeat walk_at "fw"
    refine we_sliceS ?_
    repeat walk_at "fw"
    refine ⟨_, rfl, zx, .inl ⟨_, rfl, rfl, ?_⟩⟩
    repeat walk_at "fw"
    refine t2_eqT ?_
    rw [read3 hp hs]
    have i1 := read6 hl
    have i2 := read6 hc
    have u1 : (numT l).length ≤ 640 := by omega
    have u2 : (numT c).length ≤ 640 := by omega
    cases p with
    | none =>
      dsimp only [Option.isSome]
      rw [read0]
      repeat walk_at "fw"
      refine tc_intStr i1.1 u1 ?_
      repeat walk_at "fw"
      refine tc_intStr i2.1 u2 ?_
      repeat walk_at "fw"
      refine t2_eqT ?_
      rw [read5 hs]
      cases s
      all_goals (dsimp only [Option.isNone]; repeat walk_at "fw")
      all_goals exact ret_le h
    | some q =>
      have v1 : (Txt.slice (headT (some q) ++ sysT s) (some 1) none).length + 2 ≤ sizeLine := by
        have key : ∀ p ∈ pubs, ∀ s ∈ syss, (Txt.slice (headT p ++ sysT s) (some 1) none).length ≤ 60 := by decide +kernel
        have := key _ hp _ hs
        rw [sizeLine_eq]; omega
      dsimp only [Option.isSome]
      repeat walk_at "fw"
      refine we_sliceS ?_
      repeat walk_at "fw"
      refine ⟨_, rfl, zx, .inr ⟨_, rfl, rfl, ?_⟩⟩
      repeat walk_at "fw"
      refine tg_split ?_
      repeat walk_at "fw"
      refine tc_split2 (by decide) (by decide) v1 ?_
      rw [read4 hp hs]
      dsimp only [List.map]
      refine ta_lst ?_
      repeat walk_at "fw"
      refine tc_intStr i1.1 u1 ?_
      repeat walk_at "fw"
      refine tc_intStr i2.1 u2 ?_
      repeat walk_at "fw"
      refine t2_eqT ?_
      rw [read5 hs]
      cases s
      all_goals (dsimp only [Option.isNone]; repeat walk_at "fw")
      all_goals exact ret_le h
end
end Mine

open PySem PySem.W PyProof.Rows PySem.Calls
namespace Mine

/-- one line's things -/
structure R5 where
  p : Option Str
  s : Option Str
  l : Int
  c : Int
  w : Str
structure R5.ok (r : R5) : Prop where
  p : okP r.p
  s : okS r.s
  l : okI r.l
  c : okI r.c
  w : okW r.w
def R5.text (r : R5) : Str := said05 r.p r.s r.l r.c r.w
def R5.val (r : R5) : AVal := rec05 r.p r.s r.l r.c r.w
structure G5 (σ : AHeap) (la du : Addr) (rs : List R5) : Prop where
  lines : σ la = some (.list ((rs.map R5.text).map .str))
  due : σ du = some (.list (rs.map R5.val))
  ne : la ≠ du
  ok : ∀ r ∈ rs, r.ok
theorem G5.more {σ : AHeap} {la du : Addr} {rs : List R5} {r : R5} (G : G5 σ la du rs) (h : r.ok) : G5 ((σ.set la (.list ((rs.map R5.text).map .str ++ [.str r.text]))).set du (.list (rs.map R5.val ++ [r.val]))) la du (rs ++ [r]) := by
  refine ⟨(AHeap.set_ne _ _ G.ne).trans ((AHeap.set_same ..).trans (by simp)), (AHeap.set_same ..).trans (by simp), G.ne, fun x hx => ?_⟩
  rcases List.mem_append.mp hx with hx | hx
  · exact G.ok x hx
  · rw [List.mem_singleton.mp hx]; exact h
theorem okNone : okP none ∧ okS none := ⟨by unfold okP; simp, by unfold okS; simp⟩
theorem G5.more' {σ : AHeap} {la du : Addr} {rs : List R5} {p s : Option Str} {l c : Int} {w : Str} (G : G5 σ la du rs) (hp : okP p) (hs : okS s) (hl : okI l) (hc : okI c) (hw : okW w) :
    ∃ r, G5 ((σ.set la (.list ((rs.map R5.text).map .str ++ [.str (said05 p s l c w)]))).set du (.list (rs.map R5.val ++ [.lst [.int l, .int c, optA p, optA s, .str w]]))) la du (rs ++ [r]) :=
  ⟨⟨p, s, l, c, w⟩, by
    have e := G.more (r := R5.mk p s l c w) ⟨hp, hs, hl, hc, hw⟩
    unfold R5.text R5.val rec05 at e ⊢
    exact e⟩
theorem G5.moreN {σ : AHeap} {la du : Addr} {rs : List R5} {w : Str} (G : G5 σ la du rs) (hw : okW w) :
    ∃ r, G5 ((σ.set la (.list ((rs.map R5.text).map .str ++ [.str (said05 none none (-1) (-1) w)]))).set du (.list (rs.map R5.val ++ [.lst [.int (-1), .int (-1), .none, .none, .str w]]))) la du (rs ++ [r]) :=
  G.more' (p := none) (s := none) okNone.1 okNone.2 ⟨by decide, by decide⟩ ⟨by decide, by decide⟩ hw
def E5 (S : AVal) (la du : Addr) : AEnv := [(Str.ofString "script", S), (Str.ofString "old", .fin 52), (Str.ofString "lines", .obj la), (Str.ofString "due", .obj du)]
theorem pickW {i : Int} (h0 : 0 ≤ i) (h1 : i < 3) : ∃ w, okW w ∧ ([.str (Str.ofString "no element found"), .str (Str.ofString ""), .str (Str.ofString "not well-formed")] : List AVal)[i.toNat]? = some (.str w) := by
  obtain rfl | rfl | rfl : i = 0 ∨ i = 1 ∨ i = 2 := by omega
  all_goals exact ⟨_, by unfold okW; simp, rfl⟩
theorem pickP {i : Int} (h0 : 0 ≤ i) (h1 : i < 4) : ∃ p, okP p ∧ ([.none, .str (Str.ofString ""), .str (Str.ofString "P"), .str (Str.ofString "-//A//EN")] : List AVal)[i.toNat]? = some (optA p) := by
  obtain rfl | rfl | rfl | rfl : i = 0 ∨ i = 1 ∨ i = 2 ∨ i = 3 := by omega
  · exact ⟨none, by unfold okP; simp, rfl⟩
  all_goals exact ⟨some _, by unfold okP; simp, rfl⟩
theorem pickS {i : Int} (h0 : 0 ≤ i) (h1 : i < 4) : ∃ p, okS p ∧ ([.none, .str (Str.ofString ""), .str (Str.ofString "a.xml"), .str (Str.ofString "b:c")] : List AVal)[i.toNat]? = some (optA p) := by
  obtain rfl | rfl | rfl | rfl : i = 0 ∨ i = 1 ∨ i = 2 ∨ i = 3 := by omega
  · exact ⟨none, by unfold okS; simp, rfl⟩
  all_goals exact ⟨some _, by unfold okS; simp, rfl⟩
section
variable {C : Cx}
set_option maxHeartbeats 8000000 in
theorem step05 (K : K05 C) {u : Int} {S : AVal} {la du : Addr} {rs : List R5} {σ : AHeap} (G : G5 σ la du rs) (hn : rs.length ≤ 68) :
    Seg PySem.Challenge.pw_dn0301_05 5 [(1, 0)] 0 fun scope ss => ∀ A₀ A base h₀ L fa cdv pin, WS C 20 ⟨A₀, A, base, h₀, [], L, fa, Str.ofString "law", scope, cdv, [], pin, none⟩ ss
      (E5 S la du ++ [(Str.ofString "x", .int u)]) σ
      fun fl m' σ₁ => fl = .next ∧ (∃ r, G5 σ₁ la du (rs ++ [r])) ∧ Has m' (E5 S la du) := by
  with_reducible refine' seg_intro ?hseg ?hrest
  case hseg => rfl
  intro A₀ A base h₀ L fa cdv pin
  have K' := K
  cases K'
  unfold E5
  dsimp only [List.cons_append, List.nil_append]
  have ha := G.lines
  have hb := G.due
  have zl : ((rs.map R5.text).map AVal.str).length ≤ sizeLine := by simp [sizeLine_eq]; omega
  have zd : (rs.map R5.val).length ≤ sizeLine := by simp [sizeLine_eq]; omega
  obtain ⟨hw0, hw1⟩ := fmod_range (u.fdiv 4) (y := 3) (by decide)
  obtain ⟨hp0, hp1⟩ := fmod_range (u.fdiv 12) (y := 4) (by decide)
  obtain ⟨hs0, hs1⟩ := fmod_range (u.fdiv 48) (y := 4) (by decide)
  obtain ⟨hl0, hl1⟩ := fmod_range (u.fdiv 192) (y := 11) (by decide)
  obtain ⟨hc0, hc1⟩ := fmod_range (u.fdiv 2112) (y := 11) (by decide)
  obtain ⟨w, okw, ew⟩ := pickW hw0 hw1
  obtain ⟨p, okp, ep⟩ := pickP hp0 hp1
  obtain ⟨s, oks, es⟩ := pickS hs0 hs1
  have okl : okI ((u.fdiv 192).fmod 11 - 5) := ⟨by omega, by omega⟩
  have okc : okI ((u.fdiv 2112).fmod 11 - 5) := ⟨by omega, by omega⟩
  repeat walk_at "fw"
  refine t2_item (y := .str w) rfl hw0 (by omega) ew ?_
  have l1 := len5 okNone.1 okNone.2 (l := -1) (c := -1) ⟨by decide, by decide⟩ ⟨by decide, by decide⟩ okw
  have l2 := len5 okp oks okl okc okw
  have ls : (said05 none none (-1) (-1) w).length ≤ 200 := l1.2.2.2
  clear l1
  have hb' : ∀ o, (σ.set la o) du = some (.list (rs.map R5.val)) := fun o => (AHeap.set_ne _ _ (Ne.symm G.ne)).trans hb
  repeat walk_at "fw"
  · with_reducible refine w1_assignS (names := [Str.ofString "public", Str.ofString "system"]) ?_ ?hw ?hs'
    case hw => rfl
    case hs' => rfl
    repeat walk_at "fw"
    refine t2_item (y := optA p) rfl hp0 (by omega) ep ?_
    repeat walk_at "fw"
    refine t2_item (y := optA s) rfl hs0 (by omega) es ?_
    repeat walk_at "fw"
    refine ⟨_, rfl, rfl, tss_cons (ts_local rfl (tss_cons (ts_local rfl (tss_nil ?_))))⟩
    with_reducible refine ws_cons ?_
    with_reducible refine w1_assignS (names := [Str.ofString "line", Str.ofString "column"]) ?_ ?hw ?hs'
    case hw => rfl
    case hs' => rfl
    repeat walk_at "fw"
    refine ⟨_, rfl, rfl, tss_cons (ts_local rfl (tss_cons (ts_local rfl (tss_nil ?_))))⟩
    repeat walk_at "fw"
    refine tg_listM ha PySem.F.slot_list_append PySem.F.type_list_append ?_
    repeat walk_at "fw"
    refine tc_fn (by assumption) (said_tup K okl okc l2.2.2.2 ?_)
    repeat walk_at "fw"
    refine tc_append ha zl ?_
    repeat walk_at "fw"
    refine tg_listM (hb' _) PySem.F.slot_list_append PySem.F.type_list_append ?_
    repeat walk_at "fw"
    refine tc_append (hb' _) zd ?_
    repeat walk_at "fw"
    exact ⟨rfl, G.more' okp oks okl okc okw, ⟨rfl, rfl, rfl, rfl, trivial⟩⟩
  · repeat walk_at "fw"
    refine tg_listM ha PySem.F.slot_list_append PySem.F.type_list_append ?_
    repeat walk_at "fw"
    all_goals (repeat walk_at "fw")
    all_goals
      with_reducible refine tc_fn (by assumption) (said_loc K ls ?_)
      repeat walk_at "fw"
      refine tc_append ha zl ?_
      repeat walk_at "fw"
      refine tg_listM (hb' _) PySem.F.slot_list_append PySem.F.type_list_append ?_
      repeat walk_at "fw"
      refine tc_append (hb' _) zd ?_
      repeat walk_at "fw"
      exact ⟨rfl, G.moreN okw, ⟨rfl, rfl, rfl, rfl, trivial⟩⟩
end
end Mine

open PySem PySem.W PyProof.Rows PySem.Calls
namespace Mine

def optD : Option Str → PyData
  | none => .none
  | some x => .str x
def R5.data (r : R5) : PyData := .list [.int r.l, .int r.c, optD r.p, optD r.s, .str r.w]
theorem rd_opt {σ : AHeap} (p : Option Str) : Rd σ (optA p) (optD p) := by
  cases p
  · exact .none
  · exact .str _
theorem rd_val {σ : AHeap} (r : R5) : Rd σ r.val r.data := .lst (.cons (.int _) (.cons (.int _) (.cons (rd_opt _) (.cons (rd_opt _) (.cons (.str _) .nil)))))
theorem rd_vals {σ : AHeap} : ∀ rs : List R5, RdAll σ (rs.map R5.val) (rs.map R5.data)
  | [] => .nil
  | r :: rs => .cons (rd_val r) (rd_vals rs)
theorem dk_data {r : R5} (h : r.ok) : Dk 1 r.data := by
  have k1 : ∀ p ∈ pubs, ∀ x, p = some x → PyData.strOk x = true := by
    intro p hp x e
    have k : ∀ p ∈ pubs, PyData.strOk (p.getD (Str.ofString "")) = true := by decide +kernel
    have := k p hp
    rw [e] at this; exact this
  have k2 : ∀ p ∈ syss, ∀ x, p = some x → PyData.strOk x = true := by
    intro p hp x e
    have k : ∀ p ∈ syss, PyData.strOk (p.getD (Str.ofString "")) = true := by decide +kernel
    have := k p hp
    rw [e] at this; exact this
  have k3 : ∀ w ∈ wordsL, PyData.strOk w = true := by decide +kernel
  have ko : ∀ p : Option Str, (∀ x, p = some x → PyData.strOk x = true) → Dk 0 (optD p) := fun p hx => by
    cases p with
    | none => exact Dk.none
    | some x => exact Dk.str (hx x rfl)
  refine Dk.list fun d hd => ?_
  simp only [List.mem_cons, List.not_mem_nil, or_false] at hd
  rcases hd with rfl | rfl | rfl | rfl | rfl
  · exact Dk.int
  · exact Dk.int
  · exact ko _ (k1 _ h.p)
  · exact ko _ (k2 _ h.s)
  · exact Dk.str (k3 _ h.w)
theorem join_len (k : Nat) : ∀ ps : List Str, (Str.join ⟨#[k]⟩ ps).length ≤ (ps.map (·.length)).sum + ps.length
  | [] => Nat.zero_le _
  | [p] => by simp [Str.join]
  | p :: q :: r => by
    have ih := join_len k (q :: r)
    show ((p ++ ⟨#[k]⟩) ++ Str.join ⟨#[k]⟩ (q :: r)).length ≤ _
    rw [sl_app, sl_app]
    have : (⟨#[k]⟩ : Str).length = 1 := rfl
    simp only [List.map_cons, List.sum_cons, List.length_cons] at ih ⊢
    omega
theorem sum_len : ∀ rs : List R5, (∀ r ∈ rs, r.ok) → ((rs.map R5.text).map (·.length)).sum ≤ 200 * rs.length
  | [], _ => Nat.le_refl _
  | r :: rs, h => by
    have ih := sum_len rs fun x hx => h x (List.mem_cons_of_mem _ hx)
    have hr := h r (List.mem_cons_self ..)
    have := (len5 hr.p hr.s hr.l hr.c hr.w).2.2.2
    have e : r.text.length ≤ 200 := this
    simp only [List.map_cons, List.sum_cons, List.length_cons]
    omega
section
variable {C : Cx}
set_option maxHeartbeats 8000000 in
theorem end05 (K : K05 C) {S : AVal} {la du : Addr} {rs : List R5} {σ : AHeap} (G : G5 σ la du rs) (hn : rs.length ≤ 68) (h0 : rs ≠ []) :
    Seg PySem.Challenge.pw_dn0301_05 5 [] 2 fun scope ss => ∀ A₀ A base h₀ L fa cdv pin, WS C 20 ⟨A₀, A, base, h₀, [], L, fa, Str.ofString "law", scope, cdv, [], pin, none⟩ ss
      (E5 S la du) σ
      fun fl m' σ₁ => fl = .ret (.bool true) := by
  with_reducible refine' seg_intro ?hseg ?hrest
  case hseg => rfl
  intro A₀ A base h₀ L fa cdv pin
  have K' := K
  cases K'
  unfold E5
  have hsum := sum_len rs G.ok
  have hjl := join_len 10 (rs.map R5.text)
  have ej : Txt.join ⟨#[10]⟩ (rs.map R5.text) = Str.join ⟨#[10]⟩ (rs.map R5.text) := StrLaws.glued_eq_join _ _
  rw [List.length_map] at hjl
  have hsp : Txt.split (Txt.join ⟨#[10]⟩ (rs.map R5.text)) ⟨#[10]⟩ = rs.map R5.text := split_join10 (by simp [h0]) fun p hp => by
    obtain ⟨r, hr, rfl⟩ := List.mem_map.mp hp
    have k := G.ok r hr
    exact free5 k.p k.s k.l k.c k.w
  have hz : (Txt.join ⟨#[10]⟩ (rs.map R5.text)).length + 2 ≤ sizeLine := by rw [ej, sizeLine_eq]; omega
  have hw : ((rs.map R5.text).map (·.length)).sum + (rs.map R5.text).length ≤ 1048576 := by rw [List.length_map]; omega
  generalize hT : Txt.join ⟨#[10]⟩ (rs.map R5.text) = T at hsp hz
  repeat walk_at "fw"
  refine tc_chr (by decide) ?_
  repeat walk_at "fw"
  refine tg_join ?_
  repeat walk_at "fw"
  refine tc_join (ys := rs.map R5.text) (items_obj G.lines) (by decide) hw ?_
  rw [show Int.toNat 10 = 10 from rfl, hT]
  repeat walk_at "fw"
  refine we_compB (cl := []) (fun back rest ys σ' => back = id ∧ σ' = σ ∧ ∃ ds r : List R5, rs = ds ++ r ∧ rest = (r.map R5.text).map .str ∧ ys = ds.map R5.val) rfl ?_ ?_ ?_
  · with_reducible refine wi ?_
    repeat walk_at "fw"
    refine tg_split ?_
    repeat walk_at "fw"
    refine tc_chr (by decide) ?_
    repeat walk_at "fw"
    refine tc_split1 (by decide) hz ?_
    rw [show Int.toNat 10 = 10 from rfl, hsp]
    exact ti_lst ⟨by simp [sizeLine_eq]; omega, rfl, rfl, [], rs, rfl, rfl, rfl⟩
  · rintro back pin' c v xs ys σ' ⟨rfl, rfl, ds, r, h1, h2, rfl⟩ hcn
    cases r with
    | nil => cases h2
    | cons r rs' =>
      cases h2
      have hr : r.ok := G.ok r (by rw [h1]; simp)
      refine wq_nil ?_
      rw [if_pos rfl]
      unfold R5.text
      repeat walk_at "fw"
      refine tc_fn (by assumption) (read05 K hr.p hr.s hr.l hr.c hr.w ?_)
      refine ⟨⟨_, AHeap.set_same ..⟩, σ', AHeap.le_set hcn, hcn, rfl, rfl, ds ++ [r], rs', by simp [h1], rfl, ?_⟩
      rw [List.map_append]; rfl
  · rintro back ys σ' ⟨rfl, rfl, ds, r, h1, h2, rfl⟩
    obtain rfl : r = [] := by cases r with
      | nil => rfl
      | cons u us => cases h2
    rw [List.append_nil] at h1
    subst h1
    repeat walk_at "fw"
    refine t2_eqS (Rd.lst (rd_vals rs)) (Rd.obj G.due (rd_vals rs)) (Dk.list (k := 1) fun d hd => by obtain ⟨r, hr, rfl⟩ := List.mem_map.mp hd; exact dk_data (G.ok r hr)) ?_
    repeat walk_at "fw"
    rfl
def Inv05 (S : AVal) (la du : Addr) (xs : List AVal) (m : AEnv) (σ : AHeap) : Prop :=
  ∃ (ns : List Int) (rs : List R5), xs = ns.map .int ∧ rs.length + ns.length ≤ 68 ∧ (rs ≠ [] ∨ ns ≠ []) ∧ G5 σ la du rs ∧ m = E5 S la du
set_option maxHeartbeats 8000000 in
theorem start05 (K : K05 C) {ns : List Int} (hns : ns.length ≤ 63) :
    Seg PySem.Challenge.pw_dn0301_05 5 [] 0 fun scope ss => ∀ A₀ A base h₀ L fa cdv pin, WS C 20 ⟨A₀, A, base, h₀, [], L, fa, Str.ofString "law", scope, cdv, [], pin, none⟩ ss
      [(Str.ofString "script", .lst (ns.map .int))] (fun _ => none)
      fun fl m' σ₁ => fl = .ret (.bool true) := by
  with_reducible refine' seg_intro ?hseg ?hrest
  case hseg => rfl
  intro A₀ A base h₀ L fa cdv pin
  have K' := K
  cases K'
  with_reducible refine ws_cons ?_
  with_reducible refine w1_assignS (names := [Str.ofString "old", Str.ofString "lines", Str.ofString "due"]) ?_ ?hw ?hs'
  case hw => rfl
  case hs' => rfl
  iterate 7 walk_at "fw"
  refine we_listM ?_
  repeat walk_at "fw"
  intro la p1
  iterate 1 walk_at "fw"
  refine we_listM ?_
  repeat walk_at "fw"
  intro du p2
  repeat walk_at "fw"
  refine ⟨_, rfl, rfl, tss_cons (ts_local rfl (tss_cons (ts_local rfl (tss_cons (ts_local rfl (tss_nil ?_))))))⟩
  have ne : la ≠ du := hp_ne (AHeap.set_same ..) p2
  have G0 : G5 (AHeap.set (AHeap.set (fun _ => none) la (.list [])) du (.list [])) la du [] :=
    ⟨(AHeap.set_ne _ _ ne).trans (AHeap.set_same ..), AHeap.set_same .., ne, fun r hr => nomatch hr⟩
  with_reducible refine ws_cons ?_
  with_reducible refine W1.weaken (m' := E5 (.lst (ns.map .int)) la du) ?h1 (AHeap.le_refl _) ?_
  case h1 => exact Has.sub ⟨rfl, rfl, rfl, rfl, trivial⟩
  with_reducible refine w1_for (Inv05 (.lst (ns.map .int)) la du) ?_ ?_ ?_ ?hs
  case hs => intro _; rfl
  · unfold E5
    with_reducible refine wi ?_
    repeat walk_at "fw"
    refine t2_cat rfl rfl (by simp [sizeLine_eq]; omega) ?_
    exact ti_lst ⟨rfl, [0, 20350, 9, 111, 4] ++ ns, [], by simp, by simp; omega, .inr (by simp), G0, rfl⟩
  · rintro pin x xs m' σ' ⟨us, rs, he, hn, h0, G, rfl⟩
    cases us with
    | nil => cases he
    | cons u us =>
      cases he
      unfold E5
      walk_at "fw"
      dsimp only [Fm.withPin]
      have hn' : rs.length + us.length + 1 ≤ 68 := by simpa [Nat.add_assoc] using hn
      with_reducible show WS _ _ _ _ _ _ _
      with_reducible refine WS.mono (Q := fun fl m' σ₁ => fl = .next ∧ (∃ r, G5 σ₁ la du (rs ++ [r])) ∧ Has m' (E5 (.lst (ns.map .int)) la du)) ?h1 ?_
      case h1 => exact seg_elim (step05 K (u := u) (S := .lst (ns.map .int)) G (by omega)) rfl _ _ _ _ _ _ _ _
      rintro fl m' σ₁ ⟨rfl, ⟨r, G⟩, hm⟩
      exact ⟨_, _, Has.sub hm, AHeap.le_refl _, us, rs ++ [r], rfl, by simp; omega, .inl (by simp), G, rfl⟩
  · rintro m' σ' ⟨us, rs, he, hn, h0, G, rfl⟩
    obtain rfl : us = [] := by cases us with
      | nil => rfl
      | cons u us => cases he
    have h1 : rs ≠ [] := h0.elim id (fun q => absurd rfl q)
    with_reducible refine' seg_elim (end05 K G (by simpa using hn) h1) ?ho _ _ _ _ _ _ _ _
    case ho => rfl
end
end Mine
set_option maxHeartbeats 8000000 in
theorem PySem.Challenge.cw_dn0301_05_holds : PySem.Challenge.rw_dn0301_05.Holds :=
  Mine.hd05 (by
  w_strict (k_go0
            refine' Mine.enter1 (by assumption) (by assumption) (by assumption) (by assumption) (by assumption) (by assumption) rfl (by omega) ?_ ?_
            · intro A₀ A base h₀ ns hns
              generalize hC : Mine.Cx.mk _ _ _ _ _ _ _ _ _ _ = C
              have K : Mine.K05 C := by subst hC; exact Mine.k05 rfl
              clear hC
              exact Mine.seg_elim (Mine.start05 K hns) rfl _ _ _ _ _ _ _ _
            · intro h' tk mc' F'
              wrow_close))

