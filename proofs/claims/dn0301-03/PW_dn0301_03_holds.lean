import PyProof.Rows.All
import Wide.All
import OpenK.AllK
import Wide.FinOn
import Lean
import PySem.Challenge.RW_dn0301_03
set_option compiler.extract_closed false
open PySem PySem.W PyProof.Rows PySem.Calls
set_option Elab.async false
set_option maxRecDepth 100000
set_option linter.unusedVariables false
namespace Mine

/-! ## abstract values, objects, contexts -/
/-- a def inside a def, as the text has it -/
structure Clo where
  name : Str
  qual : Str
  params : Arguments
  body : FuncBody
  scope : Scope
  free : List Str
inductive AVal where
  | none
  | bool (b : Bool)
  | int (i : Int)
  | str (s : Str)
  | bytes (b : Array UInt8)
  | raw (v : Value)
  | obj (a : Addr)
  | fin (C : Addr)
  | lst (xs : List AVal)
  | tup (xs : List AVal)
  | rng (a b c : Int)
  | clos (d : Clo) (xs : List AVal)
  | meth (g : Addr) (x : AVal)

inductive AObj where
  | inst (C : Addr) (as : List (Str × AVal))
  | list (xs : List AVal)
  | dict (es : List (Int × AVal))
  | cell (v : Option AVal)
  | ns (as : List (Str × AVal))
  | tab (es : List (Pos × Str))

structure Cx where
  prog : Program
  w : World
  K : Frag
  vp : Program
  loose : List Str
  mean : ExcName → Option Value
  mg : Str → Option Value
  mb : Str → Option Value
  H : Heap
  fr : List (Addr × AVal)

abbrev Fz := List (Addr × Obj)
def At (C : Cx) (fz : Fz) (a : Addr) (o : Obj) : Prop := (a, o) ∈ fz ∨ C.H.get? a = some o
theorem At.mono {C : Cx} {fz fz' : Fz} (h : ∀ p ∈ fz, p ∈ fz') {a : Addr} {o : Obj} (x : At C fz a o) : At C fz' a o := x.imp (h _) id

abbrev cloObj (d : Clo) (cs : List Addr) (doc pm : Value) (c : Addr) (ctv : Value) : Obj :=
  { cls := .type "function", data := .func { name := d.name, qualname := d.qual, params := d.params, body := d.body, scope := d.scope, globals := mainGlobals, closure := d.free.zip cs, defaults := .none, kwdefaults := .none, doc, pyModule := pm, annotations := none, code := .ref c, closureTuple := ctv, builtins := builtinsNs } }
abbrev tupOf (vs : List Value) : Obj := { cls := .type "tuple", data := .seq vs.toArray }

mutual
inductive V (P : Addr → Obj → Prop) : Value → AVal → Prop
  | none : V P .none .none
  | bool (b : Bool) : V P (.bool b) (.bool b)
  | int (i : Int) (t : Tok) : V P (.int i t) (.int i)
  | str (x : Str) (t : Tok) : V P (.str x t) (.str x)
  | bytes (b : Array UInt8) (t : Tok) : V P (.bytes b t) (.bytes b)
  | raw (v : Value) : V P v (.raw v)
  | obj (a : Addr) : V P (.ref a) (.obj a)
  | fin {a d C : Addr} : P a (instObj C d) → P d (dictOf [] 0) → V P (.ref a) (.fin C)
  | lst {a : Addr} {o : Obj} {n : Nat} {vs : List Value} {xs : List AVal} : P a o → o.cls = .type "list" → o.data = .seq vs.toArray n → Vs P vs xs → V P (.ref a) (.lst xs)
  | tup {a : Addr} {o : Obj} {n : Nat} {vs : List Value} {xs : List AVal} : P a o → o.cls = .type "tuple" → o.data = .seq vs.toArray n → Vs P vs xs → V P (.ref a) (.tup xs)
  | rng {r : Addr} {a b c : Int} {t u v : Tok} : P r { cls := .type "range", dict := none, data := .fields #[.int a t, .int b u, .int c v], slots := #[] } → V P (.ref r) (.rng a b c)
  | clos {a c : Addr} {oc : Obj} {vs : Array Value} {t : Tok} {d : Clo} {cs : List Addr} {doc pm ctv : Value} {xs : List AVal} : P a (cloObj d cs doc pm c ctv) → P c oc → oc.data = .fields vs → vs[1]? = some (.str d.qual t) → Cs P cs xs → V P (.ref a) (.clos d xs)
  | meth {a g : Addr} {v : Value} {x : AVal} : P a (methodObj (.ref g) v) → V P v x → V P (.ref a) (.meth g x)
inductive Vs (P : Addr → Obj → Prop) : List Value → List AVal → Prop
  | nil : Vs P [] []
  | cons {v : Value} {av : AVal} {vs : List Value} {xs : List AVal} : V P v av → Vs P vs xs → Vs P (v :: vs) (av :: xs)
inductive Cs (P : Addr → Obj → Prop) : List Addr → List AVal → Prop
  | nil : Cs P [] []
  | cons {c : Addr} {o : Obj} {v : Value} {x : AVal} {cs : List Addr} {xs : List AVal} : P c o → o.data = .cell (some v) → V P v x → Cs P cs xs → Cs P (c :: cs) (x :: xs)
end

mutual
theorem V.mono {P P' : Addr → Obj → Prop} (k : ∀ a o, P a o → P' a o) : ∀ {v : Value} {x : AVal}, V P v x → V P' v x
  | _, _, .none => .none
  | _, _, .bool b => .bool b
  | _, _, .int i t => .int i t
  | _, _, .str x t => .str x t
  | _, _, .bytes b t => .bytes b t
  | _, _, .raw v => .raw v
  | _, _, .obj a => .obj a
  | _, _, .fin h1 h2 => .fin (k _ _ h1) (k _ _ h2)
  | _, _, .lst h1 h2 h3 h4 => .lst (k _ _ h1) h2 h3 (Vs.mono k h4)
  | _, _, .tup h1 h2 h3 h4 => .tup (k _ _ h1) h2 h3 (Vs.mono k h4)
  | _, _, .rng h1 => .rng (k _ _ h1)
  | _, _, .clos h1 h2 h3 h4 h5 => .clos (k _ _ h1) (k _ _ h2) h3 h4 (Cs.mono k h5)
  | _, _, .meth h1 h2 => .meth (k _ _ h1) (V.mono k h2)
theorem Vs.mono {P P' : Addr → Obj → Prop} (k : ∀ a o, P a o → P' a o) : ∀ {vs : List Value} {xs : List AVal}, Vs P vs xs → Vs P' vs xs
  | _, _, .nil => .nil
  | _, _, .cons h1 h2 => .cons (V.mono k h1) (Vs.mono k h2)
theorem Cs.mono {P P' : Addr → Obj → Prop} (k : ∀ a o, P a o → P' a o) : ∀ {vs : List Addr} {xs : List AVal}, Cs P vs xs → Cs P' vs xs
  | _, _, .nil => .nil
  | _, _, .cons h1 h2 h3 h4 => .cons (k _ _ h1) h2 (V.mono k h3) (Cs.mono k h4)
end
theorem V.up {C : Cx} {fz fz' : Fz} (h : ∀ p ∈ fz, p ∈ fz') {v : Value} {x : AVal} (a : V (At C fz) v x) : V (At C fz') v x := a.mono fun _ _ => At.mono h
theorem Vs.up {C : Cx} {fz fz' : Fz} (h : ∀ p ∈ fz, p ∈ fz') {v : List Value} {x : List AVal} (a : Vs (At C fz) v x) : Vs (At C fz') v x := a.mono fun _ _ => At.mono h
theorem Vs.length {P : Addr → Obj → Prop} : ∀ {vs : List Value} {xs : List AVal}, Vs P vs xs → vs.length = xs.length
  | _, _, .nil => rfl
  | _, _, .cons _ h => by simp [h.length]
theorem Vs.append {P : Addr → Obj → Prop} : ∀ {vs : List Value} {xs : List AVal} {ws : List Value} {ys : List AVal}, Vs P vs xs → Vs P ws ys → Vs P (vs ++ ws) (xs ++ ys)
  | _, _, _, _, .nil, h => h
  | _, _, _, _, .cons a b, h => .cons a (b.append h)
theorem Vs.get {P : Addr → Obj → Prop} : ∀ {vs : List Value} {xs : List AVal}, Vs P vs xs → ∀ {i : Nat} {x : AVal}, xs[i]? = some x → ∃ v, vs[i]? = some v ∧ V P v x
  | _, _, .nil, _, _, e => by simp at e
  | _, _, .cons a b, 0, _, e => by simp at e; subst e; exact ⟨_, rfl, a⟩
  | _, _, .cons a b, i + 1, _, e => by simp at e; obtain ⟨v, h1, h2⟩ := b.get e; exact ⟨v, by simpa using h1, h2⟩
/-! ## attribute dicts -/
inductive Es (P : Addr → Obj → Prop) : List DictEntry → List (Str × AVal) → Prop
  | nil : Es P [] []
  | cons {h : Int} {x : Str} {t : Tok} {v : Value} {av : AVal} {es : List DictEntry} {as : List (Str × AVal)} : V P v av → Es P es as → Es P (⟨h, .str x t, v⟩ :: es) ((x, av) :: as)
def getA (x : Str) : List (Str × AVal) → Option AVal
  | [] => none
  | (y, a) :: r => if y == x then some a else getA x r
def setA (x : Str) (v : AVal) : List (Str × AVal) → List (Str × AVal)
  | [] => [(x, v)]
  | (y, a) :: r => if y == x then (y, v) :: r else (y, a) :: setA x v r
theorem Es.mono {P P' : Addr → Obj → Prop} (k : ∀ a o, P a o → P' a o) : ∀ {es : List DictEntry} {as : List (Str × AVal)}, Es P es as → Es P' es as
  | _, _, .nil => .nil
  | _, _, .cons a b => .cons (a.mono k) (b.mono k)
/-! ## abstract heap -/
abbrev AHeap := Addr → Option AObj
def AHeap.set (σ : AHeap) (a : Addr) (o : AObj) : AHeap := fun b => if b = a then some o else σ b
@[simp] theorem AHeap.set_same (σ : AHeap) (a : Addr) (o : AObj) : σ.set a o a = some o := if_pos rfl
theorem AHeap.set_ne (σ : AHeap) {a b : Addr} (o : AObj) (h : b ≠ a) : σ.set a o b = σ b := if_neg h
def AHeap.le (σ σ' : AHeap) : Prop := ∀ a o, σ a = some o → σ' a = some o

/-- what stands under names -/
def ER (P : Addr → Obj → Prop) (m : List (Str × AVal)) (mc : Str → Option Value) : Prop := ∀ x a, getA x m = some a → ∃ v, mc x = some v ∧ V P v a
theorem ER.mono {P P' : Addr → Obj → Prop} (k : ∀ a o, P a o → P' a o) {m : List (Str × AVal)} {mc : Str → Option Value} (h : ER P m mc) : ER P' m mc := fun x a e => by obtain ⟨v, h1, h2⟩ := h x a e; exact ⟨v, h1, h2.mono k⟩
/-- a dict with whole numbers as keys -/
inductive Ks (P : Addr → Obj → Prop) : List (Int × Value) → List (Int × AVal) → Prop
  | nil : Ks P [] []
  | cons {k : Int} {v : Value} {a : AVal} {kvs : List (Int × Value)} {es : List (Int × AVal)} : V P v a → Ks P kvs es → Ks P ((k, v) :: kvs) ((k, a) :: es)
theorem Ks.mono {P P' : Addr → Obj → Prop} (k : ∀ a o, P a o → P' a o) : ∀ {kvs : List (Int × Value)} {es : List (Int × AVal)}, Ks P kvs es → Ks P' kvs es
  | _, _, .nil => .nil
  | _, _, .cons a b => .cons (a.mono k) (b.mono k)
/-- a code's table of the codes made in it -/
inductive Tb (P : Addr → Obj → Prop) : List Value → List (Pos × Str) → Prop
  | nil : Tb P [] []
  | cons {pos : Pos} {qual : Str} {c : Addr} {oc : Obj} {vs : Array Value} {t : Tok} {ps : List Value} {es : List (Pos × Str)} : P c oc → oc.data = .fields vs → vs[1]? = some (.str qual t) → Tb P ps es → Tb P (rawInt pos.line :: rawInt pos.col :: .ref c :: ps) ((pos, qual) :: es)
theorem Tb.mono {P P' : Addr → Obj → Prop} (k : ∀ a o, P a o → P' a o) : ∀ {ps : List Value} {es : List (Pos × Str)}, Tb P ps es → Tb P' ps es
  | _, _, .nil => .nil
  | _, _, .cons a b c d => .cons (k _ _ a) b c (Tb.mono k d)
def OR (P : Addr → Obj → Prop) (news : List (Addr × Obj)) (d a : Addr) : AObj → Prop
  | .inst C as => (a, instObj C d) ∈ news ∧ ∃ es n, (d, dictOf es n) ∈ news ∧ Es P es as
  | .list xs => ∃ vs n, (a, listOf vs.toArray n) ∈ news ∧ Vs P vs xs
  | .dict es => ∃ o kvs, (a, o) ∈ news ∧ (∀ prog w, o.IsDictOf (intKind prog w) kvs) ∧ Ks P kvs es
  | .ns as => ∃ o mc, (a, o) ∈ news ∧ LCg.NsObj o mc ∧ ER P as mc
  | .tab es => ∃ ps, (a, tabObj ps) ∈ news ∧ Tb P ps.toList es
  | .cell none => ∃ o, (a, o) ∈ news ∧ o.data = .cell none
  | .cell (some x) => ∃ o v, (a, o) ∈ news ∧ o.data = .cell (some v) ∧ V P v x

structure HR (C : Cx) (fz pin : Fz) (σ : AHeap) (δ : Addr → Addr) (news : List (Addr × Obj)) : Prop where
  sub : ∀ p ∈ fz ++ pin, p ∈ news
  apart : ∀ p ∈ fz, ∀ q ∈ pin, p.1 ≠ q.1
  ob : ∀ a ao, σ a = some ao → OR (At C fz) news (δ a) a ao
  off : ∀ a ao, σ a = some ao → ∀ p ∈ fz ++ pin, p.1 ≠ a
  doff : ∀ a c as, σ a = some (.inst c as) → ∀ p ∈ fz ++ pin, p.1 ≠ δ a
  dσ : ∀ a c as, σ a = some (.inst c as) → σ (δ a) = none
  free : ∀ p ∈ C.fr, ∃ o v, At C fz p.1 o ∧ o.data = .cell (some v) ∧ V (At C fz) v p.2
  dinj : ∀ a c as b c' bs, σ a = some (.inst c as) → σ b = some (.inst c' bs) → δ a = δ b → a = b

theorem OR.key {P : Addr → Obj → Prop} {news : List (Addr × Obj)} {d a : Addr} {o : AObj} (h : OR P news d a o) : ∃ o', (a, o') ∈ news := by
  cases o with
  | inst C as => exact ⟨_, h.1⟩
  | list xs => obtain ⟨vs, n, h, _⟩ := h; exact ⟨_, h⟩
  | dict es => obtain ⟨o, kvs, h, _⟩ := h; exact ⟨o, h⟩
  | ns as => obtain ⟨o, mc, h, _⟩ := h; exact ⟨o, h⟩
  | tab es => obtain ⟨ps, h, _⟩ := h; exact ⟨_, h⟩
  | cell v => cases v with
    | none => obtain ⟨o, h, _⟩ := h; exact ⟨o, h⟩
    | some v => obtain ⟨o, _, h, _⟩ := h; exact ⟨o, h⟩
theorem OR.mono {P P' : Addr → Obj → Prop} {news news' : List (Addr × Obj)} {d a : Addr} {o : AObj} (k : ∀ a o, P a o → P' a o) (h : OR P news d a o) (hn : ∀ o', (a, o') ∈ news → (a, o') ∈ news') (hd : ∀ c as, o = .inst c as → ∀ o', (d, o') ∈ news → (d, o') ∈ news') : OR P' news' d a o := by
  cases o with
  | inst C as => obtain ⟨h1, es, n, h2, h3⟩ := h; exact ⟨hn _ h1, es, n, hd _ _ rfl _ h2, h3.mono k⟩
  | list xs => obtain ⟨vs, n, h1, h2⟩ := h; exact ⟨vs, n, hn _ h1, h2.mono k⟩
  | dict es => obtain ⟨o, kvs, h1, h2, h3⟩ := h; exact ⟨o, kvs, hn _ h1, h2, h3.mono k⟩
  | ns as => obtain ⟨o, mc, h1, h2, h3⟩ := h; exact ⟨o, mc, hn _ h1, h2, h3.mono k⟩
  | tab es => obtain ⟨ps, h1, h2⟩ := h; exact ⟨ps, hn _ h1, h2.mono k⟩
  | cell v => cases v with
    | none => obtain ⟨o, h1, h2⟩ := h; exact ⟨o, hn _ h1, h2⟩
    | some v => obtain ⟨o, v, h1, h2, h3⟩ := h; exact ⟨o, v, hn _ h1, h2, h3.mono k⟩

/-! ## frames, the state -/
structure Fm where
  A₀ : Around
  A : Around
  base : Heap
  h₀ : Heap
  outer : List Env
  L : Addr
  a : Addr
  cn : Str
  cs : Scope
  ccd : Value
  cl : List (Str × Addr)
  pin : Fz
  comp : Option (Scope × List (Str × Addr) × Addr)
@[reducible] def Fm.withPin (f : Fm) (p : Fz) : Fm := { f with pin := p }
/-- the function's own surroundings -/
@[reducible] def Fm.fenv (f : Fm) : Env := envX f.cn f.cs f.L f.a f.ccd f.cl
/-- those of a row built in it -/
@[reducible] def Fm.envOn (f : Fm) : Option (Scope × List (Str × Addr) × Addr) → Env
  | none => f.fenv
  | some (sc, cl, c) => compEnvC sc cl c f.fenv
@[reducible] def Fm.env (f : Fm) : Env := f.envOn f.comp
@[reducible] def Fm.withComp (f : Fm) (k : Option (Scope × List (Str × Addr) × Addr)) (p : Fz) : Fm := { f with comp := k, pin := p }

structure Fm.Ok (C : Cx) (n : Nat) (f : Fm) : Prop where
  below : Below f.A₀ f.base f.outer f.h₀
  kin : C.K.In f.h₀
  top : Top C.vp C.loose C.mean C.mg C.mb f.h₀
  hk : ∀ b o, C.H.get? b = some o → f.h₀.get? b = some o
  stack : f.A.frames = some (f.fenv :: f.outer)
  handled : f.A.handled = none
  guards : f.A.guards = some []
  depth : f.A.depth + 3 * n < recursionLimit
  units : f.A.units + 10 * n + 100 < cLine
  kind : f.cs.kind = .function
  ckind : f.env.scope.kind = .function

abbrev AEnv := List (Str × AVal)
def AEnv.get (m : AEnv) (x : Str) : Option AVal := getA x m
def AEnv.set (m : AEnv) (x : Str) (v : AVal) : AEnv := setA x v m
theorem getA_setA {x y : Str} {v : AVal} : ∀ {m : List (Str × AVal)}, getA y (setA x v m) = if y = x then some v else getA y m
  | [] => by
    unfold setA getA
    by_cases h : y = x
    · simp [h]
    · have : ¬ (x = y) := fun e => h e.symm
      simp [h, this, getA]
  | (z, a) :: r => by
    unfold setA
    by_cases hz : (z == x) = true
    · rw [if_pos hz]
      have hz' : z = x := by simpa using hz
      subst hz'
      unfold getA
      by_cases h : y = z
      · simp [h]
      · have : ¬ (z = y) := fun e => h e.symm
        simp [h, this]
    · rw [if_neg hz]
      unfold getA
      by_cases h : (z == y) = true
      · rw [if_pos h, if_pos h]
        have hz' : z = y := by simpa using h
        subst hz'
        have : ¬ z = x := by simpa using hz
        rw [if_neg this]
      · rw [if_neg h, if_neg h]; exact getA_setA
def SR (C : Cx) (f : Fm) (fz : Fz) (m : AEnv) (σ : AHeap) (s : Shared) : Prop :=
  ∃ mc news δ, Fr f.h₀ f.L s.heap mc ∧ News f.h₀ f.L s.heap news ∧ HR C fz f.pin σ δ news ∧ ER (At C fz) m mc
def Same (s s' : Shared) : Prop := ∃ h tk, s' = { s with heap := h, toks := tk }
theorem Same.rfl {s : Shared} : Same s s := ⟨s.heap, s.toks, by cases s; exact Eq.refl _⟩
theorem Same.mk {s : Shared} {h : Heap} {tk : Nat} : Same s { s with heap := h, toks := tk } := ⟨h, tk, Eq.refl _⟩
theorem Same.trans {s s₁ s₂ : Shared} (a : Same s s₁) (b : Same s₁ s₂) : Same s s₂ := by
  obtain ⟨h, t, e⟩ := a; obtain ⟨h', t', e'⟩ := b; subst e; subst e'; exact ⟨h', t', Eq.refl _⟩

section
variable {C : Cx} {f : Fm} {fz : Fz} {m : AEnv} {σ : AHeap} {s : Shared}
theorem SR.at_ {n : Nat} (ok : f.Ok C n) (x : SR C f fz m σ s) {a : Addr} {o : Obj} (h : At C fz a o) : s.heap.get? a = some o := by
  obtain ⟨mc, news, δ, F, N, R, _⟩ := x
  rcases h with h | h
  · exact (N _ (R.sub _ (List.mem_append_left _ h))).1
  · exact F.keep _ _ (ok.hk _ _ h)
theorem SR.weaken (x : SR C f fz m σ s) {m' : AEnv} {σ' : AHeap} (hm : ∀ y a, m'.get y = some a → m.get y = some a) (hσ : σ'.le σ) : SR C f fz m' σ' s := by
  obtain ⟨mc, news, δ, F, N, R, e⟩ := x
  refine ⟨mc, news, δ, F, N, ⟨R.sub, R.apart, fun a o h => R.ob a o (hσ _ _ h), fun a o h => R.off a o (hσ _ _ h), fun a c as h => R.doff a c as (hσ _ _ h), fun a c as h => ?_, R.free, fun a c as b c' bs h1 h2 => R.dinj a c as b c' bs (hσ _ _ h1) (hσ _ _ h2)⟩, fun y a h => e y a (hm _ _ h)⟩
  cases q : σ' (δ a) with
  | none => rfl
  | some o => have := hσ _ _ q; rw [R.dσ a c as (hσ _ _ h)] at this; cases this
theorem news_lt {h₀ h : Heap} {L : Addr} {news : List (Addr × Obj)} (N : News h₀ L h news) {p : Addr × Obj} (hp : p ∈ news) : p.1 < h.objs.size := Heap.lt_size (N p hp).1

/-- a heap that only grew -/
theorem SR.grow (x : SR C f fz m σ s) {h' : Heap} {t : Nat} (k : ∀ b o, s.heap.get? b = some o → h'.get? b = some o) : SR C f fz m σ { s with heap := h', toks := t } := by
  obtain ⟨mc, news, δ, F, N, R, e⟩ := x
  exact ⟨mc, news, δ, F.grownK k, fun p hp => ⟨k _ _ (N p hp).1, (N p hp).2⟩, R, e⟩

/-- new objects, frozen from the start -/
theorem SR.freeze (x : SR C f fz m σ s) {h' : Heap} {t : Nat} (k : ∀ b o, s.heap.get? b = some o → h'.get? b = some o) (new : List (Addr × Obj)) (hn : ∀ p ∈ new, s.heap.get? p.1 = none ∧ s.heap.objs.size ≤ p.1 ∧ h'.get? p.1 = some p.2) :
    SR C f (new ++ fz) m σ { s with heap := h', toks := t } := by
  obtain ⟨mc, news, δ, F, N, R, e⟩ := x
  have key : ∀ a ao, σ a = some ao → a < s.heap.objs.size := fun a ao h => by obtain ⟨o, h⟩ := (R.ob a ao h).key; exact news_lt N h
  have dkey : ∀ a c as, σ a = some (.inst c as) → δ a < s.heap.objs.size := fun a c as h => by obtain ⟨_, es, n, h, _⟩ := R.ob a _ h; exact news_lt N h
  have up : ∀ p ∈ fz, p ∈ new ++ fz := fun p hp => List.mem_append_right _ hp
  have split : ∀ p ∈ (new ++ fz) ++ f.pin, p ∈ new ∨ p ∈ fz ++ f.pin := fun p hp => by
    rw [List.append_assoc] at hp; exact List.mem_append.mp hp
  refine ⟨mc, new ++ news, δ, F.grownK k, fun p hp => ?_, ⟨fun p hp => ?_, fun p hp q hq => ?_, fun a ao h => ?_, fun a ao h p hp => ?_, fun a c as h p hp => ?_, R.dσ, fun p hp => let ⟨o, v, a, b, c⟩ := R.free p hp; ⟨o, v, a.mono up, b, c.up up⟩, R.dinj⟩, fun y a h => ?_⟩
  · rcases List.mem_append.mp hp with hp | hp
    · obtain ⟨h1, h2, h3⟩ := hn p hp
      refine ⟨h3, fun q => ?_, ?_⟩
      · obtain ⟨oL, _, _, hL, _⟩ := F.ns; rw [q, hL] at h1; cases h1
      · cases q : f.h₀.get? p.1 with
        | none => rfl
        | some o => rw [F.keep _ _ q] at h1; cases h1
    · exact ⟨k _ _ (N p hp).1, (N p hp).2⟩
  · rcases split p hp with hp | hp
    · exact List.mem_append_left _ hp
    · exact List.mem_append_right _ (R.sub _ hp)
  · rcases List.mem_append.mp hp with hp | hp
    · exact fun e => absurd (news_lt N (R.sub _ (List.mem_append_right _ hq))) (Nat.not_lt.mpr (e ▸ (hn p hp).2.1))
    · exact R.apart p hp q hq
  · exact (R.ob a ao h).mono (fun _ _ => At.mono up) (fun _ q => List.mem_append_right _ q) fun _ _ _ _ q => List.mem_append_right _ q
  · rcases split p hp with hp | hp
    · exact fun q => absurd (key a ao h) (Nat.not_lt.mpr (q ▸ (hn p hp).2.1))
    · exact R.off a ao h p hp
  · rcases split p hp with hp | hp
    · exact fun q => absurd (dkey a c as h) (Nat.not_lt.mpr (q ▸ (hn p hp).2.1))
    · exact R.doff a c as h p hp
  · obtain ⟨v, h1, h2⟩ := e y a h; exact ⟨v, h1, h2.up up⟩
end
end Mine

open PySem PySem.W PyProof.Rows PySem.Calls
namespace Mine
def upd (news : List (Addr × Obj)) (D : Addr) (o : Obj) : List (Addr × Obj) := (D, o) :: news.filter (fun p => decide (p.1 ≠ D))
theorem mem_upd {news : List (Addr × Obj)} {D : Addr} {o : Obj} {p : Addr × Obj} (h : p ∈ news) (hn : p.1 ≠ D) : p ∈ upd news D o :=
  List.mem_cons_of_mem _ (List.mem_filter.mpr ⟨h, by simpa using hn⟩)
theorem news_upd' {h₀ h h' : Heap} {L D : Addr} {news : List (Addr × Obj)} {o o' : Obj} (N : News h₀ L h news) (hD : (D, o) ∈ news) (hs : Heap.SameBut D h h') (ho : h'.get? D = some o') : News h₀ L h' (upd news D o') := by
  intro p hp
  rcases List.mem_cons.mp hp with rfl | hp
  · exact ⟨ho, (N _ hD).2⟩
  · obtain ⟨h1, h2⟩ := List.mem_filter.mp hp
    have h2 : p.1 ≠ D := by simpa using h2
    exact ⟨(hs.2 _ h2).trans (N p h1).1, (N p h1).2⟩

section
variable {C : Cx} {f : Fm} {fz : Fz} {m : AEnv} {σ : AHeap} {s : Shared}

theorem SR.list (x : SR C f fz m σ s) {a : Addr} {xs : List AVal} (h : σ a = some (.list xs)) : ∃ vs n, s.heap.get? a = some (listOf vs.toArray n) ∧ Vs (At C fz) vs xs := by
  obtain ⟨mc, news, δ, F, N, R, e⟩ := x
  obtain ⟨vs, n, h1, h2⟩ := R.ob a _ h
  exact ⟨vs, n, (N _ h1).1, h2⟩
theorem SR.cell (x : SR C f fz m σ s) {a : Addr} {v : AVal} (h : σ a = some (.cell (some v))) : ∃ o u, s.heap.get? a = some o ∧ o.data = .cell (some u) ∧ V (At C fz) u v := by
  obtain ⟨mc, news, δ, F, N, R, e⟩ := x
  obtain ⟨o, u, h1, h2, h3⟩ := R.ob a _ h
  exact ⟨o, u, (N _ h1).1, h2, h3⟩
theorem SR.lt (x : SR C f fz m σ s) {a : Addr} {o : AObj} (h : σ a = some o) : a < s.heap.objs.size := by
  obtain ⟨mc, news, δ, F, N, R, e⟩ := x
  obtain ⟨o, h⟩ := (R.ob a _ h).key; exact news_lt N h
theorem SR.fresh (x : SR C f fz m σ s) {a : Addr} (h : s.heap.objs.size ≤ a) : σ a = none := by
  cases q : σ a with
  | none => rfl
  | some o => exact absurd (x.lt q) (Nat.not_lt.mpr h)

/-- a list's, a cell's object is changed -/
theorem SR.change (x : SR C f fz m σ s) {a : Addr} {ao ao' : AObj} {h' : Heap} {t : Nat} {o' : Obj} (h : σ a = some ao) (hn : ∀ c as, ao ≠ .inst c as) (hn' : ∀ c as, ao' ≠ .inst c as) (hs : Heap.SameBut a s.heap h') (ho : h'.get? a = some o')
    (hr : ∀ news d, (a, o') ∈ news → OR (At C fz) news d a ao') : SR C f fz m (σ.set a ao') { s with heap := h', toks := t } := by
  obtain ⟨mc, news, δ, F, N, R, e⟩ := x
  obtain ⟨o, hm⟩ := (R.ob a _ h).key
  have dn : ∀ b c as, σ b = some (.inst c as) → δ b ≠ a := fun b c as hb q => by have := R.dσ b c as hb; rw [q, h] at this; cases this
  have keep : ∀ {b c as}, σ.set a ao' b = some (.inst c as) → b ≠ a ∧ σ b = some (.inst c as) := fun {b c as} hb => by
    by_cases q : b = a
    · subst q; rw [AHeap.set_same] at hb; exact absurd (Option.some.inj hb) (hn' c as)
    · rw [AHeap.set_ne _ _ q] at hb; exact ⟨q, hb⟩
  refine ⟨mc, upd news a o', δ, F.change hs (N _ hm).2.1 (N _ hm).2.2, news_upd' N hm hs ho, ⟨fun p hp => mem_upd (R.sub p hp) (R.off a _ h p hp), R.apart, fun b bo hb => ?_, fun b bo hb p hp => ?_, fun b c as hb p hp => R.doff b c as (keep hb).2 p hp, fun b c as hb => ?_, R.free, fun b c as b' c' bs h1 h2 => R.dinj b c as b' c' bs (keep h1).2 (keep h2).2⟩, e⟩
  · by_cases q : b = a
    · subst q; rw [AHeap.set_same] at hb; cases hb; exact hr _ _ (List.mem_cons_self ..)
    · rw [AHeap.set_ne _ _ q] at hb
      exact (R.ob b bo hb).mono (fun _ _ x => x) (fun _ hm => mem_upd hm q) fun c as eb _ hm => mem_upd hm (dn b c as (eb ▸ hb))
  · by_cases q : b = a
    · subst q; exact R.off b _ h p hp
    · rw [AHeap.set_ne _ _ q] at hb; exact R.off b bo hb p hp
  · rw [AHeap.set_ne _ _ (dn b c as (keep hb).2)]; exact R.dσ b c as (keep hb).2
theorem SR.setList (x : SR C f fz m σ s) {a : Addr} {xs xs' : List AVal} {h' : Heap} {t n : Nat} {vs' : List Value} (h : σ a = some (.list xs)) (hs : Heap.SameBut a s.heap h') (ho : h'.get? a = some (listOf vs'.toArray n)) (hv : Vs (At C fz) vs' xs') :
    SR C f fz m (σ.set a (.list xs')) { s with heap := h', toks := t } := x.change h (fun _ _ => nofun) (fun _ _ => nofun) hs ho fun _ _ hm => ⟨_, _, hm, hv⟩
theorem SR.setCell (x : SR C f fz m σ s) {a : Addr} {v₀ : Option AVal} {v : AVal} {u : Value} {h' : Heap} {t : Nat} {o' : Obj} (h : σ a = some (.cell v₀)) (hs : Heap.SameBut a s.heap h') (ho : h'.get? a = some o') (hd : o'.data = .cell (some u)) (hv : V (At C fz) u v) :
    SR C f fz m (σ.set a (.cell (some v))) { s with heap := h', toks := t } := x.change h (fun _ _ => nofun) (fun _ _ => nofun) hs ho fun _ _ hm => ⟨_, _, hm, hd, hv⟩

/-- new mutable things -/
theorem SR.newThing (x : SR C f fz m σ s) {a : Addr} {ao : AObj} {h' : Heap} {t : Nat} {o : Obj} (hn : ∀ c as, ao ≠ .inst c as) (k : ∀ b o, s.heap.get? b = some o → h'.get? b = some o) (ha : s.heap.objs.size ≤ a) (ho : h'.get? a = some o)
    (hr : ∀ news d, (a, o) ∈ news → OR (At C fz) news d a ao) : SR C f fz m (σ.set a ao) { s with heap := h', toks := t } := by
  have hσ := x.fresh ha
  obtain ⟨mc, news, δ, F, N, R, e⟩ := x
  have hnone : s.heap.get? a = none := by
    cases q : s.heap.get? a with
    | none => rfl
    | some o => exact absurd (Heap.lt_size q) (Nat.not_lt.mpr ha)
  have nn : ∀ p ∈ news, p.1 ≠ a := fun p hp q => absurd (news_lt N hp) (Nat.not_lt.mpr (q ▸ ha))
  have keep : ∀ {b c as}, σ.set a ao b = some (.inst c as) → b ≠ a ∧ σ b = some (.inst c as) := fun {b c as} hb => by
    by_cases q : b = a
    · subst q; rw [AHeap.set_same] at hb; exact absurd (Option.some.inj hb) (hn c as)
    · rw [AHeap.set_ne _ _ q] at hb; exact ⟨q, hb⟩
  have dn : ∀ b c as, σ b = some (.inst c as) → δ b ≠ a := fun b c as hb => by obtain ⟨_, es, n, h, _⟩ := R.ob b _ hb; exact nn _ h
  refine ⟨mc, (a, o) :: news, δ, F.grownK k, fun p hp => ?_, ⟨fun p hp => .tail _ (R.sub p hp), R.apart, fun b bo hb => ?_, fun b bo hb p hp => ?_, fun b c as hb p hp => R.doff b c as (keep hb).2 p hp, fun b c as hb => ?_, R.free, fun b c as b' c' bs h1 h2 => R.dinj b c as b' c' bs (keep h1).2 (keep h2).2⟩, e⟩
  · rcases List.mem_cons.mp hp with rfl | hp
    · refine ⟨ho, fun q => ?_, ?_⟩
      · obtain ⟨oL, _, _, hL, _⟩ := F.ns; dsimp only at q; rw [q, hL] at hnone; cases hnone
      · cases q : f.h₀.get? a with
        | none => rfl
        | some o => rw [F.keep _ _ q] at hnone; cases hnone
    · exact ⟨k _ _ (N p hp).1, (N p hp).2⟩
  · by_cases q : b = a
    · subst q; rw [AHeap.set_same] at hb; cases hb; exact hr _ _ (List.mem_cons_self ..)
    · rw [AHeap.set_ne _ _ q] at hb
      exact (R.ob b bo hb).mono (fun _ _ x => x) (fun _ hm => .tail _ hm) fun c as eb _ hm => .tail _ hm
  · by_cases q : b = a
    · subst q; exact nn _ (R.sub p hp)
    · rw [AHeap.set_ne _ _ q] at hb; exact R.off b bo hb p hp
  · rw [AHeap.set_ne _ _ (dn b c as (keep hb).2)]; exact R.dσ b c as (keep hb).2
theorem SR.newList (x : SR C f fz m σ s) {a : Addr} {xs : List AVal} {h' : Heap} {t n : Nat} {vs : List Value} (k : ∀ b o, s.heap.get? b = some o → h'.get? b = some o) (ha : s.heap.objs.size ≤ a) (ho : h'.get? a = some (listOf vs.toArray n)) (hv : Vs (At C fz) vs xs) :
    SR C f fz m (σ.set a (.list xs)) { s with heap := h', toks := t } := x.newThing (fun _ _ => nofun) k ha ho fun _ _ hm => ⟨_, _, hm, hv⟩
/-- a name of the frame is stored -/
theorem SR.store (x : SR C f fz m σ s) {y : Str} {v : Value} {a : AVal} (hv : V (At C fz) v a) :
    ∃ mc news, Fr f.h₀ f.L s.heap mc ∧ News f.h₀ f.L s.heap news ∧ ∀ h' t, Fr f.h₀ f.L h' (fun z => if z = y then some v else mc z) → News f.h₀ f.L h' news → SR C f fz (m.set y a) σ { s with heap := h', toks := t } := by
  obtain ⟨mc, news, δ, F, N, R, e⟩ := x
  refine ⟨mc, news, F, N, fun h' t F' N' => ⟨_, news, δ, F', N', R, fun z b hz => ?_⟩⟩
  unfold AEnv.get AEnv.set at hz
  rw [getA_setA] at hz
  by_cases q : z = y
  · rw [if_pos q] at hz; cases hz; exact ⟨v, if_pos q, hv⟩
  · rw [if_neg q] at hz; obtain ⟨u, h1, h2⟩ := e z b hz; exact ⟨u, (if_neg q).trans h1, h2⟩
end
end Mine

open PySem PySem.W PyProof.Rows PySem.Calls
namespace Mine
abbrev Md (C : Cx) : Model := model C.prog C.w

def PV (C : Cx) (f : Fm) (m : AEnv) (fz : Fz) (s : Shared) (Q : AVal → AHeap → Prop) (v : Value) (s' : Shared) : Prop :=
  ∃ fz' σ' a, (∀ p ∈ fz, p ∈ fz') ∧ Same s s' ∧ SR C f fz' m σ' s' ∧ V (At C fz') v a ∧ Q a σ'
def PL (C : Cx) (f : Fm) (m : AEnv) (fz : Fz) (s : Shared) (Q : List AVal → AHeap → Prop) (v : List Value) (s' : Shared) : Prop :=
  ∃ fz' σ' a, (∀ p ∈ fz, p ∈ fz') ∧ Same s s' ∧ SR C f fz' m σ' s' ∧ Vs (At C fz') v a ∧ Q a σ'
def PB (C : Cx) (f : Fm) (m : AEnv) (fz : Fz) (s : Shared) (Q : Bool → AHeap → Prop) (b : Bool) (s' : Shared) : Prop :=
  ∃ fz' σ', (∀ p ∈ fz, p ∈ fz') ∧ Same s s' ∧ SR C f fz' m σ' s' ∧ Q b σ'
inductive AFlow where
  | next | brk | cont
  | ret (a : AVal)
def FV (P : Addr → Obj → Prop) : Flow → AFlow → Prop
  | .next, .next => True
  | .brk, .brk => True
  | .cont, .cont => True
  | .ret v, .ret a => V P v a
  | _, _ => False
def PS (C : Cx) (f : Fm) (fz : Fz) (s : Shared) (Q : AFlow → AEnv → AHeap → Prop) (fl : Flow) (s' : Shared) : Prop :=
  ∃ fz' σ' m' a, (∀ p ∈ fz, p ∈ fz') ∧ Same s s' ∧ SR C f fz' m' σ' s' ∧ FV (At C fz') fl a ∧ Q a m' σ'

theorem PV.el {C : Cx} {f : Fm} {m : AEnv} {fz : Fz} {s : Shared} {Q : AVal → AHeap → Prop} {v : Value} {s' : Shared} {P : Prop} (h : PV C f m fz s Q v s') (k : ∀ fz' σ' a, (∀ p ∈ fz, p ∈ fz') → Same s s' → SR C f fz' m σ' s' → V (At C fz') v a → Q a σ' → P) : P := by
  obtain ⟨fz', σ', a, h1, h2, h3, h4, h5⟩ := h; exact k fz' σ' a h1 h2 h3 h4 h5
theorem PL.el {C : Cx} {f : Fm} {m : AEnv} {fz : Fz} {s : Shared} {Q : List AVal → AHeap → Prop} {v : List Value} {s' : Shared} {P : Prop} (h : PL C f m fz s Q v s') (k : ∀ fz' σ' a, (∀ p ∈ fz, p ∈ fz') → Same s s' → SR C f fz' m σ' s' → Vs (At C fz') v a → Q a σ' → P) : P := by
  obtain ⟨fz', σ', a, h1, h2, h3, h4, h5⟩ := h; exact k fz' σ' a h1 h2 h3 h4 h5
theorem PB.el {C : Cx} {f : Fm} {m : AEnv} {fz : Fz} {s : Shared} {Q : Bool → AHeap → Prop} {b : Bool} {s' : Shared} {P : Prop} (h : PB C f m fz s Q b s') (k : ∀ fz' σ', (∀ p ∈ fz, p ∈ fz') → Same s s' → SR C f fz' m σ' s' → Q b σ' → P) : P := by
  obtain ⟨fz', σ', h1, h2, h3, h5⟩ := h; exact k fz' σ' h1 h2 h3 h5
theorem PS.el {C : Cx} {f : Fm} {fz : Fz} {s : Shared} {Q : AFlow → AEnv → AHeap → Prop} {fl : Flow} {s' : Shared} {P : Prop} (h : PS C f fz s Q fl s') (k : ∀ fz' σ' m' a, (∀ p ∈ fz, p ∈ fz') → Same s s' → SR C f fz' m' σ' s' → FV (At C fz') fl a → Q a m' σ' → P) : P := by
  obtain ⟨fz', σ', m', a, h1, h2, h3, h4, h5⟩ := h; exact k fz' σ' m' a h1 h2 h3 h4 h5
theorem PU.el {C : Cx} {f : Fm} {fz : Fz} {s : Shared} {Q : AEnv → AHeap → Prop} {s' : Shared} {P : Prop} (h : ∃ fz' σ' m', (∀ p ∈ fz, p ∈ fz') ∧ Same s s' ∧ SR C f fz' m' σ' s' ∧ Q m' σ') (k : ∀ fz' σ' m', (∀ p ∈ fz, p ∈ fz') → Same s s' → SR C f fz' m' σ' s' → Q m' σ' → P) : P := by
  obtain ⟨fz', σ', m', h1, h2, h3, h5⟩ := h; exact k fz' σ' m' h1 h2 h3 h5
theorem PH.el {C : Cx} {f : Fm} {m : AEnv} {fz : Fz} {s : Shared} {Q : AHeap → Prop} {s' : Shared} {P : Prop} (h : ∃ fz' σ', (∀ p ∈ fz, p ∈ fz') ∧ Same s s' ∧ SR C f fz' m σ' s' ∧ Q σ') (k : ∀ fz' σ', (∀ p ∈ fz, p ∈ fz') → Same s s' → SR C f fz' m σ' s' → Q σ' → P) : P := by
  obtain ⟨fz', σ', h1, h2, h3, h5⟩ := h; exact k fz' σ' h1 h2 h3 h5
def WE (C : Cx) (n : Nat) (f : Fm) (e : Expr) (m : AEnv) (σ : AHeap) (Q : AVal → AHeap → Prop) : Prop :=
  f.Ok C n → ∀ fz s E, SR C f fz m σ s → wpAny (Md C) f.A (eval e f.env) (PV C f m fz s Q) E s
def WL (C : Cx) (n : Nat) (f : Fm) (es : List Expr) (pos : Pos) (m : AEnv) (σ : AHeap) (Q : List AVal → AHeap → Prop) : Prop :=
  f.Ok C n → ∀ fz s E, SR C f fz m σ s → wpAny (Md C) f.A (spliced (backTo pos (starEach es f.env))) (PL C f m fz s Q) E s
def WT (C : Cx) (n : Nat) (f : Fm) (e : Expr) (m : AEnv) (σ : AHeap) (Q : Bool → AHeap → Prop) : Prop :=
  f.Ok C n → ∀ fz s E, SR C f fz m σ s → wpAny (Md C) f.A (isTrue e f.env (eval e f.env)) (PB C f m fz s Q) E s
/-- trees over one, two, many values -/
def T1 (C : Cx) (n : Nat) (f : Fm) (t : Value → Sem Value) (a : AVal) (m : AEnv) (σ : AHeap) (Q : AVal → AHeap → Prop) : Prop :=
  f.Ok C n → ∀ fz s E v, SR C f fz m σ s → V (At C fz) v a → wpAny (Md C) f.A (t v) (PV C f m fz s Q) E s
def T2 (C : Cx) (n : Nat) (f : Fm) (t : Value → Value → Sem Value) (a b : AVal) (m : AEnv) (σ : AHeap) (Q : AVal → AHeap → Prop) : Prop :=
  f.Ok C n → ∀ fz s E v w, SR C f fz m σ s → V (At C fz) v a → V (At C fz) w b → wpAny (Md C) f.A (t v w) (PV C f m fz s Q) E s
def TL (C : Cx) (n : Nat) (f : Fm) (t : List Value → Sem Value) (as : List AVal) (m : AEnv) (σ : AHeap) (Q : AVal → AHeap → Prop) : Prop :=
  f.Ok C n → ∀ fz s E vs, SR C f fz m σ s → Vs (At C fz) vs as → wpAny (Md C) f.A (t vs) (PV C f m fz s Q) E s
def TB (C : Cx) (n : Nat) (f : Fm) (t : Value → Sem Bool) (a : AVal) (m : AEnv) (σ : AHeap) (Q : Bool → AHeap → Prop) : Prop :=
  f.Ok C n → ∀ fz s E v, SR C f fz m σ s → V (At C fz) v a → wpAny (Md C) f.A (t v) (PB C f m fz s Q) E s
def W1 (C : Cx) (n : Nat) (f : Fm) (st : Stmt) (m : AEnv) (σ : AHeap) (Q : AFlow → AEnv → AHeap → Prop) : Prop :=
  f.Ok C n → ∀ fz s E, SR C f fz m σ s → wpAny (Md C) f.A (exec st f.env) (PS C f fz s Q) E s
def WS (C : Cx) (n : Nat) (f : Fm) (ss : List Stmt) (m : AEnv) (σ : AHeap) (Q : AFlow → AEnv → AHeap → Prop) : Prop :=
  f.Ok C n → ∀ fz s E, SR C f fz m σ s → wpAny (Md C) f.A (execs ss f.env) (PS C f fz s Q) E s

section
variable {C : Cx} {n : Nat} {f : Fm} {m : AEnv} {σ : AHeap} {s s₁ s' : Shared} {fz fz₁ : Fz}
theorem sub_refl {fz : Fz} : ∀ p ∈ fz, p ∈ fz := fun _ h => h
theorem PV.up {Q : AVal → AHeap → Prop} {v : Value} (h : ∀ p ∈ fz, p ∈ fz₁) (hs : Same s s₁) (x : PV C f m fz₁ s₁ Q v s') : PV C f m fz s Q v s' := by
  obtain ⟨fz', σ', a, h1, h2, h3, h4, h5⟩ := x
  exact ⟨fz', σ', a, fun p hp => h1 p (h p hp), hs.trans h2, h3, h4, h5⟩
theorem PB.up {Q : Bool → AHeap → Prop} {v : Bool} (h : ∀ p ∈ fz, p ∈ fz₁) (hs : Same s s₁) (x : PB C f m fz₁ s₁ Q v s') : PB C f m fz s Q v s' := by
  obtain ⟨fz', σ', h1, h2, h3, h5⟩ := x
  exact ⟨fz', σ', fun p hp => h1 p (h p hp), hs.trans h2, h3, h5⟩
theorem PS.up {Q : AFlow → AEnv → AHeap → Prop} {v : Flow} (h : ∀ p ∈ fz, p ∈ fz₁) (hs : Same s s₁) (x : PS C f fz₁ s₁ Q v s') : PS C f fz s Q v s' := by
  obtain ⟨fz', σ', m', a, h1, h2, h3, h4, h5⟩ := x
  exact ⟨fz', σ', m', a, fun p hp => h1 p (h p hp), hs.trans h2, h3, h4, h5⟩
theorem PV.here {Q : AVal → AHeap → Prop} {v : Value} {a : AVal} (x : SR C f fz m σ s) (hv : V (At C fz) v a) (q : Q a σ) : PV C f m fz s Q v s := ⟨fz, σ, a, sub_refl, .rfl, x, hv, q⟩
theorem PV.tok {Q : AVal → AHeap → Prop} {v : Value} {a : AVal} {t : Nat} (x : SR C f fz m σ s) (hv : V (At C fz) v a) (q : Q a σ) : PV C f m fz s Q v { s with toks := t } := ⟨fz, σ, a, sub_refl, .mk, x, hv, q⟩

/-! ## consequence -/
theorem WS.mono {ss : List Stmt} {Q Q' : AFlow → AEnv → AHeap → Prop} (h : WS C n f ss m σ Q) (k : ∀ a m σ, Q a m σ → Q' a m σ) : WS C n f ss m σ Q' :=
  fun ok fz s E x => wpAny_mono (h ok fz s E x) (fun v s' hq => hq.el fun fz' σ' m' a h1 h2 h3 h4 h5 => ⟨fz', σ', m', a, h1, h2, h3, h4, k _ _ _ h5⟩) fun _ _ x => x
theorem WS.weaken {ss : List Stmt} {m' : AEnv} {σ' : AHeap} {Q : AFlow → AEnv → AHeap → Prop} (hm : ∀ y a, m'.get y = some a → m.get y = some a) (hσ : σ'.le σ) (h : WS C n f ss m' σ' Q) : WS C n f ss m σ Q :=
  fun ok fz s E x => h ok fz s E (x.weaken hm hσ)

/-! ## expressions -/
theorem we_int {i : Int} {k : Nat} {pos : Pos} {Q : AVal → AHeap → Prop} (h : Q (.int i) σ) : WE C n f (.Constant (.int i) k pos) m σ Q :=
  fun ok fz s E x => wpAny_Constant_int (.tok x (.int _ _) h)
theorem we_none {k : Nat} {pos : Pos} {Q : AVal → AHeap → Prop} (h : Q .none σ) : WE C n f (.Constant .none k pos) m σ Q :=
  fun ok fz s E x => wpAny_Constant_none (.here x .none h)
theorem we_local {y : Str} {pos : Pos} {a : AVal} {Q : AVal → AHeap → Prop} (hl : f.fenv.kindOf y = some .local) (hv : m.get y = some a) (h : Q a σ) (hd : (y == ("__debug__" : Str)) = false := by decide) (hcm : f.comp = none := by rfl) : WE C n f (.Name y pos) m σ Q := fun ok fz s E x => by
  have x' := x
  obtain ⟨mc, news, δ, F, N, R, e⟩ := x
  obtain ⟨v, h1, h2⟩ := e y a hv
  have he : f.env = f.fenv := by unfold Fm.env; rw [hcm]
  rw [he]
  exact nameX_L F h1 (.here x' h2 h) ok.kind hl hd
/-- a name of a row that is being built -/
theorem we_clocal {y : Str} {pos : Pos} {sc : Scope} {cl : List (Str × Addr)} {c : Addr} {as : List (Str × AVal)} {a : AVal} {Q : AVal → AHeap → Prop} (hcm : f.comp = some (sc, cl, c)) (hl : f.env.kindOf y = some .local) (hc : σ c = some (.ns as)) (hv : getA y as = some a) (h : Q a σ) (hd : (y == ("__debug__" : Str)) = false := by decide) : WE C n f (.Name y pos) m σ Q := fun ok fz s E x => by
  have x' := x
  obtain ⟨mc, news, δ, F, N, R, e⟩ := x
  obtain ⟨o, mc', h1, h2, h3⟩ := R.ob c _ hc
  obtain ⟨v, h4, h5⟩ := h3 y a hv
  have hL : f.env.locals = c := by unfold Fm.env; rw [hcm]; rfl
  exact wpAny_Name (wpAny_loadName_local ok.ckind hl (by rw [hL]; exact h2.ns (N _ h1).1) h4 (.here x' h5 h)) hd
theorem we_cell {y : Str} {pos : Pos} {c : Addr} {a : AVal} {Q : AVal → AHeap → Prop} (hl : f.env.kindOf y = some .cell) (hc : f.env.cells.lookup y = some c) (hv : σ c = some (.cell (some a))) (h : Q a σ) (hd : (y == ("__debug__" : Str)) = false := by decide) : WE C n f (.Name y pos) m σ Q := fun ok fz s E x => by
  have x' := x
  obtain ⟨mc, news, δ, F, N, R, e⟩ := x
  obtain ⟨o, v, h1, h2, h3⟩ := R.ob c _ hv
  exact wpAny_Name (wpAny_loadName_cell ok.ckind hl hc ⟨o, N.get h1, h2⟩ (.here x' h3 h)) hd
theorem we_global {y : Str} {pos : Pos} {v : Value} {Q : AVal → AHeap → Prop} (hl : f.env.kindOf y = some .globalImplicit) (hv : nsIn C.K mainGlobals y = some (some v)) (h : Q (.raw v) σ) (hd : (y == ("__debug__" : Str)) = false := by decide) : WE C n f (.Name y pos) m σ Q := fun ok fz s E x => by
  have x' := x
  obtain ⟨mc, news, δ, F, N, R, e⟩ := x
  have hg : f.env.globals = mainGlobals := by unfold Fm.env; cases f.comp <;> rfl
  have T := topRead_of ok.top
  exact Name_function_global ok.ckind hl (loadGlobal_global (env := f.env) (by rw [hg]; exact T.g.keeps F.keep) (mg_of ok.kin T.g hv) (.here x' (.raw v) h)) hd
theorem we_builtin {y : Str} {pos : Pos} {v : Value} {Q : AVal → AHeap → Prop} (hl : f.env.kindOf y = some .globalImplicit) (hv : nsIn C.K mainGlobals y = some none) (hb : bootBuiltins y = some v) (h : Q (.raw v) σ) (hn : y ≠ "__name__" := by decide) (hd : (y == ("__debug__" : Str)) = false := by decide) :
    WE C n f (.Name y pos) m σ Q := fun ok fz s E x => by
  have x' := x
  obtain ⟨mc, news, δ, F, N, R, e⟩ := x
  have hg : f.env.globals = mainGlobals := by unfold Fm.env; cases f.comp <;> rfl
  have hbb : f.env.builtins = builtinsNs := by unfold Fm.env; cases f.comp <;> rfl
  have T := topRead_of ok.top
  exact Name_function_global ok.ckind hl (loadGlobal_builtin (env := f.env) (by rw [hg]; exact T.g.keeps F.keep) (mg_none_of ok.kin T.g hv) (by rw [hbb]; exact T.b.keeps F.keep) ((T.builtins y hn).trans hb) (.here x' (.raw v) h)) hd
theorem we_binop {l r : Expr} {op : Operator} {pos : Pos} {Q : AVal → AHeap → Prop} (h : WE C n f l m σ fun a σ₁ => WE C n f r m σ₁ fun b σ₂ => T2 C n f (binaryOp op) a b m σ₂ Q) : WE C n f (.BinOp l op r pos) m σ Q := fun ok fz s E x => by
  refine wpAny_BinOp (wpAny_mono (h ok fz s E x) (fun v s₁ hq => hq.el fun fz₁ σ₁ a u1 e1 x1 va q1 => wpAny_mono (q1 ok fz₁ s₁ E x1) (fun w s₂ hq => hq.el fun fz₂ σ₂ b u2 e2 x2 vb q2 => ?_) fun _ _ x => x) fun _ _ x => x)
  exact wpAny_mono (q2 ok fz₂ s₂ E v w x2 (va.up u2) vb) (fun r s₃ p => .up (fun p hp => u2 p (u1 p hp)) (e1.trans e2) p) fun _ _ x => x
theorem we_compare {l r : Expr} {op : CmpOp} {pos : Pos} {Q : AVal → AHeap → Prop} (h : WE C n f l m σ fun a σ₁ => WE C n f r m σ₁ fun b σ₂ => T2 C n f (compareOp op) a b m σ₂ Q) (hm : behindInMarks op r = false := by rfl) :
    WE C n f (.Compare l [op] [r] pos) m σ Q := fun ok fz s E x => by
  refine wpAny_Compare1 (wpAny_mono (h ok fz s E x) (fun v s₁ hq => hq.el fun fz₁ σ₁ a u1 e1 x1 va q1 => wpAny_mono (q1 ok fz₁ s₁ E x1) (fun w s₂ hq => hq.el fun fz₂ σ₂ b u2 e2 x2 vb q2 => ?_) fun _ _ x => x) fun _ _ x => x) hm
  exact wpAny_mono (q2 ok fz₂ s₂ E v w x2 (va.up u2) vb) (fun r s₃ p => .up (fun p hp => u2 p (u1 p hp)) (e1.trans e2) p) fun _ _ x => x
theorem we_unary {l : Expr} {op : UnaryOp} {pos : Pos} {Q : AVal → AHeap → Prop} (h : WE C n f l m σ fun a σ₁ => T1 C n f (unaryOp op) a m σ₁ Q) : WE C n f (.UnaryOp op l pos) m σ Q := fun ok fz s E x => by
  refine wpAny_UnaryOp (wpAny_mono (h ok fz s E x) (fun v s₁ hq => hq.el fun fz₁ σ₁ a u1 e1 x1 va q1 => ?_) fun _ _ x => x)
  exact wpAny_mono (q1 ok fz₁ s₁ E v x1 va) (fun r s₃ p => .up u1 e1 p) fun _ _ x => x
theorem we_ifexp {t b o : Expr} {pos : Pos} {Q : AVal → AHeap → Prop} (h : WT C n f t m σ fun c σ₁ => (c = true → WE C n f b m σ₁ Q) ∧ (c = false → WE C n f o m σ₁ Q)) : WE C n f (.IfExp t b o pos) m σ Q := fun ok fz s E x => by
  refine wpAny_IfExp (wpAny_mono (h ok fz s E x) (fun c s₁ hq => hq.el fun fz₁ σ₁ u1 e1 x1 q1 => ?_) fun _ _ x => x)
  cases c with
  | true => exact wpAny_mono (q1.1 rfl ok fz₁ s₁ E x1) (fun r s₃ p => .up u1 e1 p) fun _ _ x => x
  | false => exact wpAny_mono (q1.2 rfl ok fz₁ s₁ E x1) (fun r s₃ p => .up u1 e1 p) fun _ _ x => x
/-! ## rows of expressions -/
theorem wl_nil {pos : Pos} {Q : List AVal → AHeap → Prop} (h : Q [] σ) : WL C n f [] pos m σ Q := fun ok fz s E x => wpAny_items_nil ⟨fz, σ, [], sub_refl, .rfl, x, .nil, h⟩
theorem wl_cons {e : Expr} {es : List Expr} {pos : Pos} {Q : List AVal → AHeap → Prop} (h : WE C n f e m σ fun a σ₁ => WL C n f es pos m σ₁ fun as σ₂ => Q (a :: as) σ₂)
    (he : starEach (e :: es) f.env = (false, eval e f.env) :: starEach es f.env := by rfl) : WL C n f (e :: es) pos m σ Q := fun ok fz s E x => by
  refine wpAny_items_cons (wpAny_mono (h ok fz s E x) (fun v s₁ hq => hq.el fun fz₁ σ₁ a u1 e1 x1 va q1 => wpAny_mono (q1 ok fz₁ s₁ E x1) (fun w s₂ hq => hq.el fun fz₂ σ₂ b u2 e2 x2 vb q2 => ?_) fun _ _ x => x) fun _ _ x => x) he
  exact ⟨fz₂, σ₂, a :: b, fun p hp => u2 p (u1 p hp), e1.trans e2, x2, .cons (va.up u2) vb, q2⟩
/-- a list display, frozen; and one that may change -/
theorem we_lst {es : List Expr} {pos : Pos} {Q : AVal → AHeap → Prop} (h : WL C n f es pos m σ fun as σ₁ => as.length ≤ sizeLine ∧ Q (.lst as) σ₁) : WE C n f (.List es pos) m σ Q := fun ok fz s E x => by
  refine wpAny_List (wpAny_mono (h ok fz s E x) (fun vs s₁ hq => hq.el fun fz₁ σ₁ as u1 e1 x1 va ⟨q0, q1⟩ => ⟨by rw [va.length]; exact q0, ?_⟩) fun _ _ x => x)
  have hs : s₁.heap.get? s₁.heap.objs.size = none := by
    cases q : s₁.heap.get? s₁.heap.objs.size with
    | none => rfl
    | some o => exact absurd (Heap.lt_size q) (Nat.lt_irrefl _)
  refine ⟨[(s₁.heap.objs.size, listOf vs.toArray 0)] ++ fz₁, σ₁, .lst as, fun p hp => List.mem_append_right _ (u1 p hp), e1.trans ⟨_, _, rfl⟩, x1.freeze (t := s₁.toks) (fun b o e => Heap.get?_push_of_some _ e) _ ?_, .lst (.inl (List.mem_append_left _ (List.mem_singleton.mpr rfl))) rfl rfl (va.up fun p hp => List.mem_append_right _ hp), q1⟩
  intro p hp
  rw [List.mem_singleton.mp hp]
  exact ⟨hs, Nat.le_refl _, Heap.get?_push_size _ rfl⟩
theorem we_tup {es : List Expr} {k : Nat} {pos : Pos} {Q : AVal → AHeap → Prop} (h : WL C n f es pos m σ fun as σ₁ => as.length ≤ sizeLine ∧ Q (.tup as) σ₁) : WE C n f (.Tuple es k pos) m σ Q := fun ok fz s E x => by
  refine wpAny_Tuple (wpAny_mono (h ok fz s E x) (fun vs s₁ hq => hq.el fun fz₁ σ₁ as u1 e1 x1 va ⟨q0, q1⟩ => ⟨by rw [va.length]; exact q0, ?_⟩) fun _ _ x => x)
  have hs : s₁.heap.get? s₁.heap.objs.size = none := by
    cases q : s₁.heap.get? s₁.heap.objs.size with
    | none => rfl
    | some o => exact absurd (Heap.lt_size q) (Nat.lt_irrefl _)
  refine ⟨[(s₁.heap.objs.size, tupOf vs)] ++ fz₁, σ₁, .tup as, fun p hp => List.mem_append_right _ (u1 p hp), e1.trans ⟨_, _, rfl⟩, x1.freeze (t := s₁.toks) (fun b o e => Heap.get?_push_of_some _ e) _ ?_, .tup (.inl (List.mem_append_left _ (List.mem_singleton.mpr rfl))) rfl rfl (va.up fun p hp => List.mem_append_right _ hp), q1⟩
  intro p hp
  rw [List.mem_singleton.mp hp]
  exact ⟨hs, Nat.le_refl _, Heap.get?_push_size _ rfl⟩
theorem we_listM {es : List Expr} {pos : Pos} {Q : AVal → AHeap → Prop} (h : WL C n f es pos m σ fun as σ₁ => as.length ≤ sizeLine ∧ ∀ a, σ₁ a = none → Q (.obj a) (σ₁.set a (.list as))) : WE C n f (.List es pos) m σ Q := fun ok fz s E x => by
  refine wpAny_List (wpAny_mono (h ok fz s E x) (fun vs s₁ hq => hq.el fun fz₁ σ₁ as u1 e1 x1 va ⟨q0, q1⟩ => ⟨by rw [va.length]; exact q0, ?_⟩) fun _ _ x => x)
  exact ⟨fz₁, _, .obj s₁.heap.objs.size, u1, e1.trans ⟨_, _, rfl⟩, x1.newList (t := s₁.toks) (fun b o e => Heap.get?_push_of_some _ e) (Nat.le_refl _) (Heap.get?_push_size _ rfl) va, .obj _, q1 _ (x1.fresh (Nat.le_refl _))⟩

/-! ## tests -/
theorem wt_compare {l r : Expr} {op : CmpOp} {pos : Pos} {Q : Bool → AHeap → Prop} (h : WE C n f l m σ fun a σ₁ => WE C n f r m σ₁ fun b σ₂ => T2 C n f (compareOp op) a b m σ₂ fun c σ₃ => TB C n f truthy c m σ₃ Q) (hm : behindInMarks op r = false := by rfl) :
    WT C n f (.Compare l [op] [r] pos) m σ Q := fun ok fz s E x => by
  refine wpAny_isTrue_Compare1 (wpAny_mono (h ok fz s E x) (fun v s₁ hq => hq.el fun fz₁ σ₁ a u1 e1 x1 va q1 => wpAny_mono (q1 ok fz₁ s₁ E x1) (fun w s₂ hq => hq.el fun fz₂ σ₂ b u2 e2 x2 vb q2 => ?_) fun _ _ x => x) fun _ _ x => x) hm
  refine wpAny_mono (q2 ok fz₂ s₂ E v w x2 (va.up u2) vb) (fun r s₃ hq => hq.el fun fz₃ σ₃ c u3 e3 x3 vc q3 => ?_) fun _ _ x => x
  exact wpAny_mono (q3 ok fz₃ s₃ E r x3 vc) (fun b s₄ p => .up (fun p hp => u3 p (u2 p (u1 p hp))) ((e1.trans e2).trans e3) p) fun _ _ x => x
/-- a chain of tests in a condition -/
def WA (C : Cx) (n : Nat) (f : Fm) (op : BoolOp) (es : List Expr) (m : AEnv) (σ : AHeap) (Q : Bool → AHeap → Prop) : Prop :=
  f.Ok C n → ∀ fz s E, SR C f fz m σ s → wpAny (Md C) f.A (allTrue op es f.env) (PB C f m fz s Q) E s
theorem tb_bool {b : Bool} {Q : Bool → AHeap → Prop} (h : Q b σ) : TB C n f truthy (.bool b) m σ Q := fun ok fz s E v x hv => by
  cases hv; exact wpAny_truthy_bool ⟨fz, σ, sub_refl, .rfl, x, h⟩

/-! ## statements -/
theorem ws_nil {Q : AFlow → AEnv → AHeap → Prop} (h : Q .next m σ) : WS C n f [] m σ Q := fun ok fz s E x => wpAny_execs_nil ⟨fz, σ, m, .next, sub_refl, .rfl, x, trivial, h⟩
theorem ws_cons {st : Stmt} {ss : List Stmt} {Q : AFlow → AEnv → AHeap → Prop} (h : W1 C n f st m σ fun a m' σ' => match a with | .next => WS C n f ss m' σ' Q | a => Q a m' σ') : WS C n f (st :: ss) m σ Q := fun ok fz s E x => by
  refine wpAny_execs_cons (wpAny_mono (h ok fz s E x) (fun fl s₁ hq => hq.el fun fz₁ σ₁ m₁ a u1 e1 x1 va q1 => ?_) fun _ _ x => x)
  cases fl with
  | next =>
    cases a with
    | next => exact wpAny_mono (q1 ok fz₁ s₁ E x1) (fun r s₃ p => .up u1 e1 p) fun _ _ x => x
    | _ => exact va.elim
  | brk => cases a <;> first | exact ⟨fz₁, σ₁, m₁, _, u1, e1, x1, va, q1⟩ | exact va.elim
  | cont => cases a <;> first | exact ⟨fz₁, σ₁, m₁, _, u1, e1, x1, va, q1⟩ | exact va.elim
  | ret v => cases a <;> first | exact ⟨fz₁, σ₁, m₁, _, u1, e1, x1, va, q1⟩ | exact va.elim
theorem w1_return {e : Expr} {pos : Pos} {Q : AFlow → AEnv → AHeap → Prop} (h : WE C n f e m σ fun a σ₁ => Q (.ret a) m σ₁) : W1 C n f (.Return (some e) pos) m σ Q := fun ok fz s E x =>
  wpAny_Return_some (wpAny_mono (h ok fz s E x) (fun v s₁ hq => hq.el fun fz₁ σ₁ a u1 e1 x1 va q1 => ⟨fz₁, σ₁, m, .ret a, u1, e1, x1, va, q1⟩) fun _ _ x => x)
theorem w1_if {t : Expr} {b o : List Stmt} {pos : Pos} {Q : AFlow → AEnv → AHeap → Prop} (h : WT C n f t m σ fun c σ₁ => (c = true → WS C n f b m σ₁ Q) ∧ (c = false → WS C n f o m σ₁ Q)) : W1 C n f (.If t b o pos) m σ Q := fun ok fz s E x => by
  refine wpAny_If (wpAny_mono (h ok fz s E x) (fun c s₁ hq => hq.el fun fz₁ σ₁ u1 e1 x1 q1 => ?_) fun _ _ x => x)
  cases c with
  | true => exact wpAny_mono (q1.1 rfl ok fz₁ s₁ E x1) (fun r s₃ p => .up u1 e1 p) fun _ _ x => x
  | false => exact wpAny_mono (q1.2 rfl ok fz₁ s₁ E x1) (fun r s₃ p => .up u1 e1 p) fun _ _ x => x
/-- storing a value under a name: as a tree -/
def TS (C : Cx) (n : Nat) (f : Fm) (y : Str) (a : AVal) (m : AEnv) (σ : AHeap) (Q : AEnv → AHeap → Prop) : Prop :=
  f.Ok C n → ∀ fz s E v, SR C f fz m σ s → V (At C fz) v a → wpAny (Md C) f.A (storeName f.env y v) (fun _ s' => ∃ fz' σ' m', (∀ p ∈ fz, p ∈ fz') ∧ Same s s' ∧ SR C f fz' m' σ' s' ∧ Q m' σ') E s
theorem ts_local {y : Str} {a : AVal} {Q : AEnv → AHeap → Prop} (hl : f.fenv.kindOf y = some .local) (h : Q (m.set y a) σ) (hcm : f.comp = none := by rfl) : TS C n f y a m σ Q := fun ok fz s E v x hv => by
  have he : f.env = f.fenv := by unfold Fm.env; rw [hcm]
  rw [he]
  obtain ⟨mc, news, F, N, k⟩ := x.store (y := y) hv
  exact storeX_L F N (fun h' F' N' => ⟨fz, σ, _, sub_refl, .mk, k h' _ F' N', h⟩) ok.kind hl
theorem ts_cell {y : Str} {a : AVal} {c : Addr} {v₀ : Option AVal} {Q : AEnv → AHeap → Prop} (hl : f.env.kindOf y = some .cell) (hc : f.env.cells.lookup y = some c) (hv : σ c = some (.cell v₀)) (h : Q m (σ.set c (.cell (some a)))) : TS C n f y a m σ Q := fun ok fz s E v x va => by
  have x' := x
  obtain ⟨mc, news, δ, F, N, R, e⟩ := x
  obtain ⟨o, u, ho, hd⟩ : ∃ o u, (c, o) ∈ news ∧ o.data = .cell u := by
    cases v₀ with
    | none => obtain ⟨o, h1, h2⟩ := R.ob c _ hv; exact ⟨o, _, h1, h2⟩
    | some a => obtain ⟨o, u, h1, h2, _⟩ := R.ob c _ hv; exact ⟨o, _, h1, h2⟩
  refine wpAny_storeName_cell ok.ckind hl hc ⟨o, (N _ ho).1, hd⟩ fun h' hv' hs => ?_
  obtain ⟨o', ho', hd'⟩ := hv'
  exact ⟨fz, _, m, sub_refl, ⟨_, _, rfl⟩, x'.setCell (t := s.toks) hv hs ho' hd' va, h⟩
theorem w1_assign {y : Str} {py : Pos} {e : Expr} {pos : Pos} {Q : AFlow → AEnv → AHeap → Prop} (h : WE C n f e m σ fun a σ₁ => TS C n f y a m σ₁ fun m' σ' => Q .next m' σ')
    (hs : swapsWith e (some (.Name y py)) pos.line f.env = pure false := by rfl) : W1 C n f (.Assign [.Name y py] e pos) m σ Q := fun ok fz s E x => by
  refine wpAny_Assign_Name (wpAny_mono (h ok fz s E x) (fun v s₁ hq => hq.el fun fz₁ σ₁ a u1 e1 x1 va q1 => ?_) fun _ _ x => x) hs
  exact wpAny_mono (q1 ok fz₁ s₁ E v x1 va) (fun _ s₂ hq => PU.el hq fun fz₂ σ₂ m₂ u2 e2 x2 q2 => ⟨fz₂, σ₂, m₂, .next, fun p hp => u2 p (u1 p hp), e1.trans e2, x2, trivial, q2⟩) fun _ _ x => x
end
end Mine

open PySem PySem.W PyProof.Rows PySem.Calls
namespace Mine
def Near (f : Fm) (A : Around) : Prop := A.frames = f.A.frames ∧ A.handled = f.A.handled ∧ A.guards = f.A.guards ∧ A.depth ≤ f.A.depth + 2 ∧ A.units ≤ f.A.units + 4
theorem Near.refl {f : Fm} : Near f f.A := ⟨rfl, rfl, rfl, by omega, by omega⟩
def RV (C : Cx) (f : Fm) (m : AEnv) (fz : Fz) (s : Shared) (Q : AVal → AHeap → Prop) (r : Result) (s' : Shared) : Prop := ∃ v, r = .ok (.ret v) ∧ PV C f m fz s Q v s'
/-- what a call of a def of the text does -/
def Fn (C : Cx) (n : Nat) (fa : Addr) (as : List AVal) (σ : AHeap) (Q : AVal → AHeap → Prop) : Prop :=
  ∀ f m A, f.Ok C n → Near f A → ∀ fz s vs, SR C f fz m σ s → Vs (At C fz) vs as → codeAny (Md C) A (.call (.ref fa) ⟨vs, []⟩) (RV C f m fz s Q) s
def Keep (C : Cx) (h : Heap) (v : Value) : Prop := ∃ k, (k = Keeper.frame ∨ k = Keeper.machine ∨ k = Keeper.boundFrame) ∧ Looks (Md C) h (keeperOf v) k
/-- a call -/
def TC (C : Cx) (n : Nat) (f : Fm) (fv : AVal) (as : List AVal) (m : AEnv) (σ : AHeap) (Q : AVal → AHeap → Prop) : Prop :=
  f.Ok C n → ∀ fz s E v vs, SR C f fz m σ s → V (At C fz) v fv → Vs (At C fz) vs as → Keep C s.heap v ∧ wpAny (Md C) f.A (call v vs) (PV C f m fz s Q) E s
/-- a method looked up -/
def TG (C : Cx) (n : Nat) (f : Fm) (name : Str) (ov : AVal) (m : AEnv) (σ : AHeap) (Q : AVal → List AVal → AHeap → Prop) : Prop :=
  f.Ok C n → ∀ fz s E v pl, SR C f fz m σ s → V (At C fz) v ov → wpAny (Md C) f.A (getMethod v name pl) (fun fx s' => ∃ fz' σ' fa as, (∀ p ∈ fz, p ∈ fz') ∧ Same s s' ∧ SR C f fz' m σ' s' ∧ V (At C fz') fx.1 fa ∧ Vs (At C fz') fx.2 as ∧ Q fa as σ') E s

section
variable {C : Cx} {n : Nat} {f : Fm} {m : AEnv} {σ : AHeap}
theorem cw {pos : Pos} {v : Value} {first : List Value} {args : List Expr} {s : Shared} {E : Value → Shared → Prop} {Q : Value → Shared → Prop}
    (h : wpAny (Md C) f.A (spliced (backTo pos (starEach args f.env))) (fun vs s₁ => Keep C s₁.heap v ∧ wpAny (Md C) f.A (call v (first ++ vs)) Q E s₁) E s)
    (hplain : (backTo pos (starEach args f.env)).any (·.1) = false := by rfl) : wpAny (Md C) f.A (callWith pos v first (backTo pos (starEach args f.env)) (backToKw pos (keywordEach [] f.env))) Q E s := by
  show wpAny (Md C) f.A (callWith pos v first (backTo pos (starEach args f.env)) []) Q E s
  revert h hplain
  generalize backTo pos (starEach args f.env) = l
  intro h hplain
  refine callWith_of (P := fun h => Keep C h v) (by rw [hplain]; rfl) (fun h k => k) ?_
  cases l with
  | nil =>
    unfold evalArgs
    show wpAny _ _ (spliced [] >>= _) _ E s
    exact wpAny_bind (wpAny_mono h (fun vs s₁ h₁ => wpAny_bind (wpAny_pure (wpAny_holding (wpAny_bind (wpAny_pure (wpAny_bind (wpAny_pure (wpAny_pure h₁)))))))) fun _ _ x => x)
  | cons p l => 
    obtain ⟨b, x⟩ := p
    cases b with
    | true => cases hplain
    | false => exact evalArgs_plain h
theorem we_call {g : Str} {gp : Pos} {args : List Expr} {pos : Pos} {Q : AVal → AHeap → Prop} (h : WE C n f (.Name g gp) m σ fun fv σ₁ => WL C n f args pos m σ₁ fun as σ₂ => TC C n f fv as m σ₂ Q)
    (hplain : (backTo pos (starEach args f.env)).any (·.1) = false := by rfl) : WE C n f (.Call (.Name g gp) args [] pos) m σ Q := fun ok fz s E x => by
  refine wpAny_Call_ofName (wpAny_mono (h ok fz s E x) (fun v s₁ hq => hq.el fun fz₁ σ₁ a u1 e1 x1 va q1 => cw (wpAny_mono (q1 ok fz₁ s₁ E x1) (fun vs s₂ hq => hq.el fun fz₂ σ₂ as u2 e2 x2 vs' q2 => ?_) fun _ _ x => x) hplain) fun _ _ x => x)
  obtain ⟨k, c⟩ := q2 ok fz₂ s₂ E v vs x2 (va.up u2) vs'
  exact ⟨k, wpAny_mono c (fun r s₃ p => .up (fun p hp => u2 p (u1 p hp)) (e1.trans e2) p) fun _ _ x => x⟩
theorem PG.el {fz : Fz} {s s' : Shared} {fx : Value × List Value} {Q : AVal → List AVal → AHeap → Prop} {P : Prop} (h : ∃ fz' σ' fa as, (∀ p ∈ fz, p ∈ fz') ∧ Same s s' ∧ SR C f fz' m σ' s' ∧ V (At C fz') fx.1 fa ∧ Vs (At C fz') fx.2 as ∧ Q fa as σ')
    (k : ∀ fz' σ' fa as, (∀ p ∈ fz, p ∈ fz') → Same s s' → SR C f fz' m σ' s' → V (At C fz') fx.1 fa → Vs (At C fz') fx.2 as → Q fa as σ' → P) : P := by
  obtain ⟨fz', σ', fa, as, h1, h2, h3, h4, h5, h6⟩ := h; exact k fz' σ' fa as h1 h2 h3 h4 h5 h6
theorem we_method {o : Expr} {name : Str} {apos pos : Pos} {args : List Expr} {pl : Sem Bool} {Q : AVal → AHeap → Prop}
    (h : WE C n f o m σ fun ov σ₁ => TG C n f name ov m σ₁ fun fv first σ₂ => WL C n f args pos m σ₂ fun as σ₃ => TC C n f fv (first ++ as) m σ₃ Q)
    (he : eval (.Call (.Attribute o name apos) args [] pos) f.env = (do
      let ov ← eval o f.env
      standAt apos.atName
      let (g, first) ← holding [ov] (getMethod ov name pl)
      callWith pos g first (backTo pos (starEach args f.env)) (backToKw pos (keywordEach [] f.env))) := by rfl)
    (hplain : (backTo pos (starEach args f.env)).any (·.1) = false := by rfl) : WE C n f (.Call (.Attribute o name apos) args [] pos) m σ Q := fun ok fz s E x => by
  refine methodCall_KW (pl := pl) (wpAny_mono (h ok fz s E x) (fun v s₁ hq => hq.el fun fz₁ σ₁ a u1 e1 x1 va q1 => wpAny_mono (q1 ok fz₁ s₁ E v pl x1 va) (fun fx s₂ hz => PG.el hz fun fz₂ σ₂ fa fs u2 e2 x2 vf vfs q2 => cw (wpAny_mono (q2 ok fz₂ s₂ E x2) (fun vs s₃ hq => hq.el fun fz₃ σ₃ as u3 e3 x3 vs' q3 => ?_) fun _ _ x => x) hplain) fun _ _ x => x) fun _ _ x => x) he
  obtain ⟨k, c⟩ := q3 ok fz₃ s₃ E fx.1 (fx.2 ++ vs) x3 (vf.up u3) ((vfs.up u3).append vs')
  exact ⟨k, wpAny_mono c (fun r s₄ p => .up (fun p hp => u3 p (u2 p (u1 p hp))) ((e1.trans e2).trans e3) p) fun _ _ x => x⟩

/-! ## methods of own instances -/
theorem tg_fin {c g : Addr} {name : Str} {Q : AVal → List AVal → AHeap → Prop} (hg : plainGet C.K c name = true)
    (hf : findIn C.K (.ref c) name = some (some (.ref g))) (ht : isFn C.K (.ref g) = true) (h : Q (.raw (.ref g)) [.fin c] σ) : TG C n f name (.fin c) m σ Q := fun ok fz s E v pl x hv => by
  have hv' := hv
  cases hv with
  | fin p1 p2 =>
    have h1 := x.at_ ok p1
    have h2 := x.at_ ok p2
    have x' := x
    obtain ⟨mc, news, δ, F, N, R, e⟩ := x
    exact method_inst F ok.kin (⟨h1, rfl, rfl, h2⟩ : InstAt s.heap _ (instObj c _) c (some (dictOf [] 0))) hg hf ht rfl ⟨fz, σ, _, _, sub_refl, .rfl, x', .raw _, .cons hv' .nil, h⟩
theorem keep_K {g : Value} (ok : f.Ok C n) {fz : Fz} {s : Shared} (x : SR C f fz m σ s) (hk : keepIn C.K g = true) : Keep C s.heap g := by
  obtain ⟨mc, news, δ, F, N, R, e⟩ := x
  exact keeps_K hk _ (ok.kin.keeps F.keep)
theorem tc_fn {g : Addr} {as : List AVal} {Q : AVal → AHeap → Prop} (hk : keepIn C.K (.ref g) = true) (h : Fn C n g as σ Q) : TC C n f (.raw (.ref g)) as m σ Q := fun ok fz s E v vs x hv hvs => by
  cases hv
  refine ⟨keep_K ok x hk, wpAny_call (codeAny_mono (h f m f.A ok .refl fz s vs x hvs) fun r s' ⟨v, e, p⟩ => ?_)⟩
  subst e; exact p

/-! ## a def of the text, without cells -/
def retOf : AFlow → AVal
  | .ret a => a
  | _ => .none
theorem lookup_nd {β : Type} : ∀ {l : List (Str × β)}, (l.map (·.1)).Nodup → ∀ {y : Str} {v : β}, (y, v) ∈ l → l.lookup y = some v
  | [], _, _, _, h => nomatch h
  | (z, u) :: l, nd, y, v, h => by
    rw [List.map_cons, List.nodup_cons] at nd
    rcases List.mem_cons.mp h with e | h
    · cases e; simp
    · have : y ≠ z := fun e => nd.1 (List.mem_map.mpr ⟨_, h, e⟩)
      rw [List.lookup_cons]
      have hb : (y == z) = false := by simpa using this
      rw [hb]
      exact lookup_nd nd.2 h
theorem lookup_zip {P : Addr → Obj → Prop} : ∀ {ns : List Str} {vs : List Value} {as : List AVal}, Vs P vs as → ns.Nodup → ∀ {y : Str} {a : AVal}, getA y (ns.zip as) = some a → ∃ v, (ns.zip vs).reverse.lookup y = some v ∧ V P v a := by
  intro ns vs as h
  have key : ∀ {ns : List Str} {vs : List Value} {as : List AVal}, Vs P vs as → ns.Nodup → ∀ {y : Str} {a : AVal}, getA y (ns.zip as) = some a → ∃ v, (y, v) ∈ ns.zip vs ∧ V P v a := by
    intro ns
    induction ns with
    | nil => intro vs as _ _ y a e; cases as <;> cases e
    | cons z ns ih =>
      intro vs as h hd y a e
      cases h with
      | nil => cases e
      | cons hv h =>
        rw [List.zip_cons_cons] at e
        unfold getA at e
        by_cases q : (z == y) = true
        · rw [if_pos q] at e; cases e
          have : z = y := by simpa using q
          subst this
          exact ⟨_, List.mem_cons_self .., hv⟩
        · rw [if_neg q] at e
          obtain ⟨v, h1, h2⟩ := ih h (List.nodup_cons.mp hd).2 e
          exact ⟨v, List.mem_cons_of_mem _ h1, h2⟩
  intro hd y a e
  obtain ⟨v, h1, h2⟩ := key h hd e
  refine ⟨v, ?_, h2⟩
  have nd : ((ns.zip vs).reverse.map (·.1)).Nodup := by
    rw [List.map_reverse]
    refine List.pairwise_reverse.mpr (List.Pairwise.imp (fun h => Ne.symm h) ?_)
    have : (ns.zip vs).map (·.1) = ns.take vs.length := by
      clear h hd e h1 h2 key
      induction ns generalizing vs with
      | nil => simp
      | cons z ns ih => cases vs with
        | nil => simp
        | cons v vs => simp [ih]
    rw [this]
    exact List.Nodup.sublist (List.take_sublist ..) hd
  exact lookup_nd nd (List.mem_reverse.mpr h1)

theorem fn_plain {fa : Addr} {name qual : Str} {params : Arguments} {body : List Stmt} {scope : Scope} {dV kV doc pm cdv ct oc : Value} {an od : Option Addr} {osl : Array (Option Value)} {as da : List AVal} {ns : List Str} {dv : List Value} {Q : AVal → AHeap → Prop}
    (ho : C.K.lookup fa = some ⟨oc, od, .func (fnOf name qual params body scope dV kV doc pm an cdv ct), osl⟩) (hcd : codeIn C.K cdv qual = true)
    (hbind : ∀ S vs, vs.length = as.length → peek C.K S (bindArgs (fnOf name qual params body scope dV kV doc pm an cdv ct) ⟨vs, []⟩) = some (ns.zip (vs ++ dv)))
    (hd : ∀ P, Vs P dv da) (hnd : ns.Nodup) (hloc : ∀ y ∈ ns, scope.names.lookup y = some .local)
    (h : ∀ A₀ A base h₀ outer L pin, WS C n ⟨A₀, A, base, h₀, outer, L, fa, qual, scope, cdv, [], pin, none⟩ body (ns.zip (as ++ da)) σ fun fl _ σ' => ∃ σ₂ : AHeap, σ₂.le σ' ∧ Q (retOf fl) σ₂)
    (hco : scope.isCoroutine = false := by rfl) (hgen : scope.isGenerator = false := by rfl) (hk : scope.kind = .function := by rfl) (hcell : ∀ x ∈ scope.names, x.2 ≠ .cell := by decide) :
    Fn C (n + 1) fa as σ Q := fun f m A ok hn fz s vs x hvs => by
  obtain ⟨mc, news, δ, F, N, R, e⟩ := x
  have X := ok.kin.keeps F.keep
  have e2 := ok.depth
  have e3 := ok.units
  obtain ⟨n1, n2, n3, n4, n5⟩ := hn
  have hlen := hvs.length
  refine code_def (env := f.fenv) (binds := ns.zip (vs ++ dv)) ok.below F ok.kin N ok.top (n1.trans ok.stack) rfl ok.kind ho hcd (by omega) (kp_binds X fun S => hbind S vs hlen) (fun y hy => hloc _ (List.of_mem_zip hy).1) (fun g L' h₁ FG F' N' B' KG TG => ?_) hco hgen hk hcell
  let f' : Fm := ⟨A, A.deeper (envOf qual scope L' fa cdv), f.base, g, f.fenv :: f.outer, L', fa, qual, scope, cdv, [], f.pin, none⟩
  have hkH : ∀ b o, C.H.get? b = some o → g.get? b = some o := fun b o hb => FG.keep b o (ok.hk b o hb)
  have ok' : f'.Ok C n := ⟨B', KG, TG, hkH, Around.frames_deeper B'.stack, n2.trans ok.handled, n3.trans ok.guards, by show A.depth + 1 + 3 * n < _; omega, by show A.units + 3 + 10 * n + 100 < _; omega, hk, hk⟩
  have hz := hvs.append (hd (At C fz))
  have x' : SR C f' fz (ns.zip (as ++ da)) σ { s with heap := h₁, toks := s.toks + (ns.zip (vs ++ dv)).length } :=
    ⟨_, news, δ, F', N', R, fun y a hy => lookup_zip hz hnd hy⟩
  refine wpAny_mono (h A _ f.base g (f.fenv :: f.outer) L' f.pin ok' fz _ _ x') (fun fl s' hq => hq.el fun fz' σ' m' a u es x2 va ⟨σ₂, hle, q⟩ => ?_) fun _ _ z => z
  obtain ⟨mc', news', δ', F2, N2, R2, e2⟩ := x2.weaken (fun _ _ h => h) hle
  refine leaveK_ F2 N2 fun FK NK => ⟨_, rfl, fz', σ₂, retOf a, u, ?_, ⟨mc, news', δ', FK, NK, R2, fun y b hy => ?_⟩, ?_, q⟩
  · obtain ⟨hh, tt, ee⟩ := es; exact ⟨hh, tt, ee⟩
  · obtain ⟨v, h1, h2⟩ := e y b hy; exact ⟨v, h1, h2.up u⟩
  · cases fl <;> cases a <;> first | exact va.elim | exact .none | exact va
end
end Mine

open PySem PySem.W PyProof.Rows PySem.Calls
namespace Mine
/-! ## storing -/
def PU (C : Cx) (f : Fm) (fz : Fz) (s : Shared) (Q : AEnv → AHeap → Prop) (s' : Shared) : Prop := ∃ fz' σ' m', (∀ p ∈ fz, p ∈ fz') ∧ Same s s' ∧ SR C f fz' m' σ' s' ∧ Q m' σ'
def TA (C : Cx) (n : Nat) (f : Fm) (t : Expr) (a : AVal) (m : AEnv) (σ : AHeap) (Q : AEnv → AHeap → Prop) : Prop :=
  f.Ok C n → ∀ fz s E v, SR C f fz m σ s → V (At C fz) v a → wpAny (Md C) f.A (assign t f.env v) (fun _ => PU C f fz s Q) E s
def TAs (C : Cx) (n : Nat) (f : Fm) (ts : List Expr) (as : List AVal) (m : AEnv) (σ : AHeap) (Q : AEnv → AHeap → Prop) : Prop :=
  f.Ok C n → ∀ fz s E vs, SR C f fz m σ s → Vs (At C fz) vs as → wpAny (Md C) f.A (assignInOrder ((assignEach ts f.env).map (·.2)) vs) (fun _ => PU C f fz s Q) E s
def TSs (C : Cx) (n : Nat) (f : Fm) (ys : List Str) (as : List AVal) (m : AEnv) (σ : AHeap) (Q : AEnv → AHeap → Prop) : Prop :=
  f.Ok C n → ∀ fz s E vs, SR C f fz m σ s → Vs (At C fz) vs as → wpAny (Md C) f.A (assignInOrder (ys.map fun y => bindName f.env y) vs) (fun _ => PU C f fz s Q) E s
section
variable {C : Cx} {n : Nat} {f : Fm} {m : AEnv} {σ : AHeap}
theorem PU.up {s s₁ s' : Shared} {fz fz₁ : Fz} {Q : AEnv → AHeap → Prop} (h : ∀ p ∈ fz, p ∈ fz₁) (hs : Same s s₁) (x : PU C f fz₁ s₁ Q s') : PU C f fz s Q s' := by
  obtain ⟨fz', σ', m', h1, h2, h3, h4⟩ := x
  exact ⟨fz', σ', m', fun p hp => h1 p (h p hp), hs.trans h2, h3, h4⟩
theorem ta_name {y : Str} {pos : Pos} {a : AVal} {Q : AEnv → AHeap → Prop} (h : TS C n f y a m σ Q) : TA C n f (.Name y pos) a m σ Q := fun ok fz s E v x hv => assign_Name (h ok fz s E v x hv)
theorem tas_nil {Q : AEnv → AHeap → Prop} (h : Q m σ) : TAs C n f [] [] m σ Q := fun ok fz s E vs x hv => by cases hv; exact wpAny_assignInOrder_none ⟨fz, σ, m, sub_refl, .rfl, x, h⟩
theorem tas_cons {t : Expr} {ts : List Expr} {a : AVal} {as : List AVal} {Q : AEnv → AHeap → Prop} (h : TA C n f t a m σ fun m' σ' => TAs C n f ts as m' σ' Q)
    (he : (assignEach (t :: ts) f.env).map (·.2) = assign t f.env :: (assignEach ts f.env).map (·.2) := by rfl) : TAs C n f (t :: ts) (a :: as) m σ Q := fun ok fz s E vs x hv => by
  cases hv with
  | cons hv hvs =>
    rw [he]
    refine wpAny_assignInOrder_more (wpAny_mono (h ok fz s E _ x hv) (fun _ s₁ hq => PU.el hq fun fz₁ σ₁ m₁ u1 e1 x1 q1 => ?_) fun _ _ x => x)
    exact wpAny_mono (q1 ok fz₁ s₁ E _ x1 (hvs.up u1)) (fun _ s₂ p => .up u1 e1 p) fun _ _ x => x
theorem ext_keeps {h h' : Heap} (e : Heap.ExtBut h.objs.size h h') : ∀ b o, h.get? b = some o → h'.get? b = some o := fun b o q => e b o (Nat.ne_of_lt (Heap.lt_size q)) q
theorem V.tuple_ {fz : Fz} {s : Shared} (ok : f.Ok C n) (x : SR C f fz m σ s) {v : Value} {xs : List AVal} (h : V (At C fz) v (.tup xs)) : ∃ t vs, v = .ref t ∧ s.heap.IsTuple t vs.toArray ∧ Vs (At C fz) vs xs := by
  cases h with
  | tup h1 h2 h3 h4 => exact ⟨_, _, rfl, ⟨_, x.at_ ok h1, h2, _, h3⟩, h4⟩
theorem V.list_ {fz : Fz} {s : Shared} (ok : f.Ok C n) (x : SR C f fz m σ s) {v : Value} {xs : List AVal} (h : V (At C fz) v (.lst xs)) : ∃ t vs, v = .ref t ∧ s.heap.IsList t vs.toArray ∧ Vs (At C fz) vs xs := by
  cases h with
  | lst h1 h2 h3 h4 => exact ⟨_, _, rfl, ⟨_, x.at_ ok h1, h2, _, h3⟩, h4⟩
theorem ta_tup {ts : List Expr} {k : Nat} {pos : Pos} {as : List AVal} {Q : AEnv → AHeap → Prop} (h : TAs C n f ts as m σ Q) (hn : (assignEach ts f.env).length = as.length := by rfl) (hstar : (assignEach ts f.env).findIdx? (·.1) = none := by rfl) :
    TA C n f (.Tuple ts k pos) (.tup as) m σ Q := fun ok fz s E v x hv => by
  obtain ⟨t, vs, rfl, ht, hvs⟩ := hv.tuple_ ok x
  refine wpAny_assign_Tuple ok.handled ht (by rw [hn, List.size_toArray, hvs.length]) hstar fun h' he => ?_
  exact wpAny_mono (h ok fz { s with heap := h' } E vs (x.grow (t := s.toks) (ext_keeps he)) hvs) (fun _ s₂ p => .up sub_refl ⟨h', s.toks, rfl⟩ p) fun _ _ x => x
theorem w1_assignT {ts : List Expr} {k : Nat} {tp : Pos} {e : Expr} {pos : Pos} {Q : AFlow → AEnv → AHeap → Prop} (h : WE C n f e m σ fun a σ₁ => TA C n f (.Tuple ts k tp) a m σ₁ fun m' σ' => Q .next m' σ')
    (hs : swapsWithSole [.Tuple ts k tp] e pos.line f.env = pure false := by rfl) (hw : swappedStores [.Tuple ts k tp] e f.env = pure none := by rfl) : W1 C n f (.Assign [.Tuple ts k tp] e pos) m σ Q := fun ok fz s E x => by
  refine Assign_Tuple (wpAny_mono (h ok fz s E x) (fun v s₁ hq => hq.el fun fz₁ σ₁ a u1 e1 x1 va q1 => ?_) fun _ _ x => x) hs hw
  exact wpAny_mono (q1 ok fz₁ s₁ E v x1 va) (fun _ s₂ hq => PU.el hq fun fz₂ σ₂ m₂ u2 e2 x2 q2 => ⟨fz₂, σ₂, m₂, .next, fun p hp => u2 p (u1 p hp), e1.trans e2, x2, trivial, q2⟩) fun _ _ x => x
/-! ## loops -/
/-- the state, with some addresses kept apart -/
def SX (C : Cx) (f : Fm) (fz : Fz) (m : AEnv) (σ : AHeap) (wr : List Addr) (s : Shared) : Prop :=
  ∃ mc news δ, Fr f.h₀ f.L s.heap mc ∧ News f.h₀ f.L s.heap news ∧ HR C fz f.pin σ δ news ∧ ER (At C fz) m mc ∧ (∀ p ∈ news, p.1 ∉ wr) ∧ f.L ∉ wr ∧ ∀ b ∈ wr, f.h₀.get? b = none
theorem SX.sr {fz : Fz} {wr : List Addr} {s : Shared} (x : SX C f fz m σ wr s) : SR C f fz m σ s := by
  obtain ⟨mc, news, δ, F, N, R, e, _⟩ := x; exact ⟨mc, news, δ, F, N, R, e⟩
theorem SX.step {fz : Fz} {wr : List Addr} {s : Shared} {h' : Heap} {t : Nat} (x : SX C f fz m σ wr s) (k : ∀ b o, b ∉ wr → s.heap.get? b = some o → h'.get? b = some o) : SX C f fz m σ wr { s with heap := h', toks := t } := by
  obtain ⟨mc, news, δ, F, N, R, e, h1, h2, h3⟩ := x
  refine ⟨mc, news, δ, ⟨F.ns.at' fun o q => k _ o h2 q, fun b o q => k b o (fun hb => by rw [h3 b hb] at q; cases q) (F.keep b o q), F.above⟩, fun p hp => ⟨k _ _ (h1 p hp) (N p hp).1, (N p hp).2⟩, R, e, h1, h2, h3⟩
def ownP (wr : List Addr) (h : Heap) : Fz := wr.filterMap fun b => (h.get? b).map fun o => (b, o)
theorem mem_ownP {wr : List Addr} {h : Heap} {p : Addr × Obj} : p ∈ ownP wr h ↔ p.1 ∈ wr ∧ h.get? p.1 = some p.2 := by
  unfold ownP
  rw [List.mem_filterMap]
  constructor
  · rintro ⟨b, hb, e⟩
    obtain ⟨o, ho, rfl⟩ := Option.map_eq_some_iff.mp e
    exact ⟨hb, ho⟩
  · rintro ⟨h1, h2⟩
    exact ⟨p.1, h1, by rw [h2]; rfl⟩
theorem SX.pin {fz : Fz} {wr : List Addr} {s : Shared} (x : SX C f fz m σ wr s) : SR C (f.withPin (ownP wr s.heap ++ f.pin)) fz m σ s := by
  obtain ⟨mc, news, δ, F, N, R, e, h1, h2, h3⟩ := x
  have off : ∀ {p : Addr × Obj}, p ∈ ownP wr s.heap → p.1 ∈ wr := fun hp => (mem_ownP.mp hp).1
  have three : ∀ p ∈ fz ++ (ownP wr s.heap ++ f.pin), p ∈ ownP wr s.heap ∨ p ∈ fz ++ f.pin := fun p hp => by
    rcases List.mem_append.mp hp with hp | hp
    · exact .inr (List.mem_append_left _ hp)
    · rcases List.mem_append.mp hp with hp | hp
      · exact .inl hp
      · exact .inr (List.mem_append_right _ hp)
  refine ⟨mc, ownP wr s.heap ++ news, δ, F, fun p hp => ?_, ⟨fun p hp => ?_, fun p hp q hq => ?_, fun a ao h => (R.ob a ao h).mono (fun _ _ z => z) (fun _ q => List.mem_append_right _ q) fun _ _ _ _ q => List.mem_append_right _ q, fun a ao h p hp => ?_, fun a c as h p hp => ?_, R.dσ, R.free, R.dinj⟩, e⟩
  · rcases List.mem_append.mp hp with hp | hp
    · obtain ⟨a, b⟩ := mem_ownP.mp hp
      exact ⟨b, fun q => h2 (q ▸ a), h3 _ a⟩
    · exact N p hp
  · rcases three p hp with hp | hp
    · exact List.mem_append_left _ hp
    · exact List.mem_append_right _ (R.sub p hp)
  · rcases List.mem_append.mp hq with hq | hq
    · exact fun q' => h1 p (R.sub p (List.mem_append_left _ hp)) (q' ▸ off hq)
    · exact R.apart p hp q hq
  · rcases three p hp with hp | hp
    · obtain ⟨o, ho⟩ := (R.ob a ao h).key
      exact fun q => h1 _ ho (by show a ∈ wr; rw [← q]; exact off hp)
    · exact R.off a ao h p hp
  · rcases three p hp with hp | hp
    · obtain ⟨_, es, k, ho, _⟩ := R.ob a _ h
      exact fun q => h1 _ ho (by show δ a ∈ wr; rw [← q]; exact off hp)
    · exact R.doff a c as h p hp
theorem SX.unpin {fz : Fz} {wr : List Addr} {s : Shared} {own : Fz} (hl : ∀ b ∈ wr, ∃ o, (b, o) ∈ own) (hp : ∀ p ∈ f.pin, p.1 ∉ wr) (h2 : f.L ∉ wr) (h3 : ∀ b ∈ wr, f.h₀.get? b = none) (x : SR C (f.withPin (own ++ f.pin)) fz m σ s) : SX C f fz m σ wr s := by
  obtain ⟨mc, news, δ, F, N, R, e⟩ := x
  have inpin : ∀ {b o}, (b, o) ∈ own → (b, o) ∈ fz ++ (own ++ f.pin) := fun h => List.mem_append_right _ (List.mem_append_left _ h)
  have keepM : ∀ {p : Addr × Obj}, p ∈ news → p.1 ∉ wr → p ∈ news.filter (fun p => decide (p.1 ∉ wr)) := fun h q => List.mem_filter.mpr ⟨h, by simpa using q⟩
  have anw : ∀ a ao, σ a = some ao → a ∉ wr := fun a ao h q => by obtain ⟨o, ho⟩ := hl a q; exact R.off a ao h _ (inpin ho) rfl
  have dnw : ∀ a c as, σ a = some (.inst c as) → δ a ∉ wr := fun a c as h q => by obtain ⟨o, ho⟩ := hl _ q; exact R.doff a c as h _ (inpin ho) rfl
  have up : ∀ p ∈ fz ++ f.pin, p ∈ fz ++ (own ++ f.pin) := fun p hp => (List.mem_append.mp hp).elim (fun h => List.mem_append_left _ h) fun h => List.mem_append_right _ (List.mem_append_right _ h)
  refine ⟨mc, news.filter (fun p => decide (p.1 ∉ wr)), δ, F, fun p hp => N p (List.mem_filter.mp hp).1, ⟨fun p hp' => keepM (R.sub p (up p hp')) ?_, fun p hp q hq => R.apart p hp q (List.mem_append_right _ hq), fun a ao h => (R.ob a ao h).mono (fun _ _ z => z) (fun _ q => keepM q (anw a ao h)) fun c as ea _ q => keepM q (dnw a c as (ea ▸ h)), fun a ao h p hp => R.off a ao h p (up p hp), fun a c as h p hp => R.doff a c as h p (up p hp), R.dσ, R.free, R.dinj⟩, e, fun p hp => by simpa using (List.mem_filter.mp hp).2, h2, h3⟩
  rcases List.mem_append.mp hp' with h | h
  · intro q
    obtain ⟨o, ho⟩ := hl _ q
    exact R.apart p h _ (List.mem_append_left _ ho) rfl
  · exact hp p h
theorem Fm.Ok.pin {n : Nat} {p : Fz} (ok : f.Ok C n) : (f.withPin p).Ok C n := ⟨ok.below, ok.kin, ok.top, ok.hk, ok.stack, ok.handled, ok.guards, ok.depth, ok.units, ok.kind, ok.ckind⟩

/-- what a value yields when it is walked -/
structure Wk (C : Cx) (f : Fm) (fz : Fz) (I : Addr) (wr : List Addr) (xs : List AVal) (St : Nat → Heap → Prop) (Lent : Heap → Prop) (back : AHeap → AHeap) : Prop where
  go : ∀ i (s : Shared) (Q : Option Value → Shared → Prop) (E : Value → Shared → Prop) x, xs[i]? = some x → St i s.heap →
    (∀ v h' tk, V (At C fz) v x → St (i + 1) h' → (∀ b o, b ∉ wr → s.heap.get? b = some o → h'.get? b = some o) → Q (some v) { s with heap := h', toks := tk }) → wpAny (Md C) f.A (pyNext (.ref I)) Q E s
  done : ∀ (s : Shared) (Q : Option Value → Shared → Prop) (E : Value → Shared → Prop), St xs.length s.heap →
    (∀ h' tk, (∀ b o, b ∉ wr → s.heap.get? b = some o → h'.get? b = some o) → Lent h' → Q none { s with heap := h', toks := tk }) → wpAny (Md C) f.A (pyNext (.ref I)) Q E s
  live : ∀ i h, St i h → ∀ b ∈ wr, ∃ o, h.get? b = some o
  frame : ∀ i h h', St i h → (∀ b ∈ wr, ∀ o, h.get? b = some o → h'.get? b = some o) → (∀ b o, At C fz b o ∨ (b, o) ∈ f.pin → h'.get? b = some o) → St i h'
  lent : ∀ i h, St i h → Lent h
  back : ∀ fz' m' σ' s', (∀ p ∈ fz, p ∈ fz') → SX C f fz' m' σ' wr s' → Lent s'.heap → SR C f fz' m' (back σ') s'
  self : ∀ i (s : Shared) (Q : Value → Shared → Prop) (E : Value → Shared → Prop), St i s.heap → Q (.ref I) s → wpAny (Md C) f.A (pyIter (.ref I)) Q E s
  lentF : ∀ (h h' : Heap), Lent h → (∀ b ∈ wr, ∀ o, h.get? b = some o → h'.get? b = some o) → Lent h'
structure WkT (C : Cx) (f : Fm) (fz : Fz) (I : Addr) (wr : List Addr) (xs : List (List AVal)) (St : Nat → Heap → Prop) (Lent : Heap → Prop) (back : AHeap → AHeap) : Prop where
  go : ∀ i (s : Shared) (Q : Option Value → Shared → Prop) (E : Value → Shared → Prop) x, xs[i]? = some x → St i s.heap →
    (∀ T vs h' tk, Vs (At C fz) vs x → h'.IsTuple T vs.toArray → T ∉ wr → (∀ b o, b ∉ wr → s.heap.get? b = some o → h'.get? b = some o) →
      (∀ ts k pos (s₂ : Shared) (Q₂ : Unit → Shared → Prop) (E₂ : Value → Shared → Prop), s₂.heap = h' → (∀ h₂, St (i + 1) h₂ → (∀ b o, b ∉ wr → h'.get? b = some o → h₂.get? b = some o) → Q₂ () { s₂ with heap := h₂ }) → wpAny (Md C) f.A (letOwnedTupleGo (.Tuple ts k pos) (.ref I) (.ref T)) Q₂ E₂ s₂) →
      Q (some (.ref T)) { s with heap := h', toks := tk }) → wpAny (Md C) f.A (pyNext (.ref I)) Q E s
  done : ∀ (s : Shared) (Q : Option Value → Shared → Prop) (E : Value → Shared → Prop), St xs.length s.heap →
    (∀ h' tk, (∀ b o, b ∉ wr → s.heap.get? b = some o → h'.get? b = some o) → Lent h' → Q none { s with heap := h', toks := tk }) → wpAny (Md C) f.A (pyNext (.ref I)) Q E s
  live : ∀ i h, St i h → ∀ b ∈ wr, ∃ o, h.get? b = some o
  frame : ∀ i h h', St i h → (∀ b ∈ wr, ∀ o, h.get? b = some o → h'.get? b = some o) → (∀ b o, At C fz b o ∨ (b, o) ∈ f.pin → h'.get? b = some o) → St i h'
  lent : ∀ i h, St i h → Lent h
  back : ∀ fz' m' σ' s', (∀ p ∈ fz, p ∈ fz') → SX C f fz' m' σ' wr s' → Lent s'.heap → SR C f fz' m' (back σ') s'
/-- the head of a for: the value and its iterator -/
def WI (C : Cx) (n : Nat) (f : Fm) (e : Expr) (m : AEnv) (σ : AHeap) (Q : (AHeap → AHeap) → List AVal → AHeap → Prop) : Prop :=
  f.Ok C n → ∀ fz s E, SR C f fz m σ s → wpAny (Md C) f.A (eval e f.env) (fun v s₁ => wpAny (Md C) f.A (pyIter v) (fun it s' => ∃ fz' σ' I wr xs St Lent back, it = .ref I ∧ (∀ p ∈ fz, p ∈ fz') ∧ Same s s' ∧ SX C f fz' m σ' wr s' ∧ Wk C f fz' I wr xs St Lent back ∧ St 0 s'.heap ∧ Q back xs σ') E s₁) E s
def WIT (C : Cx) (n : Nat) (f : Fm) (e : Expr) (m : AEnv) (σ : AHeap) (Q : (AHeap → AHeap) → List (List AVal) → AHeap → Prop) : Prop :=
  f.Ok C n → ∀ fz s E, SR C f fz m σ s → wpAny (Md C) f.A (eval e f.env) (fun v s₁ => wpAny (Md C) f.A (pyIter v) (fun it s' => ∃ fz' σ' I wr xs St Lent back, it = .ref I ∧ (∀ p ∈ fz, p ∈ fz') ∧ Same s s' ∧ SX C f fz' m σ' wr s' ∧ WkT C f fz' I wr xs St Lent back ∧ St 0 s'.heap ∧ Q back xs σ') E s₁) E s
def TI (C : Cx) (n : Nat) (f : Fm) (a : AVal) (m : AEnv) (σ : AHeap) (Q : (AHeap → AHeap) → List AVal → AHeap → Prop) : Prop :=
  f.Ok C n → ∀ fz s E v, SR C f fz m σ s → V (At C fz) v a → wpAny (Md C) f.A (pyIter v) (fun it s' => ∃ fz' σ' I wr xs St Lent back, it = .ref I ∧ (∀ p ∈ fz, p ∈ fz') ∧ Same s s' ∧ SX C f fz' m σ' wr s' ∧ Wk C f fz' I wr xs St Lent back ∧ St 0 s'.heap ∧ Q back xs σ') E s
theorem PI.el {fz : Fz} {s s' : Shared} {it : Value} {Q : (AHeap → AHeap) → List AVal → AHeap → Prop} {P : Prop} (h : ∃ fz' σ' I wr xs St Lent back, it = .ref I ∧ (∀ p ∈ fz, p ∈ fz') ∧ Same s s' ∧ SX C f fz' m σ' wr s' ∧ Wk C f fz' I wr xs St Lent back ∧ St 0 s'.heap ∧ Q back xs σ')
    (k : ∀ fz' σ' I wr xs St Lent back, it = .ref I → (∀ p ∈ fz, p ∈ fz') → Same s s' → SX C f fz' m σ' wr s' → Wk C f fz' I wr xs St Lent back → St 0 s'.heap → Q back xs σ' → P) : P := by
  obtain ⟨fz', σ', I, wr, xs, St, Lent, back, h1, h2, h3, h4, h5, h6, h7⟩ := h; exact k fz' σ' I wr xs St Lent back h1 h2 h3 h4 h5 h6 h7
theorem wi {e : Expr} {Q : (AHeap → AHeap) → List AVal → AHeap → Prop} (h : WE C n f e m σ fun a σ₁ => TI C n f a m σ₁ Q) : WI C n f e m σ Q := fun ok fz s E x =>
  wpAny_mono (h ok fz s E x) (fun v s₁ hq => hq.el fun fz₁ σ₁ a u1 e1 x1 va q1 => wpAny_mono (q1 ok fz₁ s₁ E v x1 va) (fun it s₂ hz => PI.el hz fun fz₂ σ₂ I wr xs St Lent back ei u2 e2 a b c d => ⟨fz₂, σ₂, I, wr, xs, St, Lent, back, ei, fun p hp => u2 p (u1 p hp), e1.trans e2, a, b, c, d⟩) fun _ _ x => x) fun _ _ x => x
/-- one turn: what must hold behind the body -/
def Turn (back : AHeap → AHeap) (Inv : AEnv → AHeap → Prop) (Q : AFlow → AEnv → AHeap → Prop) : AFlow → AEnv → AHeap → Prop
  | .next, m, σ => ∃ m' σ', (∀ y a, AEnv.get m' y = some a → AEnv.get m y = some a) ∧ AHeap.le σ' σ ∧ Inv m' σ'
  | .cont, m, σ => ∃ m' σ', (∀ y a, AEnv.get m' y = some a → AEnv.get m y = some a) ∧ AHeap.le σ' σ ∧ Inv m' σ'
  | .brk, m, σ => Q .next m (back σ)
  | .ret a, m, σ => Q (.ret a) m (back σ)
theorem w1_forB {y : Str} {py : Pos} {iter : Expr} {body : List Stmt} {pos : Pos} {Q : AFlow → AEnv → AHeap → Prop} (Inv : (AHeap → AHeap) → List AVal → AEnv → AHeap → Prop)
    (h : WI C n f iter m σ fun back xs σ₂ => Inv back xs m σ₂)
    (turn : ∀ back pin x xs m' σ', Inv back (x :: xs) m' σ' → TS C n (f.withPin pin) y x m' σ' fun m₁ σ₁ => WS C n (f.withPin pin) body m₁ σ₁ (Turn back (Inv back xs) Q))
    (done : ∀ back m' σ', Inv back [] m' σ' → Q .next m' (back σ')) (hs : ∀ x, foldedSetIterable iter f.env x = pure x := by intro _; rfl) : W1 C n f (.For (.Name y py) iter body [] pos) m σ Q := fun ok fz s E x => by
  refine wpAny_For (wpAny_mono (h ok fz s E x) (fun v s₁ q1 => wpAny_mono q1 (fun it s₂ hz => PI.el hz fun fz₂ σ₂ I wr xs St Lent back ei u2 e2 x2 W st q2 => ?_) fun _ _ x => x) fun _ _ x => x) hs
  subst ei
  have hpin : ∀ p ∈ f.pin, p.1 ∉ wr := by
    obtain ⟨mc, news, δ, F, N, R, e, h1, h2, h3⟩ := x2
    exact fun p hp => h1 p (R.sub p (List.mem_append_right _ hp))
  have hL : f.L ∉ wr := by obtain ⟨mc, news, δ, F, N, R, e, h1, h2, h3⟩ := x2; exact h2
  have h0 : ∀ b ∈ wr, f.h₀.get? b = none := by obtain ⟨mc, news, δ, F, N, R, e, h1, h2, h3⟩ := x2; exact h3
  refine codeAny_forLoop (fun k s' => ∃ fz' m' σ' i, (∀ p ∈ fz₂, p ∈ fz') ∧ Same s₂ s' ∧ SX C f fz' m' σ' wr s' ∧ St i s'.heap ∧ Inv back (xs.drop i) m' σ' ∧ i ≤ xs.length ∧ k = xs.length - i) ?_ (xs.length) ⟨fz₂, m, σ₂, 0, sub_refl, .rfl, x2, st, q2, Nat.zero_le _, rfl⟩
  rintro k s' ⟨fz', m', σ', i, u3, e3, x3, st3, q3, hi, rfl⟩
  have uu : ∀ p ∈ fz, p ∈ fz' := fun p hp => u3 p (u2 p hp)
  cases hx : xs[i]? with
  | none =>
    have hlen : i = xs.length := by have := List.getElem?_eq_none_iff.mp hx; omega
    subst hlen
    refine W.done _ _ _ st3 fun h' tk k hl => wpAny_execs_nil ?_
    rw [List.drop_length] at q3
    exact ⟨fz', back σ', m', .next, uu, (e2.trans e3).trans ⟨_, _, rfl⟩, W.back _ _ _ _ u3 (x3.step (t := tk) k) hl, trivial, done _ _ _ q3⟩
  | some b =>
    obtain ⟨hlt, hb⟩ := List.getElem?_eq_some_iff.mp hx
    have hd : xs.drop i = b :: xs.drop (i + 1) := by rw [List.drop_eq_getElem_cons hlt, hb]
    rw [hd] at q3
    refine W.go i _ _ _ b hx st3 fun v h' tk hv st' k => ?_
    have x4 := x3.step (t := tk) k
    have x5 := x4.pin
    refine PyProof.Rows.assign_Name (wpAny_mono (turn back (ownP wr h' ++ f.pin) b _ m' σ' q3 ok.pin fz' _ _ v x5 (hv.up u3)) (fun _ s₅ hq => PU.el hq fun fz₅ σ₅ m₅ u5 e5 x6 q5 => ?_) fun _ _ x => x)
    refine wpAny_mono (q5 ok.pin fz₅ s₅ _ x6) (fun fl s₆ hq => hq.el fun fz₆ σ₆ m₆ a₆ u6 e6 x7 va6 q6 => ?_) fun _ _ x => x
    have es : Same s s₆ := ((((e2.trans e3).trans ⟨_, _, rfl⟩).trans e5).trans e6)
    have us : ∀ p ∈ fz, p ∈ fz₆ := fun p hp => u6 p (u5 p (uu p hp))
    have u26 : ∀ p ∈ fz₂, p ∈ fz₆ := fun p hp => u6 p (u5 p (u3 p hp))
    have un : ∀ {m' : AEnv} {σ' : AHeap}, SR C (f.withPin (ownP wr h' ++ f.pin)) fz₆ m' σ' s₆ → SX C f fz₆ m' σ' wr s₆ := fun x => SX.unpin (fun b hb => by obtain ⟨o, ho⟩ := W.live _ _ st' b hb; exact ⟨o, (mem_ownP (p := (b, o))).mpr ⟨hb, ho⟩⟩) hpin hL h0 x
    have st6 : St (i + 1) s₆.heap := by
      refine W.frame _ _ _ st' (fun b hb o ho => ?_) fun b o q => ?_
      · obtain ⟨mc, news, δ, F, N, R, e⟩ := x7
        exact (N _ (R.sub _ (List.mem_append_right _ (List.mem_append_left _ ((mem_ownP (p := (b, o))).mpr ⟨hb, ho⟩))))).1
      · rcases q with q | q
        · exact (x7.at_ ok.pin (q.mono u26))
        · obtain ⟨mc, news, δ, F, N, R, e⟩ := x7
          exact (N _ (R.sub _ (List.mem_append_right _ (List.mem_append_right _ q)))).1
    have bk := W.back _ _ _ _ u26 (un x7) (W.lent _ _ st6)
    have next : Turn back (Inv back (xs.drop (i + 1))) Q .next m₆ σ₆ → ∃ m, m < xs.length - i ∧ ∃ fz' m' σ' i, (∀ p ∈ fz₂, p ∈ fz') ∧ Same s₂ s₆ ∧ SX C f fz' m' σ' wr s₆ ∧ St i s₆.heap ∧ Inv back (xs.drop i) m' σ' ∧ i ≤ xs.length ∧ m = xs.length - i := by
      rintro ⟨m₇, σ₇, hm, hσ, q7⟩
      exact ⟨xs.length - (i + 1), by omega, fz₆, m₇, σ₇, i + 1, u26, ((e3.trans ⟨_, _, rfl⟩).trans e5).trans e6, un (x7.weaken hm hσ), st6, q7, hlt, rfl⟩
    cases fl with
    | next => cases a₆ <;> first | exact next q6 | exact va6.elim
    | cont => cases a₆ <;> first | exact next q6 | exact va6.elim
    | brk => cases a₆ <;> first | exact ⟨fz₆, back σ₆, m₆, .next, us, es, bk, trivial, q6⟩ | exact va6.elim
    | ret r => cases a₆ <;> first | exact ⟨fz₆, back σ₆, m₆, .ret _, us, es, bk, va6, q6⟩ | exact va6.elim
end
end Mine

open PySem PySem.W PyProof.Rows PySem.Calls
namespace Mine
section
variable {C : Cx} {n : Nat} {f : Fm} {m : AEnv} {σ : AHeap}
theorem ge_none {h : Heap} {a : Addr} (ha : h.objs.size ≤ a) : h.get? a = none := by
  cases q : h.get? a with
  | none => rfl
  | some o => exact absurd (Heap.lt_size q) (Nat.not_lt.mpr ha)
/-- one new frozen object -/
theorem PV.new {fz : Fz} {s : Shared} {Q : AVal → AHeap → Prop} {a : AVal} {h' : Heap} {t : Nat} {b : Addr} {o : Obj} (x : SR C f fz m σ s) (k : ∀ b o, s.heap.get? b = some o → h'.get? b = some o) (hb : s.heap.objs.size ≤ b) (ho : h'.get? b = some o)
    (hv : ∀ fz', (b, o) ∈ fz' → (∀ p ∈ fz, p ∈ fz') → V (At C fz') (.ref b) a) (q : Q a σ) : PV C f m fz s Q (.ref b) { s with heap := h', toks := t } :=
  ⟨[(b, o)] ++ fz, σ, a, fun p hp => List.mem_append_right _ hp, .mk, x.freeze (t := t) k _ (fun p hp => by rw [List.mem_singleton.mp hp]; exact ⟨ge_none hb, hb, ho⟩), hv _ (List.mem_append_left _ (List.mem_singleton.mpr rfl)) (fun p hp => List.mem_append_right _ hp), q⟩
theorem PV.push {fz : Fz} {s : Shared} {Q : AVal → AHeap → Prop} {a : AVal} {t : Nat} {o : Obj} (x : SR C f fz m σ s) (hf : o.isFreed = false) (hv : ∀ fz', (s.heap.objs.size, o) ∈ fz' → (∀ p ∈ fz, p ∈ fz') → V (At C fz') (.ref s.heap.objs.size) a) (q : Q a σ) :
    PV C f m fz s Q (.ref s.heap.objs.size) { s with heap := s.heap.push o, toks := t } := .new x (fun b o e => Heap.get?_push_of_some _ e) (Nat.le_refl _) (Heap.get?_push_size _ hf) hv q
/-! ## ints -/
section
variable {Q : AVal → AHeap → Prop} {a b : Int}
theorem t2_add (h : Q (.int (a + b)) σ) : T2 C n f (binaryOp .Add) (.int a) (.int b) m σ Q := fun ok fz s E v w x hv hw => by cases hv; cases hw; exact add_int (.tok x (.int _ _) h)
theorem t2_div (hb : b ≠ 0) (hs : b.natAbs < 1073741824) (h : Q (.int (a.fdiv b)) σ) : T2 C n f (binaryOp .FloorDiv) (.int a) (.int b) m σ Q := fun ok fz s E v w x hv hw => by cases hv; cases hw; exact floordiv_int hb (.tok x (.int _ _) h) (.inl (PyProof.noPylong_small hs))
theorem t2_mod (hb : b ≠ 0) (hs : b.natAbs < 1073741824) (h : Q (.int (a.fmod b)) σ) : T2 C n f (binaryOp .Mod) (.int a) (.int b) m σ Q := fun ok fz s E v w x hv hw => by cases hv; cases hw; exact mod_int' hb (.tok x (.int _ _) h)
theorem t2_and (h : Q (.int (Builtin.bitAnd a b)) σ) : T2 C n f (binaryOp .BitAnd) (.int a) (.int b) m σ Q := fun ok fz s E v w x hv hw => by cases hv; cases hw; exact and_int (.tok x (.int _ _) h)
theorem t1_neg (h : Q (.int (-a)) σ) : T1 C n f (unaryOp .USub) (.int a) m σ Q := fun ok fz s E v x hv => by cases hv; exact PyProof.Rows.neg_int (.tok x (.int _ _) h)
theorem t2_eq (h : Q (.bool (a == b)) σ) : T2 C n f (compareOp .Eq) (.int a) (.int b) m σ Q := fun ok fz s E v w x hv hw => by cases hv; cases hw; exact PyProof.Rows.eq_int (.here x (.bool _) h)
theorem t2_lt (h : Q (.bool (decide (a < b))) σ) : T2 C n f (compareOp .Lt) (.int a) (.int b) m σ Q := fun ok fz s E v w x hv hw => by cases hv; cases hw; exact PyProof.Rows.lt_int (.here x (.bool _) h)
end

/-! ## None -/
def isNone : AVal → Option Bool
  | .none => some true
  | .raw _ => Option.none
  | _ => some false
theorem isNone_ok {P : Addr → Obj → Prop} {v : Value} {a : AVal} {b : Bool} (h : V P v a) (e : isNone a = some b) : (v == Value.none) = b := by
  cases h <;> simp [isNone] at e <;> subst e <;> rfl
theorem t2_isNone {a : AVal} {b : Bool} {Q : AVal → AHeap → Prop} (e : isNone a = some b) (h : Q (.bool b) σ) : T2 C n f (compareOp .Is) a .none m σ Q := fun ok fz s E v w x hv hw => by
  have := isNone_ok hv e
  cases hw; exact is_none (by rw [this]; exact .here x (.bool _) h)
/-! ## builtins called -/
theorem keep_builtin {h : Heap} {i : String} : Keep C h (.builtin i) := ⟨.machine, .inr (.inl rfl), Looks.of_pure rfl⟩
theorem keep_type {h : Heap} {i : String} : Keep C h (.type i) := ⟨.machine, .inr (.inl rfl), Looks.of_pure rfl⟩
theorem tc_range1 {a : Int} {Q : AVal → AHeap → Prop} (h : Q (.rng 0 a 1) σ) : TC C n f (.raw (.type "range")) [.int a] m σ Q := fun ok fz s E v vs x hv hvs => by
  cases hv; obtain _ | ⟨h1, h2⟩ := hvs; cases h2; cases h1
  exact ⟨keep_type, call_range_1 (.push x rfl (fun fz' h _ => .rng (.inl h)) h)⟩
/-! ## iterators -/
theorem SX.ofPush {fz : Fz} {s : Shared} {o : Obj} {t : Nat} (x : SR C f fz m σ s) : SX C f fz m σ [s.heap.objs.size] { s with heap := s.heap.push o, toks := t } := by
  obtain ⟨mc, news, δ, F, N, R, e⟩ := x
  obtain ⟨oL, a1, a2, hL, a3⟩ := id F.ns
  refine ⟨mc, news, δ, F.push o, fun p hp => ⟨Heap.get?_push_of_some _ (N p hp).1, (N p hp).2⟩, R, e, fun p hp hm => ?_, fun hm => ?_, fun b hb => ?_⟩
  · exact absurd (news_lt N hp) (by rw [List.mem_singleton.mp hm]; exact Nat.lt_irrefl _)
  · exact absurd (Heap.lt_size hL) (by rw [List.mem_singleton.mp hm]; exact Nat.lt_irrefl _)
  · rw [List.mem_singleton.mp hb]
    cases q : f.h₀.get? s.heap.objs.size with
    | none => rfl
    | some o => exact absurd (Heap.lt_size (F.keep _ _ q)) (Nat.lt_irrefl _)
theorem ti_lst {xs : List AVal} {Q : (AHeap → AHeap) → List AVal → AHeap → Prop} (h : Q id xs σ) : TI C n f (.lst xs) m σ Q := fun ok fz s E v x hv => by
  cases hv with
  | lst p1 p2 p3 p4 =>
    rename_i l o k vs
    have ho := x.at_ ok p1
    have hl : s.heap.IsList l vs.toArray := ⟨_, ho, p2, _, p3⟩
    have hne : l ≠ s.heap.objs.size := Nat.ne_of_lt (Heap.lt_size ho)
    refine wpAny_pyIter_list hl ?_
    have W := Walks.list (prog := C.prog) (w := C.w) ok.handled s.heap.objs.size l hne vs.toArray
    refine ⟨fz, σ, s.heap.objs.size, [s.heap.objs.size], xs, fun i h => h.IsListIter s.heap.objs.size l i ∧ h.IsList l vs.toArray, fun _ => True, id, rfl, sub_refl, ⟨_, s.toks, rfl⟩, SX.ofPush (t := s.toks) x, ⟨?_, ?_, ?_, ?_, fun _ _ _ => trivial, fun _ _ _ _ _ x _ => x.sr, fun i s Q E h q => W.self i s Q E h q, fun _ _ _ _ => trivial⟩, ⟨⟨_, Heap.get?_push_size _ rfl, rfl, rfl⟩, hl.at fun o e => Heap.get?_push_of_some _ e⟩, h⟩
    · intro i s Q E y hy hs hQ
      have hi : i < vs.toArray.size := by rw [List.size_toArray, p4.length]; exact (List.getElem?_eq_some_iff.mp hy).1
      refine W.item i s Q E hi hs fun v h' tk hv => hQ v h' tk ?_
      obtain ⟨u, h1, h2⟩ := p4.get hy
      have : vs[i]? = some v := by simpa using hv
      rw [h1] at this; cases this; exact h2
    · intro s Q E hs hQ
      have hz : vs.toArray.size = xs.length := by rw [List.size_toArray, p4.length]
      refine W.done s Q E (by rw [hz]; exact hs) fun h' tk k => hQ h' tk k trivial
    · intro i h hs b hb
      rw [List.mem_singleton.mp hb]
      obtain ⟨o, h1, _⟩ := hs.1; exact ⟨o, h1⟩
    · intro i h h' hs hw hp
      exact ⟨hs.1.at fun o e => hw _ (List.mem_singleton.mpr rfl) o e, ⟨_, hp _ _ (.inl p1), p2, _, p3⟩⟩
def rngL (a c : Int) (k : Nat) : List AVal := (List.range k).map fun (i : Nat) => AVal.int (a + (i : Int) * c)
theorem ti_rng {a b c : Int} {k : Nat} {Q : (AHeap → AHeap) → List AVal → AHeap → Prop} (hsmall : Builtin.Range.small a b c = true) (hk : Builtin.Range.rangeSize a b c = (k : Int)) (h : Q id (rngL a c k) σ) : TI C n f (.rng a b c) m σ Q := fun ok fz s E v x hv => by
  cases hv with
  | rng p1 =>
    have ho := x.at_ ok p1
    refine wpAny_pyIter_range ho hsmall ?_
    have W := Walks.range (prog := C.prog) (w := C.w) ok.handled s.heap.objs.size a c k
    have hlen : (rngL a c k).length = k := by simp [rngL]
    refine ⟨fz, σ, s.heap.objs.size, [s.heap.objs.size], rngL a c k, fun i h => IsRangeIter h s.heap.objs.size (a + (i : Nat) * c) ((k : Int) - (i : Nat)) c, fun _ => True, id, rfl, sub_refl, ⟨_, s.toks, rfl⟩, SX.ofPush (t := s.toks) x, ⟨?_, ?_, ?_, ?_, fun _ _ _ => trivial, fun _ _ _ _ _ x _ => x.sr, fun i s Q E h q => W.self i s Q E h q, fun _ _ _ _ => trivial⟩, ?_, h⟩
    · intro i s Q E y hy hs hQ
      have hi : i < k := by have := (List.getElem?_eq_some_iff.mp hy).1; omega
      refine W.item i s Q E hi hs fun v h' tk hv => hQ v h' tk ?_
      obtain ⟨t, rfl⟩ := hv
      have : y = .int (a + i * c) := by simp [rngL, hi] at hy; exact hy.symm
      subst this
      exact .int _ _
    · intro s Q E hs hQ
      exact W.done s Q E (by rw [hlen] at hs; exact hs) fun h' tk k => hQ h' tk k trivial
    · intro i h hs b hb
      rw [List.mem_singleton.mp hb]
      exact ⟨_, hs⟩
    · intro i h h' hs hw hp
      exact hw _ (List.mem_singleton.mpr rfl) _ hs
    · show IsRangeIter _ _ _ _ _
      rw [hk]
      simpa using Heap.get?_push_size s.heap (o := { cls := .type "range_iterator", data := .fields #[rawInt a, rawInt k, rawInt c] }) rfl
theorem w1_for {y : Str} {py : Pos} {iter : Expr} {body : List Stmt} {pos : Pos} {Q : AFlow → AEnv → AHeap → Prop} (Inv : List AVal → AEnv → AHeap → Prop)
    (h : WI C n f iter m σ fun back xs σ₂ => back = id ∧ Inv xs m σ₂)
    (turn : ∀ pin x xs m' σ', Inv (x :: xs) m' σ' → TS C n (f.withPin pin) y x m' σ' fun m₁ σ₁ => WS C n (f.withPin pin) body m₁ σ₁ (Turn id (Inv xs) Q))
    (done : ∀ m' σ', Inv [] m' σ' → Q .next m' σ') (hs : ∀ x, foldedSetIterable iter f.env x = pure x := by intro _; rfl) : W1 C n f (.For (.Name y py) iter body [] pos) m σ Q := by
  refine w1_forB (fun back xs m σ => back = id ∧ Inv xs m σ) h (fun back pin x xs m' σ' ⟨e, q⟩ => ?_) (fun back m' σ' ⟨e, q⟩ => by subst e; exact done _ _ q) hs
  subst e
  have key : Turn id (Inv xs) Q = Turn id (fun m σ => id = (id : AHeap → AHeap) ∧ Inv xs m σ) Q := by
    funext a m σ; cases a <;> simp [Turn]
  rw [← key]
  exact turn pin x xs m' σ' q
end
end Mine

open PySem PySem.W PyProof.Rows PySem.Calls
namespace Mine
section
variable {C : Cx} {n : Nat} {f : Fm} {m : AEnv} {σ : AHeap}
theorem HR.addFz {fz pin : Fz} {δ : Addr → Addr} {news : List (Addr × Obj)} (R : HR C fz pin σ δ news) (new : Fz) (hn : ∀ p ∈ new, ∀ q ∈ news, q.1 ≠ p.1) : HR C (new ++ fz) pin σ δ (new ++ news) := by
  have up : ∀ p ∈ fz, p ∈ new ++ fz := fun p hp => List.mem_append_right _ hp
  have split : ∀ p ∈ (new ++ fz) ++ pin, p ∈ new ∨ p ∈ fz ++ pin := fun p hp => by rw [List.append_assoc] at hp; exact List.mem_append.mp hp
  refine ⟨fun p hp => ?_, fun p hp q hq => ?_, fun a ao h => (R.ob a ao h).mono (fun _ _ => At.mono up) (fun _ q => List.mem_append_right _ q) fun _ _ _ _ q => List.mem_append_right _ q, fun a ao h p hp => ?_, fun a c as h p hp => ?_, R.dσ, fun p hp => let ⟨o, v, a, b, c⟩ := R.free p hp; ⟨o, v, a.mono up, b, c.up up⟩, R.dinj⟩
  · rcases split p hp with hp | hp
    · exact List.mem_append_left _ hp
    · exact List.mem_append_right _ (R.sub _ hp)
  · rcases List.mem_append.mp hp with hp | hp
    · exact fun e => hn p hp q (R.sub _ (List.mem_append_right _ hq)) e.symm
    · exact R.apart p hp q hq
  · rcases split p hp with hp | hp
    · obtain ⟨o, ho⟩ := (R.ob a ao h).key; exact fun q => hn p hp _ ho q.symm
    · exact R.off a ao h p hp
  · rcases split p hp with hp | hp
    · obtain ⟨_, es, k, ho, _⟩ := R.ob a _ h; exact fun q => hn p hp _ ho q.symm
    · exact R.doff a c as h p hp
theorem ER.up {fz fz' : Fz} {mc : Str → Option Value} (h : ∀ p ∈ fz, p ∈ fz') (e : ER (At C fz) m mc) : ER (At C fz') m mc := fun y a hy => by obtain ⟨v, h1, h2⟩ := e y a hy; exact ⟨v, h1, h2.up h⟩

/-! ## things of a class -/
theorem tc_fin {c : Addr} {Q : AVal → AHeap → Prop} (hk : keepIn C.K (.ref c) = true) (hm : makesIn C.K c = true) (hi : findIn C.K (.ref c) "__init__" = some (some (.builtin "object.__init__"))) (h : Q (.fin c) σ) : TC C n f (.raw (.ref c)) [] m σ Q := fun ok fz s E v vs x hv hvs => by
  cases hv; cases hvs
  refine ⟨keep_K ok x hk, ?_⟩
  obtain ⟨mc, news, δ, F, N, R, e⟩ := x
  refine call_cls0 F ok.kin N hm hi fun y d h' F' N' l1 l2 => ?_
  have hn : ∀ p ∈ [(y, instObj c d), (d, dictOf [] 0)], ∀ q ∈ news, q.1 ≠ p.1 := fun p hp q hq => by
    have := l1 q hq
    rcases List.mem_cons.mp hp with rfl | hp
    · exact Nat.ne_of_lt (Nat.lt_trans this l2)
    · rw [List.mem_singleton.mp hp]; exact Nat.ne_of_lt this
  have up : ∀ p ∈ fz, p ∈ [(y, instObj c d), (d, dictOf [] 0)] ++ fz := fun p hp => List.mem_append_right _ hp
  exact ⟨[(y, instObj c d), (d, dictOf [] 0)] ++ fz, σ, .fin c, up, ⟨h', s.toks, rfl⟩, ⟨mc, _, δ, F', N', R.addFz _ hn, e.up up⟩, .fin (.inl (List.mem_append_left _ (List.mem_cons_self ..))) (.inl (List.mem_append_left _ (List.mem_cons_of_mem _ (List.mem_cons_self ..)))), h⟩
theorem HR.noneAt {fz pin : Fz} {δ : Addr → Addr} {news : List (Addr × Obj)} {y : Addr} (R : HR C fz pin σ δ news) (l : ∀ q ∈ news, q.1 ≠ y) : σ y = none := by
  cases q : σ y with
  | none => rfl
  | some o => obtain ⟨o, h⟩ := (R.ob y o q).key; exact absurd rfl (l _ h)
/-! ## type, is -/
theorem t2_isRaw {a b : Value} {Q : AVal → AHeap → Prop} (hp : plainIs a b = true) (h : Q (.bool (a == b)) σ) : T2 C n f (compareOp .Is) (.raw a) (.raw b) m σ Q := fun ok fz s E v w x hv hw => by
  cases hv; cases hw; exact wpAny_is_plain hp (.here x (.bool _) h)
/-! ## functions of ints -/
/-! ## lists -/
theorem SR.newFz {fz : Fz} {s : Shared} (x : SR C f fz m σ s) : ∃ mc news, Fr f.h₀ f.L s.heap mc ∧ News f.h₀ f.L s.heap news ∧
    ∀ h' t o, Fr f.h₀ f.L h' mc → News f.h₀ f.L h' ((s.heap.objs.size, o) :: news) → SR C f ([(s.heap.objs.size, o)] ++ fz) m σ { s with heap := h', toks := t } := by
  obtain ⟨mc, news, δ, F, N, R, e⟩ := x
  refine ⟨mc, news, F, N, fun h' t o F' N' => ⟨mc, _, δ, F', N', R.addFz [(s.heap.objs.size, o)] fun p hp q hq => ?_, e.up fun p hp => List.mem_append_right _ hp⟩⟩
  rw [List.mem_singleton.mp hp]
  exact Nat.ne_of_lt (news_lt N hq)
/-- a list, frozen or not: its items now -/
def items (σ : AHeap) : AVal → Option (List AVal)
  | .lst xs => some xs
  | .obj a => match σ a with
    | some (.list xs) => some xs
    | _ => none
  | _ => none
theorem V.items {fz : Fz} {s : Shared} (ok : f.Ok C n) (x : SR C f fz m σ s) {v : Value} {a : AVal} {xs : List AVal} (h : V (At C fz) v a) (e : items σ a = some xs) : ∃ l vs, v = .ref l ∧ s.heap.IsList l vs.toArray ∧ Vs (At C fz) vs xs := by
  cases h with
  | obj a =>
    have e' : (match σ a with | some (.list xs) => some xs | _ => Option.none) = some xs := e
    split at e'
    · rename_i ys hs; cases e'
      obtain ⟨vs, k, h1, h2⟩ := x.list hs
      exact ⟨a, vs, rfl, ⟨_, h1, rfl, _, rfl⟩, h2⟩
    · cases e'
  | lst h1 h2 h3 h4 => cases e; exact ⟨_, _, rfl, ⟨_, x.at_ ok h1, h2, _, h3⟩, h4⟩
  | _ => cases e
theorem t2_cat {a b : AVal} {xs ys : List AVal} {Q : AVal → AHeap → Prop} (ha : items σ a = some xs) (hb : items σ b = some ys) (hl : xs.length + ys.length ≤ sizeLine) (h : Q (.lst (xs ++ ys)) σ) : T2 C n f (binaryOp .Add) a b m σ Q := fun ok fz s E v w x hv hw => by
  obtain ⟨l, vs, rfl, hlv, hvs⟩ := hv.items ok x ha
  obtain ⟨l', ws, rfl, hlw, hws⟩ := hw.items ok x hb
  obtain ⟨mc, news, F, N, k⟩ := x.newFz
  refine add_lists F N hlv hlw (fun h' F' N' => ?_) (by rw [hvs.length, hws.length]; exact hl)
  exact ⟨_, σ, .lst (xs ++ ys), fun p hp => List.mem_append_right _ hp, ⟨h', s.toks, rfl⟩, k h' s.toks _ F' N', .lst (.inl (List.mem_append_left _ (List.mem_singleton.mpr rfl))) rfl rfl ((hvs.append hws).up fun p hp => List.mem_append_right _ hp), h⟩
theorem tc_len {a : AVal} {xs : List AVal} {Q : AVal → AHeap → Prop} (ha : items σ a = some xs) (hl : xs.length < 2 ^ 62) (h : Q (.int xs.length) σ) : TC C n f (.raw (.builtin "len")) [a] m σ Q := fun ok fz s E v vs x hv hvs => by
  cases hv; obtain _ | ⟨h1, h2⟩ := hvs; cases h2
  obtain ⟨l, us, rfl, hlv, hus⟩ := h1.items ok x ha
  have e : us.toArray.size = xs.length := by rw [List.size_toArray, hus.length]
  refine ⟨keep_builtin, len_list hlv (by rw [e]; omega) ?_⟩
  rw [e]
  exact .tok x (.int _ _) h
theorem carried_rng {P : Addr → Obj → Prop} : ∀ {ys : List Value} {is : List Int}, CarriedAll ys (is.map .int) → Vs P ys (is.map .int)
  | _, [], h => by cases h; exact .nil
  | _, i :: is, h => by
    cases h with
    | cons h1 h2 => cases h1; exact .cons (.int _ _) (carried_rng h2)
end
end Mine

open PySem PySem.W PyProof.Rows PySem.Calls
namespace Mine
section
variable {C : Cx} {n : Nat} {f : Fm} {m : AEnv} {σ : AHeap}
theorem SX.ofFresh {fz : Fz} {s : Shared} {h' : Heap} {t : Nat} {wr : List Addr} (x : SR C f fz m σ s) (k : ∀ b o, s.heap.get? b = some o → h'.get? b = some o) (hw : ∀ b ∈ wr, s.heap.objs.size ≤ b) : SX C f fz m σ wr { s with heap := h', toks := t } := by
  obtain ⟨mc, news, δ, F, N, R, e⟩ := x
  obtain ⟨oL, a1, a2, hL, a3⟩ := id F.ns
  refine ⟨mc, news, δ, F.grownK k, fun p hp => ⟨k _ _ (N p hp).1, (N p hp).2⟩, R, e, fun p hp hm => ?_, fun hm => ?_, fun b hb => ?_⟩
  · exact absurd (news_lt N hp) (Nat.not_lt.mpr (hw _ hm))
  · exact absurd (Heap.lt_size hL) (Nat.not_lt.mpr (hw _ hm))
  · cases q : f.h₀.get? b with
    | none => rfl
    | some o => exact absurd (Heap.lt_size (F.keep _ _ q)) (Nat.not_lt.mpr (hw _ hb))
def enumFrom (k : Nat) : List AVal → List (List AVal)
  | [] => []
  | x :: xs => [.int k, x] :: enumFrom (k + 1) xs
end
end Mine
namespace Mine
section
variable {C : Cx} {n : Nat} {f : Fm} {m : AEnv} {σ : AHeap}
/-! ## methods of lists -/
theorem tg_list {a : Addr} {xs : List AVal} {name : Str} {id : String} {Q : AVal → List AVal → AHeap → Prop} (slot : Slot "list" name id) (hty : typeOf (.builtin id) = pure (.type "method_descriptor")) (ha : σ a = some (.list xs)) (h : Q (.raw (.builtin id)) [.obj a] σ) : TG C n f name (.obj a) m σ Q := fun ok fz s E v pl x hv => by
  cases hv
  obtain ⟨vs, k, h1, h2⟩ := x.list ha
  exact getMethod_list_of slot hty ⟨_, h1, rfl, _, rfl⟩ ⟨_, h1, rfl⟩ ⟨fz, σ, _, _, sub_refl, .rfl, x, .raw _, .cons (.obj a) .nil, h⟩
def scalar : AVal → Bool
  | .none => true
  | .bool _ => true
  | .int _ => true
  | .str _ => true
  | _ => false
def notNone : AVal → Bool
  | .none => false
  | _ => true
end
end Mine

open PySem PySem.W PyProof.Rows PySem.Calls
namespace Mine
end Mine
namespace Mine
theorem vs_ints {P : Addr → Obj → Prop} : ∀ {vs : List Value} {ns : List Int}, IntsAre vs ns → Vs P vs (ns.map .int)
  | _, _, .nil => .nil
  | _, _, .cons n t r => .cons (.int n t) (vs_ints r)
end Mine

open PySem PySem.W PyProof.Rows PySem.Calls
namespace Mine
section
variable {C : Cx} {n : Nat} {f : Fm} {m : AEnv} {σ : AHeap}
/-! ## items by place -/
theorem we_sub {value slice : Expr} {pos : Pos} {Q : AVal → AHeap → Prop} (h : WE C n f value m σ fun a σ₁ => WE C n f slice m σ₁ fun b σ₂ => T2 C n f (subscriptTail value slice) a b m σ₂ Q) : WE C n f (.Subscript value slice pos) m σ Q := fun ok fz s E x => by
  refine Subscript_ (wpAny_mono (h ok fz s E x) (fun v s₁ hq => hq.el fun fz₁ σ₁ a u1 e1 x1 va q1 => wpAny_mono (q1 ok fz₁ s₁ E x1) (fun w s₂ hq => hq.el fun fz₂ σ₂ b u2 e2 x2 vb q2 => ?_) fun _ _ x => x) fun _ _ x => x)
  exact wpAny_mono (q2 ok fz₂ s₂ E v w x2 (va.up u2) vb) (fun r s₃ p => .up (fun p hp => u2 p (u1 p hp)) (e1.trans e2) p) fun _ _ x => x
theorem t2_item {value slice : Expr} {a : AVal} {i : Int} {xs : List AVal} {y : AVal} {Q : AVal → AHeap → Prop} (ha : items σ a = some xs) (h0 : 0 ≤ i) (hf : i < 2 ^ 63) (hy : xs[i.toNat]? = some y) (h : Q y σ)
    (hs : ∀ l u, subscripted slice false (.ref l) (.int i u) = operate [.ref l, .int i u] (getItem (.ref l) (.int i u)) := by intro _ _; rfl) : T2 C n f (subscriptTail value slice) a (.int i) m σ Q := fun ok fz s E v w x hv hw => by
  cases hw
  obtain ⟨l, vs, rfl, hl, hvs⟩ := hv.items ok x ha
  obtain ⟨u, g1, g2⟩ := hvs.get hy
  exact tail_any hl.typeIs slot_list_getitem.lookup (wpAny_getItem_list (x := u) hl h0 hf (by simpa using g1) (.here x g2 h)) (hs _ _)
/-! ## slices -/
def WO (C : Cx) (n : Nat) (f : Fm) (e : Option Expr) (m : AEnv) (σ : AHeap) (Q : AVal → AHeap → Prop) : Prop :=
  f.Ok C n → ∀ fz s E, SR C f fz m σ s → wpAny (Md C) f.A (evalPart e f.env) (PV C f m fz s Q) E s
def part : AVal → Option (Option Int)
  | .none => some none
  | .int i => some (some i)
  | _ => none
def pickA (xs : List AVal) (lo hi st : Option Int) : List AVal :=
  (sliceRange (sliceBounds lo hi st xs.length).1 (sliceBounds lo hi st xs.length).2.1 (sliceBounds lo hi st xs.length).2.2).filterMap (xs[·]?)
/-! ## changing a list -/
theorem tg_listM {a : Addr} {xs : List AVal} {name : Str} {id : String} {Q : AVal → List AVal → AHeap → Prop} (ha : σ a = some (.list xs)) (slot : Slot "list" name id) (hty : typeOf (.builtin id) = pure (.type "method_descriptor")) (h : Q (.raw (.builtin id)) [.obj a] σ) : TG C n f name (.obj a) m σ Q :=
  tg_list slot hty ha h
theorem tc_append {a : Addr} {xs : List AVal} {y : AVal} {Q : AVal → AHeap → Prop} (ha : σ a = some (.list xs)) (hl : xs.length ≤ sizeLine) (h : Q .none (σ.set a (.list (xs ++ [y])))) : TC C n f (.raw (.builtin "list.append")) [.obj a, y] m σ Q := fun ok fz s E v vs x hv hvs => by
  cases hv; obtain _ | ⟨h1, h2⟩ := hvs; obtain _ | ⟨h2, h3⟩ := h2; cases h3; cases h1
  obtain ⟨us, k, ho, p4⟩ := x.list ha
  refine ⟨keep_builtin, append_at ho (fun h' hs ho' => ?_) (by rw [List.size_toArray, p4.length]; exact hl)⟩
  rename_i w
  refine ⟨fz, _, .none, sub_refl, ⟨h', s.toks, rfl⟩, x.setList (t := s.toks) (vs' := us ++ [w]) ha hs (by simpa using ho') (p4.append (.cons h2 .nil)), .none, h⟩
/-- storing at a place: as a tree -/
def TU (C : Cx) (n : Nat) (f : Fm) (o i y : AVal) (m : AEnv) (σ : AHeap) (Q : AHeap → Prop) : Prop :=
  f.Ok C n → ∀ fz s E vo vi vy, SR C f fz m σ s → V (At C fz) vo o → V (At C fz) vi i → V (At C fz) vy y → wpAny (Md C) f.A (setItem vo vi vy) (fun _ s' => ∃ fz' σ', (∀ p ∈ fz, p ∈ fz') ∧ Same s s' ∧ SR C f fz' m σ' s' ∧ Q σ') E s
theorem w1_expr {e : Expr} {pos : Pos} {Q : AFlow → AEnv → AHeap → Prop} (h : WE C n f e m σ fun _ σ₁ => Q .next m σ₁) (hi : interactive f.env = false := by rfl) (hs : swapsWith e none pos.line f.env = pure false := by rfl) : W1 C n f (.Expr e pos) m σ Q := fun ok fz s E x => by
  refine wpAny_Expr_any (hi := hi) (hs := hs) (wpAny_mono (h ok fz s E x) (fun v s₁ hq => hq.el fun fz₁ σ₁ a u1 e1 x1 va q1 => ⟨fz₁, σ₁, m, .next, u1, e1, x1, trivial, q1⟩) fun _ _ x => x)
end
end Mine

open PySem PySem.W PyProof.Rows PySem.Calls
namespace Mine
section
variable {C : Cx} {n : Nat} {f : Fm} {m : AEnv} {σ : AHeap}
/-! ## rows built by a comprehension -/
def WQ (C : Cx) (n : Nat) (f : Fm) (ifs : List Expr) (m : AEnv) (σ : AHeap) (Q : Bool → AHeap → Prop) : Prop :=
  f.Ok C n → ∀ fz s E, SR C f fz m σ s → wpAny (Md C) f.A (forIn ifs true fun c r => if r = true then do let ok ← isTrue c f.env (eval c f.env); pure (ForInStep.yield ok) else pure (ForInStep.yield r)) (PB C f m fz s Q) E s
theorem wq_nil {Q : Bool → AHeap → Prop} (h : Q true σ) : WQ C n f [] m σ Q := fun ok fz s E x => wpAny_tests_nil ⟨fz, σ, sub_refl, .rfl, x, h⟩
theorem SX.sub {fz : Fz} {wr wr' : List Addr} {s : Shared} (h : ∀ b ∈ wr', b ∈ wr) (x : SX C f fz m σ wr s) : SX C f fz m σ wr' s := by
  obtain ⟨mc, news, δ, F, N, R, e, h1, h2, h3⟩ := x
  exact ⟨mc, news, δ, F, N, R, e, fun p hp q => h1 p hp (h _ q), fun q => h2 (h _ q), fun b hb => h3 b (h _ hb)⟩
theorem SX.wide {fz : Fz} {wr : List Addr} {s : Shared} {h' : Heap} {t : Nat} (x : SX C f fz m σ wr s) (new : List Addr) (k : ∀ b o, s.heap.get? b = some o → h'.get? b = some o) (hw : ∀ b ∈ new, s.heap.objs.size ≤ b) : SX C f fz m σ (new ++ wr) { s with heap := h', toks := t } := by
  obtain ⟨mc, news, δ, F, N, R, e, h1, h2, h3⟩ := x
  obtain ⟨oL, a1, a2, hL, a3⟩ := id F.ns
  refine ⟨mc, news, δ, F.grownK k, fun p hp => ⟨k _ _ (N p hp).1, (N p hp).2⟩, R, e, fun p hp hm => ?_, fun hm => ?_, fun b hb => ?_⟩
  · rcases List.mem_append.mp hm with hm | hm
    · exact absurd (news_lt N hp) (Nat.not_lt.mpr (hw _ hm))
    · exact h1 p hp hm
  · rcases List.mem_append.mp hm with hm | hm
    · exact absurd (Heap.lt_size hL) (Nat.not_lt.mpr (hw _ hm))
    · exact h2 hm
  · rcases List.mem_append.mp hb with hm | hm
    · cases q : f.h₀.get? b with
      | none => rfl
      | some o => exact absurd (Heap.lt_size (F.keep _ _ q)) (Nat.not_lt.mpr (hw _ hm))
    · exact h3 b hm
/-- an address that was kept apart becomes a frozen thing -/
theorem SX.ice {fz : Fz} {wr : List Addr} {s : Shared} {D : Addr} {o : Obj} (x : SX C f fz m σ (D :: wr) s) (hD : D ∉ wr) (ho : s.heap.get? D = some o) : SX C f ([(D, o)] ++ fz) m σ wr s := by
  obtain ⟨mc, news, δ, F, N, R, e, h1, h2, h3⟩ := x
  refine ⟨mc, [(D, o)] ++ news, δ, F, fun p hp => ?_, R.addFz [(D, o)] (fun p hp q hq => ?_), e.up fun p hp => List.mem_append_right _ hp, fun p hp q => ?_, fun q => h2 (List.mem_cons_of_mem _ q), fun b hb => h3 b (List.mem_cons_of_mem _ hb)⟩
  · rcases List.mem_append.mp hp with hp | hp
    · rw [List.mem_singleton.mp hp]; exact ⟨ho, fun q => h2 (by rw [← q]; exact List.mem_cons_self ..), h3 D (List.mem_cons_self ..)⟩
    · exact N p hp
  · rw [List.mem_singleton.mp hp]; exact fun e => h1 q hq (by rw [e]; exact List.mem_cons_self ..)
  · rcases List.mem_append.mp hp with hp | hp
    · rw [List.mem_singleton.mp hp] at q; exact hD q
    · exact h1 p hp (List.mem_cons_of_mem _ q)
/-- the row's own names become a thing of the state -/
theorem SX.names {fz : Fz} {wr : List Addr} {s : Shared} {c : Addr} {mc' : Str → Option Value} {as : List (Str × AVal)} {k : Option (Scope × List (Str × Addr) × Addr)} (x : SX C f fz m σ (c :: wr) s) (hc : c ∉ wr) (hns : s.heap.Ns c mc') (he : ER (At C fz) as mc') :
    σ c = none ∧ SR C (f.withComp k (ownP wr s.heap ++ f.pin)) fz m (σ.set c (.ns as)) s := by
  obtain ⟨o, ho, hn⟩ := LCg.ns_obj hns
  have hwr := (SX.sub (wr' := wr) (fun b hb => List.mem_cons_of_mem _ hb) x)
  obtain ⟨mc, news, δ, F, N, R, e, h1, h2, h3⟩ := x
  have nn : ∀ q ∈ news, q.1 ≠ c := fun q hq e => h1 q hq (by rw [e]; exact List.mem_cons_self ..)
  have hno : σ c = none := R.noneAt nn
  have off : ∀ {p : Addr × Obj}, p ∈ ownP wr s.heap → p.1 ∈ wr := fun hp => (mem_ownP.mp hp).1
  have three : ∀ p ∈ fz ++ (ownP wr s.heap ++ f.pin), p ∈ ownP wr s.heap ∨ p ∈ fz ++ f.pin := fun p hp => by
    rcases List.mem_append.mp hp with hp | hp
    · exact .inr (List.mem_append_left _ hp)
    · rcases List.mem_append.mp hp with hp | hp
      · exact .inl hp
      · exact .inr (List.mem_append_right _ hp)
  have keep : ∀ {b c' as'}, σ.set c (.ns as) b = some (.inst c' as') → b ≠ c ∧ σ b = some (.inst c' as') := fun {b c' as'} hb => by
    by_cases q : b = c
    · subst q; rw [AHeap.set_same] at hb; cases hb
    · rw [AHeap.set_ne _ _ q] at hb; exact ⟨q, hb⟩
  have dn : ∀ b c' as', σ b = some (.inst c' as') → δ b ≠ c := fun b c' as' hb => by obtain ⟨_, es, n, h, _⟩ := R.ob b _ hb; exact nn _ h
  have up : ∀ {p}, p ∈ news → p ∈ (c, o) :: (ownP wr s.heap ++ news) := fun h => .tail _ (List.mem_append_right _ h)
  refine ⟨hno, mc, (c, o) :: (ownP wr s.heap ++ news), δ, F, fun p hp => ?_, ⟨fun p hp => ?_, fun p hp q hq => ?_, fun b bo hb => ?_, fun b bo hb p hp => ?_, fun b c' as' hb p hp => ?_, fun b c' as' hb => ?_, R.free, fun b c' as' b' c'' bs g1 g2 => R.dinj b c' as' b' c'' bs (keep g1).2 (keep g2).2⟩, e⟩
  · rcases List.mem_cons.mp hp with rfl | hp
    · exact ⟨ho, fun q => h2 (by rw [← q]; exact List.mem_cons_self ..), h3 c (List.mem_cons_self ..)⟩
    · rcases List.mem_append.mp hp with hp | hp
      · obtain ⟨a, b⟩ := mem_ownP.mp hp
        exact ⟨b, fun q => h2 (List.mem_cons_of_mem _ (q ▸ a)), h3 _ (List.mem_cons_of_mem _ a)⟩
      · exact N p hp
  · rcases three p hp with hp | hp
    · exact .tail _ (List.mem_append_left _ hp)
    · exact up (R.sub p hp)
  · rcases List.mem_append.mp hq with hq | hq
    · exact fun q' => h1 p (R.sub p (List.mem_append_left _ hp)) (List.mem_cons_of_mem _ (q' ▸ off hq))
    · exact R.apart p hp q hq
  · by_cases q : b = c
    · subst q; rw [AHeap.set_same] at hb; cases hb; exact ⟨o, mc', List.mem_cons_self .., hn, he⟩
    · rw [AHeap.set_ne _ _ q] at hb
      exact (R.ob b bo hb).mono (fun _ _ x => x) (fun _ hm => up hm) fun _ _ eb _ hm => up hm
  · by_cases q : b = c
    · rcases three p hp with hp | hp
      · exact fun q' => hc (by rw [← q, ← q']; exact off hp)
      · rw [q]; exact nn _ (R.sub p hp)
    · rw [AHeap.set_ne _ _ q] at hb
      rcases three p hp with hp | hp
      · obtain ⟨o, ho⟩ := (R.ob b bo hb).key
        exact fun q => h1 _ ho (List.mem_cons_of_mem _ (by show b ∈ wr; rw [← q]; exact off hp))
      · exact R.off b bo hb p hp
  · rcases three p hp with hp | hp
    · obtain ⟨_, es, k, ho, _⟩ := R.ob b _ (keep hb).2
      exact fun q => h1 _ ho (List.mem_cons_of_mem _ (by show δ b ∈ wr; rw [← q]; exact off hp))
    · exact R.doff b c' as' (keep hb).2 p hp
  · rw [AHeap.set_ne _ _ (dn b c' as' (keep hb).2)]; exact R.dσ b c' as' (keep hb).2
theorem SX.unname {fz : Fz} {wr : List Addr} {s : Shared} {own : Fz} {c : Addr} {as : List (Str × AVal)} {σ' : AHeap} {k : Option (Scope × List (Str × Addr) × Addr)} (hl : ∀ b ∈ wr, ∃ o, (b, o) ∈ own) (hp : ∀ p ∈ f.pin, p.1 ∉ wr) (h2 : f.L ∉ wr) (h3 : ∀ b ∈ wr, f.h₀.get? b = none)
    (x : SR C (f.withComp k (own ++ f.pin)) fz m σ s) (hc : σ c = some (.ns as)) (hσ : σ'.le σ) (hσc : σ' c = none) : SX C f fz m σ' (c :: wr) s ∧ ∃ mc', s.heap.Ns c mc' := by
  have x' : SR C (f.withPin (own ++ f.pin)) fz m σ s := x
  have x'' := SX.unpin hl hp h2 h3 x'
  obtain ⟨mc, news, δ, F, N, R, e, g1, g2, g3⟩ := x''
  obtain ⟨o, mc', hm, hn, _⟩ := R.ob c _ hc
  have hN := N _ hm
  have inst : ∀ {a c' as'}, σ' a = some (.inst c' as') → σ a = some (.inst c' as') := fun h => hσ _ _ h
  have dc : ∀ a c' as', σ a = some (.inst c' as') → δ a ≠ c := fun a c' as' h q => by have := R.dσ a c' as' h; rw [q, hc] at this; cases this
  have keepM : ∀ {p : Addr × Obj}, p ∈ news → p.1 ≠ c → p ∈ news.filter (fun p => decide (p.1 ≠ c)) := fun h q => List.mem_filter.mpr ⟨h, by simpa using q⟩
  have ne : ∀ {a ao}, σ' a = some ao → a ≠ c := fun h q => by rw [q, hσc] at h; cases h
  refine ⟨⟨mc, news.filter (fun p => decide (p.1 ≠ c)), δ, F, fun p hp => N p (List.mem_filter.mp hp).1, ⟨fun p hp => keepM (R.sub p hp) (R.off c _ hc p hp), R.apart, fun a ao h => (R.ob a ao (hσ _ _ h)).mono (fun _ _ z => z) (fun _ q => keepM q (ne h)) fun c' as' ea _ q => keepM q (dc a c' as' (inst (ea ▸ h))), fun a ao h => R.off a ao (hσ _ _ h), fun a c' as' h => R.doff a c' as' (inst h), fun a c' as' h => ?_, R.free, fun a c' as' b c'' bs q1 q2 => R.dinj a c' as' b c'' bs (inst q1) (inst q2)⟩, e, fun p hp q => ?_, fun q => ?_, fun b hb => ?_⟩, mc', hn.ns hN.1⟩
  · cases q : σ' (δ a) with
    | none => rfl
    | some o => have := hσ _ _ q; rw [R.dσ a c' as' (inst h)] at this; cases this
  · obtain ⟨q1, q2⟩ := List.mem_filter.mp hp
    rcases List.mem_cons.mp q with q | q
    · exact (by simpa using q2 : p.1 ≠ c) q
    · exact g1 p q1 q
  · rcases List.mem_cons.mp q with q | q
    · exact hN.2.1 q.symm
    · exact g2 q
  · rcases List.mem_cons.mp hb with rfl | hb
    · exact hN.2.2
    · exact g3 b hb
theorem Fm.Ok.comp {n : Nat} {sc : Scope} {cl : List (Str × Addr)} {c : Addr} {p : Fz} (ok : f.Ok C n) (hk : sc.kind = .function) : (f.withComp (some (sc, cl, c)) p).Ok C n := ⟨ok.below, ok.kin, ok.top, ok.hk, ok.stack, ok.handled, ok.guards, ok.depth, ok.units, ok.kind, hk⟩

theorem comp_blockG {scope' : Scope} {elt iter : Expr} {x : Str} {px : Pos} {ifs : List Expr} {scope : Scope} {cl : List (Str × Addr)} {pos : Pos} {fz₂ : Fz} {σ₂ : AHeap} {I : Addr} {wr : List Addr} {xs : List AVal} {St : Nat → Heap → Prop} {Lent : Heap → Prop} {back : AHeap → AHeap} {s₂ : Shared} {E : Value → Shared → Prop} {RR : Value → Addr → Result → Shared → Prop}
    (Inv : List AVal → List AVal → AHeap → Prop) (ok : f.Ok C n) (hee₀ : ∀ c, compEnvC scope cl c f.env = f.envOn (some (scope', cl, c))) (hk' : scope'.kind = .function) (hcell : ∀ y ∈ scope.names, y.2 ≠ .cell) (hkind : scope.kind = .function) (hx : scope.names.lookup x = some .local)
    (x2 : SX C f fz₂ m σ₂ wr s₂) (W : Wk C f fz₂ I wr xs St Lent back) (st : St 0 s₂.heap) (hz : xs.length ≤ sizeLine) (q2 : Inv xs [] σ₂)
    (turn : ∀ pin c v xs ys σ', Inv (v :: xs) ys σ' → σ' c = none → WQ C n (f.withComp (some (scope', cl, c)) pin) ifs m (σ'.set c (.ns [(x, v)])) fun b σ₁ => if b = true then WE C n (f.withComp (some (scope', cl, c)) pin) elt m σ₁ fun y σ₂ => (∃ as, σ₂ c = some (.ns as)) ∧ ∃ σ₃ : AHeap, σ₃.le σ₂ ∧ σ₃ c = none ∧ Inv xs (ys ++ [y]) σ₃ else (∃ as, σ₁ c = some (.ns as)) ∧ ∃ σ₃ : AHeap, σ₃.le σ₁ ∧ σ₃ c = none ∧ Inv xs ys σ₃)
    (done : ∀ c D fz' σ' ys vs k h tk mc', (∀ p ∈ fz₂, p ∈ fz') → SX C f fz' m σ' (c :: D :: wr) { s₂ with heap := h, toks := tk } → c ∉ wr → D ∉ wr → c ≠ D → h.Ns c mc' → h.get? D = some (listOf vs.toArray k) → Vs (At C fz') vs ys → Lent h → Inv [] ys σ' → RR (.ref D) c (.ok .next) { s₂ with heap := h, toks := tk }) :
    wpAny (Md C) f.A (newList []) (fun acc s₃ => wpAny (Md C) f.A (newFunctionEnv scope f.env.globals cl [] f.env.qual none .none (some f.env)) (fun cenv s₄ =>
      codeAny (Md C) f.A (.compStart (.ListComp elt [⟨.Name x px, iter, ifs, 0⟩] scope pos) 0 (.ref I) acc { cenv with scope := relabel scope f.env }) (RR acc cenv.locals) s₄) E s₃) E s₂ := by
  refine wpAny_newObj_type (wpAny_newFunctionEnv hcell (by intro y hy; simp at hy) (fun h₁ hns₁ hsb₁ => ?_) hkind)
  dsimp only at hns₁ hsb₁ ⊢
  generalize hH2 : s₂.heap.push { cls := .type "list", dict := none, data := .seq ([] : List Value).toArray } = H2 at hns₁ hsb₁ ⊢
  have hC : H2.objs.size = s₂.heap.objs.size + 1 := by rw [← hH2, Heap.size_push]
  have hDC : s₂.heap.objs.size ≠ H2.objs.size := by rw [hC]; exact Nat.ne_of_lt (Nat.lt_succ_self _)
  have below : ∀ b, b < s₂.heap.objs.size → b ≠ H2.objs.size ∧ b ≠ s₂.heap.objs.size := fun b hb => ⟨by rw [hC]; exact Nat.ne_of_lt (Nat.lt_succ_of_lt hb), Nat.ne_of_lt hb⟩
  have old : ∀ b o, s₂.heap.get? b = some o → h₁.get? b = some o := fun b o e => hsb₁.extBut b o (below b (Heap.lt_size e)).1 (Heap.get?_push_of_some _ (hH2 ▸ Heap.get?_push_of_some _ e))
  have hacc : h₁.get? s₂.heap.objs.size = some (listOf ([] : List Value).toArray 0) := hsb₁.extBut _ _ hDC (Heap.get?_push_of_some _ (hH2 ▸ Heap.get?_push_size _ rfl))
  generalize hD : s₂.heap.objs.size = D at *
  generalize hCc : H2.objs.size = c at *
  have wlt : ∀ b ∈ wr, b < D := fun b hb => by obtain ⟨o, ho⟩ := W.live _ _ st b hb; rw [← hD]; exact Heap.lt_size ho
  have hDw : D ∉ wr := fun q => Nat.lt_irrefl _ (wlt _ q)
  have hcw : c ∉ wr := fun q => by exact absurd (wlt _ q) (by rw [hC]; exact Nat.not_lt.mpr (Nat.le_succ _))
  have hst₁ : St 0 h₁ := W.frame _ _ _ st (fun b _ o e => old b o e) fun b o q => by
    rcases q with q | q
    · exact old _ _ (x2.sr.at_ ok q)
    · obtain ⟨mc, news, δ, F, N, R, e, _⟩ := x2
      exact old _ _ (N _ (R.sub _ (List.mem_append_right _ q))).1
  have x3 : SX C f fz₂ m σ₂ (c :: D :: wr) { s₂ with heap := h₁, toks := s₂.toks + ([] : List (Str × Value)).length } := x2.wide (t := s₂.toks + ([] : List (Str × Value)).length) [c, D] old (fun b hb => by
    rcases List.mem_cons.mp hb with rfl | hb
    · rw [hC, hD]; exact Nat.le_succ _
    · rw [List.mem_singleton.mp hb, hD]; exact Nat.le_refl _)
  have hpin : ∀ p ∈ f.pin, p.1 ∉ D :: wr := by
    obtain ⟨mc, news, δ, F, N, R, e, h1, h2, h3⟩ := x3
    exact fun p hp q => h1 p (R.sub p (List.mem_append_right _ hp)) (List.mem_cons_of_mem _ q)
  have hL : f.L ∉ D :: wr := by obtain ⟨mc, news, δ, F, N, R, e, h1, h2, h3⟩ := x3; exact fun q => h2 (List.mem_cons_of_mem _ q)
  have h0 : ∀ b ∈ D :: wr, f.h₀.get? b = none := by obtain ⟨mc, news, δ, F, N, R, e, h1, h2, h3⟩ := x3; exact fun b hb => h3 b (List.mem_cons_of_mem _ hb)
  have hcD : c ∉ D :: wr := fun q => by
    rcases List.mem_cons.mp q with q | q
    · exact hDC q.symm
    · exact hcw q
  have loop : ∀ s₃ : Shared, s₃ = { s₂ with heap := h₁, toks := s₂.toks + ([] : List (Str × Value)).length } →
      codeAny (Md C) f.A (.compLoop (.ListComp elt [⟨.Name x px, iter, ifs, 0⟩] scope pos) 0 (.ref I) (.ref D) (compEnvC scope cl c f.env)) (RR (.ref D) c) s₃ := by
    rintro s₃ rfl
    refine codeAny_compLoop_tests (fun k s' => ∃ fz' σ' i h tk ys vs kk mc', s' = { s₂ with heap := h, toks := tk } ∧ (∀ p ∈ fz₂, p ∈ fz') ∧ SX C f fz' m σ' (c :: D :: wr) s' ∧ h.Ns c mc' ∧ h.get? D = some (listOf vs.toArray kk) ∧ Vs (At C fz') vs ys ∧ ys.length ≤ i ∧ St i h ∧ Inv (xs.drop i) ys σ' ∧ i ≤ xs.length ∧ k = xs.length - i) ?_ xs.length
      ⟨fz₂, σ₂, 0, h₁, _, [], [], 0, _, rfl, sub_refl, x3, hns₁, hacc, .nil, Nat.le_refl _, hst₁, q2, Nat.zero_le _, rfl⟩
    rintro k s' ⟨fz', σ', i, h, tk, ys, vs, kk, mc', rfl, u3, x4, hns, hD4, hvs, hyl, st4, q4, hi, rfl⟩
    cases hxi : xs[i]? with
    | none =>
      have hlen : i = xs.length := by have := List.getElem?_eq_none_iff.mp hxi; omega
      subst hlen
      refine W.done _ _ _ st4 fun h' tk' kp hl => ?_
      rw [List.drop_length] at q4
      exact done c D fz' σ' ys vs kk h' tk' mc' u3 (x4.step (t := tk') fun b o hb e => kp b o (fun q => hb (List.mem_cons_of_mem _ (List.mem_cons_of_mem _ q))) e) hcw hDw (Ne.symm hDC) (hns.at' fun o e => kp _ o hcw e) (kp _ _ hDw hD4) hvs hl q4
    | some b =>
      obtain ⟨hlt, hb⟩ := List.getElem?_eq_some_iff.mp hxi
      have hd : xs.drop i = b :: xs.drop (i + 1) := by rw [List.drop_eq_getElem_cons hlt, hb]
      rw [hd] at q4
      refine W.go i _ _ _ b hxi st4 fun v h₂ tk₂ hv st5 kp => ?_
      refine wpAny_assign_Name (wpAny_storeName_local (lookup_relabel_local hx) (hns.at' fun o e => kp _ o hcw e) (fun h₃ hn₃ hs₃ => ?_) (by simp [compEnvC, relabel, hkind]))
      have x5 : SX C f fz' m σ' (c :: D :: wr) { s₂ with heap := h₃, toks := tk₂ + 1 } := x4.step (t := tk₂ + 1) fun b o hb e => hs₃.extBut b o (fun q => hb (by rw [q]; exact List.mem_cons_self ..)) (kp b o (fun q => hb (List.mem_cons_of_mem _ (List.mem_cons_of_mem _ q))) e)
      have hD5 : h₃.get? D = some (listOf vs.toArray kk) := hs₃.extBut _ _ hDC (kp _ _ hDw hD4)
      have st6 : St (i + 1) h₃ := by
        refine W.frame _ _ _ st5 (fun b hb o e => hs₃.extBut b o (fun q => hcw (by have q' : b = c := q; rw [← q']; exact hb)) e) fun b o q => ?_
        rcases q with q | q
        · exact x5.sr.at_ ok (q.mono u3)
        · obtain ⟨mc, news, δ, F, N, R, e, _⟩ := x5
          exact (N _ (R.sub _ (List.mem_append_right _ q))).1
      have he : ER (At C fz') [(x, b)] (fun y => if y = x then some v else mc' y) := fun y a hy => by
        unfold getA at hy
        by_cases q : (x == y) = true
        · rw [if_pos q] at hy; cases hy
          have : x = y := by simpa using q
          exact ⟨v, if_pos this.symm, hv.up u3⟩
        · rw [if_neg q] at hy; cases hy
      obtain ⟨hcn, x6⟩ := SX.names (k := some (scope', cl, c)) x5 hcD hn₃ he
      have hee : compEnvC scope cl c f.env = (f.withComp (some (scope', cl, c)) (ownP (D :: wr) h₃ ++ f.pin)).env := hee₀ c
      have live : ∀ b ∈ D :: wr, ∃ o, (b, o) ∈ ownP (D :: wr) h₃ := fun b hb => by
        rcases List.mem_cons.mp hb with rfl | hb'
        · exact ⟨_, mem_ownP.mpr ⟨hb, hD5⟩⟩
        · obtain ⟨o, ho⟩ := W.live _ _ st6 b hb'; exact ⟨o, mem_ownP.mpr ⟨hb, ho⟩⟩
      have after : ∀ {fz₇ σ₇ s₇}, (∀ p ∈ fz', p ∈ fz₇) → SR C (f.withComp (some (scope', cl, c)) (ownP (D :: wr) h₃ ++ f.pin)) fz₇ m σ₇ s₇ → St (i + 1) s₇.heap ∧ s₇.heap.get? D = some (listOf vs.toArray kk) := by
        intro fz₇ σ₇ s₇ u7 x7
        have pinned : ∀ {b o}, (b, o) ∈ ownP (D :: wr) h₃ ++ f.pin → s₇.heap.get? b = some o := fun {b o} hm => by
          obtain ⟨mc, news, δ, F, N, R, e⟩ := x7
          exact (N _ (R.sub _ (List.mem_append_right _ hm))).1
        refine ⟨W.frame _ _ _ st6 (fun b hb o ho => pinned (List.mem_append_left _ (mem_ownP.mpr ⟨List.mem_cons_of_mem _ hb, ho⟩))) fun b o q => ?_, pinned (List.mem_append_left _ (mem_ownP.mpr ⟨List.mem_cons_self .., hD5⟩))⟩
        rcases q with q | q
        · exact x7.at_ (ok.comp hk') ((q.mono u3).mono u7)
        · exact pinned (List.mem_append_right _ q)
      rw [hee]
      refine wpAny_mono (turn (ownP (D :: wr) h₃ ++ f.pin) c b _ ys σ' q4 hcn (ok.comp hk') fz' _ _ x6) (fun bb s₇ hq => hq.el fun fz₇ σ₇ u7 e7 x7 q7 => ?_) fun _ _ x => x
      cases bb with
      | false =>
        rw [if_neg (by decide)] at q7 ⊢
        obtain ⟨⟨as, has⟩, σ₃, hle, hσc, q7⟩ := q7
        obtain ⟨x8, mc8, hn8⟩ := SX.unname live hpin hL h0 x7 has hle hσc
        obtain ⟨st8, hD8⟩ := after u7 x7
        obtain ⟨hh, tt, ee⟩ := e7
        subst ee
        exact ⟨xs.length - (i + 1), by omega, fz₇, σ₃, i + 1, hh, tt, ys, vs, kk, mc8, rfl, fun p hp => u7 p (u3 p hp), x8, hn8, hD8, hvs.up u7, by omega, st8, q7, hlt, rfl⟩
      | true =>
        rw [if_pos rfl] at q7 ⊢
        refine wpAny_mono (q7 (ok.comp hk') fz₇ s₇ _ x7) (fun y s₈ hq => hq.el fun fz₈ σ₈ ya u8 e8 x8 vy q8 => ?_) fun _ _ x => x
        obtain ⟨⟨as, has⟩, σ₃, hle, hσc, q8⟩ := q8
        obtain ⟨x9, mc9, hn9⟩ := SX.unname live hpin hL h0 x8 has hle hσc
        obtain ⟨st9, hD9⟩ := after (fun p hp => u8 p (u7 p hp)) x8
        obtain ⟨hh, tt, ee⟩ := e7.trans e8
        subst ee
        refine append_at (hsz := by rw [List.size_toArray, hvs.length]; omega) hD9 fun h₅ hs₅ hD₅ => ?_
        refine ⟨xs.length - (i + 1), by omega, fz₈, σ₃, i + 1, h₅, tt, ys ++ [ya], vs ++ [y], kk + 1, mc9, rfl, fun p hp => u8 p (u7 p (u3 p hp)), x9.step (t := tt) fun b o hb e => hs₅.extBut b o (fun q => hb (by rw [q]; exact List.mem_cons_of_mem _ (List.mem_cons_self ..))) e, hn9.sameBut hs₅ (Ne.symm hDC), by simpa using hD₅, ((hvs.up u7).up u8).append (.cons vy .nil), by simp; omega, ?_, q8, hlt, rfl⟩
        refine W.frame _ _ _ st9 (fun b hb o e => hs₅.extBut b o (fun q => hDw (q ▸ hb)) e) fun b o q => ?_
        have ne : b ≠ D := fun e => by
          rcases q with q | q
          · rcases q with q | q
            · obtain ⟨mc, news, δ, F, N, R, e', g1, g2, g3⟩ := x2.wide (t := s₂.toks) [c, D] old (fun b hb => by
                rcases List.mem_cons.mp hb with rfl | hb
                · rw [hC, hD]; exact Nat.le_succ _
                · rw [List.mem_singleton.mp hb, hD]; exact Nat.le_refl _)
              exact g1 _ (R.sub _ (List.mem_append_left _ q)) (by rw [e]; exact List.mem_cons_of_mem _ (List.mem_cons_self ..))
            · have := ok.hk _ _ q; rw [e, h0 D (List.mem_cons_self ..)] at this; cases this
          · exact hpin _ q (by rw [e]; exact List.mem_cons_self ..)
        have : hh.get? b = some o := by
          rcases q with q | q
          · exact x8.at_ (ok.comp hk') (((q.mono u3).mono u7).mono u8)
          · obtain ⟨mc, news, δ, F, N, R, e⟩ := x8
            exact (N _ (R.sub _ (List.mem_append_right _ (List.mem_append_right _ q)))).1
        exact hs₅.extBut b o ne this
  exact codeAny_compStart_list (loop _ rfl) (W.self 0 _ _ _ hst₁ (loop _ rfl))

theorem comp_block {elt iter : Expr} {x : Str} {px : Pos} {ifs : List Expr} {scope : Scope} {cl : List (Str × Addr)} {pos : Pos} {fz₂ : Fz} {σ₂ : AHeap} {I : Addr} {wr : List Addr} {xs : List AVal} {St : Nat → Heap → Prop} {Lent : Heap → Prop} {back : AHeap → AHeap} {s₂ : Shared} {E : Value → Shared → Prop} {RR : Value → Addr → Result → Shared → Prop}
    (Inv : List AVal → List AVal → AHeap → Prop) (ok : f.Ok C n) (hcf : f.comp = none) (hcell : ∀ y ∈ scope.names, y.2 ≠ .cell) (hkind : scope.kind = .function) (hx : scope.names.lookup x = some .local)
    (x2 : SX C f fz₂ m σ₂ wr s₂) (W : Wk C f fz₂ I wr xs St Lent back) (st : St 0 s₂.heap) (hz : xs.length ≤ sizeLine) (q2 : Inv xs [] σ₂)
    (turn : ∀ pin c v xs ys σ', Inv (v :: xs) ys σ' → σ' c = none → WQ C n (f.withComp (some (scope, cl, c)) pin) ifs m (σ'.set c (.ns [(x, v)])) fun b σ₁ => if b = true then WE C n (f.withComp (some (scope, cl, c)) pin) elt m σ₁ fun y σ₂ => (∃ as, σ₂ c = some (.ns as)) ∧ ∃ σ₃ : AHeap, σ₃.le σ₂ ∧ σ₃ c = none ∧ Inv xs (ys ++ [y]) σ₃ else (∃ as, σ₁ c = some (.ns as)) ∧ ∃ σ₃ : AHeap, σ₃.le σ₁ ∧ σ₃ c = none ∧ Inv xs ys σ₃)
    (done : ∀ c D fz' σ' ys vs k h tk mc', (∀ p ∈ fz₂, p ∈ fz') → SX C f fz' m σ' (c :: D :: wr) { s₂ with heap := h, toks := tk } → c ∉ wr → D ∉ wr → c ≠ D → h.Ns c mc' → h.get? D = some (listOf vs.toArray k) → Vs (At C fz') vs ys → Lent h → Inv [] ys σ' → RR (.ref D) c (.ok .next) { s₂ with heap := h, toks := tk }) :
    wpAny (Md C) f.A (newList []) (fun acc s₃ => wpAny (Md C) f.A (newFunctionEnv scope f.env.globals cl [] f.env.qual none .none (some f.env)) (fun cenv s₄ =>
      codeAny (Md C) f.A (.compStart (.ListComp elt [⟨.Name x px, iter, ifs, 0⟩] scope pos) 0 (.ref I) acc { cenv with scope := relabel scope f.env }) (RR acc cenv.locals) s₄) E s₃) E s₂ :=
  comp_blockG (scope' := scope) Inv ok (fun c => by have hfe : f.env = f.fenv := by unfold Fm.env; rw [hcf]
                                                    rw [hfe]) hkind hcell hkind hx x2 W st hz q2 turn done
/-- a row built in a row, as a value -/
theorem we_compG {scope' : Scope} {elt iter : Expr} {x : Str} {px : Pos} {ifs : List Expr} {scope : Scope} {cl : List (Str × Addr)} {pos : Pos} {Q : AVal → AHeap → Prop} (Inv : (AHeap → AHeap) → List AVal → List AVal → AHeap → Prop)
    (hclos : closureFor scope f.env = pure cl)
    (h : WI C n f iter m σ fun back xs σ₂ => xs.length ≤ sizeLine ∧ Inv back xs [] σ₂)
    (turn : ∀ back pin c v xs ys σ', Inv back (v :: xs) ys σ' → σ' c = none → WQ C n (f.withComp (some (scope', cl, c)) pin) ifs m (σ'.set c (.ns [(x, v)])) fun b σ₁ => if b = true then WE C n (f.withComp (some (scope', cl, c)) pin) elt m σ₁ fun y σ₂ => (∃ as, σ₂ c = some (.ns as)) ∧ ∃ σ₃ : AHeap, σ₃.le σ₂ ∧ σ₃ c = none ∧ Inv back xs (ys ++ [y]) σ₃ else (∃ as, σ₁ c = some (.ns as)) ∧ ∃ σ₃ : AHeap, σ₃.le σ₁ ∧ σ₃ c = none ∧ Inv back xs ys σ₃)
    (done : ∀ back ys σ', Inv back [] ys σ' → Q (.lst ys) (back σ'))
    (hee₀ : ∀ c, compEnvC scope cl c f.env = f.envOn (some (scope', cl, c)) := by intro _; rfl) (hk' : scope'.kind = .function := by rfl) (hcell : ∀ y ∈ scope.names, y.2 ≠ .cell := by decide) (hkind : scope.kind = .function := by rfl) (hnames : ∀ y ∈ scope.names, y.2 = .local → scope.names.lookup y.1 = some .local := by decide) (hx : scope.names.lookup x = some .local := by rfl)
    (hs : ∀ x, foldedSetIterable iter f.env x = pure x := by intro _; rfl) : WE C n f (.ListComp elt [⟨.Name x px, iter, ifs, 0⟩] scope pos) m σ Q := fun ok fz s E x0 => by
  rw [eval_ListComp]
  refine wpAny_comprehension_free (use := none) rfl hs hclos hkind hnames (wpAny_mono (h ok fz s E x0) (fun v s₁ q1 => wpAny_mono q1 (fun it s₂ hp => PI.el hp fun fz₂ σ₂ I wr xs St Lent back ei u2 e2 x2 W st hq => ?_) fun _ _ x => x) fun _ _ x => x)
  obtain ⟨hz, q2⟩ := hq
  subst ei
  refine comp_blockG (scope' := scope') (RR := fun acc c => compPost (Md C) f.A E none (PV C f m fz s Q) acc c) (Inv back) ok hee₀ hk' hcell hkind hx x2 W st hz q2 (fun pin c v xs ys σ' => turn back pin c v xs ys σ') ?_
  intro c D fz' σ' ys vs k h tk mc' u3 x3 hcw hDw hcD hns hD hvs hl q3
  refine ⟨mc', hns, fun h'' hs'' => ?_⟩
  have hk : ∀ b o, b ∉ c :: D :: wr → h.get? b = some o → h''.get? b = some o := fun b o hb e => hs''.extBut b o (fun q => hb (by rw [q]; exact List.mem_cons_self ..)) e
  have x4 : SX C f fz' m σ' (c :: D :: wr) { s₂ with heap := h'', toks := tk } := x3.step (t := tk) hk
  have x5 : SX C f fz' m σ' (D :: wr) { s₂ with heap := h'', toks := tk } := x4.sub fun b hb => List.mem_cons_of_mem _ hb
  have hD' : h''.get? D = some (listOf vs.toArray k) := hs''.extBut _ _ (Ne.symm hcD) hD
  have x6 := x5.ice hDw hD'
  have x7 := W.back _ _ _ _ (fun p hp => List.mem_append_right _ (u3 p hp)) x6 (W.lentF _ _ hl fun b hb o e => hs''.extBut b o (fun q => hcw (q ▸ hb)) e)
  exact ⟨_, _, .lst ys, fun p hp => List.mem_append_right _ (u3 p (u2 p hp)), e2.trans ⟨_, _, rfl⟩, x7, .lst (.inl (List.mem_append_left _ (List.mem_singleton.mpr rfl))) rfl rfl (hvs.up fun p hp => List.mem_append_right _ hp), done _ _ _ q3⟩
/-- a row built from a walk: as a value -/
theorem we_compB {elt iter : Expr} {x : Str} {px : Pos} {ifs : List Expr} {scope : Scope} {cl : List (Str × Addr)} {pos : Pos} {Q : AVal → AHeap → Prop} (Inv : (AHeap → AHeap) → List AVal → List AVal → AHeap → Prop)
    (hclos : closureFor scope f.env = pure cl)
    (h : WI C n f iter m σ fun back xs σ₂ => xs.length ≤ sizeLine ∧ Inv back xs [] σ₂)
    (turn : ∀ back pin c v xs ys σ', Inv back (v :: xs) ys σ' → σ' c = none → WQ C n (f.withComp (some (scope, cl, c)) pin) ifs m (σ'.set c (.ns [(x, v)])) fun b σ₁ => if b = true then WE C n (f.withComp (some (scope, cl, c)) pin) elt m σ₁ fun y σ₂ => (∃ as, σ₂ c = some (.ns as)) ∧ ∃ σ₃ : AHeap, σ₃.le σ₂ ∧ σ₃ c = none ∧ Inv back xs (ys ++ [y]) σ₃ else (∃ as, σ₁ c = some (.ns as)) ∧ ∃ σ₃ : AHeap, σ₃.le σ₁ ∧ σ₃ c = none ∧ Inv back xs ys σ₃)
    (done : ∀ back ys σ', Inv back [] ys σ' → Q (.lst ys) (back σ'))
    (hcf : f.comp = none := by rfl) (hcell : ∀ y ∈ scope.names, y.2 ≠ .cell := by decide) (hkind : scope.kind = .function := by rfl) (hnames : ∀ y ∈ scope.names, y.2 = .local → scope.names.lookup y.1 = some .local := by decide) (hx : scope.names.lookup x = some .local := by rfl)
    (hs : ∀ x, foldedSetIterable iter f.env x = pure x := by intro _; rfl) : WE C n f (.ListComp elt [⟨.Name x px, iter, ifs, 0⟩] scope pos) m σ Q :=
  we_compG (scope' := scope) Inv hclos h turn done (fun c => by have hfe : f.env = f.fenv := by unfold Fm.env; rw [hcf]
                                                                rw [hfe]) hkind hcell hkind hnames hx hs
/-- a row built from a walk, under a name at once -/
theorem w1_assignComp {elt iter : Expr} {x y : Str} {px py : Pos} {ifs : List Expr} {scope : Scope} {cl : List (Str × Addr)} {pos spos : Pos} {Q : AFlow → AEnv → AHeap → Prop} (Inv : List AVal → List AVal → AHeap → Prop)
    (hclos : closureFor scope f.env = pure cl)
    (h : WI C n f iter m σ fun back xs σ₂ => back = id ∧ xs.length ≤ sizeLine ∧ Inv xs [] σ₂)
    (turn : ∀ pin c v xs ys σ', Inv (v :: xs) ys σ' → σ' c = none → WQ C n (f.withComp (some (scope, cl, c)) pin) ifs m (σ'.set c (.ns [(x, v)])) fun b σ₁ => if b = true then WE C n (f.withComp (some (scope, cl, c)) pin) elt m σ₁ fun y σ₂ => (∃ as, σ₂ c = some (.ns as)) ∧ ∃ σ₃ : AHeap, σ₃.le σ₂ ∧ σ₃ c = none ∧ Inv xs (ys ++ [y]) σ₃ else (∃ as, σ₁ c = some (.ns as)) ∧ ∃ σ₃ : AHeap, σ₃.le σ₁ ∧ σ₃ c = none ∧ Inv xs ys σ₃)
    (done : ∀ pin ys σ', Inv [] ys σ' → TS C n (f.withPin pin) y (.lst ys) m σ' fun m' σ'' => Q .next m' σ'')
    (hsw : swapsWith (.ListComp elt [⟨.Name x px, iter, ifs, 0⟩] scope pos) (some (.Name y py)) spos.line f.env = pure true := by rfl)
    (hcf : f.comp = none := by rfl) (hcell : ∀ y ∈ scope.names, y.2 ≠ .cell := by decide) (hkind : scope.kind = .function := by rfl) (hnames : ∀ y ∈ scope.names, y.2 = .local → scope.names.lookup y.1 = some .local := by decide) (hx : scope.names.lookup x = some .local := by rfl)
    (hs : ∀ x, foldedSetIterable iter f.env x = pure x := by intro _; rfl) : W1 C n f (.Assign [.Name y py] (.ListComp elt [⟨.Name x px, iter, ifs, 0⟩] scope pos) spos) m σ Q := fun ok fz s E x0 => by
  rw [exec_Assign_Name_used _ _ _ _ hsw]
  refine wpAny_bind (wpAny_standAt (wpAny_bind ?_))
  show wpAny _ f.A (do let _ ← comprehension (.ListComp elt [⟨.Name x px, iter, ifs, 0⟩] scope pos) scope f.env _ (newList []) false (eval iter f.env) (some (assign (.Name y py) f.env))) _ _ s
  refine wpAny_bind (wpAny_mono (wpAny_comprehension_free (use := some (assign (.Name y py) f.env)) (Q := fun _ s' => PS C f fz s Q .next s') rfl hs hclos hkind hnames
    (wpAny_mono (h ok fz s E x0) (fun v s₁ q1 => wpAny_mono q1 (fun it s₂ hp => PI.el hp fun fz₂ σ₂ I wr xs St Lent back ei u2 e2 x2 W st hq => ?_) fun _ _ x => x) fun _ _ x => x)) (fun _ s' hq => wpAny_pure (wpAny_pure hq)) fun _ _ e => e)
  obtain ⟨eb, hz, q2⟩ := hq
  subst ei
  refine comp_block (RR := fun acc c => compPost (Md C) f.A E (some (assign (.Name y py) f.env)) (fun _ s' => PS C f fz s Q .next s') acc c) Inv ok hcf hcell hkind hx x2 W st hz q2 turn ?_
  intro c D fz' σ' ys vs k h tk mc' u3 x3 hcw hDw hcD hns hD hvs hl q3
  obtain ⟨oc, hoc, hnc⟩ := LCg.ns_obj hns
  have x6 : SX C f ([(D, listOf vs.toArray k)] ++ fz') m σ' (c :: wr) { s₂ with heap := h, toks := tk } := by
    have x5 : SX C f fz' m σ' (D :: c :: wr) { s₂ with heap := h, toks := tk } := x3.sub fun b hb => by
      rcases List.mem_cons.mp hb with rfl | hb
      · exact List.mem_cons_of_mem _ (List.mem_cons_self ..)
      · rcases List.mem_cons.mp hb with rfl | hb
        · exact List.mem_cons_self ..
        · exact List.mem_cons_of_mem _ (List.mem_cons_of_mem _ hb)
    exact x5.ice (fun q => by rcases List.mem_cons.mp q with q | q; exact hcD q.symm; exact hDw q) hD
  have hpin : ∀ p ∈ f.pin, p.1 ∉ [c] := by
    obtain ⟨mc, news, δ, F, N, R, e, h1, h2, h3⟩ := x6
    exact fun p hp q => h1 p (R.sub p (List.mem_append_right _ hp)) (by rw [List.mem_singleton.mp q]; exact List.mem_cons_self ..)
  have hcL : f.L ∉ [c] := by
    obtain ⟨mc, news, δ, F, N, R, e, h1, h2, h3⟩ := x6
    exact fun q => h2 (by rw [List.mem_singleton.mp q]; exact List.mem_cons_self ..)
  have hc0 : ∀ b ∈ [c], f.h₀.get? b = none := by
    obtain ⟨mc, news, δ, F, N, R, e, h1, h2, h3⟩ := x6
    exact fun b q => h3 b (by rw [List.mem_singleton.mp q]; exact List.mem_cons_self ..)
  have x7 : SX C f ([(D, listOf vs.toArray k)] ++ fz') m σ' [c] { s₂ with heap := h, toks := tk } := x6.sub fun b hb => by rw [List.mem_singleton.mp hb]; exact List.mem_cons_self ..
  have x8 := x7.pin
  refine wpAny_assign_Name (wpAny_mono (done (ownP [c] h ++ f.pin) _ _ q3 ok.pin _ _ _ _ x8 (.lst (.inl (List.mem_append_left _ (List.mem_singleton.mpr rfl))) rfl rfl (hvs.up fun p hp => List.mem_append_right _ hp))) (fun _ s₈ hq => PU.el hq fun fz₈ σ₈ m₈ u8 e8 x9 q9 => ?_) fun _ _ x => x)
  have hoc8 : s₈.heap.get? c = some oc := by
    obtain ⟨mc, news, δ, F, N, R, e⟩ := x9
    exact (N _ (R.sub _ (List.mem_append_right _ (List.mem_append_left _ ((mem_ownP (p := (c, oc))).mpr ⟨List.mem_singleton.mpr rfl, hoc⟩))))).1
  have x10 : SX C f fz₈ m₈ σ₈ [c] s₈ := SX.unpin (own := ownP [c] h) (fun b hb => by rw [List.mem_singleton.mp hb]; exact ⟨oc, mem_ownP.mpr ⟨List.mem_singleton.mpr rfl, hoc⟩⟩) hpin hcL hc0 x9
  refine ⟨mc', hnc.ns hoc8, fun h'' hs'' => ?_⟩
  have x11 := x10.step (t := s₈.toks) (h' := h'') fun b o hb e => hs''.extBut b o (fun q => hb (by rw [q]; exact List.mem_singleton.mpr rfl)) e
  exact ⟨fz₈, σ₈, m₈, .next, fun p hp => u8 p (List.mem_append_right _ (u3 p (u2 p hp))), (e2.trans (Same.trans ⟨_, _, rfl⟩ e8)).trans ⟨_, _, rfl⟩, x11.sr, trivial, q9⟩
end
end Mine

open PySem PySem.W PyProof.Rows PySem.Calls
namespace Mine
section
variable {C : Cx} {n : Nat} {f : Fm} {m : AEnv} {σ : AHeap}
theorem HR.addThing {fz pin : Fz} {δ : Addr → Addr} {news : List (Addr × Obj)} {D : Addr} {o : Obj} {ao : AObj} (R : HR C fz pin σ δ news) (hn : ∀ c as, ao ≠ .inst c as) (nn : ∀ q ∈ news, q.1 ≠ D) (hr : ∀ news d, (D, o) ∈ news → OR (At C fz) news d D ao) : HR C fz pin (σ.set D ao) δ ((D, o) :: news) := by
  have keep : ∀ {b c as}, σ.set D ao b = some (.inst c as) → b ≠ D ∧ σ b = some (.inst c as) := fun {b c as} hb => by
    by_cases q : b = D
    · subst q; rw [AHeap.set_same] at hb; exact absurd (Option.some.inj hb) (hn _ _)
    · rw [AHeap.set_ne _ _ q] at hb; exact ⟨q, hb⟩
  have dn : ∀ b c as, σ b = some (.inst c as) → δ b ≠ D := fun b c as hb => by obtain ⟨_, es, n, h, _⟩ := R.ob b _ hb; exact nn _ h
  refine ⟨fun p hp => .tail _ (R.sub p hp), R.apart, fun b bo hb => ?_, fun b bo hb p hp => ?_, fun b c as hb p hp => R.doff b c as (keep hb).2 p hp, fun b c as hb => ?_, R.free, fun b c as b' c' bs h1 h2 => R.dinj b c as b' c' bs (keep h1).2 (keep h2).2⟩
  · by_cases q : b = D
    · subst q; rw [AHeap.set_same] at hb; cases hb; exact hr _ _ (List.mem_cons_self ..)
    · rw [AHeap.set_ne _ _ q] at hb
      exact (R.ob b bo hb).mono (fun _ _ x => x) (fun _ hm => .tail _ hm) fun c as eb _ hm => .tail _ hm
  · by_cases q : b = D
    · subst q; exact nn _ (R.sub p hp)
    · rw [AHeap.set_ne _ _ q] at hb; exact R.off b bo hb p hp
  · rw [AHeap.set_ne _ _ (dn b c as (keep hb).2)]; exact R.dσ b c as (keep hb).2

/-! ## a def of the text, with cells -/
def cellS (cm : Str → Option AVal) : List (Str × Addr) → AHeap → AHeap
  | [], σ => σ
  | (y, c) :: r, σ => (cellS cm r σ).set c (.cell (cm y))
theorem HR.addCells {fz pin : Fz} {δ : Addr → Addr} {news : List (Addr × Obj)} {cm : Str → Option Value} {acm : Str → Option AVal} (R : HR C fz pin σ δ news) :
    ∀ {cs : List (Str × Addr)} {cells : List (Addr × Obj)}, CellsAre cm cs cells → (cs.map (·.2)).Nodup → (∀ p ∈ cs, ∀ q ∈ news, q.1 ≠ p.2) → (∀ p ∈ cs, (cm p.1 = none ∧ acm p.1 = none) ∨ ∃ v a, cm p.1 = some v ∧ acm p.1 = some a ∧ V (At C fz) v a) → HR C fz pin (cellS acm cs σ) δ (cells ++ news)
  | _, _, .nil, _, _, _ => R
  | _, _, .cons (n := y) (c := c) (o := o) (cs := cs) (cells := cells) hd r, hnd, hoff, hval => by
    have hnd' := List.nodup_cons.mp (by simpa using hnd : (c :: cs.map (·.2)).Nodup)
    have ih := R.addCells r hnd'.2 (fun p hp => hoff p (List.mem_cons_of_mem _ hp)) (fun p hp => hval p (List.mem_cons_of_mem _ hp))
    have keys : ∀ {cs : List (Str × Addr)} {cells : List (Addr × Obj)}, CellsAre cm cs cells → ∀ q ∈ cells, q.1 ∈ cs.map (·.2) := by
      intro cs cells h
      induction h with
      | nil => intro q hq; cases hq
      | cons _ _ ih =>
        intro q hq
        rcases List.mem_cons.mp hq with rfl | hq
        · exact List.mem_cons_self ..
        · exact List.mem_cons_of_mem _ (ih q hq)
    refine ih.addThing (ao := .cell (acm y)) (fun _ _ => nofun) (fun q hq e => ?_) fun news d hm => ?_
    · rcases List.mem_append.mp hq with hq | hq
      · exact hnd'.1 (by rw [← e]; exact keys r q hq)
      · exact hoff (y, c) (List.mem_cons_self ..) q hq e
    · rcases hval (y, c) (List.mem_cons_self ..) with ⟨h1, h2⟩ | ⟨v, a, h1, h2, h3⟩
      · have h1' : cm y = none := h1
        have h2' : acm y = none := h2
        rw [h2']; exact ⟨o, hm, by rw [hd, h1']⟩
      · have h1' : cm y = some v := h1
        have h2' : acm y = some a := h2
        rw [h2']; exact ⟨o, v, hm, by rw [hd, h1'], h3⟩
theorem cellsFrom_nd : ∀ (names : List (Str × NameKind)) (k : Nat) (acc : List (Str × Addr)), (acc.map (·.2)).Nodup → (∀ p ∈ acc, p.2 < k) → ((cellsFrom k names acc).map (·.2)).Nodup ∧ ∀ p ∈ cellsFrom k names acc, p ∈ acc ∨ k ≤ p.2
  | [], _, acc, h, _ => ⟨h, fun p hp => .inl hp⟩
  | (y, kd) :: r, k, acc, h, hl => by
    unfold cellsFrom
    by_cases hk : (kd == .cell) = true
    · rw [if_pos hk]
      obtain ⟨h1, h2⟩ := cellsFrom_nd r (k + 1) ((y, k) :: acc) (by
        rw [List.map_cons, List.nodup_cons]
        refine ⟨fun hm => ?_, h⟩
        obtain ⟨p, hp, e⟩ := List.mem_map.mp hm
        have := hl p hp
        have e' : p.2 = k := e
        rw [e'] at this
        exact Nat.lt_irrefl _ this) (fun p hp => by
        rcases List.mem_cons.mp hp with rfl | hp
        · exact Nat.lt_succ_self _
        · exact Nat.lt_succ_of_lt (hl p hp))
      refine ⟨h1, fun p hp => ?_⟩
      rcases h2 p hp with q | q
      · rcases List.mem_cons.mp q with rfl | q
        · exact .inr (Nat.le_refl _)
        · exact .inl q
      · exact .inr (Nat.le_of_succ_le q)
    · rw [if_neg hk]; exact cellsFrom_nd r k acc h hl
theorem bindL_off {kd : Str → Option NameKind} {y : Str} : ∀ {b : List (Str × Value)} {m : Str → Option Value}, y ∉ b.map (·.1) → bindL kd b m y = m y
  | [], _, _ => rfl
  | (z, v) :: r, m, h => by
    unfold bindL
    have h1 : y ≠ z := fun e => h (by rw [e]; exact List.mem_cons_self ..)
    rw [bindL_off fun q => h (List.mem_cons_of_mem _ q)]
    split
    · exact if_neg h1
    · rfl
theorem bindC_off {kd : Str → Option NameKind} {y : Str} : ∀ {b : List (Str × Value)} {m : Str → Option Value}, y ∉ b.map (·.1) → bindC kd b m y = m y
  | [], _, _ => rfl
  | (z, v) :: r, m, h => by
    unfold bindC
    have h1 : y ≠ z := fun e => h (by rw [e]; exact List.mem_cons_self ..)
    rw [bindC_off fun q => h (List.mem_cons_of_mem _ q)]
    split
    · rfl
    · exact if_neg h1
theorem zip_keys {α : Type} : ∀ {ns : List Str} {vs : List α} {y : Str}, y ∈ (ns.zip vs).map (·.1) → y ∈ ns
  | [], _, _, h => by simp at h
  | _ :: _, [], _, h => by simp at h
  | z :: ns, v :: vs, y, h => by
    rcases List.mem_cons.mp (by simpa using h : y ∈ z :: (ns.zip vs).map (·.1)) with rfl | h
    · exact List.mem_cons_self ..
    · exact List.mem_cons_of_mem _ (zip_keys h)
theorem bind_get {P : Addr → Obj → Prop} {kd : Str → Option NameKind} {y : Str} {a : AVal} : ∀ {ns : List Str} {vs : List Value} {as : List AVal} {m : Str → Option Value}, Vs P vs as → ns.Nodup → getA y (ns.zip as) = some a → ∃ v, V P v a ∧ (kd y = some .local → bindL kd (ns.zip vs) m y = some v) ∧ (kd y ≠ some .local → bindC kd (ns.zip vs) m y = some v)
  | [], _, _, _, _, _, h => by simp [getA] at h
  | _ :: _, _, _, _, .nil, _, h => by simp [getA] at h
  | z :: ns, v :: vs, x :: as, m, .cons h1 h2, nd, h => by
    obtain ⟨n1, n2⟩ := List.nodup_cons.mp nd
    rw [List.zip_cons_cons] at h
    unfold getA at h
    by_cases q : (z == y) = true
    · rw [if_pos q] at h; cases h
      have q' : z = y := by simpa using q
      subst q'
      refine ⟨v, h1, fun hk => ?_, fun hk => ?_⟩
      · rw [List.zip_cons_cons]; unfold bindL
        rw [bindL_off fun q => n1 (zip_keys q), if_pos hk]; exact if_pos rfl
      · rw [List.zip_cons_cons]; unfold bindC
        rw [bindC_off fun q => n1 (zip_keys q), if_neg hk]; exact if_pos rfl
    · rw [if_neg q] at h
      obtain ⟨u, g1, g2, g3⟩ := bind_get (m := if kd z = some .local then fun y => if y = z then some v else m y else m) h2 n2 h
      obtain ⟨u', g1', g2', g3'⟩ := bind_get (kd := kd) (m := if kd z = some .local then m else fun y => if y = z then some v else m y) h2 n2 h
      by_cases hk : kd y = some .local
      · exact ⟨u, g1, fun _ => by rw [List.zip_cons_cons]; exact g2 hk, fun e => absurd hk e⟩
      · exact ⟨u', g1', fun e => absurd e hk, fun _ => by rw [List.zip_cons_cons]; exact g3' hk⟩
theorem getA_none {y : Str} : ∀ {l : List (Str × AVal)}, getA y l = none → y ∉ l.map (·.1)
  | [], _, h => by simp at h
  | (z, a) :: r, e, h => by
    unfold getA at e
    by_cases q : (z == y) = true
    · rw [if_pos q] at e; cases e
    · rw [if_neg q] at e
      rcases List.mem_cons.mp (by simpa using h : y ∈ z :: r.map (·.1)) with rfl | h
      · simp at q
      · exact getA_none e h
theorem getA_filter {q : Str × AVal → Bool} {y : Str} {a : AVal} : ∀ {l : List (Str × AVal)}, (l.map (·.1)).Nodup → getA y (l.filter q) = some a → getA y l = some a ∧ ∃ a', q (y, a') = true
  | [], _, h => by simp [getA] at h
  | (z, b) :: r, nd, h => by
    obtain ⟨n1, n2⟩ := List.nodup_cons.mp (by simpa using nd : (z :: r.map (·.1)).Nodup)
    by_cases hq : q (z, b) = true
    · rw [List.filter_cons_of_pos hq] at h
      unfold getA at h ⊢
      by_cases e : (z == y) = true
      · rw [if_pos e] at h; rw [if_pos e]
        have : z = y := by simpa using e
        subst this
        exact ⟨h, b, hq⟩
      · rw [if_neg e] at h; rw [if_neg e]; exact getA_filter n2 h
    · rw [List.filter_cons_of_neg hq] at h
      obtain ⟨h1, h2⟩ := getA_filter n2 h
      refine ⟨?_, h2⟩
      unfold getA
      by_cases e : (z == y) = true
      · have : z = y := by simpa using e
        subst this
        have hm : z ∈ r.map (·.1) := by
          refine Classical.byContradiction fun hn => ?_
          have : getA z r = none := by
            clear h h1 h2 nd n2
            induction r with
            | nil => rfl
            | cons p r ih =>
              obtain ⟨w, c⟩ := p
              simp only [List.map_cons, List.mem_cons, not_or] at hn
              unfold getA
              have : ¬ (w == z) = true := by simpa using fun e : w = z => hn.1 e.symm
              rw [if_neg this]
              exact ih (by simpa using hn.2) hn.2
          rw [this] at h1; cases h1
        exact absurd hm n1
      · rw [if_neg e]; exact h1
end
end Mine

open PySem PySem.W PyProof.Rows PySem.Calls
namespace Mine
/-! ## data compared -/
mutual
inductive Rd (σ : AHeap) : AVal → PyData → Prop
  | none : Rd σ .none .none
  | bool (b : Bool) : Rd σ (.bool b) (.bool b)
  | int (i : Int) : Rd σ (.int i) (.int i)
  | str (x : Str) : Rd σ (.str x) (.str x)
  | lst {xs : List AVal} {ds : List PyData} : RdAll σ xs ds → Rd σ (.lst xs) (.list ds)
  | tup {xs : List AVal} {ds : List PyData} : RdAll σ xs ds → Rd σ (.tup xs) (.tuple ds)
  | obj {a : Addr} {xs : List AVal} {ds : List PyData} : σ a = some (.list xs) → RdAll σ xs ds → Rd σ (.obj a) (.list ds)
inductive RdAll (σ : AHeap) : List AVal → List PyData → Prop
  | nil : RdAll σ [] []
  | cons {a : AVal} {d : PyData} {xs : List AVal} {ds : List PyData} : Rd σ a d → RdAll σ xs ds → RdAll σ (a :: xs) (d :: ds)
end
section
variable {C : Cx} {n : Nat} {f : Fm} {m : AEnv} {σ : AHeap}
mutual
theorem Rd.reads {fz : Fz} {s : Shared} (ok : f.Ok C n) (x : SR C f fz m σ s) : ∀ {a : AVal} {d : PyData}, Rd σ a d → ∀ {v : Value}, V (At C fz) v a → ∃ as, Reads s.heap v d as
  | _, _, .none, _, h => by cases h; exact ⟨_, .none⟩
  | _, _, .bool b, _, h => by cases h; exact ⟨_, .bool b⟩
  | _, _, .int i, _, h => by cases h; exact ⟨_, .int i _⟩
  | _, _, .str y, _, h => by cases h; exact ⟨_, .str y _⟩
  | _, _, .lst r, _, h => by
    cases h with
    | lst h1 h2 h3 h4 => obtain ⟨as, q⟩ := RdAll.reads ok x r h4; exact ⟨_, .list (x.at_ ok h1) h2 h3 (by simpa using q)⟩
  | _, _, .tup r, _, h => by
    cases h with
    | tup h1 h2 h3 h4 => obtain ⟨as, q⟩ := RdAll.reads ok x r h4; exact ⟨_, .tuple (x.at_ ok h1) h2 h3 (by simpa using q)⟩
  | _, _, .obj e r, _, h => by
    cases h with
    | obj a =>
      obtain ⟨vs, k, h1, h2⟩ := x.list e
      obtain ⟨as, q⟩ := RdAll.reads ok x r h2
      exact ⟨_, .list h1 rfl rfl (by simpa using q)⟩
theorem RdAll.reads {fz : Fz} {s : Shared} (ok : f.Ok C n) (x : SR C f fz m σ s) : ∀ {xs : List AVal} {ds : List PyData}, RdAll σ xs ds → ∀ {vs : List Value}, Vs (At C fz) vs xs → ∃ as, ReadsAll s.heap vs ds as
  | _, _, .nil, _, h => by cases h; exact ⟨_, .nil⟩
  | _, _, .cons r rs, _, h => by
    cases h with
    | cons h1 h2 =>
      obtain ⟨as, q1⟩ := Rd.reads ok x r h1
      obtain ⟨bs, q2⟩ := RdAll.reads ok x rs h2
      exact ⟨_, .cons q1 q2⟩
end
def Dk (k : Nat) (d : PyData) : Prop := d.canLay0 = true ∧ d.depth ≤ k
theorem Dk.int {k : Nat} {i : Int} : Dk k (.int i) := ⟨rfl, Nat.zero_le _⟩
theorem dk_all {k : Nat} : ∀ {ds : List PyData}, (∀ d ∈ ds, Dk k d) → PyData.canLayAll0 ds = true ∧ PyData.depthAll ds ≤ k
  | [], _ => ⟨rfl, Nat.zero_le _⟩
  | d :: ds, h => by
    obtain ⟨a, b⟩ := h d (List.mem_cons_self ..)
    obtain ⟨c, e⟩ := dk_all fun x hx => h x (List.mem_cons_of_mem _ hx)
    exact ⟨by rw [PyData.canLayAll0, a, c]; rfl, by rw [PyData.depthAll]; exact Nat.max_le.mpr ⟨b, e⟩⟩
theorem Dk.list {k : Nat} {ds : List PyData} (h : ∀ d ∈ ds, Dk k d) : Dk (k + 1) (.list ds) := by
  obtain ⟨a, b⟩ := dk_all h
  exact ⟨by rw [PyData.canLay0]; exact a, by rw [PyData.depth]; omega⟩
theorem Dk.shaped {k : Nat} {d : PyData} (h : Dk k d) (hk : k ≤ 64) : PySem.SeqAt.shaped d = true := by
  unfold PySem.SeqAt.shaped
  rw [h.1, Bool.true_and, decide_eq_true_eq]
  exact Nat.le_trans h.2 hk
theorem t2_eqD {a b : AVal} {da db : PyData} {k : Nat} {Q : AVal → AHeap → Prop} (ra : Rd σ a da) (rb : Rd σ b db) (ha : Dk k da) (hb : Dk k db) (h : Q (.bool (PyData.eqv da db)) σ) (hk : k ≤ 64 := by decide) : T2 C n f (compareOp .Eq) a b m σ Q := fun ok fz s E v w x hv hw => by
  obtain ⟨as, r1⟩ := ra.reads ok x hv
  obtain ⟨bs, r2⟩ := rb.reads ok x hw
  have := ok.units
  exact eq_dataH r1 r2 (ha.shaped hk) (hb.shaped hk) (by omega) (.here x (.bool _) h)
theorem t2_eqS {a b : AVal} {d : PyData} {k : Nat} {Q : AVal → AHeap → Prop} (ra : Rd σ a d) (rb : Rd σ b d) (hd : Dk k d) (h : Q (.bool true) σ) (hk : k ≤ 64 := by decide) : T2 C n f (compareOp .Eq) a b m σ Q :=
  t2_eqD ra rb hd hd (by rw [PySem.SeqAt.eqv_refl d hd.1]; exact h) hk
theorem dk_ints {k : Nat} (ns : List Int) : Dk (k + 1) (.list (ns.map .int)) := Dk.list fun d hd => by obtain ⟨i, _, rfl⟩ := List.mem_map.mp hd; exact Dk.int

/-! ## attributes -/
/-- an attribute stored, as a tree -/
def TW (C : Cx) (n : Nat) (f : Fm) (o : AVal) (name : Str) (y : AVal) (m : AEnv) (σ : AHeap) (Q : AHeap → Prop) : Prop :=
  f.Ok C n → ∀ fz s E vo vy, SR C f fz m σ s → V (At C fz) vo o → V (At C fz) vy y → wpAny (Md C) f.A (setAttr vo name vy) (fun _ s' => ∃ fz' σ', (∀ p ∈ fz, p ∈ fz') ∧ Same s s' ∧ SR C f fz' m σ' s' ∧ Q σ') E s
def handedA : AVal → Bool
  | .raw v => handedIn v
  | _ => true
theorem tc_type_fin {c : Addr} {Q : AVal → AHeap → Prop} (h : Q (.raw (.ref c)) σ) : TC C n f (.raw (.type "type")) [.fin c] m σ Q := fun ok fz s E v vs x hv hvs => by
  cases hv; obtain _ | ⟨h1, h2⟩ := hvs; cases h2
  cases h1 with
  | fin p1 p2 => exact ⟨keep_type, kto_own (od := some (dictOf [] 0)) ⟨x.at_ ok p1, rfl, rfl, x.at_ ok p2⟩ (.here x (.raw _) h)⟩
theorem t2_isRef {a : Addr} {Q : AVal → AHeap → Prop} (h : Q (.bool true) σ) : T2 C n f (compareOp .Is) (.raw (.ref a)) (.raw (.ref a)) m σ Q := fun ok fz s E v w x hv hw => by
  cases hv; cases hw; exact wpAny_is_ref_self (.here x (.bool _) h)
end
end Mine

open PySem PySem.W PyProof.Rows PySem.Calls
namespace Mine
def Has (m : AEnv) : List (Str × AVal) → Prop
  | [] => True
  | p :: r => m.get p.1 = some p.2 ∧ Has m r
theorem Has.sub {m : AEnv} : ∀ {l : AEnv}, Has m l → ∀ y a, AEnv.get l y = some a → m.get y = some a
  | [], _, _, _, e => by cases e
  | (z, b) :: r, h, y, a, e => by
    unfold AEnv.get getA at e
    by_cases q : (z == y) = true
    · rw [if_pos q] at e; cases e
      have : z = y := by simpa using q
      subst this; exact h.1
    · rw [if_neg q] at e; exact h.2.sub y a e
theorem AHeap.le_refl (σ : AHeap) : σ.le σ := fun _ _ h => h
theorem AHeap.le_set {σ : AHeap} {l : Addr} {o : AObj} (h : σ l = none) : σ.le (σ.set l o) := fun a b e => by rw [AHeap.set_ne]; exact e; intro q; rw [q, h] at e; cases e
theorem hp_ne {σ : AHeap} {a c : Addr} {o : AObj} (h1 : σ a = some o) (h2 : σ c = none) : a ≠ c := fun q => by rw [q, h2] at h1; cases h1
theorem ret_le {σ : AHeap} {a : AVal} {Q : AVal → AHeap → Prop} (h : Q a σ) : ∃ σ₂ : AHeap, σ₂.le σ ∧ Q (retOf (.ret a)) σ₂ := ⟨σ, AHeap.le_refl σ, h⟩
theorem rng_small1 {a b : Int} (ha : -(2 ^ 62) ≤ a ∧ a < 2 ^ 62) (hb : -(2 ^ 62) ≤ b ∧ b < 2 ^ 62) : Builtin.Range.small a b 1 = true := small_one ha.1 ha.2 hb.1 hb.2
theorem rng_size1' {k : Nat} : Builtin.Range.rangeSize 0 k 1 = (k : Int) := by rw [rangeSize_nat]; congr 1
theorem rngL_length {a c : Int} {k : Nat} : (rngL a c k).length = k := by simp [rngL]
theorem rngL_cons {a c : Int} {k j : Nat} {v : AVal} {r : List AVal} (h : v :: r = (rngL a c k).drop j) : j < k ∧ v = .int (a + (j : Int) * c) ∧ r = (rngL a c k).drop (j + 1) := by
  have hj : j < (rngL a c k).length := by
    rcases Nat.lt_or_ge j (rngL a c k).length with q | q
    · exact q
    · rw [List.drop_of_length_le q] at h; cases h
  rw [List.drop_eq_getElem_cons hj] at h
  obtain ⟨h1, h2⟩ := List.cons.inj h
  refine ⟨by rwa [rngL_length] at hj, ?_, h2⟩
  rw [h1]; simp [rngL]
theorem rngL_nil {a c : Int} {k j : Nat} (h : [] = (rngL a c k).drop j) : k ≤ j := by
  rcases Nat.lt_or_ge j (rngL a c k).length with q | q
  · rw [List.drop_eq_getElem_cons q] at h; cases h
  · rwa [rngL_length] at q
end Mine

open PySem PySem.W PyProof.Rows PySem.Calls
namespace Mine
end Mine

open PySem PySem.W PyProof.Rows PySem.Calls
namespace Mine
section
variable {C : Cx} {n : Nat} {f : Fm} {m : AEnv} {σ : AHeap}
theorem ints_vs {P : Addr → Obj → Prop} : ∀ {vs : List Value} {ns : List Int}, Vs P vs (ns.map .int) → IntsAre vs ns
  | _, [], h => by cases h; exact .nil
  | _, i :: ns, h => by
    cases h with
    | cons h1 h2 => cases h1; exact .cons _ _ (ints_vs h2)
/-- the five things of a source, as attributes -/
def srcA (s p e b c : AVal) : List (Str × AVal) := [(Str.ofString "_InputSource__system_id", s), (Str.ofString "_InputSource__public_id", p), (Str.ofString "_InputSource__encoding", e), (Str.ofString "_InputSource__bytefile", b), (Str.ofString "_InputSource__charfile", c)]
end
end Mine

open PySem PySem.W PyProof.Rows PySem.Calls
namespace Mine
/-! ## pieces of a def of the text -/
def blkOf : Stmt → Nat → List Stmt
  | .For _ _ b _ _, 0 => b
  | .For _ _ _ o _, _ => o
  | .If _ b _ _, 0 => b
  | .If _ _ o _, _ => o
  | .FunctionDef _ _ b _ _ _ _ _ _ _, _ => b
  | _, _ => []
def subs : List Stmt → List (Nat × Nat) → List Stmt
  | ss, [] => ss
  | ss, (i, j) :: r => match ss[i]? with
    | some st => subs (blkOf st j) r
    | none => []
def segOf (p : Program) (i : Nat) (path : List (Nat × Nat)) (k : Nat) : Option (Scope × List Stmt) :=
  match p.main.body[i]? with
  | some (.FunctionDef _ _ b _ _ _ sc _ _ _) => some (sc, (subs b path).drop k)
  | _ => none
def Seg (p : Program) (i : Nat) (path : List (Nat × Nat)) (k : Nat) (P : Scope → List Stmt → Prop) : Prop :=
  match segOf p i path k with
  | some (sc, ss) => P sc ss
  | none => True
theorem seg_intro {p : Program} {i : Nat} {path : List (Nat × Nat)} {k : Nat} {P : Scope → List Stmt → Prop} {kind : ScopeKind} {names : List (Str × NameKind)} {g c : Bool} {more : List (Str × Const)} {st : Stmt} {ss : List Stmt}
    (ho : segOf p i path k = some (⟨kind, names, g, c, more⟩, st :: ss)) (h : P ⟨kind, names, g, c, more⟩ (st :: ss)) : Seg p i path k P := by
  unfold Seg; rw [ho]; exact h
theorem tc_cat1 {C : Cx} {n : Nat} {f : Fm} {m : AEnv} {σ : AHeap} {fv a : AVal} {as : List AVal} {Q : AVal → AHeap → Prop} (h : TC C n f fv (a :: as) m σ Q) : TC C n f fv ([a] ++ as) m σ Q := h
/-- one statement -/
def Seg1 (p : Program) (i : Nat) (path : List (Nat × Nat)) (k : Nat) (P : Scope → Stmt → Prop) : Prop :=
  match segOf p i path k with
  | some (sc, st :: _) => P sc st
  | _ => True
end Mine

open PySem PySem.W PyProof.Rows PySem.Calls
namespace Mine
def AHeap.del (σ : AHeap) (a : Addr) : AHeap := fun b => if b = a then none else σ b
theorem AHeap.del_same (σ : AHeap) (a : Addr) : σ.del a a = none := if_pos rfl
theorem AHeap.del_ne (σ : AHeap) {a b : Addr} (h : b ≠ a) : σ.del a b = σ b := if_neg h
theorem seg_elim {p : Program} {i : Nat} {path : List (Nat × Nat)} {k : Nat} {P : Scope → List Stmt → Prop} {sc : Scope} {ss : List Stmt} (h : Seg p i path k P) (ho : segOf p i path k = some (sc, ss)) : P sc ss := by
  unfold Seg at h; rw [ho] at h; exact h
section
variable {C : Cx} {n : Nat} {f : Fm} {m : AEnv} {σ : AHeap}
theorem we_one {op : BoolOp} {e : Expr} {pos : Pos} {Q : AVal → AHeap → Prop} (h : WE C n f e m σ Q) : WE C n f (.BoolOp op [e] pos) m σ Q := fun ok fz s E x => BoolOp_one (h ok fz s E x)
theorem we_andN {a b : Expr} {r : List Expr} {pos : Pos} {Q : AVal → AHeap → Prop} (h : WE C n f a m σ fun v σ₁ => TB C n f truthy v m σ₁ fun c σ₂ => (c = true → WE C n f (.BoolOp .And (b :: r) pos) m σ₂ Q) ∧ (c = false → Q v σ₂)) : WE C n f (.BoolOp .And (a :: b :: r) pos) m σ Q := fun ok fz s E x => by
  refine BoolOp_and (wpAny_mono (h ok fz s E x) (fun v s₁ hq => hq.el fun fz₁ σ₁ av u1 e1 x1 va q1 => wpAny_mono (q1 ok fz₁ s₁ E v x1 va) (fun c s₂ hq => hq.el fun fz₂ σ₂ u2 e2 x2 q2 => ?_) fun _ _ x => x) fun _ _ x => x)
  cases c with
  | true => rw [if_pos rfl]; exact wpAny_mono (q2.1 rfl ok fz₂ s₂ E x2) (fun r s₃ p => .up (fun p hp => u2 p (u1 p hp)) (e1.trans e2) p) fun _ _ x => x
  | false => rw [if_neg (by decide)]; exact ⟨fz₂, σ₂, av, fun p hp => u2 p (u1 p hp), e1.trans e2, x2, va.up u2, q2.2 rfl⟩
end
end Mine

open PySem PySem.W PyProof.Rows PySem.Calls
namespace Mine
/-! ## an attribute that is not there; a try in a called def -/
section
variable {prog : Program} {w : World} {A : Around} {E : Value → Shared → Prop} {s : Shared} {K : Frag} {x c L : Addr} {h₀ : Heap} {m : Str → Option Value} {ox : Obj} {es : List DictEntry} {n : Nat} {name : Str}
end

/-- a call out of the law's own frame -/
def Fn1 (C : Cx) (n : Nat) (fa : Addr) (as : List AVal) (σ : AHeap) (Q : AVal → AHeap → Prop) : Prop :=
  ∀ f m A, f.outer = [] → f.Ok C n → Near f A → ∀ fz s vs, SR C f fz m σ s → Vs (At C fz) vs as → codeAny (Md C) A (.call (.ref fa) ⟨vs, []⟩) (RV C f m fz s Q) s
/-- statements that raise, the state as it was -/
def XS (C : Cx) (n : Nat) (f : Fm) (ss : List Stmt) (m : AEnv) (σ : AHeap) (X : String) : Prop :=
  f.Ok C n → ∀ fz s E, SR C f fz m σ s → (∀ s₁ h' tk e fz', (∀ p ∈ fz, p ∈ fz') → Same s s₁ → SR C f fz' m σ s₁ → Heap.NewExcOf s₁.heap h' e X → E (.ref e) { s₁ with heap := h', toks := tk }) → wpAny (Md C) f.A (execs ss f.env) (fun _ _ => False) E s
section
variable {C : Cx} {n : Nat} {f : Fm} {m : AEnv} {σ : AHeap}
end
end Mine

open PySem PySem.W PyProof.Rows PySem.Calls
namespace Mine
/-! ## dicts with whole numbers as keys -/
def valA (es : List (Int × AVal)) (k : Int) : Option AVal := (es.find? fun kv => kv.1 = k).map (·.2)
def storeA (es : List (Int × AVal)) (k : Int) (v : AVal) : List (Int × AVal) := if es.any (fun kv => kv.1 = k) then es.map (fun kv => if kv.1 = k then (kv.1, v) else kv) else es ++ [(k, v)]
section
variable {C : Cx} {n : Nat} {f : Fm} {m : AEnv} {σ : AHeap}
end
end Mine

open PySem PySem.W PyProof.Rows PySem.Calls
set_option linter.unusedSectionVars false
namespace Mine
section
variable {C : Cx} {n : Nat} {f : Fm} {m : AEnv} {σ : AHeap}
def zipA : List AVal → List AVal → List (List AVal)
  | x :: xs, y :: ys => [x, y] :: zipA xs ys
  | _, _ => []
end
/-! ## a state by its parts -/
def up {I α : Type} [DecidableEq I] (f : I → α) (x : I) (v : α) : I → α := fun y => if y = x then v else f y
def NeQ {I : Type} (ad : I → Addr) (L : I → Prop) : Prop := ∀ x y, L x → L y → x ≠ y → ad x ≠ ad y
structure Hx {I : Type} (σ : AHeap) (ad : I → Addr) (L : I → Prop) (o : I → AObj) : Prop where
  at_ : ∀ y, L y → σ (ad y) = some (o y)
  ne : NeQ ad L
section
variable {I : Type} [DecidableEq I] {σ : AHeap} {ad : I → Addr} {L : I → Prop} {o : I → AObj}
end
/-- the five things of a source -/
def srcV (v : Nat → AVal) : List (Str × AVal) := srcA (v 0) (v 1) (v 2) (v 3) (v 4)
end Mine

open PySem PySem.W PyProof.Rows PySem.Calls
namespace Mine
end Mine

open PySem PySem.W PyProof.Rows PySem.Calls
namespace Mine
section
variable {C : Cx} {n : Nat} {f : Fm} {m : AEnv} {σ : AHeap}
end
end Mine

open PySem PySem.W PyProof.Rows PySem.Calls
namespace Mine
/-! ## defs inside defs -/
def lookT (pos : Pos) : List (Pos × Str) → Option Str
  | [] => none
  | (p, q) :: r => if ((p.line : Int) == pos.line && (p.col : Int) == pos.col) = true then some q else lookT pos r
def tabWith (pos : Pos) (q : Str) (es : List (Pos × Str)) : Option (List (Pos × Str)) := match lookT pos es with
  | some q' => if q' = q then some es else none
  | none => some (es ++ [(pos, q)])
theorem Tb.triples {P : Addr → Obj → Prop} : ∀ {ps : List Value} {es : List (Pos × Str)}, Tb P ps es → TriplesOk ps
  | _, _, .nil => trivial
  | _, _, .cons _ _ _ d => d.triples
theorem Tb.none_ {P : Addr → Obj → Prop} {pos : Pos} : ∀ {ps : List Value} {es : List (Pos × Str)}, Tb P ps es → lookT pos es = none → codeAmong pos ps = none
  | _, _, .nil, _ => rfl
  | _, _, .cons (pos := p) _ _ _ d, h => by
    unfold lookT at h
    split at h
    · cases h
    · rename_i q
      show (if ((p.line : Int) == pos.line && (p.col : Int) == pos.col) = true then _ else _) = _
      rw [if_neg q]; exact d.none_ h
theorem Tb.some_ {P : Addr → Obj → Prop} {pos : Pos} {q : Str} : ∀ {ps : List Value} {es : List (Pos × Str)}, Tb P ps es → lookT pos es = some q → ∃ c oc vs t, codeAmong pos ps = some (.ref c) ∧ P c oc ∧ oc.data = .fields vs ∧ vs[1]? = some (.str q t)
  | _, _, .nil, h => by cases h
  | _, _, .cons (pos := p) (c := c) a b e d, h => by
    unfold lookT at h
    split at h
    · rename_i hq
      cases h
      refine ⟨c, _, _, _, ?_, a, b, e⟩
      show (if ((p.line : Int) == pos.line && (p.col : Int) == pos.col) = true then _ else _) = _
      rw [if_pos hq]
    · rename_i hq
      obtain ⟨c, oc, vs, t, h1, h2⟩ := d.some_ h
      refine ⟨c, oc, vs, t, ?_, h2⟩
      show (if ((p.line : Int) == pos.line && (p.col : Int) == pos.col) = true then _ else _) = _
      rw [if_neg hq]; exact h1
theorem Tb.snoc {P : Addr → Obj → Prop} {pos : Pos} {q : Str} {c : Addr} {oc : Obj} {vs : Array Value} {t : Tok} (a : P c oc) (b : oc.data = .fields vs) (e : vs[1]? = some (.str q t)) : ∀ {ps : List Value} {es : List (Pos × Str)}, Tb P ps es → Tb P (ps ++ [rawInt pos.line, rawInt pos.col, .ref c]) (es ++ [(pos, q)])
  | _, _, .nil => .cons a b e .nil
  | _, _, .cons a' b' e' d => .cons a' b' e' (d.snoc a b e)
section
variable {C : Cx} {n : Nat} {f : Fm} {m : AEnv} {σ : AHeap}
theorem HR.change {fz pin : Fz} {δ : Addr → Addr} {news : List (Addr × Obj)} {a : Addr} {ao ao' : AObj} {o' : Obj} (R : HR C fz pin σ δ news) (h : σ a = some ao) (hn : ∀ c as, ao ≠ .inst c as) (hn' : ∀ c as, ao' ≠ .inst c as)
    (hr : ∀ news d, (a, o') ∈ news → OR (At C fz) news d a ao') : HR C fz pin (σ.set a ao') δ (upd news a o') := by
  have da : ∀ b c as, σ b = some (.inst c as) → δ b ≠ a := fun b c as hb e => by have := R.dσ b c as hb; rw [e, h] at this; cases this
  have keep : ∀ {b c as}, σ.set a ao' b = some (.inst c as) → b ≠ a ∧ σ b = some (.inst c as) := fun {b c as} hb => by
    by_cases q : b = a
    · subst q; rw [AHeap.set_same] at hb; exact absurd (Option.some.inj hb) (hn' _ _)
    · rw [AHeap.set_ne _ _ q] at hb; exact ⟨q, hb⟩
  refine ⟨fun p hp => mem_upd (R.sub p hp) (R.off a _ h p hp), R.apart, fun b bo hb => ?_, fun b bo hb p hp => ?_, fun b c as hb p hp => R.doff b c as (keep hb).2 p hp, fun b c as hb => ?_, R.free, fun b c as b' c' bs h1 h2 => R.dinj b c as b' c' bs (keep h1).2 (keep h2).2⟩
  · by_cases q : b = a
    · subst q; rw [AHeap.set_same] at hb; cases hb
      exact hr _ _ (List.mem_cons_self ..)
    · rw [AHeap.set_ne _ _ q] at hb
      exact (R.ob b bo hb).mono (fun _ _ x => x) (fun _ hm => mem_upd hm q) fun c as eb _ hm => mem_upd hm (da b c as (eb ▸ hb))
  · by_cases q : b = a
    · subst q; exact R.off b _ h p hp
    · rw [AHeap.set_ne _ _ q] at hb; exact R.off b bo hb p hp
  · obtain ⟨q, hb⟩ := keep hb
    rw [AHeap.set_ne _ _ (da b c as hb)]; exact R.dσ b c as hb
/-- a table grows, new frozen things come -/
theorem SR.tabGrow {fz : Fz} {s : Shared} (x : SR C f fz m σ s) {P : Addr} {es es' : List (Pos × Str)} {h' : Heap} {t : Nat} {ps' : Array Value} (h : σ P = some (.tab es)) (hx : Heap.ExtBut P s.heap h') (hP : h'.get? P = some (tabObj ps')) (new : Fz)
    (hn : ∀ p ∈ new, s.heap.objs.size ≤ p.1 ∧ h'.get? p.1 = some p.2) (ht : Tb (At C (new ++ fz)) ps'.toList es') : SR C f (new ++ fz) m (σ.set P (.tab es')) { s with heap := h', toks := t } := by
  obtain ⟨mc, news, δ, F, N, R, e⟩ := x
  obtain ⟨o, ho⟩ := (R.ob P _ h).key
  have lt : ∀ q ∈ news, q.1 < s.heap.objs.size := fun q hq => Heap.lt_size (N q hq).1
  have R1 := (R.addFz new fun p hp q hq e => absurd (lt q hq) (Nat.not_lt.mpr (e ▸ (hn p hp).1))).change h (fun _ _ e => by cases e) (ao' := .tab es') (fun _ _ e => by cases e) (o' := tabObj ps') fun _ _ hm => ⟨_, hm, ht⟩
  have hPn := N _ ho
  refine ⟨mc, _, δ, ⟨F.ns.extBut hx hPn.2.1.symm, fun b o e => hx b o (fun q => by rw [q, hPn.2.2] at e; cases e) (F.keep b o e), F.above⟩, fun p hp => ?_, R1, e.up fun p hp => List.mem_append_right _ hp⟩
  rcases List.mem_cons.mp hp with rfl | hp
  · exact ⟨hP, hPn.2⟩
  · have hne : p.1 ≠ P := by simpa using (List.mem_filter.mp hp).2
    rcases List.mem_append.mp (List.mem_filter.mp hp).1 with hp | hp
    · obtain ⟨h1, h2⟩ := hn p hp
      exact ⟨h2, Nat.ne_of_gt (Nat.lt_of_lt_of_le F.ns.lt h1), Heap.get?_none_of_le (Nat.le_trans F.above (Nat.le_trans (Nat.le_of_lt F.ns.lt) h1))⟩
    · exact ⟨hx _ _ hne (N p hp).1, (N p hp).2⟩
/-- a def, a lambda made in a frame -/
theorem make_clo {d : Clo} {cs : List Addr} {xs : List AVal} {pos : Pos} {fl : Nat} {c P : Addr} {es es' : List (Pos × Str)} {fz : Fz} {s : Shared} {E : Value → Shared → Prop} {Q : AVal → AHeap → Prop} (ok : f.Ok C n) (x : SR C f fz m σ s) (hcm : f.comp = none)
    (hcd : f.ccd = .ref c) (hC : CodeHd C.H c P) (hP : σ P = some (.tab es)) (hes : tabWith pos d.qual es = some es') (hcl : closureFor d.scope f.env = pure (d.free.zip cs)) (hxs : Cs (At C fz) cs xs) (h : Q (.clos d xs) (σ.set P (.tab es'))) :
    wpAny (Md C) f.A (makeFunction d.name d.qual d.params d.body d.scope f.env [] [] [] pos fl) (PV C f m fz s Q) E s := by
  have x0 := x
  obtain ⟨mc, news, δ, F, N, R, e⟩ := x
  obtain ⟨ps, hm0, hT⟩ := R.ob P _ hP
  have hm := N _ hm0
  have T := ok.top
  have hgs := T.g.keeps F.keep
  obtain ⟨bm, ob, b1, b2, b3, b4, b5, b6⟩ := T.bmain
  have hgP : mainGlobals ≠ P := fun q => by
    obtain ⟨o, es, ep, e, hd, _⟩ := hgs
    rw [q, hm.1] at e; cases e; cases hd
  have hbP : bm ≠ P := fun q => by
    have e := F.keep _ _ b3
    rw [q, hm.1] at e; cases e; cases b4
  have hbG : bm ≠ mainGlobals := fun q => by
    obtain ⟨o, es, ep, e, hd, _⟩ := T.g
    rw [q, e] at b3; cases b3; rw [hd] at b6; cases b6
  have he : f.env = f.fenv := by unfold Fm.env; rw [hcm]
  have hC' : CodeHd s.heap c P := hC.keeps fun b o e => F.keep _ _ (ok.hk _ _ e)
  have hge0 : f.env.globals = mainGlobals := by rw [he]
  have hcode : f.env.code = .ref c := by rw [he]; exact hcd
  have hbb : s.heap.BuiltinsAt C.mg P := ⟨bm, ob, b1, b2, hbG, hbP, F.keep _ _ b3, b4, b5, b6⟩
  have hit : ∀ {cv : Addr} {doc ctv : Value} {h' : Heap} {tk : Tok} {oc : Obj} {vs : Array Value} {t : Tok}, At C fz cv oc → oc.data = .fields vs → vs[1]? = some (.str d.qual t) → es' = es → (∀ b o, s.heap.get? b = some o → h'.get? b = some o) → s.heap.objs.size ≤ h'.objs.size →
      PV C f m fz s Q (.ref h'.objs.size) { s with heap := h'.push (cloObj d cs doc ((C.mg "__name__").getD .none) cv ctv), toks := tk } := by
    intro cv doc ctv h' tk oc vs t hat hd hv hee hk hsz
    subst hee
    have hsame : σ.le (σ.set P (.tab es')) := fun b o hb => by
      by_cases q : b = P
      · subst q; rw [AHeap.set_same]; rw [hP] at hb; exact hb
      · rw [AHeap.set_ne _ _ q]; exact hb
    have hsame' : (σ.set P (.tab es')).le σ := fun b o hb => by
      by_cases q : b = P
      · subst q; rw [AHeap.set_same] at hb; rw [hP]; exact hb
      · rw [AHeap.set_ne _ _ q] at hb; exact hb
    refine (PV.new (σ := σ.set P (.tab es')) (a := .clos d xs) (x0.weaken (fun _ _ h => h) hsame') (fun b o e => Heap.get?_push_of_some _ (hk b o e)) hsz (Heap.get?_push_size _ rfl) (fun fz' hq up => .clos (.inl hq) (hat.mono up) hd hv (hxs.mono fun _ _ => At.mono up)) h)
  have miss : ∀ {c' : Addr} {doc ctv : Value} {h' : Heap} {tk : Tok}, es' = es ++ [(pos, d.qual)] → Heap.ExtBut P s.heap h' → s.heap.objs.size ≤ c' → c' < h'.objs.size → h'.CodeRec (.ref c') d.qual → h'.get? P = some (tabObj (ps ++ #[rawInt pos.line, rawInt pos.col, .ref c'])) →
      PV C f m fz s Q (.ref h'.objs.size) { s with heap := h'.push (cloObj d cs doc ((C.mg "__name__").getD .none) c' ctv), toks := tk } := by
    intro c' doc ctv h' tk hee hx hge hlt hrec htb
    subst hee
    obtain ⟨c₂, oc, vs, t, e2, hoc, hd, hv⟩ := hrec
    cases e2
    have up : ∀ p ∈ fz, p ∈ [(h'.objs.size, cloObj d cs doc ((C.mg "__name__").getD .none) c' ctv), (c', oc)] ++ fz := fun p hp => List.mem_append_right _ hp
    refine ⟨[(h'.objs.size, cloObj d cs doc ((C.mg "__name__").getD .none) c' ctv), (c', oc)] ++ fz, _, .clos d xs, up, ⟨_, _, rfl⟩, x0.tabGrow (t := tk) hP (ps' := ps ++ #[rawInt pos.line, rawInt pos.col, .ref c']) (fun b o hb e => Heap.get?_push_of_some _ (hx b o hb e)) (Heap.get?_push_of_some _ htb) _ (fun p hp => ?_) ?_, .clos (.inl (.head _)) (.inl (.tail _ (.head _))) hd hv (hxs.mono fun _ _ => At.mono up), h⟩
    · rcases List.mem_cons.mp hp with rfl | hp
      · exact ⟨Nat.le_of_lt (Nat.lt_of_le_of_lt hge hlt), Heap.get?_push_size _ rfl⟩
      · rw [List.mem_singleton.mp hp]; exact ⟨hge, Heap.get?_push_of_some _ hoc⟩
    · have := (hT.mono fun _ _ => At.mono up).snoc (pos := pos) (q := d.qual) (c := c') (.inl (.tail _ (.head _))) hd hv
      simpa using this
  unfold tabWith at hes
  obtain ⟨dn, dq, dp, db, ds, df⟩ := d
  dsimp only at hes hit miss hcl ⊢
  split at hes
  · rename_i q' hq
    split at hes
    · rename_i hqq
      cases hes
      subst hqq
      obtain ⟨cv, oc, vs, t, h1, h2, h3, h4⟩ := hT.some_ hq
      cases db with
      | stmts b => exact makeFunction_hit (mg := C.mg) hcl hge0 hgs hcode hC' hm.1 hT.triples h1 hbb fun ctv doc h' tk hk hsz => hit h2 h3 h4 rfl hk hsz
      | expr b => exact kla_makeFunctionHit (mg := C.mg) hcl hge0 hgs hcode hC' hm.1 hT.triples h1 hbb fun ctv h' tk hk hsz => hit h2 h3 h4 rfl hk hsz
    · cases hes
  · rename_i hq
    cases hes
    have h1 := hT.none_ hq
    cases db with
    | stmts b => exact makeFunction_K (mg := C.mg) hcl hge0 hgs hcode hC' hm.1 hT.triples h1 hgP hbb fun c' ctv doc h' tk hx hge hlt hrec htb => miss rfl hx hge hlt hrec htb
    | expr b => exact kla_makeFunction (mg := C.mg) hcl hge0 hgs hcode hC' hm.1 hT.triples h1 hgP hbb fun c' ctv h' tk hx hge hlt hrec htb => miss rfl hx hge hlt hrec htb
end
end Mine

open PySem PySem.W PyProof.Rows PySem.Calls
namespace Mine
section
variable {C : Cx} {n : Nat} {f : Fm} {m : AEnv} {σ : AHeap}
/-- a thing of the state is kept apart -/
theorem SR.lendAny {fz : Fz} {s : Shared} (x : SR C f fz m σ s) {a : Addr} {ao : AObj} (h : σ a = some ao) : SX C f fz m (σ.del a) [a] s := by
  obtain ⟨mc, news, δ, F, N, R, e⟩ := x
  obtain ⟨o, ho⟩ := (R.ob a _ h).key
  have keepM : ∀ {p : Addr × Obj}, p ∈ news → p.1 ≠ a → p ∈ news.filter (fun p => decide (p.1 ≠ a)) := fun h q => List.mem_filter.mpr ⟨h, by simpa using q⟩
  have old : ∀ {b bo}, σ.del a b = some bo → b ≠ a ∧ σ b = some bo := fun {b bo} hb => by
    by_cases q : b = a
    · rw [q, AHeap.del_same] at hb; cases hb
    · rw [AHeap.del_ne _ q] at hb; exact ⟨q, hb⟩
  refine ⟨mc, news.filter (fun p => decide (p.1 ≠ a)), δ, F, fun p hp => N p (List.mem_filter.mp hp).1, ⟨fun p hp => keepM (R.sub p hp) (R.off a _ h p hp), R.apart, fun b bo hb => ?_, fun b bo hb => R.off b bo (old hb).2, fun b c as hb => R.doff b c as (old hb).2, fun b c as hb => ?_, R.free, fun b c as b' c' bs h1 h2 => R.dinj b c as b' c' bs (old h1).2 (old h2).2⟩, e, fun p hp q => ?_, fun q => ?_, fun b hb => ?_⟩
  · refine (R.ob b bo (old hb).2).mono (fun _ _ z => z) (fun _ hm => keepM hm (old hb).1) fun c as eb _ hm => keepM hm fun q => ?_
    have := R.dσ b c as (eb ▸ (old hb).2)
    rw [show δ b = a from q, h] at this; cases this
  · have := R.dσ b c as (old hb).2
    by_cases q : δ b = a
    · rw [q]; exact AHeap.del_same ..
    · rw [AHeap.del_ne _ q]; exact this
  · have := (List.mem_filter.mp hp).2
    exact absurd (List.mem_singleton.mp q) (by simpa using this)
  · exact absurd (List.mem_singleton.mp q).symm (N _ ho).2.1
  · rw [List.mem_singleton.mp hb]; exact (N _ ho).2.2
/-- a cell that changes no more -/
theorem SR.iceCell {fz : Fz} {s : Shared} (x : SR C f fz m σ s) {a : Addr} {v : AVal} (h : σ a = some (.cell (some v))) : ∃ o u, SR C f ([(a, o)] ++ fz) m (σ.del a) s ∧ o.data = .cell (some u) ∧ V (At C fz) u v := by
  obtain ⟨o, u, h1, h2, h3⟩ := x.cell h
  exact ⟨o, u, ((x.lendAny h).ice (D := a) (wr := []) (by simp) h1).sr, h2, h3⟩
def CellsOf : AHeap → List Addr → List AVal → AHeap → Prop
  | σ, [], [], σ' => σ' = σ
  | σ, c :: cs, x :: xs, σ' => σ c = some (.cell (some x)) ∧ CellsOf (σ.del c) cs xs σ'
  | _, _, _, _ => False
/-- a free name -/
theorem we_free {y : Str} {pos : Pos} {c : Addr} {a : AVal} {Q : AVal → AHeap → Prop} (hl : f.env.kindOf y = some .free) (hc : f.env.cells.lookup y = some c) (hv : (c, a) ∈ C.fr) (h : Q a σ) (hd : (y == ("__debug__" : Str)) = false := by decide) (hn : (y == ("__classdict__" : Str)) = false := by decide) : WE C n f (.Name y pos) m σ Q := fun ok fz s E x => by
  have x' := x
  obtain ⟨mc, news, δ, F, N, R, e⟩ := x
  obtain ⟨o, v, h1, h2, h3⟩ := R.free _ hv
  exact wpAny_Name (wpAny_loadName_free ok.ckind hl hc ⟨o, x'.at_ ok h1, h2⟩ (PV.here x' h3 h) hn) hd
theorem Cs.get {P : Addr → Obj → Prop} : ∀ {cs : List Addr} {xs : List AVal}, Cs P cs xs → ∀ p ∈ cs.zip xs, ∃ o v, P p.1 o ∧ o.data = .cell (some v) ∧ V P v p.2
  | _, _, .nil, p, hp => nomatch hp
  | _, _, .cons a b c d, p, hp => by
    rcases List.mem_cons.mp hp with rfl | hp
    · exact ⟨_, _, a, b, c⟩
    · exact d.get p hp
theorem Cs.length {P : Addr → Obj → Prop} : ∀ {cs : List Addr} {xs : List AVal}, Cs P cs xs → cs.length = xs.length
  | _, _, .nil => rfl
  | _, _, .cons _ _ _ d => by simp [d.length]
@[reducible] def Cx.withFr (C : Cx) (l : List (Addr × AVal)) : Cx := { C with fr := l ++ C.fr }
end
end Mine

open PySem PySem.W PyProof.Rows PySem.Calls
namespace Mine
theorem HR.nil {C : Cx} (h : C.fr = []) : HR C [] [] (fun _ => none) id [] := ⟨fun p hp => (nomatch hp), fun p hp => (nomatch hp), fun a ao e => (nomatch e), fun a ao e => (nomatch e), fun a c as e => (nomatch e), fun a c as e => (nomatch e), (fun p hp => by rw [h] at hp; cases hp), fun a c as b c' bs e => (nomatch e)⟩
theorem HR.tab0 {C : Cx} (h : C.fr = []) (P : Addr) : HR C [] [] (AHeap.set (fun _ => none) P (.tab [])) id [(P, tabObj #[])] :=
  (HR.nil h).addThing (o := tabObj #[]) (fun _ _ e => by cases e) (fun q hq => nomatch hq) fun _ _ hm => ⟨_, hm, .nil⟩
theorem SR.grownAt {C : Cx} {f : Fm} {fz : Fz} {m : AEnv} {σ : AHeap} {s : Shared} (x : SR C f fz m σ s) {P : Addr} {es : List (Pos × Str)} (h : σ P = some (.tab es)) : GrownAt P s.heap := by
  obtain ⟨mc, news, δ, F, N, R, e⟩ := x
  obtain ⟨ps, h1, h2⟩ := R.ob P _ h
  exact ⟨ps, (N _ h1).1⟩
/-- the law's own frame, with cells, a table laid aside -/
theorem enterTC {prog : Program} {w : World} {K : Frag} {vp : Program} {loose : List Str} {mean : ExcName → Option Value} {mg mb : Str → Option Value} {H : Heap} {L fa a P : Addr} {vs : List Value} {ns : List Int} {qual : Str} {scope : Scope} {cdv : Value} {body : List Stmt} {s : Shared} {Q : Flow → Shared → Prop} {E : Value → Shared → Prop} {cells : List (Addr × Obj)} (cs : Nat → List (Str × Addr)) (ml : AVal → AEnv)
    (B : Below callerA H [] H) (X : K.In H) (T : Top vp loose mean mg mb H) (hL : H.IsList a vs.toArray) (hI : IntsAre vs ns)
    (F : Fr H L s.heap (bindL (envOfC qual scope L fa cdv).kindOf [(Str.ofString "script", Value.ref a)] fun _ => none)) (N : News H L s.heap (cells ++ [(P, tabObj #[])])) (hPL : P < L)
    (Y : CellsAre (bindC (envOfC qual scope L fa cdv).kindOf [(Str.ofString "script", Value.ref a)] fun _ => none) (cellsFrom (L + 1) scope.names []) cells) (hk : scope.kind = .function) (hn : ns.length ≤ 63)
    (hcs : ∀ L : Nat, cellsFrom (L + 1) scope.names [] = cs L) (hck : ∀ p ∈ cellsFrom 0 scope.names [], scope.names.lookup p.1 ≠ some .local) (hml : ∀ v, ([(Str.ofString "script", v)].filter fun p : Str × AVal => scope.names.lookup p.1 == some .local) = ml v)
    (h : ∀ A₀ A base h₀ outer (L : Nat) (ns : List Int), P < L → ns.length ≤ 63 → WS ⟨prog, w, K, vp, loose, mean, mg, mb, H, []⟩ 20 ⟨A₀, A, base, h₀, outer, L, fa, qual, scope, cdv, cs L, [], none⟩ body (ml (.lst (ns.map .int))) (cellS (fun y => getA y [(Str.ofString "script", .lst (ns.map .int))]) (cs L) (AHeap.set (fun _ => none) P (.tab []))) fun fl _ σ' => fl = .ret (.bool true) ∧ ∃ es, σ' P = some (.tab es))
    (hQ : ∀ h' tk mc', Fr H L h' mc' → GrownAt P h' → Q (.ret (.bool true)) { s with heap := h', toks := tk }) :
    wpAny (model prog w) (callerA.deeper (envOfC qual scope L fa cdv)) (execs body (envOfC qual scope L fa cdv)) Q E s := by
  have names : ∀ (names : List (Str × NameKind)) (a b : Nat) (acc acc' : List (Str × Addr)), acc.map (·.1) = acc'.map (·.1) → (cellsFrom a names acc).map (·.1) = (cellsFrom b names acc').map (·.1) := by
    intro names
    induction names with
    | nil => intro a b acc acc' h; exact h
    | cons p r ih =>
      intro a b acc acc' h
      obtain ⟨y, kd⟩ := p
      unfold cellsFrom
      split
      · exact ih _ _ _ _ (by simp [h])
      · exact ih _ _ _ _ h
  have ck : ∀ p ∈ cellsFrom (L + 1) scope.names [], scope.names.lookup p.1 ≠ some .local := fun p hp => by
    have : p.1 ∈ (cellsFrom 0 scope.names []).map (·.1) := by rw [names scope.names 0 (L + 1) [] [] rfl]; exact List.mem_map_of_mem hp
    obtain ⟨q, hq, e⟩ := List.mem_map.mp this
    rw [← e]; exact hck q hq
  have ok : Fm.Ok ⟨prog, w, K, vp, loose, mean, mg, mb, H, []⟩ 20 ⟨callerA, callerA.deeper (envOfC qual scope L fa cdv), H, H, [], L, fa, qual, scope, cdv, cellsFrom (L + 1) scope.names [], [], none⟩ :=
    ⟨B, X, T, fun _ _ h => h, rfl, rfl, rfl, (show 1 + claimMargin + 1 + 3 * 20 < recursionLimit by decide), (show 4 + 3 + 10 * 20 + 100 < cLine by decide), hk, hk⟩
  obtain ⟨nd, cl⟩ := cellsFrom_nd scope.names (L + 1) [] List.nodup_nil (fun p hp => by cases hp)
  have hz : Vs (At ⟨prog, w, K, vp, loose, mean, mg, mb, H, []⟩ []) [Value.ref a] [.lst (ns.map .int)] := by
    obtain ⟨o, h1, h2, k, h3⟩ := hL
    exact .cons (.lst (.inr h1) h2 h3 (vs_ints hI)) .nil
  have nds : [Str.ofString "script"].Nodup := by simp
  have R : HR ⟨prog, w, K, vp, loose, mean, mg, mb, H, []⟩ [] [] (cellS (fun y => getA y [(Str.ofString "script", .lst (ns.map .int))]) (cellsFrom (L + 1) scope.names []) (AHeap.set (fun _ => none) P (.tab []))) id (cells ++ [(P, tabObj #[])]) := (HR.tab0 rfl P).addCells Y nd (fun p hp q hq => by
      rw [List.mem_singleton.mp hq]
      rcases cl p hp with hp | hp
      · cases hp
      · exact Nat.ne_of_lt (Nat.lt_of_lt_of_le (Nat.lt_succ_of_lt hPL) hp)) fun p hp => by
    have hkd : (envOfC qual scope L fa cdv).kindOf p.1 ≠ some .local := ck p hp
    cases q : getA p.1 [(Str.ofString "script", .lst (ns.map .int))] with
    | none => exact .inl ⟨bindC_off (b := [(Str.ofString "script", Value.ref a)]) (by have := getA_none q; simpa using this), rfl⟩
    | some b =>
      obtain ⟨v, g1, g2, g3⟩ := bind_get (ns := [Str.ofString "script"]) (kd := (envOfC qual scope L fa cdv).kindOf) (m := fun _ => none) hz nds q
      exact .inr ⟨v, b, g3 hkd, rfl, g1⟩
  have x : SR ⟨prog, w, K, vp, loose, mean, mg, mb, H, []⟩ ⟨callerA, callerA.deeper (envOfC qual scope L fa cdv), H, H, [], L, fa, qual, scope, cdv, cellsFrom (L + 1) scope.names [], [], none⟩ [] ([(Str.ofString "script", .lst (ns.map .int))].filter fun p : Str × AVal => scope.names.lookup p.1 == some .local) (cellS (fun y => getA y [(Str.ofString "script", .lst (ns.map .int))]) (cellsFrom (L + 1) scope.names []) (AHeap.set (fun _ => none) P (.tab []))) s := by
    refine ⟨_, _, id, F, N, R, fun y b hy => ?_⟩
    obtain ⟨g1, a', g2⟩ := getA_filter (by simp) hy
    obtain ⟨v, g3, g4, _⟩ := bind_get (ns := [Str.ofString "script"]) (kd := (envOfC qual scope L fa cdv).kindOf) (m := fun _ => none) hz nds g1
    exact ⟨v, g4 (by have : scope.names.lookup y = some .local := by simpa using g2
                     exact this), g3⟩
  have hh := h callerA (callerA.deeper (envOfC qual scope L fa cdv)) H H [] L ns hPL hn
  rw [← hcs, ← hml] at hh
  refine wpAny_mono (hh ok [] s E x) (fun fl s' hq => hq.el fun fz' σ' m' a u es x2 va ⟨q, es', hes⟩ => ?_) fun _ _ z => z
  subst q
  cases fl with
  | ret v =>
    cases va
    obtain ⟨h', tk, rfl⟩ := es
    have g := x2.grownAt hes
    obtain ⟨mc', news, δ, F', N', R, e⟩ := x2
    exact hQ h' tk mc' F' g
  | _ => exact va.elim
/-! ## own functions of a thing, bound methods, functions of a class -/
section
open Builtin Builtin.ObjectAttr
variable {prog : Program} {w : World} {A : Around} {E : Value → Shared → Prop} {s : Shared} {K : Frag} {x C L f : Addr} {h₀ : Heap} {m : Str → Option Value} {ox : Obj} {od : Obj} {es : List DictEntry} {n : Nat} {name : Str} {v : Value} {pl : Sem Bool}
end
section
variable {C : Cx} {n : Nat} {f : Fm} {m : AEnv} {σ : AHeap}
end
end Mine

open PySem PySem.W PyProof.Rows PySem.Calls

open PySem PySem.W PyProof.Rows PySem.Calls
namespace Mine
section
variable {C : Cx} {n : Nat} {f : Fm} {m : AEnv} {σ : AHeap}
end
end Mine

open PySem PySem.W PyProof.Rows PySem.Calls
namespace Mine
section
variable {C : Cx} {n : Nat} {f : Fm} {m : AEnv} {σ : AHeap}
/-! ## bytes -/
theorem vs_intsAre {P : Addr → Obj → Prop} {vs : List Value} {ns : List Int} (h : Vs P vs (ns.map .int)) : IntsAre vs ns := ints_vs h
end
end Mine

open PySem PySem.W PyProof.Rows PySem.Calls
namespace Mine
section
variable {C : Cx} {n : Nat} {f : Fm} {m : AEnv} {σ : AHeap}
/-! ## texts -/
end
end Mine

open PySem PySem.W PyProof.Rows
namespace Mine
/-! ## sorting: the things by their first places -/
structure KO where
  klt : Nat → Nat → Bool
  irrefl : ∀ a, klt a a = false
  trans : ∀ a b c, klt a b = true → klt b c = true → klt a c = true
  neg : ∀ a b c, klt a c = true → klt a b = true ∨ klt b c = true
namespace KO
variable (O : KO)
/-- ahead of: by key, then by first place -/
def D (i j : Nat) : Prop := O.klt i j = true ∨ (O.klt j i = false ∧ i < j)
variable {O}
theorem asymm {a b : Nat} (h : O.klt a b = true) : O.klt b a = false := by
  cases e : O.klt b a
  · rfl
  · have := O.trans _ _ _ h e; rw [O.irrefl] at this; cases this
theorem kle_trans {a b c : Nat} (h1 : O.klt b a = false) (h2 : O.klt c b = false) : O.klt c a = false := by
  cases e : O.klt c a
  · rfl
  · rcases O.neg _ b _ e with h | h
    · rw [h2] at h; cases h
    · rw [h1] at h; cases h
theorem D.le {a b : Nat} (h : O.D a b) : O.klt b a = false := h.elim asymm (·.1)
theorem D.trans {a b c : Nat} (h1 : O.D a b) (h2 : O.D b c) : O.D a c := by
  rcases h1 with h1 | ⟨h1, l1⟩
  · rcases O.neg _ c _ h1 with h | h
    · exact .inl h
    · rw [h2.le] at h; cases h
  · rcases h2 with h2 | ⟨h2, l2⟩
    · rcases O.neg _ a _ h2 with h | h
      · rw [h1] at h; cases h
      · exact .inl h
    · exact .inr ⟨kle_trans h1 h2, Nat.lt_trans l1 l2⟩
theorem D.irr {a : Nat} (h : O.D a a) : False := by
  rcases h with h | ⟨_, h⟩
  · rw [O.irrefl] at h; cases h
  · exact Nat.lt_irrefl _ h
theorem later' {a b : Nat} (h : a < b) : O.klt b a = false ↔ O.D a b := by
  constructor
  · intro e
    exact .inr ⟨e, h⟩
  · exact D.le
end KO
section
variable {prog : Program} {w : World} {A : Around} {E : Value → Shared → Prop} {s : Shared}
/-- what < tells of two keys -/
def CmpOk (prog : Program) (w : World) (A : Around) (s : Shared) (f : Nat → Keyed) (n : Nat) (O : KO) : Prop :=
  ∀ (E : Value → Shared → Prop) (i j : Nat) (Q : Bool → Shared → Prop), i < n → j < n → Q (O.klt i j) s → wpAny (model prog w) A (oneLt' true (f i).1 (f j).1) Q E s
/-- the array holds the things in this order -/
structure Arr (f : Nat → Keyed) (L : List Nat) (st : SortSt) : Prop where
  kind : kindOf st = oneType'
  failed : failedOf st = none
  arr : arrOf st = (L.map f).toArray
variable {f : Nat → Keyed} {n : Nat} {O : KO} {L : List Nat}
theorem Arr.size {st : SortSt} (h : Arr f L st) : (arrOf st).size = L.length := by rw [h.arr]; simp
theorem Arr.at {st : SortSt} (h : Arr f L st) {p i : Nat} (hp : L[p]? = some i) : (arrOf st)[p]? = some (f i) := by rw [h.arr]; simp [hp]
theorem wpS_lt {st : SortSt} {i j : Nat} {Q : Option Bool → SortSt → Prop} (hc : CmpOk prog w A s f n O) (hk : kindOf st = oneType') (hi : i < n) (hj : j < n) (h : Q (some (O.klt i j)) st) : wpS (model prog w) A E s (lt' (f i) (f j)) Q st := by
  rw [lt'_eq]
  refine wpS_bind (wpS_get ?_)
  rw [hk, keyLt'_oneType]
  refine wpS_bind (wpS_lift (wpAny_attempt (hc _ i j _ hi hj ⟨rfl, ?_⟩)))
  exact wpS_pure h
theorem wpS_elem {st : SortSt} {xs : Array Keyed} {p : Nat} {k : Keyed} {Q : Keyed → SortSt → Prop} (hp : xs[p]? = some k) (h : Q k st) : wpS (model prog w) A E s (elem' xs p) Q st := by
  rw [elem'_eq, hp]; exact wpS_pure h
theorem wpS_ltAt' {st : SortSt} {p q i j : Nat} {Q : Option Bool → SortSt → Prop} (hc : CmpOk prog w A s f n O) (hA : Arr f L st) (hp : L[p]? = some i) (hq : L[q]? = some j) (hi : i < n) (hj : j < n) (h : Q (some (O.klt i j)) st) : wpS (model prog w) A E s (ltAt' p q) Q st := by
  rw [ltAt'_eq]
  refine wpS_bind (wpS_get ?_)
  exact wpS_bind (wpS_elem (hA.at hp) (wpS_bind (wpS_elem (hA.at hq) (wpS_lt hc hA.kind hi hj h))))
theorem mirror_mid (P M R : List Nat) : mirror ((P ++ M ++ R).map f).toArray P.length (P.length + M.length) ((P.length + M.length - P.length) / 2) = ((P ++ M.reverse ++ R).map f).toArray := by
  apply Array.ext_getElem?
  intro k
  rw [getElem?_mirror_all (by simp)]
  simp only [List.getElem?_toArray, List.getElem?_map]
  by_cases h1 : k < P.length
  · rw [if_neg (by omega)]
    simp [List.getElem?_append_left, h1]
  · by_cases h2 : k < P.length + M.length
    · rw [if_pos (by omega)]
      obtain ⟨j, rfl⟩ : ∃ j, k = P.length + j := ⟨k - P.length, by omega⟩
      have e1 : (P ++ M ++ R)[P.length + (P.length + M.length) - 1 - (P.length + j)]? = M[M.length - 1 - j]? := by
        rw [List.append_assoc, List.getElem?_append_right (by omega), List.getElem?_append_left (by omega)]
        congr 1; omega
      have e2 : (P ++ M.reverse ++ R)[P.length + j]? = M[M.length - 1 - j]? := by
        rw [List.append_assoc, List.getElem?_append_right (by omega), List.getElem?_append_left (by simp; omega)]
        rw [List.getElem?_reverse (by omega)]
        congr 1; omega
      rw [e1, e2]
    · rw [if_neg (by omega)]
      congr 1
      rw [List.getElem?_append_right (by simp; omega), List.getElem?_append_right (by simp; omega)]
      simp
theorem wpS_reverse {st : SortSt} {lo hi : Nat} {P M R : List Nat} {Q : Unit → SortSt → Prop} (hA : Arr f (P ++ M ++ R) st) (hlo : lo = P.length) (hhi : hi = P.length + M.length)
    (h : Q () (setArr st ((P ++ M.reverse ++ R).map f).toArray)) : wpS (model prog w) A E s (reverseSlice' lo hi) Q st := by
  subst hlo hhi
  rw [reverseSlice'_eq]
  refine wpS_modify ?_
  rw [hA.arr, mirror_mid]
  exact h
theorem bubble_mid (P M R : List Nat) (x : Nat) : bubble ((P ++ M ++ x :: R).map f).toArray (P.length + M.length) M.length = ((P ++ x :: M ++ R).map f).toArray := by
  apply Array.ext_getElem?
  intro k
  rw [getElem?_bubble (by simp) _ (by omega)]
  simp only [List.getElem?_toArray, List.getElem?_map]
  have hx : (P ++ M ++ x :: R)[P.length + M.length]? = some x := by
    rw [List.getElem?_append_right (by simp)]; simp
  by_cases h0 : k = P.length + M.length - M.length
  · rw [if_pos h0, hx]
    have : k = P.length := by omega
    subst this
    rw [List.append_assoc, List.getElem?_append_right (Nat.le_refl _)]; simp
  · rw [if_neg h0]
    by_cases h1 : P.length + M.length - M.length < k ∧ k ≤ P.length + M.length
    · rw [if_pos h1]
      obtain ⟨j, rfl⟩ : ∃ j, k = P.length + (j + 1) := ⟨k - P.length - 1, by omega⟩
      congr 1
      have e1 : (P ++ M ++ x :: R)[P.length + (j + 1) - 1]? = M[j]? := by
        rw [List.append_assoc, List.getElem?_append_right (by omega), List.getElem?_append_left (by omega)]
        congr 1; omega
      have e2 : (P ++ x :: M ++ R)[P.length + (j + 1)]? = M[j]? := by
        rw [List.append_assoc, List.getElem?_append_right (by omega), show P.length + (j + 1) - P.length = j + 1 by omega, List.cons_append, List.getElem?_cons_succ, List.getElem?_append_left (by omega)]
      rw [e1, e2]
    · rw [if_neg h1]
      congr 1
      by_cases h2 : k < P.length
      · rw [List.append_assoc, List.append_assoc, List.getElem?_append_left h2, List.getElem?_append_left h2]
      · rw [List.getElem?_append_right (by simp; omega), List.getElem?_append_right (by simp; omega)]
        obtain ⟨j, hj⟩ : ∃ j, k - (P ++ M).length = j + 1 := ⟨k - (P ++ M).length - 1, by simp; omega⟩
        rw [hj, List.getElem?_cons_succ]
        congr 1
        simp at hj ⊢; omega
theorem wpS_moveDown {st : SortSt} {src dst : Nat} {P M R : List Nat} {x : Nat} {Q : Unit → SortSt → Prop} (hA : Arr f (P ++ M ++ x :: R) st) (hs : src = P.length + M.length) (hd : dst = P.length)
    (h : Q () (setArr st ((P ++ x :: M ++ R).map f).toArray)) : wpS (model prog w) A E s (moveDown' src dst) Q st := by
  subst hs hd
  rw [moveDown'_eq]
  refine wpS_modify ?_
  rw [hA.arr, show P.length + M.length - P.length = M.length by omega, bubble_mid]
  exact h
end
end Mine

open PySem PySem.W PyProof.Rows
namespace Mine
/-! ## countRun at any place, with the order of equal keys -/
/-- in rising order -/
def Up (O : KO) (M : List Nat) : Prop := M.Pairwise fun a b => O.D a b
/-- in falling order -/
def Dn (O : KO) (M : List Nat) : Prop := M.Pairwise fun a b => O.D b a
theorem Dn.rev {O : KO} {M : List Nat} (h : Dn O M) : Up O M.reverse := List.pairwise_reverse.mpr h
theorem Up.rev {O : KO} {M : List Nat} (h : Up O M) : Dn O M.reverse := List.pairwise_reverse.mpr h
theorem last_split {M : List Nat} (h : 1 ≤ M.length) : ∃ M0 y, M = M0 ++ [y] := by
  rcases List.eq_nil_or_concat M with rfl | ⟨M0, y, rfl⟩
  · simp at h
  · exact ⟨M0, y, by simp⟩
theorem Up.push {O : KO} {M : List Nat} {x y : Nat} (h : Up O (M ++ [y])) (hx : O.D y x) : Up O ((M ++ [y]) ++ [x]) := by
  refine List.pairwise_append.mpr ⟨h, List.pairwise_singleton _ _, fun a ha b hb => ?_⟩
  rw [List.mem_singleton.mp hb]
  rcases List.mem_append.mp ha with ha | ha
  · exact ((List.pairwise_append.mp h).2.2 a ha y (List.mem_singleton.mpr rfl)).trans hx
  · rw [List.mem_singleton.mp ha]; exact hx
section
variable {prog : Program} {w : World} {A : Around} {E : Value → Shared → Prop} {s : Shared}
variable {f : Nat → Keyed} {n : Nat} {O : KO}
/-- from P on c things are moved among themselves as M, the rest stands as first -/
structure Rg (f : Nat → Keyed) (P : List Nat) (lo nrem c : Nat) (M : List Nat) (st : SortSt) : Prop where
  arr : Arr f (P ++ M ++ List.range' (lo + c) (nrem - c)) st
  perm : M.Perm (List.range' lo c)
theorem Rg.len {P : List Nat} {lo nrem c : Nat} {M : List Nat} {st : SortSt} (h : Rg f P lo nrem c M st) : M.length = c := by rw [h.perm.length_eq]; simp
theorem Rg.mem {P : List Nat} {lo nrem c : Nat} {M : List Nat} {st : SortSt} (h : Rg f P lo nrem c M st) {x : Nat} (hx : x ∈ M) : lo ≤ x ∧ x < lo + c := by
  have := h.perm.mem_iff.mp hx
  simpa using this
theorem Rg.next {P : List Nat} {lo nrem c : Nat} {M : List Nat} {st : SortSt} (h : Rg f P lo nrem c M st) (hP : P.length = lo) (hc : c < nrem) : (P ++ M ++ List.range' (lo + c) (nrem - c))[lo + c]? = some (lo + c) := by
  have := h.len
  rw [List.getElem?_append_right (by simp; omega), List.getElem?_range' (by simp; omega)]
  simp; omega
theorem Rg.last {P : List Nat} {lo nrem c y : Nat} {M : List Nat} {st : SortSt} (h : Rg f P lo nrem c (M ++ [y]) st) (hP : P.length = lo) : (P ++ (M ++ [y]) ++ List.range' (lo + c) (nrem - c))[lo + c - 1]? = some y := by
  have := h.len
  simp at this
  rw [List.append_assoc, List.getElem?_append_right (by omega), List.getElem?_append_left (by simp; omega), List.getElem?_append_right (by omega)]
  rw [show lo + c - 1 - P.length - M.length = 0 by omega]
  rfl
theorem Rg.step {P : List Nat} {lo nrem c : Nat} {M : List Nat} {st : SortSt} (h : Rg f P lo nrem c M st) (hc : c < nrem) : Rg f P lo nrem (c + 1) (M ++ [lo + c]) st := by
  refine ⟨?_, ?_⟩
  · have e : List.range' (lo + c) (nrem - c) = (lo + c) :: List.range' (lo + (c + 1)) (nrem - (c + 1)) := by
      rw [show nrem - c = (nrem - (c + 1)) + 1 by omega, List.range'_succ]; rfl
    have := h.arr
    rw [e] at this
    simpa using this
  · rw [List.range'_concat, Nat.one_mul]
    exact h.perm.append_right _
theorem Rg.set {P : List Nat} {lo nrem c : Nat} {M M' : List Nat} {st : SortSt} (h : Rg f P lo nrem c M st) (hp : M'.Perm M) : Rg f P lo nrem c M' (setArr st ((P ++ M' ++ List.range' (lo + c) (nrem - c)).map f).toArray) :=
  ⟨⟨h.arr.kind, h.arr.failed, rfl⟩, hp.trans h.perm⟩
/-- what one question of a rising loop leads to -/
def AscB (prog : Program) (w : World) (A : Around) (E : Value → Shared → Prop) (s : Shared) (lo : Nat) (B : Nat → AscSt → StateT SortSt Sem (ForInStep AscSt)) : Prop :=
  ∀ (x c : Nat) (st : SortSt) (b : Bool) (R : ForInStep AscSt → SortSt → Prop), (∀ R' : Option Bool → SortSt → Prop, R' (some b) st → wpS (model prog w) A E s (ltAt' (lo + c) (lo + c - 1)) R' st) →
    (b = true → R (.done (none, c)) st) → (b = false → R (.yield (none, c + 1)) st) → wpS (model prog w) A E s (B x (none, c)) R st
theorem wpS_ascB {st : SortSt} {P M : List Nat} {lo a nrem : Nat} {B : Nat → AscSt → StateT SortSt Sem (ForInStep AscSt)} {Q : AscSt → SortSt → Prop} (hc : CmpOk prog w A s f n O) (hP : P.length = lo) (hn : lo + nrem ≤ n) (ha : 1 ≤ a) (han : a ≤ nrem) (hR : Rg f P lo nrem a M st) (hs : Up O M) (hB : AscB prog w A E s lo B)
    (h : ∀ c M', a ≤ c → c ≤ nrem → Rg f P lo nrem c M' st → Up O M' → M' = M ++ List.range' (lo + a) (c - a) → (c = nrem ∨ ∃ M0 y, M' = M0 ++ [y] ∧ O.klt (lo + c) y = true) → Q (none, c) st) :
    wpS (model prog w) A E s (forIn [a:nrem] ((none, a) : AscSt) B) Q st := by
  refine wpS_forRange (I := fun x c st' => st' = st ∧ c = (none, x) ∧ ∃ M', Rg f P lo nrem x M' st ∧ Up O M' ∧ M' = M ++ List.range' (lo + a) (x - a)) ?step ?fin ⟨rfl, rfl, M, hR, hs, by simp⟩
  case fin =>
    rintro c st' ⟨rfl, rfl, M', h1, h2, h3⟩
    rw [show max a nrem = nrem by omega] at h1 h3 ⊢
    exact h nrem M' han (Nat.le_refl _) h1 h2 h3 (.inl rfl)
  case step =>
    rintro x c st' hax hxn ⟨rfl, rfl, M', h1, h2, h3⟩
    obtain ⟨M0, y, rfl⟩ := last_split (M := M') (by rw [h1.len]; omega)
    have hy := h1.mem (x := y) (by simp)
    refine hB x x st' (O.klt (lo + x) y) _ (fun R' hR' => wpS_ltAt' hc h1.arr (h1.next hP hxn) (h1.last hP) (by omega) (by omega) hR') (fun e => ?_) fun e => ?_
    · exact h x _ hax (by omega) h1 h2 h3 (.inr ⟨M0, y, rfl, e⟩)
    · refine ⟨rfl, rfl, _, h1.step hxn, h2.push ((KO.later' (by omega)).mp e), ?_⟩
      rw [h3, show x + 1 - a = (x - a) + 1 by omega, List.range'_concat, ← List.append_assoc]
      congr 2; omega
/-- a piece of the program that is run only now and then, ahead of what comes in any case -/
theorem wpS_opt {α : Type} {c : Prop} [Decidable c] {T1 T : StateT SortSt Sem α} {Q : α → SortSt → Prop} {st : SortSt} (J : SortSt → Prop) (h1 : (∀ st', J st' → wpS (model prog w) A E s T Q st') → c → wpS (model prog w) A E s T1 Q st) (h0 : ¬ c → J st)
    (h : ∀ st', J st' → wpS (model prog w) A E s T Q st') : wpS (model prog w) A E s (if c then T1 else T) Q st := by
  by_cases hc : c
  · rw [if_pos hc]; exact h1 h hc
  · rw [if_neg hc]; exact h st (h0 hc)
end
end Mine

open PySem PySem.W PyProof.Rows
namespace Mine
theorem up_equal {O : KO} {a k : Nat} (h : ∀ x ∈ List.range' a k, ∀ y ∈ List.range' a k, O.klt x y = false) : Up O (List.range' a k) := by
  have := List.pairwise_lt_range' (s := a) (n := k) (step := 1) (by decide)
  exact List.Pairwise.imp_of_mem (fun hx hy l => .inr ⟨h _ hy _ hx, l⟩) this
theorem dn_join {O : KO} {L B : List Nat} (hL : Dn O L) (hB : Up O B) (hx : ∀ a ∈ L, ∀ b ∈ B, O.D b a) : Dn O (L ++ B.reverse) :=
  List.pairwise_append.mpr ⟨hL, hB.rev, fun a ha b hb => hx a ha b (List.mem_reverse.mp hb)⟩
section
variable {prog : Program} {w : World} {A : Around} {E : Value → Shared → Prop} {s : Shared}
variable {f : Nat → Keyed} {n : Nat} {O : KO} {pd : Array (Nat × Nat × Nat)}
/-- falling, with a stretch of equal ones at the end that is still to be turned -/
structure Fall (O : KO) (f : Nat → Keyed) (P : List Nat) (lo nrem x q : Nat) (L B : List Nat) (st : SortSt) : Prop where
  rg : Rg f P lo nrem x (L ++ B) st
  eq : B = List.range' (lo + x - (q + 1)) (q + 1)
  le : q + 1 ≤ x
  dn : Dn O L
  cross : ∀ a ∈ L, ∀ b ∈ B, O.D b a
  same : ∀ a ∈ B, ∀ b ∈ B, O.klt a b = false
theorem Fall.up {P L B : List Nat} {lo nrem x q : Nat} {st : SortSt} (h : Fall O f P lo nrem x q L B st) : Up O B := by
  have := h.same
  rw [h.eq] at this ⊢
  exact up_equal this
theorem Fall.all {P L B : List Nat} {lo nrem x q : Nat} {st : SortSt} (h : Fall O f P lo nrem x q L B st) : Dn O (L ++ B.reverse) := dn_join h.dn h.up h.cross
theorem Fall.last {P L B : List Nat} {lo nrem x q : Nat} {st : SortSt} (h : Fall O f P lo nrem x q L B st) : ∃ B0, B = B0 ++ [lo + x - 1] := by
  refine ⟨List.range' (lo + x - (q + 1)) q, ?_⟩
  have := h.le
  rw [h.eq, List.range'_concat]
  congr 2; omega
theorem Fall.lenL {P L B : List Nat} {lo nrem x q : Nat} {st : SortSt} (h : Fall O f P lo nrem x q L B st) : L.length = x - (q + 1) ∧ B.length = q + 1 := by
  have h1 := h.rg.len
  have h2 : B.length = q + 1 := by rw [h.eq]; simp
  rw [List.length_append] at h1
  omega
theorem wpS_turn {st : SortSt} {P L B : List Nat} {lo nrem x q : Nat} {Q : Unit → SortSt → Prop} (hP : P.length = lo) (h : Fall O f P lo nrem x q L B st)
    (k : ∀ st', Rg f P lo nrem x (L ++ B.reverse) st' → pendingOf st' = pendingOf st → Q () st') : wpS (model prog w) A E s (reverseSlice' (lo + x - (q + 1)) (lo + x)) Q st := by
  obtain ⟨l1, l2⟩ := h.lenL
  have := h.le
  have hA : Arr f ((P ++ L) ++ B ++ List.range' (lo + x) (nrem - x)) st := by have := h.rg.arr; simpa using this
  refine wpS_reverse hA (by rw [List.length_append]; omega) (by rw [List.length_append]; omega) ?_
  refine k _ ⟨⟨hA.kind, hA.failed, ?_⟩, ?_⟩ rfl
  · show ((P ++ L ++ B.reverse ++ List.range' (lo + x) (nrem - x)).map f).toArray = _
    simp
  · exact (List.Perm.append_left L (List.reverse_perm B)).trans h.rg.perm
theorem Fall.smaller {P L B : List Nat} {lo nrem x q : Nat} {st st' : SortSt} (h : Fall O f P lo nrem x q L B st) (hx : x < nrem) (e : O.klt (lo + x) (lo + x - 1) = true) (hR : Rg f P lo nrem x (L ++ B.reverse) st') :
    Fall O f P lo nrem (x + 1) 0 (L ++ B.reverse) [lo + x] st' := by
  obtain ⟨B0, hB⟩ := h.last
  have hl : lo + x - 1 ∈ B := by rw [hB]; simp
  have k : ∀ b ∈ B, O.D (lo + x) b := fun b hb => by
    rcases O.neg _ b _ e with h' | h'
    · exact .inl h'
    · rw [h.same b hb _ hl] at h'; cases h'
  refine ⟨hR.step hx, by rw [show lo + (x + 1) - (0 + 1) = lo + x by omega]; rfl, by omega, h.all, fun a ha b hb => ?_, fun a ha b hb => ?_⟩
  · rw [List.mem_singleton.mp hb]
    rcases List.mem_append.mp ha with ha | ha
    · exact (k _ hl).trans (h.cross a ha _ hl)
    · exact k a (List.mem_reverse.mp ha)
  · rw [List.mem_singleton.mp hb, List.mem_singleton.mp ha]; exact O.irrefl _
theorem Fall.equal {P L B : List Nat} {lo nrem x q : Nat} {st : SortSt} (h : Fall O f P lo nrem x q L B st) (hx : x < nrem) (e1 : O.klt (lo + x) (lo + x - 1) = false) (e2 : O.klt (lo + x - 1) (lo + x) = false) :
    Fall O f P lo nrem (x + 1) (q + 1) L (B ++ [lo + x]) st := by
  obtain ⟨B0, hB⟩ := h.last
  have hl : lo + x - 1 ∈ B := by rw [hB]; simp
  have hle := h.le
  have u : ∀ a ∈ B, O.klt a (lo + x) = false ∧ O.klt (lo + x) a = false := fun a ha =>
    ⟨KO.kle_trans (b := lo + x - 1) e2 (h.same a ha _ hl), KO.kle_trans (b := lo + x - 1) (h.same _ hl a ha) e1⟩
  refine ⟨by have := h.rg.step hx; rwa [List.append_assoc] at this, ?_, by omega, h.dn, fun a ha b hb => ?_, fun a ha b hb => ?_⟩
  · rw [h.eq, List.range'_concat (n := q + 1), show lo + (x + 1) - (q + 1 + 1) = lo + x - (q + 1) by omega]
    congr 2; omega
  · rcases List.mem_append.mp hb with hb | hb
    · exact h.cross a ha b hb
    · rw [List.mem_singleton.mp hb]
      have hm := h.rg.mem (x := a) (List.mem_append_left _ ha)
      have k : O.klt (lo + x - 1) a = true := by
        rcases h.cross a ha _ hl with k | ⟨_, k⟩
        · exact k
        · omega
      rcases O.neg _ (lo + x) _ k with k' | k'
      · rw [e2] at k'; cases k'
      · exact .inl k'
  · rcases List.mem_append.mp ha with ha | ha <;> rcases List.mem_append.mp hb with hb | hb
    · exact h.same a ha b hb
    · rw [List.mem_singleton.mp hb]; exact (u a ha).1
    · rw [List.mem_singleton.mp ha]; exact (u b hb).2
    · rw [List.mem_singleton.mp ha, List.mem_singleton.mp hb]; exact O.irrefl _
theorem wpS_countRunG {st : SortSt} {P : List Nat} {lo nrem : Nat} {Q : Option Nat → SortSt → Prop} (hc : CmpOk prog w A s f n O) (hP : P.length = lo) (hn : lo + nrem ≤ n) (h1 : 1 ≤ nrem) (hA : Arr f (P ++ List.range' lo nrem) st) (hpd : pendingOf st = pd)
    (h : ∀ m M' st', 1 ≤ m → m ≤ nrem → Rg f P lo nrem m M' st' → Up O M' → pendingOf st' = pd → Q (some m) st') : wpS (model prog w) A E s (countRun' lo nrem) Q st := by
  rw [countRun'_eq]
  dsimp only
  have hR1 : Rg f P lo nrem 1 [lo] st := by
    refine ⟨?_, .refl _⟩
    have e : List.range' lo nrem = lo :: List.range' (lo + 1) (nrem - 1) := by rw [show nrem = (nrem - 1) + 1 by omega, List.range'_succ]; rfl
    rw [e] at hA
    simpa using hA
  refine wpS_bind (wpS_ascB hc hP hn (Nat.le_refl 1) h1 hR1 (List.pairwise_singleton _ _) ?hB fun c M' hc1 hc2 hR hU hM hor => ?_)
  case hB =>
    intro x c st b R k1 k2 k3
    refine wpS_bind (k1 _ ?_)
    cases b
    · exact wpS_pure (k3 rfl)
    · exact wpS_pure (k2 rfl)
  have hM' : M' = List.range' lo c := by
    rw [hM, show c = (c - 1) + 1 by omega, List.range'_succ]; rfl
  dsimp only
  by_cases hcn : c = nrem
  · rw [if_pos (by simpa using hcn)]
    exact wpS_pure (h c M' st hc1 hc2 hR hU hpd)
  rw [if_neg (by simpa using hcn)]
  obtain ⟨M0, y, hy, hlt⟩ := hor.resolve_left hcn
  have hym' : y ∈ M' := by rw [hy]; simp
  have key : ∀ st' L', (∀ a ∈ M', ∀ b ∈ M', O.klt a b = false) → L' = M'.reverse → Rg f P lo nrem c L' st' → Fall O f P lo nrem (c + 1) 0 L' [lo + c] st' := by
    intro st' L' e2 hL hR'
    subst hL
    refine ⟨hR'.step (by omega), by rw [show lo + (c + 1) - (0 + 1) = lo + c by omega]; rfl, by omega, ?_, fun a ha b hb => ?_, fun a ha b hb => ?_⟩
    · rw [hM'] at e2 ⊢
      exact (up_equal e2).rev
    · rw [List.mem_singleton.mp hb]
      rcases O.neg _ a _ hlt with k | k
      · exact .inl k
      · rw [e2 a (List.mem_reverse.mp ha) y hym'] at k; cases k
    · rw [List.mem_singleton.mp hb, List.mem_singleton.mp ha]; exact O.irrefl _
  refine wpS_opt (fun st' => ∃ L, Fall O f P lo nrem (c + 1) 0 L [lo + c] st' ∧ pendingOf st' = pd) (fun rest hgt => ?_) (fun hgt => ?_) fun st1 ⟨L, hF, hpd1⟩ => ?_
  · have hlo : (P ++ M' ++ List.range' (lo + c) (nrem - c))[lo]? = some lo := by
      rw [hM', List.append_assoc, List.getElem?_append_right (by omega), show lo - P.length = 0 by omega, show c = (c - 1) + 1 by omega, List.range'_succ]; rfl
    have hyl := hR
    rw [hy] at hyl
    have hym := hR.mem hym'
    have hlast := hyl.last hP
    rw [← hy] at hlast
    refine wpS_bind (wpS_ltAt' hc hR.arr hlo hlast (by omega) (by omega) ?_)
    cases e : O.klt lo y
    · simp only [Bool.false_eq_true, if_false]
      have up : ∀ a ∈ M', O.klt a lo = false ∧ O.klt y a = false := fun a ha => by
        constructor
        · rw [hM', show c = (c - 1) + 1 by omega, List.range'_succ] at hU ha
          rcases List.mem_cons.mp ha with rfl | ha
          · exact O.irrefl _
          · exact ((List.pairwise_cons.mp hU).1 a ha).le
        · rw [hy] at hU ha
          rcases List.mem_append.mp ha with ha | ha
          · exact ((List.pairwise_append.mp hU).2.2 a ha y (List.mem_singleton.mpr rfl)).le
          · rw [List.mem_singleton.mp ha]; exact O.irrefl _
      have all : ∀ a ∈ M', ∀ b ∈ M', O.klt a b = false := fun a ha b hb =>
        KO.kle_trans (a := b) (b := y) (c := a) (up b hb).2 (KO.kle_trans (a := y) (b := lo) (c := a) e (up a ha).1)
      refine wpS_bind (wpS_reverse hR.arr hP.symm (by rw [hP, hR.len]) ?_)
      exact rest _ ⟨M'.reverse, key _ _ all rfl (hR.set (List.reverse_perm M')), hpd⟩
    · simp only [if_true]
      exact wpS_pure (h c M' st hc1 hc2 hR hU hpd)
  · obtain rfl : c = 1 := by omega
    have hM1 : M' = [lo] := by rw [hM']; rfl
    have all : ∀ a ∈ M', ∀ b ∈ M', O.klt a b = false := fun a ha b hb => by
      rw [hM1] at ha hb
      rw [List.mem_singleton.mp ha, List.mem_singleton.mp hb]; exact O.irrefl _
    exact ⟨M', key st M' all (by rw [hM1]; rfl) hR, hpd⟩
  -- the falling part
  refine wpS_bind (wpS_lift (wpAny_rule ⟨rfl, ?_⟩))
  refine wpS_bind (wpS_mono (wpS_forRange (I := fun x z st' => pendingOf st' = pd ∧ ∃ q L' B', z = (none, x, q) ∧ Fall O f P lo nrem x q L' B' st')
    (Q := fun z st' => pendingOf st' = pd ∧ ∃ m q L' B', z = (none, m, q) ∧ 1 ≤ m ∧ m ≤ nrem ∧ Fall O f P lo nrem m q L' B' st') ?step ?fin ⟨hpd1, 0, L, [lo + c], rfl, hF⟩) ?post)
  case fin =>
    rintro z st' ⟨hp, q, L', B', rfl, hF'⟩
    rw [show max (c + 1) nrem = nrem by omega] at hF' ⊢
    exact ⟨hp, nrem, q, L', B', rfl, h1, Nat.le_refl _, hF'⟩
  case step =>
    rintro x z st' hax hxn ⟨hp, q, L', B', rfl, hF'⟩
    dsimp only
    obtain ⟨B0, hB⟩ := hF'.last
    have hle := hF'.le
    have hl : (P ++ (L' ++ B') ++ List.range' (lo + x) (nrem - x))[lo + x - 1]? = some (lo + x - 1) := by
      have := hF'.rg
      rw [hB, ← List.append_assoc L' B0] at this ⊢
      exact this.last hP
    have hnx := hF'.rg.next hP hxn
    refine wpS_bind (wpS_ltAt' hc hF'.rg.arr hnx hl (by omega) (by omega) ?_)
    cases e : O.klt (lo + x) (lo + x - 1)
    · simp only [Bool.false_eq_true, if_false]
      refine wpS_bind (wpS_ltAt' hc hF'.rg.arr hl hnx (by omega) (by omega) ?_)
      cases e2 : O.klt (lo + x - 1) (lo + x)
      · simp only [Bool.false_eq_true, if_false]
        exact wpS_pure ⟨hp, q + 1, _, _, rfl, hF'.equal hxn e e2⟩
      · simp only [if_true]
        exact wpS_pure ⟨hp, x, q, L', B', rfl, by omega, by omega, hF'⟩
    · simp only [if_true]
      refine wpS_opt (fun st2 => pendingOf st2 = pd ∧ Rg f P lo nrem x (L' ++ B'.reverse) st2) (fun rest hq => ?_) (fun hq => ?_) fun st2 ⟨hp2, hR2⟩ => ?_
      · exact wpS_bind (wpS_turn hP hF' fun st2 hR2 hp2 => rest st2 ⟨hp2.trans hp, hR2⟩)
      · obtain rfl : q = 0 := by omega
        have hr : B'.reverse = B' := by rw [hF'.eq]; rfl
        exact ⟨hp, by rw [hr]; exact hF'.rg⟩
      · exact wpS_pure ⟨hp2, 0, _, _, rfl, hF'.smaller hxn e hR2⟩
  case post =>
    rintro z st' ⟨hp, m, q, L', B', rfl, hm1, hm2, hF'⟩
    dsimp only
    have hd := hF'.all
    refine wpS_opt (fun st2 => pendingOf st2 = pd ∧ Rg f P lo nrem m (L' ++ B'.reverse) st2) (fun rest hq => ?_) (fun hq => ?_) fun st2 ⟨hp2, hR2⟩ => ?_
    · exact wpS_bind (wpS_turn hP hF' fun st2 hR2 hp2 => rest st2 ⟨hp2.trans hp, hR2⟩)
    · obtain rfl : q = 0 := by omega
      have hr : B'.reverse = B' := by rw [hF'.eq]; rfl
      exact ⟨hp, by rw [hr]; exact hF'.rg⟩
    · refine wpS_bind (wpS_reverse hR2.arr hP.symm (by rw [hP, hR2.len]) ?_)
      refine wpS_bind (wpS_ascB hc hP hn hm1 hm2 (hR2.set (List.reverse_perm _)) hd.rev ?hB2 fun m' M2 hm3 hm4 hR3 hU3 _ _ => ?_)
      case hB2 =>
        intro x c st b R k1 k2 k3
        refine wpS_bind (k1 _ ?_)
        cases b
        · exact wpS_pure (k3 rfl)
        · exact wpS_pure (k2 rfl)
      exact wpS_pure (h m' M2 _ (by omega) hm4 hR3 hU3 hp2)
end
end Mine

open PySem PySem.W PyProof.Rows
namespace Mine
theorem Up.get {O : KO} {M : List Nat} (h : Up O M) {i j a b : Nat} (hij : i < j) (ha : M[i]? = some a) (hb : M[j]? = some b) : O.D a b := by
  obtain ⟨hi, rfl⟩ := List.getElem?_eq_some_iff.mp ha
  obtain ⟨hj, rfl⟩ := List.getElem?_eq_some_iff.mp hb
  exact List.pairwise_iff_getElem.mp h i j hi hj hij
theorem up_insert {O : KO} {M : List Nat} {l p : Nat} (h : Up O M) (h1 : ∀ i y, i < l → M[i]? = some y → O.D y p) (h2 : ∀ i y, l ≤ i → M[i]? = some y → O.D p y) : Up O (M.take l ++ p :: M.drop l) := by
  have hs := h
  rw [← List.take_append_drop l M] at hs
  obtain ⟨s1, s2, s3⟩ := List.pairwise_append.mp hs
  have m1 : ∀ y ∈ M.take l, O.D y p := fun y hy => by
    obtain ⟨i, hi, e⟩ := List.mem_iff_getElem.mp hy
    rw [List.length_take] at hi
    exact h1 i y (by omega) (by rw [List.getElem_take] at e; exact List.getElem?_eq_some_iff.mpr ⟨by omega, e⟩)
  have m2 : ∀ y ∈ M.drop l, O.D p y := fun y hy => by
    obtain ⟨i, hi, e⟩ := List.mem_iff_getElem.mp hy
    rw [List.length_drop] at hi
    exact h2 (l + i) y (by omega) (by rw [List.getElem_drop] at e; exact List.getElem?_eq_some_iff.mpr ⟨by omega, e⟩)
  refine List.pairwise_append.mpr ⟨s1, List.pairwise_cons.mpr ⟨m2, s2⟩, fun a ha b hb => ?_⟩
  rcases List.mem_cons.mp hb with rfl | hb
  · exact m1 a ha
  · exact s3 a ha b hb
section
variable {prog : Program} {w : World} {A : Around} {E : Value → Shared → Prop} {s : Shared}
variable {f : Nat → Keyed} {n : Nat} {O : KO} {pd : Array (Nat × Nat × Nat)}
theorem Rg.mid {P M : List Nat} {lo nrem c i : Nat} {st : SortSt} (h : Rg f P lo nrem c M st) (hP : P.length = lo) (hi : i < c) : (P ++ M ++ List.range' (lo + c) (nrem - c))[lo + i]? = M[i]? := by
  have := h.len
  rw [List.append_assoc, List.getElem?_append_right (by omega), List.getElem?_append_left (by omega)]
  congr 1; omega
theorem wpS_binarySortG {st : SortSt} {P M : List Nat} {lo nrem m ok : Nat} {Q : Bool → SortSt → Prop} (hc : CmpOk prog w A s f n O) (hP : P.length = lo) (hn : lo + nrem ≤ n) (h1 : 1 ≤ ok) (hok : ok ≤ m) (hm : m ≤ nrem) (hR : Rg f P lo nrem ok M st) (hU : Up O M) (hpd : pendingOf st = pd)
    (h : ∀ M' st', Rg f P lo nrem m M' st' → Up O M' → pendingOf st' = pd → Q true st') : wpS (model prog w) A E s (binarySort' lo m ok) Q st := by
  rw [binarySort'_eq]
  refine wpS_bind (wpS_mono (wpS_forRange (I := fun k c st' => c = (none, ()) ∧ pendingOf st' = pd ∧ ∃ M', Rg f P lo nrem k M' st' ∧ Up O M')
    (Q := fun c st' => c = (none, ()) ∧ pendingOf st' = pd ∧ ∃ M', Rg f P lo nrem m M' st' ∧ Up O M') ?step ?fin ?init) ?post)
  case post =>
    rintro c st' ⟨rfl, hp, M', hR', hU'⟩
    exact wpS_pure (h M' st' hR' hU' hp)
  case init =>
    rw [show max ok 1 = ok by omega]
    exact ⟨rfl, hpd, M, hR, hU⟩
  case fin =>
    rintro c st' ⟨hc', hp, M', hR', hU'⟩
    rw [show max (max ok 1) m = m by omega] at hR'
    exact ⟨hc', hp, M', hR', hU'⟩
  case step =>
    rintro k c st' hak hkn ⟨rfl, hp, M', hR', hU'⟩
    have hlen := hR'.len
    refine wpS_bind (wpS_mono (wpS_forRange (I := fun x c st'' => st'' = st' ∧ ∃ l r, c = (none, l, r) ∧ l ≤ r ∧ r ≤ k ∧ r - l ≤ k - x ∧
        (∀ i y, i < l → M'[i]? = some y → O.klt (lo + k) y = false) ∧ (∀ i y, r ≤ i → M'[i]? = some y → O.klt (lo + k) y = true))
      (Q := fun c st'' => st'' = st' ∧ ∃ l r, c = (none, l, r) ∧ l ≤ k ∧
        (∀ i y, i < l → M'[i]? = some y → O.klt (lo + k) y = false) ∧ (∀ i y, l ≤ i → M'[i]? = some y → O.klt (lo + k) y = true)) ?istep ?ifin ?iinit) ?ipost)
    case iinit => exact ⟨rfl, 0, k, rfl, by omega, by omega, by omega, fun i y hi => by omega, fun i y h1 h2 => by
      rw [List.getElem?_eq_none (by omega)] at h2; cases h2⟩
    case ifin =>
      rintro c st'' ⟨rfl, l, r, rfl, hlr, hrk, hm, hlo, hhi⟩
      have : l = r := by omega
      subst this
      exact ⟨rfl, l, l, rfl, hrk, hlo, hhi⟩
    case istep =>
      rintro x c st'' _ hxk ⟨rfl, l, r, rfl, hlr, hrk, hm', hlo, hhi⟩
      dsimp only
      by_cases hge : l ≥ r
      · rw [if_pos hge]
        have : l = r := by omega
        subst this
        exact wpS_pure ⟨rfl, l, l, rfl, hrk, hlo, hhi⟩
      · rw [if_neg hge]
        obtain ⟨y, hy⟩ : ∃ y, M'[(l + r) / 2]? = some y := ⟨_, List.getElem?_eq_getElem (by omega)⟩
        have hym := hR'.mem (List.mem_of_getElem? hy)
        refine wpS_bind (wpS_ltAt' hc hR'.arr (hR'.next hP (by omega)) ((hR'.mid hP (by omega)).trans hy) (by omega) (by omega) ?_)
        cases e : O.klt (lo + k) y
        · simp only [Bool.false_eq_true, if_false]
          refine wpS_pure ⟨rfl, (l + r) / 2 + 1, r, rfl, by omega, by omega, by omega, fun i z h1 hz => ?_, hhi⟩
          by_cases hi : i = (l + r) / 2
          · subst hi; rw [hy] at hz; cases hz; exact e
          · exact KO.kle_trans (hU'.get (by omega) hz hy).le e
        · simp only [if_true]
          refine wpS_pure ⟨rfl, l, (l + r) / 2, rfl, by omega, by omega, by omega, hlo, fun i z h1 hz => ?_⟩
          by_cases hi : i = (l + r) / 2
          · subst hi; rw [hy] at hz; cases hz; exact e
          · rcases O.neg _ z _ e with h' | h'
            · exact h'
            · rw [(hU'.get (by omega) hy hz).le] at h'; cases h'
    case ipost =>
      rintro c st'' ⟨rfl, l, r, rfl, hlk, hlo, hhi⟩
      dsimp only
      have hs := (hR'.step (c := k) (by omega))
      have hA : Arr f ((P ++ M'.take l) ++ M'.drop l ++ (lo + k) :: List.range' (lo + (k + 1)) (nrem - (k + 1))) st'' := by
        have := hs.arr
        rw [← List.take_append_drop l M'] at this
        simpa using this
      refine wpS_bind (wpS_moveDown hA (by rw [List.length_append, List.length_take, List.length_drop]; omega) (by rw [List.length_append, List.length_take]; omega) ?_)
      refine wpS_pure ⟨rfl, hp, M'.take l ++ (lo + k) :: M'.drop l, ⟨⟨hA.kind, hA.failed, ?_⟩, ?_⟩, up_insert hU' (fun i y hi hy => ?_) (fun i y hi hy => .inl (hhi i y hi hy))⟩
      · show ((P ++ List.take l M' ++ (lo + k) :: List.drop l M' ++ _).map f).toArray = _
        simp
      · refine List.Perm.trans ?_ hs.perm
        have : (M'.take l ++ (lo + k) :: M'.drop l).Perm ((lo + k) :: (M'.take l ++ M'.drop l)) := List.perm_middle
        rw [List.take_append_drop] at this
        exact this.trans (List.perm_append_singleton _ _).symm
      · have := hR'.mem (List.mem_of_getElem? hy)
        exact (KO.later' (by omega)).mp (hlo i y hi hy)
end
end Mine

open PySem PySem.W PyProof.Rows
namespace Mine
def gallop' : Bool → Keyed → Array Keyed → Nat → Nat → Nat → StateT SortSt Sem (Option Nat) := sortPriv% PySem.Builtin.gallop
noncomputable def beyond' (left : Bool) (key : Keyed) (arr : Array Keyed) (base i : Nat) : StateT SortSt Sem (Option Bool) := do
  let x ← elem' arr (base + i)
  if left then lt' x key else return (← lt' key x).map (!·)
section
variable {prog : Program} {w : World} {A : Around} {E : Value → Shared → Prop} {s : Shared}
theorem wpS_gallop {st : SortSt} {left : Bool} {key : Keyed} {arr : Array Keyed} {base n hint : Nat} {b : Nat → Bool} {Q : Option Nat → SortSt → Prop}
    (hb : ∀ i (R : Option Bool → SortSt → Prop), i < n → R (some (b i)) st → wpS (model prog w) A E s (beyond' left key arr base i) R st)
    (hmono : ∀ i j, i ≤ j → j < n → b j = true → b i = true) (hh : hint < n)
    (h : ∀ k, k ≤ n → (∀ i, i < k → b i = true) → (∀ i, k ≤ i → i < n → b i = false) → Q (some k) st) : wpS (model prog w) A E s (gallop' left key arr base n hint) Q st := by
  unfold gallop'
  k_delta "gallop"
  dsimp only
  refine wpS_bind (hb hint _ hh ?_)
  dsimp only
  cases e : b hint
  · simp only [Bool.false_eq_true, if_false]
    refine wpS_bind (wpS_mono (wpS_forRange (I := fun x c st' => st' = st ∧ ∃ l o, c = (none, l, o) ∧ l < o ∧ x + 1 ≤ o ∧ l ≤ hint ∧ b (hint - l) = false)
      (Q := fun c st' => st' = st ∧ ∃ l o, c = (none, l, o) ∧ l < o ∧ l ≤ hint ∧ b (hint - l) = false ∧ (o ≥ hint + 1 ∨ (o ≤ hint ∧ b (hint - o) = true))) ?step ?fin ?init) ?post)
    case init => exact ⟨rfl, 0, 1, rfl, by omega, by omega, by omega, e⟩
    case fin =>
      rintro c st' ⟨rfl, l, o, rfl, a1, a2, a3, a4⟩
      exact ⟨rfl, l, o, rfl, a1, a3, a4, .inl (by omega)⟩
    case step =>
      rintro x c st' _ hx ⟨rfl, l, o, rfl, a1, a2, a3, a4⟩
      dsimp only
      by_cases hge : o ≥ hint + 1
      · rw [if_pos hge]
        exact wpS_pure ⟨rfl, l, o, rfl, a1, a3, a4, .inl hge⟩
      · rw [if_neg hge]
        refine wpS_bind (hb _ _ (by omega) ?_)
        cases e' : b (hint - o)
        · simp only [Bool.false_eq_true, if_false]
          exact wpS_pure ⟨rfl, o, 2 * o + 1, rfl, by omega, by omega, by omega, e'⟩
        · simp only [if_true]
          exact wpS_pure ⟨rfl, l, o, rfl, a1, a3, a4, .inr ⟨by omega, e'⟩⟩
    case post =>
      rintro c st' ⟨rfl, l, o, rfl, a1, a3, a4, a5⟩
      dsimp only
      have k1 : hint + 1 - min o (hint + 1) ≤ hint - l := by omega
      have k2 : hint - l ≤ n := by omega
      have klo : ∀ i, i < hint + 1 - min o (hint + 1) → b i = true := fun i hi => by
        rcases a5 with a5 | ⟨a5, a6⟩
        · omega
        · exact hmono _ _ (by omega) (by omega) a6
      have khi : ∀ i, hint - l ≤ i → i < n → b i = false := fun i q1 q2 => by
        cases e' : b i
        · rfl
        · rw [hmono _ _ q1 q2 e'] at a4; cases a4
      clear a1 a3 a4 a5 e
      refine wpS_bind (wpS_mono (wpS_forRange (I := fun x c s2 => s2 = st' ∧ ∃ l r, c = (none, l, r) ∧ l ≤ r ∧ r ≤ n ∧ r - l ≤ n - x ∧ (∀ i, i < l → b i = true) ∧ (∀ i, r ≤ i → i < n → b i = false))
        (Q := fun c s2 => s2 = st' ∧ ∃ k, c = (none, k, k) ∧ k ≤ n ∧ (∀ i, i < k → b i = true) ∧ (∀ i, k ≤ i → i < n → b i = false)) ?bstep ?bfin ?binit) ?bpost)
      case binit => exact ⟨rfl, _, _, rfl, k1, k2, by omega, klo, khi⟩
      case bfin =>
        rintro c s2 ⟨rfl, l, r, rfl, a1, a2, a3, a4, a5⟩
        have : l = r := by omega
        subst this
        exact ⟨rfl, l, rfl, a2, a4, a5⟩
      case bpost =>
        rintro c s2 ⟨rfl, k, rfl, a2, a4, a5⟩
        exact wpS_pure (h k a2 a4 a5)
      case bstep =>
        rintro x c s2 _ hx ⟨rfl, l, r, rfl, a1, a2, a3, a4, a5⟩
        dsimp only
        by_cases hge : l ≥ r
        · rw [if_pos hge]
          have : l = r := by omega
          subst this
          exact wpS_pure ⟨rfl, l, rfl, a2, a4, a5⟩
        · rw [if_neg hge]
          refine wpS_bind (hb _ _ (by omega) ?_)
          cases e : b (l + (r - l) / 2)
          · simp only [Bool.false_eq_true, if_false]
            refine wpS_pure ⟨rfl, l, _, rfl, by omega, by omega, by omega, a4, fun i q1 q2 => ?_⟩
            cases e' : b i
            · rfl
            · rw [hmono _ _ q1 q2 e'] at e; cases e
          · simp only [if_true]
            refine wpS_pure ⟨rfl, _, r, rfl, by omega, by omega, by omega, fun i q => ?_, a5⟩
            exact hmono _ _ (by omega) (by omega) e
  · simp only [if_true]
    refine wpS_bind (wpS_mono (wpS_forRange (I := fun x c st' => st' = st ∧ ∃ l o, c = (none, l, o) ∧ l < o ∧ x + 1 ≤ o ∧ hint + l < n ∧ b (hint + l) = true)
      (Q := fun c st' => st' = st ∧ ∃ l o, c = (none, l, o) ∧ l < o ∧ hint + l < n ∧ b (hint + l) = true ∧ (o ≥ n - hint ∨ (hint + o < n ∧ b (hint + o) = false))) ?step2 ?fin2 ?init2) ?post2)
    case init2 => exact ⟨rfl, 0, 1, rfl, by omega, by omega, by omega, e⟩
    case fin2 =>
      rintro c st' ⟨rfl, l, o, rfl, a1, a2, a3, a4⟩
      exact ⟨rfl, l, o, rfl, a1, a3, a4, .inl (by omega)⟩
    case step2 =>
      rintro x c st' _ hx ⟨rfl, l, o, rfl, a1, a2, a3, a4⟩
      dsimp only
      by_cases hge : o ≥ n - hint
      · rw [if_pos hge]
        exact wpS_pure ⟨rfl, l, o, rfl, a1, a3, a4, .inl hge⟩
      · rw [if_neg hge]
        refine wpS_bind (hb _ _ (by omega) ?_)
        cases e' : b (hint + o)
        · simp only [Bool.not_false, if_true]
          exact wpS_pure ⟨rfl, l, o, rfl, a1, a3, a4, .inr ⟨by omega, e'⟩⟩
        · simp only [Bool.not_true, Bool.false_eq_true, if_false]
          exact wpS_pure ⟨rfl, o, 2 * o + 1, rfl, by omega, by omega, by omega, e'⟩
    case post2 =>
      rintro c st' ⟨rfl, l, o, rfl, a1, a3, a4, a5⟩
      dsimp only
      have k1 : hint + l + 1 ≤ hint + min o (n - hint) := by omega
      have k2 : hint + min o (n - hint) ≤ n := by omega
      have klo : ∀ i, i < hint + l + 1 → b i = true := fun i hi => hmono _ _ (by omega) (by omega) a4
      have khi : ∀ i, hint + min o (n - hint) ≤ i → i < n → b i = false := fun i q1 q2 => by
        rcases a5 with a5 | ⟨a5, a6⟩
        · omega
        · cases e' : b i
          · rfl
          · rw [hmono _ _ (by omega) q2 e'] at a6; cases a6
      clear a1 a3 a4 a5 e
      refine wpS_bind (wpS_mono (wpS_forRange (I := fun x c s2 => s2 = st' ∧ ∃ l r, c = (none, l, r) ∧ l ≤ r ∧ r ≤ n ∧ r - l ≤ n - x ∧ (∀ i, i < l → b i = true) ∧ (∀ i, r ≤ i → i < n → b i = false))
        (Q := fun c s2 => s2 = st' ∧ ∃ k, c = (none, k, k) ∧ k ≤ n ∧ (∀ i, i < k → b i = true) ∧ (∀ i, k ≤ i → i < n → b i = false)) ?bstep ?bfin ?binit) ?bpost)
      case binit => exact ⟨rfl, _, _, rfl, k1, k2, by omega, klo, khi⟩
      case bfin =>
        rintro c s2 ⟨rfl, l, r, rfl, a1, a2, a3, a4, a5⟩
        have : l = r := by omega
        subst this
        exact ⟨rfl, l, rfl, a2, a4, a5⟩
      case bpost =>
        rintro c s2 ⟨rfl, k, rfl, a2, a4, a5⟩
        exact wpS_pure (h k a2 a4 a5)
      case bstep =>
        rintro x c s2 _ hx ⟨rfl, l, r, rfl, a1, a2, a3, a4, a5⟩
        dsimp only
        by_cases hge : l ≥ r
        · rw [if_pos hge]
          have : l = r := by omega
          subst this
          exact wpS_pure ⟨rfl, l, rfl, a2, a4, a5⟩
        · rw [if_neg hge]
          refine wpS_bind (hb _ _ (by omega) ?_)
          cases e : b (l + (r - l) / 2)
          · simp only [Bool.false_eq_true, if_false]
            refine wpS_pure ⟨rfl, l, _, rfl, by omega, by omega, by omega, a4, fun i q1 q2 => ?_⟩
            cases e' : b i
            · rfl
            · rw [hmono _ _ q1 q2 e'] at e; cases e
          · simp only [if_true]
            refine wpS_pure ⟨rfl, _, r, rfl, by omega, by omega, by omega, fun i q => ?_, a5⟩
            exact hmono _ _ (by omega) (by omega) e
end
end Mine

open PySem PySem.W PyProof.Rows
namespace Mine
def mergeLo' : Array Keyed → Array Keyed → StateT SortSt Sem (Array Keyed) := sortPriv% PySem.Builtin.mergeLo
def setGallop' : Nat → StateT SortSt Sem Unit := sortPriv% PySem.Builtin.setMinGallop
abbrev setGal (st : SortSt) (g : Nat) : SortSt := SortSt.mk' (kindOf st) (arrOf st) (pendingOf st) g (failedOf st)
theorem setGallop'_eq (g : Nat) : setGallop' g = modify fun s => setGal s g := rfl
/-- all but the count of turns till galloping -/
structure SameS (st₀ st : SortSt) : Prop where
  kind : kindOf st = kindOf st₀
  arr : arrOf st = arrOf st₀
  pend : pendingOf st = pendingOf st₀
  failed : failedOf st = failedOf st₀
theorem SameS.rfl' {st : SortSt} : SameS st st := ⟨rfl, rfl, rfl, rfl⟩
theorem SameS.gal {st₀ st : SortSt} (h : SameS st₀ st) (g : Nat) : SameS st₀ (setGal st g) := ⟨h.kind, h.arr, h.pend, h.failed⟩
/-- what is merged already: ia of the one, ib of the other -/
structure Mg (O : KO) (La Lb Lo : List Nat) (ia ib : Nat) : Prop where
  perm : Lo.Perm (La.take ia ++ Lb.take ib)
  up : Up O Lo
  xa : ∀ x ∈ Lo, ∀ y ∈ La.drop ia, O.D x y
  xb : ∀ x ∈ Lo, ∀ y ∈ Lb.drop ib, O.D x y
theorem Up.drop {O : KO} {M : List Nat} (h : Up O M) (k : Nat) : Up O (M.drop k) := List.Pairwise.drop h
theorem Up.cut {O : KO} {M : List Nat} (h : Up O M) (k : Nat) : Up O (M.take k) ∧ ∀ x ∈ M.take k, ∀ y ∈ M.drop k, O.D x y := by
  have hs := h
  rw [← List.take_append_drop k M] at hs
  obtain ⟨s1, s2, s3⟩ := List.pairwise_append.mp hs
  exact ⟨s1, s3⟩
theorem take_plus (M : List Nat) (i k : Nat) : M.take (i + k) = M.take i ++ (M.drop i).take k := by rw [List.take_add]
theorem Mg.pushA {O : KO} {La Lb Lo : List Nat} {ia ib : Nat} (h : Mg O La Lb Lo ia ib) (hU : Up O La) (k : Nat) (hb : ∀ x ∈ (La.drop ia).take k, ∀ y ∈ Lb.drop ib, O.D x y) : Mg O La Lb (Lo ++ (La.drop ia).take k) (ia + k) ib := by
  obtain ⟨u1, u2⟩ := (hU.drop ia).cut k
  have e : La.drop (ia + k) = (La.drop ia).drop k := by rw [List.drop_drop]
  refine ⟨?_, List.pairwise_append.mpr ⟨h.up, u1, fun x hx y hy => h.xa x hx y (List.mem_of_mem_take hy)⟩, fun x hx y hy => ?_, fun x hx y hy => ?_⟩
  · rw [take_plus]
    have p := h.perm.append_right ((La.drop ia).take k)
    refine p.trans ?_
    rw [List.append_assoc, List.append_assoc]
    exact List.Perm.append_left _ List.perm_append_comm
  · rw [e] at hy
    rcases List.mem_append.mp hx with hx | hx
    · exact h.xa x hx y (List.mem_of_mem_drop hy)
    · exact u2 x hx y hy
  · rcases List.mem_append.mp hx with hx | hx
    · exact h.xb x hx y hy
    · exact hb x hx y hy
theorem Mg.pushB {O : KO} {La Lb Lo : List Nat} {ia ib : Nat} (h : Mg O La Lb Lo ia ib) (hU : Up O Lb) (k : Nat) (ha : ∀ x ∈ (Lb.drop ib).take k, ∀ y ∈ La.drop ia, O.D x y) : Mg O La Lb (Lo ++ (Lb.drop ib).take k) ia (ib + k) := by
  obtain ⟨u1, u2⟩ := (hU.drop ib).cut k
  have e : Lb.drop (ib + k) = (Lb.drop ib).drop k := by rw [List.drop_drop]
  refine ⟨?_, List.pairwise_append.mpr ⟨h.up, u1, fun x hx y hy => h.xb x hx y (List.mem_of_mem_take hy)⟩, fun x hx y hy => ?_, fun x hx y hy => ?_⟩
  · rw [take_plus, ← List.append_assoc]
    exact h.perm.append_right _
  · rcases List.mem_append.mp hx with hx | hx
    · exact h.xa x hx y hy
    · exact ha x hx y hy
  · rw [e] at hy
    rcases List.mem_append.mp hx with hx | hx
    · exact h.xb x hx y (List.mem_of_mem_drop hy)
    · exact u2 x hx y hy
/-- all of the other has gone: the rest of the one is put behind -/
theorem Mg.endB {O : KO} {La Lb Lo : List Nat} {ia ib : Nat} (h : Mg O La Lb Lo ia ib) (hU : Up O La) (hb : Lb.drop ib = []) : Up O (Lo ++ La.drop ia) ∧ (Lo ++ La.drop ia).Perm (La ++ Lb) := by
  refine ⟨List.pairwise_append.mpr ⟨h.up, hU.drop ia, h.xa⟩, ?_⟩
  have e : Lb.take ib = Lb := by have := List.take_append_drop ib Lb; rwa [hb, List.append_nil] at this
  have p := h.perm.append_right (La.drop ia)
  rw [e] at p
  refine p.trans ?_
  rw [List.append_assoc]
  refine (List.Perm.append_left _ List.perm_append_comm).trans ?_
  rw [← List.append_assoc, List.take_append_drop]
/-- the last of the one is behind all of the other -/
theorem Mg.endA {O : KO} {La Lb Lo : List Nat} {ia ib : Nat} (h : Mg O La Lb Lo ia ib) (hU : Up O La) (hV : Up O Lb) (hx : ∀ x ∈ Lb.drop ib, ∀ y ∈ La.drop ia, O.D x y) : Up O (Lo ++ Lb.drop ib ++ La.drop ia) ∧ (Lo ++ Lb.drop ib ++ La.drop ia).Perm (La ++ Lb) := by
  have k := h.pushB hV (Lb.length - ib) (fun x hx' y hy => hx x (List.mem_of_mem_take hx') y hy)
  have e : (Lb.drop ib).take (Lb.length - ib) = Lb.drop ib := List.take_of_length_le (by rw [List.length_drop]; exact Nat.le_refl _)
  rw [e] at k
  exact k.endB hU (List.drop_eq_nil_of_le (by omega))
end Mine

open PySem PySem.W PyProof.Rows
namespace Mine
section
variable {f : Nat → Keyed} {O : KO} {La Lb : List Nat}
theorem ext_drop (f : Nat → Keyed) (M : List Nat) (i : Nat) : (M.map f).toArray.extract i (M.map f).toArray.size = ((M.drop i).map f).toArray := by
  apply Array.toList_inj.mp
  simp [List.map_drop]
  exact List.take_of_length_le (by simp)
theorem ext_take (f : Nat → Keyed) (M : List Nat) (i k : Nat) : (M.map f).toArray.extract i (i + k) = (((M.drop i).take k).map f).toArray := by
  apply Array.toList_inj.mp
  simp [List.map_drop, List.map_take]
/-- on the way: what lies in out -/
def LoI (f : Nat → Keyed) (O : KO) (La Lb : List Nat) (out : Array Keyed) (ia ib : Nat) : Prop := ∃ Lo, out = (Lo.map f).toArray ∧ Mg O La Lb Lo ia ib
/-- at the end -/
def LoF (f : Nat → Keyed) (O : KO) (La Lb : List Nat) (out : Array Keyed) : Prop := ∃ Lo, out = (Lo.map f).toArray ∧ Up O Lo ∧ Lo.Perm (La ++ Lb)
theorem LoI.done {out : Array Keyed} {ia ib : Nat} (h : LoI f O La Lb out ia ib) (hU : Up O La) (hb : ib = Lb.length) : LoF f O La Lb (out ++ (La.map f).toArray.extract ia (La.map f).toArray.size ++ (Lb.map f).toArray.extract ib (Lb.map f).toArray.size) := by
  obtain ⟨Lo, rfl, m⟩ := h
  have e : Lb.drop ib = [] := List.drop_eq_nil_of_le (by omega)
  obtain ⟨u, p⟩ := m.endB hU e
  refine ⟨_, ?_, u, p⟩
  rw [ext_drop, ext_drop, e]
  simp
theorem LoI.last {out : Array Keyed} {ia ib : Nat} (h : LoI f O La Lb out ia ib) (hU : Up O La) (hV : Up O Lb) (hx : ∀ x ∈ Lb, ∀ y, La[La.length - 1]? = some y → O.D x y) (ha : ia + 1 = La.length) : LoF f O La Lb (out ++ (Lb.map f).toArray.extract ib (Lb.map f).toArray.size ++ (La.map f).toArray.extract ia (La.map f).toArray.size) := by
  obtain ⟨Lo, rfl, m⟩ := h
  obtain ⟨u, p⟩ := m.endA hU hV (fun x hx' y hy => by
    refine hx x (List.mem_of_mem_drop hx') y ?_
    obtain ⟨i, hi, e⟩ := List.mem_iff_getElem.mp hy
    rw [List.length_drop] at hi
    rw [List.getElem_drop] at e
    exact List.getElem?_eq_some_iff.mpr ⟨by omega, by rw [← e]; congr 1; omega⟩)
  refine ⟨_, ?_, u, p⟩
  rw [ext_drop, ext_drop]
  simp
theorem Up.head {M : List Nat} (h : Up O M) {i y : Nat} (hy : M[i]? = some y) {z : Nat} (hz : z ∈ M.drop i) : z = y ∨ O.D y z := by
  obtain ⟨j, hj, e⟩ := List.mem_iff_getElem.mp hz
  rw [List.length_drop] at hj
  rw [List.getElem_drop] at e
  by_cases h0 : j = 0
  · subst h0
    obtain ⟨_, e'⟩ := List.getElem?_eq_some_iff.mp hy
    exact .inl (by rw [← e, ← e']; rfl)
  · exact .inr (h.get (i := i) (j := i + j) (by omega) hy (List.getElem?_eq_some_iff.mpr ⟨by omega, e⟩))
theorem LoI.takeB {out : Array Keyed} {ia ib x : Nat} (h : LoI f O La Lb out ia ib) (hU : Up O La) (hV : Up O Lb) (hx : La[ia]? = some x) (k : Nat) (hk : ∀ z ∈ (Lb.drop ib).take k, O.D z x) : LoI f O La Lb (out ++ (Lb.map f).toArray.extract ib (ib + k)) ia (ib + k) := by
  obtain ⟨Lo, rfl, m⟩ := h
  refine ⟨_, ?_, m.pushB hV k fun z hz y hy => ?_⟩
  · rw [ext_take]; simp
  · rcases hU.head hx hy with rfl | q
    · exact hk z hz
    · exact (hk z hz).trans q
theorem LoI.takeA {out : Array Keyed} {ia ib x : Nat} (h : LoI f O La Lb out ia ib) (hU : Up O La) (hV : Up O Lb) (hx : Lb[ib]? = some x) (k : Nat) (hk : ∀ z ∈ (La.drop ia).take k, O.D z x) : LoI f O La Lb (out ++ (La.map f).toArray.extract ia (ia + k)) (ia + k) ib := by
  obtain ⟨Lo, rfl, m⟩ := h
  refine ⟨_, ?_, m.pushA hU k fun z hz y hy => ?_⟩
  · rw [ext_take]; simp
  · rcases hV.head hx hy with rfl | q
    · exact hk z hz
    · exact (hk z hz).trans q
theorem drop_one {M : List Nat} {i y : Nat} (h : M[i]? = some y) : (M.drop i).take 1 = [y] := by
  obtain ⟨hi, e⟩ := List.getElem?_eq_some_iff.mp h
  rw [List.drop_eq_getElem_cons hi, e]; rfl
theorem LoI.oneB {out : Array Keyed} {ia ib x y : Nat} (h : LoI f O La Lb out ia ib) (hU : Up O La) (hV : Up O Lb) (hx : La[ia]? = some x) (hy : Lb[ib]? = some y) (hk : O.D y x) : LoI f O La Lb (out.push (f y)) ia (ib + 1) := by
  have k := h.takeB hU hV hx 1 (fun z hz => by rw [drop_one hy] at hz; rw [List.mem_singleton.mp hz]; exact hk)
  rw [ext_take, drop_one hy] at k
  simpa using k
theorem LoI.oneA {out : Array Keyed} {ia ib x y : Nat} (h : LoI f O La Lb out ia ib) (hU : Up O La) (hV : Up O Lb) (hx : Lb[ib]? = some x) (hy : La[ia]? = some y) (hk : O.D y x) : LoI f O La Lb (out.push (f y)) (ia + 1) ib := by
  have k := h.takeA hU hV hx 1 (fun z hz => by rw [drop_one hy] at hz; rw [List.mem_singleton.mp hz]; exact hk)
  rw [ext_take, drop_one hy] at k
  simpa using k
end
end Mine

open PySem PySem.W PyProof.Rows
namespace Mine
section
variable {prog : Program} {w : World} {A : Around} {E : Value → Shared → Prop} {s : Shared}
variable {f : Nat → Keyed} {n : Nat} {O : KO}
theorem at_map (f : Nat → Keyed) {M : List Nat} {i y : Nat} (h : M[i]? = some y) : (M.map f).toArray[i]? = some (f y) := by simp [h]
theorem gal_false {st : SortSt} {M : List Nat} {base m hint x : Nat} {Q : Option Nat → SortSt → Prop} (hc : CmpOk prog w A s f n O) (hk : kindOf st = oneType') (hU : Up O M) (hn : ∀ y ∈ M, y < n) (hx : x < n) (hlt : ∀ y ∈ M, y < x) (hm : base + m ≤ M.length) (hh : hint < m)
    (h : ∀ k, k ≤ m → (∀ i y, i < k → M[base + i]? = some y → O.D y x) → (∀ i y, k ≤ i → i < m → M[base + i]? = some y → O.D x y) → Q (some k) st) : wpS (model prog w) A E s (gallop' false (f x) (M.map f).toArray base m hint) Q st := by
  refine wpS_gallop (b := fun i => !O.klt x (M[base + i]?.getD 0)) (fun i R hi hR => ?_) (fun i j hij hj e => ?_) hh (fun k h1 h2 h3 => h k h1 (fun i y hi hy => ?_) (fun i y q1 q2 hy => ?_))
  · obtain ⟨y, hy⟩ : ∃ y, M[base + i]? = some y := ⟨_, List.getElem?_eq_getElem (by omega)⟩
    unfold beyond'
    refine wpS_bind (wpS_elem (at_map f hy) ?_)
    simp only [Bool.false_eq_true, if_false]
    refine wpS_bind (wpS_lt hc hk hx (hn y (List.mem_of_getElem? hy)) ?_)
    rw [hy] at hR
    exact wpS_pure hR
  · obtain ⟨y, hy⟩ : ∃ y, M[base + i]? = some y := ⟨_, List.getElem?_eq_getElem (by omega)⟩
    obtain ⟨z, hz⟩ : ∃ z, M[base + j]? = some z := ⟨_, List.getElem?_eq_getElem (by omega)⟩
    rw [hz] at e
    rw [hy]
    simp only [Option.getD_some, Bool.not_eq_true'] at e ⊢
    by_cases q : i = j
    · subst q; rw [hy] at hz; cases hz; exact e
    · have d := hU.get (i := base + i) (j := base + j) (by omega) hy hz
      exact KO.kle_trans d.le e
  · have := h2 i hi
    rw [hy] at this
    exact (KO.later' (hlt y (List.mem_of_getElem? hy))).mp (by simpa using this)
  · have := h3 i q1 q2
    rw [hy] at this
    exact .inl (by simpa using this)
theorem gal_true {st : SortSt} {M : List Nat} {base m hint x : Nat} {Q : Option Nat → SortSt → Prop} (hc : CmpOk prog w A s f n O) (hk : kindOf st = oneType') (hU : Up O M) (hn : ∀ y ∈ M, y < n) (hx : x < n) (hlt : ∀ y ∈ M, x < y) (hm : base + m ≤ M.length) (hh : hint < m)
    (h : ∀ k, k ≤ m → (∀ i y, i < k → M[base + i]? = some y → O.D y x) → (∀ i y, k ≤ i → i < m → M[base + i]? = some y → O.D x y) → Q (some k) st) : wpS (model prog w) A E s (gallop' true (f x) (M.map f).toArray base m hint) Q st := by
  refine wpS_gallop (b := fun i => O.klt (M[base + i]?.getD 0) x) (fun i R hi hR => ?_) (fun i j hij hj e => ?_) hh (fun k h1 h2 h3 => h k h1 (fun i y hi hy => ?_) (fun i y q1 q2 hy => ?_))
  · obtain ⟨y, hy⟩ : ∃ y, M[base + i]? = some y := ⟨_, List.getElem?_eq_getElem (by omega)⟩
    unfold beyond'
    refine wpS_bind (wpS_elem (at_map f hy) ?_)
    simp only [if_true]
    rw [hy] at hR
    exact wpS_lt hc hk (hn y (List.mem_of_getElem? hy)) hx hR
  · obtain ⟨y, hy⟩ : ∃ y, M[base + i]? = some y := ⟨_, List.getElem?_eq_getElem (by omega)⟩
    obtain ⟨z, hz⟩ : ∃ z, M[base + j]? = some z := ⟨_, List.getElem?_eq_getElem (by omega)⟩
    rw [hz] at e
    rw [hy]
    simp only [Option.getD_some] at e ⊢
    by_cases q : i = j
    · subst q; rw [hy] at hz; cases hz; exact e
    · have d := hU.get (i := base + i) (j := base + j) (by omega) hy hz
      rcases O.neg _ y _ e with k | k
      · rw [d.le] at k; cases k
      · exact k
  · have := h2 i hi
    rw [hy] at this
    exact .inl (by simpa using this)
  · have := h3 i q1 q2
    rw [hy] at this
    exact (KO.later' (hlt y (List.mem_of_getElem? hy))).mp (by simpa using this)
end
end Mine

open PySem PySem.W PyProof.Rows
namespace Mine
section
variable {prog : Program} {w : World} {A : Around} {E : Value → Shared → Prop} {s : Shared}
variable {f : Nat → Keyed} {n : Nat} {O : KO}
theorem wpS_setGal {g : Nat} {st : SortSt} {Q : Unit → SortSt → Prop} (h : Q () (setGal st g)) : wpS (model prog w) A E s (setGallop' g) Q st := by
  rw [setGallop'_eq]; exact wpS_modify h
theorem wpS_ite3 {α : Type} {c : Nat → Prop} [∀ g, Decidable (c g)] {T1 T2 : Nat → StateT SortSt Sem α} {a : Nat → Nat} {Q : α → SortSt → Prop} {st : SortSt} (e1 : ∀ g, T1 g = T2 (a g)) (h : ∀ g, wpS (model prog w) A E s (T2 g) Q st) : ∀ g, wpS (model prog w) A E s (if c g then T1 g else T2 g) Q st := fun g => by
  by_cases hc : c g
  · rw [if_pos hc, e1]; exact h _
  · rw [if_neg hc]; exact h g
theorem wpS_ite4 {α : Type} {c : Prop} [Decidable c] {T1 T2 : Array Keyed → Nat → StateT SortSt Sem α} {o : Array Keyed} {i : Nat} {Q : α → SortSt → Prop} {st : SortSt} (P : Array Keyed → Nat → Prop) (h0 : ¬ c → P o i)
    (h1 : (∀ o' i', P o' i' → wpS (model prog w) A E s (T2 o' i') Q st) → c → wpS (model prog w) A E s (T1 o i) Q st) (h : ∀ o' i', P o' i' → wpS (model prog w) A E s (T2 o' i') Q st) : ∀ o', o' = o → ∀ i', i' = i → wpS (model prog w) A E s (if c then T1 o' i' else T2 o' i') Q st := fun o' e i' e' => by
  subst e e'
  by_cases hc : c
  · rw [if_pos hc]; exact h1 h hc
  · rw [if_neg hc]; exact h _ _ (h0 hc)
theorem wpS_mergeLo {st : SortSt} {La Lb : List Nat} {a0 b0 : Nat} {Q : Array Keyed → SortSt → Prop} (hc : CmpOk prog w A s f n O) (hk : kindOf st = oneType') (ha : Up O La) (hb : Up O Lb) (na : ∀ x ∈ La, x < n) (nb : ∀ x ∈ Lb, x < n) (hab : ∀ x ∈ La, ∀ y ∈ Lb, x < y)
    (h0 : La[0]? = some a0) (h1 : Lb[0]? = some b0) (hd : O.D b0 a0) (hx : ∀ x ∈ Lb, ∀ y, La[La.length - 1]? = some y → O.D x y)
    (h : ∀ Lo st', Up O Lo → Lo.Perm (La ++ Lb) → SameS st st' → Q (Lo.map f).toArray st') : wpS (model prog w) A E s (mergeLo' (La.map f).toArray (Lb.map f).toArray) Q st := by
  have sa : (La.map f).toArray.size = La.length := by simp
  have sb : (Lb.map f).toArray.size = Lb.length := by simp
  have fin : ∀ out st', SameS st st' → LoF f O La Lb out → Q out st' := by
    rintro out st' hs ⟨Lo, rfl, u, p⟩
    exact h Lo st' u p hs
  have p0 : LoI f O La Lb #[f b0] 0 1 := by
    have : LoI f O La Lb #[] 0 0 := ⟨[], rfl, ⟨.refl _, List.Pairwise.nil, fun x hx => (nomatch hx), fun x hx => (nomatch hx)⟩⟩
    exact this.oneB ha hb h0 h1 hd
  have la : 0 < La.length := (List.getElem?_eq_some_iff.mp h0).1
  have lb : 0 < Lb.length := (List.getElem?_eq_some_iff.mp h1).1
  unfold mergeLo'
  k_delta "mergeLo"
  dsimp only
  refine wpS_bind (wpS_lift (wpAny_rule ⟨rfl, ?_⟩))
  refine wpS_bind (wpS_elem (at_map f h1) ?_)
  by_cases c1 : 1 = Lb.length
  · rw [if_pos (by rw [sb]; simpa using c1)]
    exact wpS_pure (fin _ st .rfl' (p0.done ha c1))
  rw [if_neg (by rw [sb]; simpa using c1)]
  by_cases c2 : 0 + 1 = La.length
  · rw [if_pos (by rw [sa]; simpa using c2)]
    exact wpS_pure (fin _ st .rfl' (p0.last ha hb hx c2))
  rw [if_neg (by rw [sa]; simpa using c2)]
  refine wpS_bind (wpS_get ?_)
  refine wpS_bind (wpS_mono (wpS_forRange (I := fun x c st' => SameS st st' ∧ ∃ out ia ib g, c = (none, out, ia, ib, g) ∧ LoI f O La Lb out ia ib ∧ ib < Lb.length ∧ ia + 1 < La.length ∧ x + 1 ≤ ia + ib)
    (Q := fun c st' => SameS st st' ∧ ∃ r out ia ib g, c = (some r, out, ia, ib, g) ∧ LoF f O La Lb r) ?step ?fin ?init) ?post)
  case init => exact ⟨.rfl', _, _, _, _, rfl, p0, by omega, by omega, by omega⟩
  case fin =>
    rintro c st' ⟨hs, out, ia, ib, g, rfl, m, q1, q2, q3⟩
    rw [sa, sb] at q3
    omega
  case post =>
    rintro c st' ⟨hs, r, out, ia, ib, g, rfl, m⟩
    exact wpS_pure (fin r st' hs m)
  case step =>
    rintro x c st' _ hxn ⟨hs, out, ia, ib, g, rfl, m, q1, q2, q3⟩
    dsimp only
    refine wpS_bind (wpS_mono (wpS_forRange (I := fun y c s2 => SameS st s2 ∧ ∃ out ia ib p q, c = (none, out, ia, ib, p, q) ∧ LoI f O La Lb out ia ib ∧ ib < Lb.length ∧ ia + 1 < La.length ∧ x + 1 + y ≤ ia + ib)
      (Q := fun c s2 => SameS st s2 ∧ ((∃ r out ia ib p q, c = (some r, out, ia, ib, p, q) ∧ LoF f O La Lb r) ∨ (∃ out ia ib p q, c = (none, out, ia, ib, p, q) ∧ LoI f O La Lb out ia ib ∧ ib < Lb.length ∧ ia + 1 < La.length ∧ x + 2 ≤ ia + ib))) ?istep ?ifin ?iinit) ?ipost)
    case iinit => exact ⟨hs, out, ia, ib, 0, 0, rfl, m, q1, q2, by omega⟩
    case ifin =>
      rintro c s2 ⟨hs, out, ia, ib, p, q, rfl, m, q1, q2, q3⟩
      rw [sa, sb] at q3
      exact ⟨hs, .inr ⟨out, ia, ib, p, q, rfl, m, q1, q2, by omega⟩⟩
    case istep =>
      rintro y c s2 _ hyn ⟨hs, out, ia, ib, p, q, rfl, m, q1, q2, q3⟩
      dsimp only
      obtain ⟨u, hu⟩ : ∃ u, La[ia]? = some u := ⟨_, List.getElem?_eq_getElem (by omega)⟩
      obtain ⟨v, hv⟩ : ∃ v, Lb[ib]? = some v := ⟨_, List.getElem?_eq_getElem (by omega)⟩
      have mu := List.mem_of_getElem? hu
      have mv := List.mem_of_getElem? hv
      refine wpS_bind (wpS_elem (at_map f hv) (wpS_bind (wpS_elem (at_map f hu) (wpS_bind (wpS_lt hc (hs.kind.trans hk) (nb v mv) (na u mu) ?_)))))
      cases e : O.klt v u
      · simp only [Bool.false_eq_true, if_false]
        have d := (KO.later' (hab u mu v mv)).mp e
        refine wpS_bind (wpS_elem (at_map f hu) ?_)
        have m' := m.oneA ha hb hv hu d
        by_cases k1 : ia + 1 + 1 = La.length
        · rw [if_pos (by rw [sa]; simpa using k1)]
          exact wpS_pure ⟨hs, .inl ⟨_, _, _, _, _, _, rfl, m'.last ha hb hx k1⟩⟩
        · rw [if_neg (by rw [sa]; simpa using k1)]
          split
          · exact wpS_pure ⟨hs, .inr ⟨_, _, _, _, _, rfl, m', q1, by omega, by omega⟩⟩
          · exact wpS_pure ⟨hs, _, _, _, _, _, rfl, m', q1, by omega, by omega⟩
      · simp only [if_true]
        refine wpS_bind (wpS_elem (at_map f hv) ?_)
        have m' := m.oneB ha hb hu hv (.inl e)
        by_cases k1 : ib + 1 = Lb.length
        · rw [if_pos (by rw [sb]; simpa using k1)]
          exact wpS_pure ⟨hs, .inl ⟨_, _, _, _, _, _, rfl, m'.done ha k1⟩⟩
        · rw [if_neg (by rw [sb]; simpa using k1)]
          split
          · exact wpS_pure ⟨hs, .inr ⟨_, _, _, _, _, rfl, m', by omega, q2, by omega⟩⟩
          · exact wpS_pure ⟨hs, _, _, _, _, _, rfl, m', by omega, q2, by omega⟩
    case ipost =>
      rintro c s2 ⟨hs, ⟨r, out, ia, ib, p, q, rfl, m⟩ | ⟨out, ia, ib, p, q, rfl, m, q1, q2, q3⟩⟩
      · exact wpS_pure ⟨hs, r, _, _, _, _, rfl, m⟩
      · dsimp only
        refine wpS_bind (wpS_lift (wpAny_rule ⟨rfl, ?_⟩))
        refine wpS_bind (wpS_mono (wpS_forRange (I := fun y c s2 => SameS st s2 ∧ ∃ out ia ib g p q, c = (none, out, ia, ib, g, p, q) ∧ LoI f O La Lb out ia ib ∧ ib < Lb.length ∧ ia + 1 < La.length ∧ x + 2 ≤ ia + ib)
          (Q := fun c s2 => SameS st s2 ∧ ((∃ r out ia ib g p q, c = (some r, out, ia, ib, g, p, q) ∧ LoF f O La Lb r) ∨ (∃ out ia ib g p q, c = (none, out, ia, ib, g, p, q) ∧ LoI f O La Lb out ia ib ∧ ib < Lb.length ∧ ia + 1 < La.length ∧ x + 2 ≤ ia + ib))) ?jstep ?jfin ?jinit) ?jpost)
        case jinit => exact ⟨hs, out, ia, ib, _, p, q, rfl, m, q1, q2, q3⟩
        case jfin =>
          rintro c s2 ⟨hs, out, ia, ib, g, p, q, rfl, m, q1, q2, q3⟩
          exact ⟨hs, .inr ⟨out, ia, ib, g, p, q, rfl, m, q1, q2, q3⟩⟩
        case jpost =>
          rintro c s2 ⟨hs, ⟨r, out, ia, ib, g, p, q, rfl, m⟩ | ⟨out, ia, ib, g, p, q, rfl, m, q1, q2, q3⟩⟩
          · exact wpS_pure ⟨hs, r, _, _, _, _, rfl, m⟩
          · dsimp only
            exact wpS_bind (wpS_setGal (wpS_pure ⟨hs.gal _, out, ia, ib, _, rfl, m, q1, q2, by omega⟩))
        case jstep =>
          rintro y c s2 _ hyn ⟨hs, out, ia, ib, g, p, q, rfl, m, q1, q2, q3⟩
          dsimp only
          obtain ⟨v, hv⟩ : ∃ v, Lb[ib]? = some v := ⟨_, List.getElem?_eq_getElem (by omega)⟩
          have mv := List.mem_of_getElem? hv
          obtain ⟨t, ht⟩ : ∃ t, La[La.length - 1]? = some t := ⟨_, List.getElem?_eq_getElem (by omega)⟩
          revert g
          refine wpS_ite3 (a := fun g => g - 1) (fun g => rfl) fun g => ?_
          refine wpS_bind (wpS_setGal ?_)
          refine wpS_bind (wpS_elem (at_map f hv) ?_)
          refine wpS_bind (gal_false hc ((hs.gal _).kind.trans hk) ha na (nb v mv) (fun z hz => hab z hz v mv) (by rw [sa]; omega) (by rw [sa]; omega) fun k z1 z2 z3 => ?_)
          dsimp only
          rw [sa] at z1 z3
          have kl : ia + k < La.length := by
            rcases Nat.lt_or_ge (ia + k) La.length with q | q
            · exact q
            · have := z2 (La.length - 1 - ia) t (by omega) (by rw [← ht]; congr 1; omega)
              exact ((this.trans (hx v mv t ht)).irr).elim
          have tk : ∀ z ∈ (La.drop ia).take k, O.D z v := fun z hz => by
            obtain ⟨i, hi, e⟩ := List.mem_iff_getElem.mp hz
            rw [List.length_take, List.length_drop] at hi
            rw [List.getElem_take, List.getElem_drop] at e
            exact z2 i z (by omega) (List.getElem?_eq_some_iff.mpr ⟨by omega, e⟩)
          have mm := m.takeA ha hb hv k tk
          obtain ⟨z, hz⟩ : ∃ z, La[ia + k]? = some z := ⟨_, List.getElem?_eq_getElem (by omega)⟩
          have dz : O.D v z := z3 k z (Nat.le_refl _) (by omega) hz
          obtain ⟨o1, ho1⟩ : ∃ o1, o1 = out := ⟨_, rfl⟩
          obtain ⟨i1, hi1⟩ : ∃ i1, i1 = ia := ⟨_, rfl⟩
          rw [← ho1, ← hi1]
          revert i1
          revert o1
          refine wpS_ite4 (o := out) (i := ia) (fun o i => LoI f O La Lb o i ib ∧ ia ≤ i ∧ i + 1 < La.length ∧ ∃ z, La[i]? = some z ∧ O.D v z) (fun hk0 => ?_) (fun key hk0 => ?_) fun out' i ⟨mm, hi, hil, z, hz, dz⟩ => ?_
          · obtain rfl : k = 0 := by omega
            exact ⟨m, Nat.le_refl _, q2, z, hz, dz⟩
          · by_cases k1 : ia + k + 1 = La.length
            · rw [if_pos (by rw [sa]; simpa using k1)]
              exact wpS_pure ⟨hs.gal _, .inl ⟨_, _, _, _, _, _, _, rfl, mm.last ha hb hx k1⟩⟩
            rw [if_neg (by rw [sa]; simpa using k1), if_neg (by rw [sa]; simp; omega)]
            exact key _ _ ⟨mm, Nat.le_add_right _ _, by omega, z, hz, dz⟩
          have mz := List.mem_of_getElem? hz
          refine wpS_bind (wpS_elem (at_map f hv) ?_)
          have m2 := mm.oneB ha hb hz hv dz
          by_cases k2 : ib + 1 = Lb.length
          · rw [if_pos (by rw [sb]; simpa using k2)]
            exact wpS_pure ⟨hs.gal _, .inl ⟨_, _, _, _, _, _, _, rfl, m2.done ha k2⟩⟩
          rw [if_neg (by rw [sb]; simpa using k2)]
          refine wpS_bind (wpS_elem (at_map f hz) ?_)
          refine wpS_bind (gal_true hc ((hs.gal _).kind.trans hk) hb nb (na z mz) (fun y hy => hab z mz y hy) (by rw [sb]; omega) (by rw [sb]; omega) fun k' y1 y2 y3 => ?_)
          dsimp only
          rw [sb] at y1 y3
          have tk2 : ∀ y ∈ (Lb.drop (ib + 1)).take k', O.D y z := fun y hy => by
            obtain ⟨i, hi, e⟩ := List.mem_iff_getElem.mp hy
            rw [List.length_take, List.length_drop] at hi
            rw [List.getElem_take, List.getElem_drop] at e
            exact y2 i y (by omega) (List.getElem?_eq_some_iff.mpr ⟨by omega, e⟩)
          have m3 := m2.takeB ha hb hz k' tk2
          obtain ⟨out2, hout2⟩ : ∃ o1, o1 = out'.push (f v) := ⟨_, rfl⟩
          obtain ⟨jb, hjb⟩ : ∃ i1, i1 = ib + 1 := ⟨_, rfl⟩
          rw [← hjb] at m2 m3 k2 y1 y2 y3
          rw [← hout2] at m2 m3
          obtain ⟨o1, ho1⟩ : ∃ o1, o1 = out2 := ⟨_, rfl⟩
          obtain ⟨i1, hi1⟩ : ∃ i1, i1 = jb := ⟨_, rfl⟩
          rw [← hjb, ← hout2, ← ho1, ← hi1]
          revert i1
          revert o1
          refine wpS_ite4 (o := out2) (i := jb) (fun o j => LoI f O La Lb o i j ∧ jb ≤ j ∧ j < Lb.length ∧ ∀ y, Lb[j]? = some y → O.D z y) (fun hk1 => ?_) (fun key hk1 => ?_) fun out3 j ⟨m3, hj, hjl, hy3⟩ => ?_
          · obtain rfl : k' = 0 := by omega
            exact ⟨m2, Nat.le_refl _, by omega, fun y hy => y3 0 y (Nat.le_refl _) (by omega) hy⟩
          · by_cases k3 : jb + k' = Lb.length
            · rw [if_pos (by rw [sb]; simpa using k3)]
              exact wpS_pure ⟨hs.gal _, .inl ⟨_, _, _, _, _, _, _, rfl, m3.done ha k3⟩⟩
            rw [if_neg (by rw [sb]; simpa using k3)]
            exact key _ _ ⟨m3, Nat.le_add_right _ _, by omega, fun y hy => y3 k' y (Nat.le_refl _) (by omega) hy⟩
          refine wpS_bind (wpS_elem (at_map f hz) ?_)
          obtain ⟨y, hy⟩ : ∃ y, Lb[j]? = some y := ⟨_, List.getElem?_eq_getElem (by omega)⟩
          have m4 := m3.oneA ha hb hy hz (hy3 y hy)
          by_cases k4 : i + 1 + 1 = La.length
          · rw [if_pos (by rw [sa]; simpa using k4)]
            exact wpS_pure ⟨hs.gal _, .inl ⟨_, _, _, _, _, _, _, rfl, m4.last ha hb hx k4⟩⟩
          rw [if_neg (by rw [sa]; simpa using k4)]
          split
          · exact wpS_pure ⟨hs.gal _, .inr ⟨_, _, _, _, _, _, rfl, m4, by omega, by omega, by omega⟩⟩
          · exact wpS_pure ⟨hs.gal _, _, _, _, _, _, _, rfl, m4, by omega, by omega, by omega⟩
end
end Mine

open PySem PySem.W PyProof.Rows
namespace Mine
def mergeHi' : Array Keyed → Array Keyed → StateT SortSt Sem (Array Keyed) := sortPriv% PySem.Builtin.mergeHi
section
variable {f : Nat → Keyed} {O : KO} {La Lb Lo : List Nat} {na nb : Nat}
/-- what is merged already from behind -/
structure Mh (O : KO) (La Lb Lo : List Nat) (na nb : Nat) : Prop where
  perm : Lo.Perm (La.drop na ++ Lb.drop nb)
  up : Up O Lo
  xa : ∀ x ∈ La.take na, ∀ y ∈ Lo, O.D x y
  xb : ∀ x ∈ Lb.take nb, ∀ y ∈ Lo, O.D x y
theorem seg_drop (M : List Nat) {i n : Nat} (h : i ≤ n) : M.drop i = (M.drop i).take (n - i) ++ M.drop n := by
  have := List.take_append_drop (n - i) (M.drop i)
  rw [List.drop_drop, show i + (n - i) = n by omega] at this
  exact this.symm
theorem seg_mem {M : List Nat} {i n x : Nat} (h : i ≤ n) (hx : x ∈ (M.drop i).take (n - i)) : x ∈ M.take n := by
  rw [← List.drop_take] at hx
  exact List.mem_of_mem_drop hx
theorem take_mem {M : List Nat} {i n x : Nat} (h : i ≤ n) (hx : x ∈ M.take i) : x ∈ M.take n := by
  have : M.take i = (M.take n).take i := by rw [List.take_take, Nat.min_eq_left h]
  rw [this] at hx
  exact List.mem_of_mem_take hx
theorem Mh.pushA (h : Mh O La Lb Lo na nb) (hU : Up O La) {i : Nat} (hi : i ≤ na) (hb : ∀ x ∈ Lb.take nb, ∀ y ∈ (La.drop i).take (na - i), O.D x y) : Mh O La Lb ((La.drop i).take (na - i) ++ Lo) i nb := by
  obtain ⟨u1, u2⟩ := hU.cut i
  have us : Up O ((La.drop i).take (na - i)) := ((hU.drop i).cut (na - i)).1
  refine ⟨?_, List.pairwise_append.mpr ⟨us, h.up, fun x hx y hy => h.xa x (seg_mem hi hx) y hy⟩, fun x hx y hy => ?_, fun x hx y hy => ?_⟩
  · rw [seg_drop La hi, List.append_assoc]
    have e : List.take (na - i) (List.take (na - i) (La.drop i) ++ La.drop na) = List.take (na - i) (La.drop i) := by rw [← seg_drop La hi]
    rw [e]
    exact List.Perm.append_left _ h.perm
  · rcases List.mem_append.mp hy with hy | hy
    · exact u2 x hx y (List.mem_of_mem_take hy)
    · exact h.xa x (take_mem hi hx) y hy
  · rcases List.mem_append.mp hy with hy | hy
    · exact hb x hx y hy
    · exact h.xb x hx y hy
theorem Mh.swap (h : Mh O La Lb Lo na nb) : Mh O Lb La Lo nb na := ⟨h.perm.trans List.perm_append_comm, h.up, h.xb, h.xa⟩
theorem Mh.pushB (h : Mh O La Lb Lo na nb) (hU : Up O Lb) {i : Nat} (hi : i ≤ nb) (hb : ∀ x ∈ La.take na, ∀ y ∈ (Lb.drop i).take (nb - i), O.D x y) : Mh O La Lb ((Lb.drop i).take (nb - i) ++ Lo) na i :=
  (h.swap.pushA hU hi hb).swap
/-- all of the one has gone -/
theorem Mh.endA (h : Mh O La Lb Lo 0 nb) (hV : Up O Lb) : Up O (Lb.take nb ++ Lo) ∧ (Lb.take nb ++ Lo).Perm (La ++ Lb) := by
  refine ⟨List.pairwise_append.mpr ⟨(hV.cut nb).1, h.up, h.xb⟩, ?_⟩
  refine (List.Perm.append_left _ h.perm).trans ?_
  rw [List.drop_zero]
  refine (List.Perm.append_left _ List.perm_append_comm).trans ?_
  rw [← List.append_assoc, List.take_append_drop]
  exact List.perm_append_comm
/-- the first of the other is ahead of all of the one -/
theorem Mh.endB (h : Mh O La Lb Lo na nb) (hU : Up O La) (hV : Up O Lb) (hx : ∀ x ∈ Lb.take nb, ∀ y ∈ La.take na, O.D x y) : Up O (Lb.take nb ++ (La.take na ++ Lo)) ∧ (Lb.take nb ++ (La.take na ++ Lo)).Perm (La ++ Lb) := by
  have k := h.pushA hU (i := 0) (Nat.zero_le _) (fun x hx' y hy => hx x hx' y (seg_mem (Nat.zero_le _) hy))
  rw [List.drop_zero, Nat.sub_zero] at k
  exact k.endA hV
theorem ext_seg (f : Nat → Keyed) (M : List Nat) (i k : Nat) : (M.map f).toArray.extract i k = (((M.drop i).take (k - i)).map f).toArray := by
  apply Array.toList_inj.mp
  simp [List.map_drop, List.map_take]
/-- on the way: what lies in out, last ahead -/
def HiI (f : Nat → Keyed) (O : KO) (La Lb : List Nat) (out : Array Keyed) (na nb : Nat) : Prop := ∃ Lo, out = (Lo.reverse.map f).toArray ∧ Mh O La Lb Lo na nb
variable {out : Array Keyed}
theorem HiI.done (h : HiI f O La Lb out na nb) (hV : Up O Lb) (ha : na = 0) : LoF f O La Lb ((La.map f).toArray.extract 0 na ++ (Lb.map f).toArray.extract 0 nb ++ out.reverse) := by
  subst ha
  obtain ⟨Lo, rfl, m⟩ := h
  obtain ⟨u, p⟩ := m.endA hV
  refine ⟨_, ?_, u, p⟩
  rw [ext_seg, ext_seg]
  simp
theorem HiI.first (h : HiI f O La Lb out na nb) (hU : Up O La) (hV : Up O Lb) (hd : ∀ y ∈ La, ∀ x, Lb[0]? = some x → O.D x y) (hb : nb = 1) : LoF f O La Lb ((Lb.map f).toArray.extract 0 nb ++ (La.map f).toArray.extract 0 na ++ out.reverse) := by
  subst hb
  obtain ⟨Lo, rfl, m⟩ := h
  obtain ⟨u, p⟩ := m.endB hU hV (fun x hx y hy => by
    refine hd y (List.mem_of_mem_take hy) x ?_
    obtain ⟨i, hi, e⟩ := List.mem_iff_getElem.mp hx
    rw [List.length_take] at hi
    obtain rfl : i = 0 := by omega
    rw [List.getElem_take] at e
    exact List.getElem?_eq_some_iff.mpr ⟨by omega, e⟩)
  refine ⟨_, ?_, u, p⟩
  rw [ext_seg, ext_seg]
  simp
theorem Up.tail {M : List Nat} (h : Up O M) {i y : Nat} (h1 : 1 ≤ i) (hy : M[i - 1]? = some y) {z : Nat} (hz : z ∈ M.take i) : z = y ∨ O.D z y := by
  obtain ⟨j, hj, e⟩ := List.mem_iff_getElem.mp hz
  rw [List.length_take] at hj
  rw [List.getElem_take] at e
  by_cases h0 : j = i - 1
  · subst h0
    obtain ⟨_, e'⟩ := List.getElem?_eq_some_iff.mp hy
    exact .inl (by rw [← e, ← e'])
  · exact .inr (h.get (i := j) (j := i - 1) (by omega) (List.getElem?_eq_some_iff.mpr ⟨by omega, e⟩) hy)
theorem HiI.takeA {i x : Nat} (h : HiI f O La Lb out na nb) (hU : Up O La) (hV : Up O Lb) (h1 : 1 ≤ nb) (hx : Lb[nb - 1]? = some x) (hi : i ≤ na) (hk : ∀ z ∈ (La.drop i).take (na - i), O.D x z) : HiI f O La Lb (out ++ ((La.map f).toArray.extract i na).reverse) i nb := by
  obtain ⟨Lo, rfl, m⟩ := h
  refine ⟨_, ?_, m.pushA hU hi fun y hy z hz => ?_⟩
  · rw [ext_seg]; simp
  · rcases hV.tail h1 hx hy with rfl | q
    · exact hk z hz
    · exact q.trans (hk z hz)
theorem HiI.takeB {i x : Nat} (h : HiI f O La Lb out na nb) (hU : Up O La) (hV : Up O Lb) (h1 : 1 ≤ na) (hx : La[na - 1]? = some x) (hi : i ≤ nb) (hk : ∀ z ∈ (Lb.drop i).take (nb - i), O.D x z) : HiI f O La Lb (out ++ ((Lb.map f).toArray.extract i nb).reverse) na i := by
  obtain ⟨Lo, rfl, m⟩ := h
  refine ⟨_, ?_, m.pushB hV hi fun y hy z hz => ?_⟩
  · rw [ext_seg]; simp
  · rcases hU.tail h1 hx hy with rfl | q
    · exact hk z hz
    · exact q.trans (hk z hz)
theorem HiI.oneA {x y : Nat} (h : HiI f O La Lb out na nb) (hU : Up O La) (hV : Up O Lb) (h1 : 1 ≤ nb) (hx : Lb[nb - 1]? = some x) (h2 : 1 ≤ na) (hy : La[na - 1]? = some y) (hk : O.D x y) : HiI f O La Lb (out.push (f y)) (na - 1) nb := by
  have e : (La.drop (na - 1)).take (na - (na - 1)) = [y] := by rw [show na - (na - 1) = 1 by omega, drop_one hy]
  have k := h.takeA hU hV h1 hx (i := na - 1) (by omega) (fun z hz => by rw [e] at hz; rw [List.mem_singleton.mp hz]; exact hk)
  rw [ext_seg, e] at k
  simpa using k
theorem HiI.oneB {x y : Nat} (h : HiI f O La Lb out na nb) (hU : Up O La) (hV : Up O Lb) (h1 : 1 ≤ na) (hx : La[na - 1]? = some x) (h2 : 1 ≤ nb) (hy : Lb[nb - 1]? = some y) (hk : O.D x y) : HiI f O La Lb (out.push (f y)) na (nb - 1) := by
  have e : (Lb.drop (nb - 1)).take (nb - (nb - 1)) = [y] := by rw [show nb - (nb - 1) = 1 by omega, drop_one hy]
  have k := h.takeB hU hV h1 hx (i := nb - 1) (by omega) (fun z hz => by rw [e] at hz; rw [List.mem_singleton.mp hz]; exact hk)
  rw [ext_seg, e] at k
  simpa using k
end
end Mine

open PySem PySem.W PyProof.Rows
namespace Mine
section
variable {prog : Program} {w : World} {A : Around} {E : Value → Shared → Prop} {s : Shared}
variable {f : Nat → Keyed} {n : Nat} {O : KO}
theorem seg_at {M : List Nat} {i m z : Nat} (him : i ≤ m) (hm : m ≤ M.length) (hz : z ∈ (M.drop i).take (m - i)) : ∃ j, i ≤ j ∧ j < m ∧ M[0 + j]? = some z := by
  obtain ⟨j, hj, e⟩ := List.mem_iff_getElem.mp hz
  rw [List.length_take, List.length_drop] at hj
  rw [List.getElem_take, List.getElem_drop] at e
  exact ⟨i + j, by omega, by omega, List.getElem?_eq_some_iff.mpr ⟨by omega, by rw [← e]; congr 1; omega⟩⟩
theorem wpS_mergeHi {st : SortSt} {La Lb : List Nat} {a0 b0 t : Nat} {Q : Array Keyed → SortSt → Prop} (hc : CmpOk prog w A s f n O) (hk : kindOf st = oneType') (ha : Up O La) (hb : Up O Lb) (naa : ∀ x ∈ La, x < n) (nbb : ∀ x ∈ Lb, x < n) (hab : ∀ x ∈ La, ∀ y ∈ Lb, x < y)
    (h0 : La[0]? = some a0) (h1 : Lb[0]? = some b0) (hd : O.D b0 a0) (ht : La[La.length - 1]? = some t) (hx : ∀ x ∈ Lb, O.D x t)
    (h : ∀ Lo st', Up O Lo → Lo.Perm (La ++ Lb) → SameS st st' → Q (Lo.map f).toArray st') : wpS (model prog w) A E s (mergeHi' (La.map f).toArray (Lb.map f).toArray) Q st := by
  have sa : (La.map f).toArray.size = La.length := by simp
  have sb : (Lb.map f).toArray.size = Lb.length := by simp
  have fin : ∀ out st', SameS st st' → LoF f O La Lb out → Q out st' := by
    rintro out st' hs ⟨Lo, rfl, u, p⟩
    exact h Lo st' u p hs
  have la : 0 < La.length := (List.getElem?_eq_some_iff.mp h0).1
  have lb : 0 < Lb.length := (List.getElem?_eq_some_iff.mp h1).1
  obtain ⟨bl, hbl⟩ : ∃ bl, Lb[Lb.length - 1]? = some bl := ⟨_, List.getElem?_eq_getElem (by omega)⟩
  have hd' : ∀ y ∈ La, ∀ x, Lb[0]? = some x → O.D x y := fun y hy x hx' => by
    rw [h1] at hx'
    cases hx'
    rcases ha.head h0 (z := y) (by rw [List.drop_zero]; exact hy) with rfl | q
    · exact hd
    · exact hd.trans q
  have p0 : HiI f O La Lb #[f t] (La.length - 1) Lb.length := by
    have : HiI f O La Lb #[] La.length Lb.length := ⟨[], rfl, ⟨by simp, List.Pairwise.nil, fun _ _ _ hx => (nomatch hx), fun _ _ _ hx => (nomatch hx)⟩⟩
    exact this.oneA ha hb lb hbl la ht (hx bl (List.mem_of_getElem? hbl))
  unfold mergeHi'
  k_delta "mergeHi"
  dsimp only
  rw [sa, sb]
  refine wpS_bind (wpS_lift (wpAny_rule ⟨rfl, ?_⟩))
  refine wpS_bind (wpS_elem (at_map f ht) ?_)
  by_cases c1 : La.length - 1 = 0
  · rw [if_pos (by simpa using c1)]
    exact wpS_pure (fin _ st .rfl' (p0.done hb c1))
  rw [if_neg (by simpa using c1)]
  by_cases c2 : Lb.length = 1
  · rw [if_pos (by simpa using c2)]
    exact wpS_pure (fin _ st .rfl' (p0.first ha hb hd' c2))
  rw [if_neg (by simpa using c2)]
  refine wpS_bind (wpS_get ?_)
  refine wpS_bind (wpS_mono (wpS_forRange (I := fun x c st' => SameS st st' ∧ ∃ out na nb g, c = (none, na, nb, out, g) ∧ HiI f O La Lb out na nb ∧ 2 ≤ nb ∧ 1 ≤ na ∧ nb ≤ Lb.length ∧ na ≤ La.length ∧ x + na + nb + 1 ≤ La.length + Lb.length)
    (Q := fun c st' => SameS st st' ∧ ∃ r out na nb g, c = (some r, na, nb, out, g) ∧ LoF f O La Lb r) ?step ?fin ?init) ?post)
  case init => exact ⟨.rfl', _, _, _, _, rfl, p0, by omega, by omega, by omega, by omega, by omega⟩
  case fin =>
    rintro c st' ⟨hs, out, na, nb, g, rfl, m, q1, q2, q4, q5, q3⟩
    omega
  case post =>
    rintro c st' ⟨hs, r, out, na, nb, g, rfl, m⟩
    exact wpS_pure (fin r st' hs m)
  case step =>
    rintro x c st' _ hxn ⟨hs, out, na, nb, g, rfl, m, q1, q2, q4, q5, q3⟩
    dsimp only
    refine wpS_bind (wpS_mono (wpS_forRange (I := fun y c s2 => SameS st s2 ∧ ∃ out na nb p q, c = (none, na, nb, out, p, q) ∧ HiI f O La Lb out na nb ∧ 2 ≤ nb ∧ 1 ≤ na ∧ nb ≤ Lb.length ∧ na ≤ La.length ∧ x + y + na + nb + 1 ≤ La.length + Lb.length)
      (Q := fun c s2 => SameS st s2 ∧ ((∃ r out na nb p q, c = (some r, na, nb, out, p, q) ∧ LoF f O La Lb r) ∨ (∃ out na nb p q, c = (none, na, nb, out, p, q) ∧ HiI f O La Lb out na nb ∧ 2 ≤ nb ∧ 1 ≤ na ∧ nb ≤ Lb.length ∧ na ≤ La.length ∧ x + na + nb + 2 ≤ La.length + Lb.length))) ?istep ?ifin ?iinit) ?ipost)
    case iinit => exact ⟨hs, out, na, nb, 0, 0, rfl, m, q1, q2, q4, q5, by omega⟩
    case ifin =>
      rintro c s2 ⟨hs, out, na, nb, p, q, rfl, m, q1, q2, q4, q5, q3⟩
      omega
    case istep =>
      rintro y c s2 _ hyn ⟨hs, out, na, nb, p, q, rfl, m, q1, q2, q4, q5, q3⟩
      dsimp only
      obtain ⟨u, hu⟩ : ∃ u, La[na - 1]? = some u := ⟨_, List.getElem?_eq_getElem (by omega)⟩
      obtain ⟨v, hv⟩ : ∃ v, Lb[nb - 1]? = some v := ⟨_, List.getElem?_eq_getElem (by omega)⟩
      have mu := List.mem_of_getElem? hu
      have mv := List.mem_of_getElem? hv
      refine wpS_bind (wpS_elem (at_map f hv) (wpS_bind (wpS_elem (at_map f hu) (wpS_bind (wpS_lt hc (hs.kind.trans hk) (nbb v mv) (naa u mu) ?_)))))
      cases e : O.klt v u
      · simp only [Bool.false_eq_true, if_false]
        have d := (KO.later' (hab u mu v mv)).mp e
        refine wpS_bind (wpS_elem (at_map f hv) ?_)
        have m' := m.oneB ha hb q2 hu (by omega) hv d
        by_cases k1 : nb - 1 = 1
        · rw [if_pos (by simpa using k1)]
          exact wpS_pure ⟨hs, .inl ⟨_, _, _, _, _, _, rfl, m'.first ha hb hd' k1⟩⟩
        · rw [if_neg (by simpa using k1)]
          split
          · exact wpS_pure ⟨hs, .inr ⟨_, _, _, _, _, rfl, m', by omega, by omega, by omega, by omega, by omega⟩⟩
          · exact wpS_pure ⟨hs, _, _, _, _, _, rfl, m', by omega, by omega, by omega, by omega, by omega⟩
      · simp only [if_true]
        refine wpS_bind (wpS_elem (at_map f hu) ?_)
        have m' := m.oneA ha hb (by omega) hv q2 hu (.inl e)
        by_cases k1 : na - 1 = 0
        · rw [if_pos (by simpa using k1)]
          exact wpS_pure ⟨hs, .inl ⟨_, _, _, _, _, _, rfl, m'.done hb k1⟩⟩
        · rw [if_neg (by simpa using k1)]
          split
          · exact wpS_pure ⟨hs, .inr ⟨_, _, _, _, _, rfl, m', by omega, by omega, by omega, by omega, by omega⟩⟩
          · exact wpS_pure ⟨hs, _, _, _, _, _, rfl, m', by omega, by omega, by omega, by omega, by omega⟩
    case ipost =>
      rintro c s2 ⟨hs, ⟨r, out, na, nb, p, q, rfl, m⟩ | ⟨out, na, nb, p, q, rfl, m, q1, q2, q4, q5, q3⟩⟩
      · exact wpS_pure ⟨hs, r, _, _, _, _, rfl, m⟩
      · dsimp only
        refine wpS_bind (wpS_lift (wpAny_rule ⟨rfl, ?_⟩))
        refine wpS_bind (wpS_mono (wpS_forRange (I := fun y c s2 => SameS st s2 ∧ ∃ out na nb g p q, c = (none, na, nb, out, g, p, q) ∧ HiI f O La Lb out na nb ∧ 2 ≤ nb ∧ 1 ≤ na ∧ nb ≤ Lb.length ∧ na ≤ La.length ∧ x + na + nb + 2 ≤ La.length + Lb.length)
          (Q := fun c s2 => SameS st s2 ∧ ((∃ r out na nb g p q, c = (some r, na, nb, out, g, p, q) ∧ LoF f O La Lb r) ∨ (∃ out na nb g p q, c = (none, na, nb, out, g, p, q) ∧ HiI f O La Lb out na nb ∧ 2 ≤ nb ∧ 1 ≤ na ∧ nb ≤ Lb.length ∧ na ≤ La.length ∧ x + na + nb + 2 ≤ La.length + Lb.length))) ?jstep ?jfin ?jinit) ?jpost)
        case jinit => exact ⟨hs, out, na, nb, _, p, q, rfl, m, q1, q2, q4, q5, q3⟩
        case jfin =>
          rintro c s2 ⟨hs, out, na, nb, g, p, q, rfl, m, q1, q2, q4, q5, q3⟩
          exact ⟨hs, .inr ⟨out, na, nb, g, p, q, rfl, m, q1, q2, q4, q5, q3⟩⟩
        case jpost =>
          rintro c s2 ⟨hs, ⟨r, out, na, nb, g, p, q, rfl, m⟩ | ⟨out, na, nb, g, p, q, rfl, m, q1, q2, q4, q5, q3⟩⟩
          · exact wpS_pure ⟨hs, r, _, _, _, _, rfl, m⟩
          · dsimp only
            exact wpS_bind (wpS_setGal (wpS_pure ⟨hs.gal _, out, na, nb, _, rfl, m, q1, q2, q4, q5, by omega⟩))
        case jstep =>
          rintro y c s2 _ hyn ⟨hs, out, na, nb, g, p, q, rfl, m, q1, q2, q4, q5, q3⟩
          dsimp only
          obtain ⟨v, hv⟩ : ∃ v, Lb[nb - 1]? = some v := ⟨_, List.getElem?_eq_getElem (by omega)⟩
          have mv := List.mem_of_getElem? hv
          revert g
          refine wpS_ite3 (a := fun g => g - 1) (fun g => rfl) fun g => ?_
          refine wpS_bind (wpS_setGal ?_)
          refine wpS_bind (wpS_elem (at_map f hv) ?_)
          refine wpS_bind (gal_false hc ((hs.gal _).kind.trans hk) ha naa (nbb v mv) (fun z hz => hab z hz v mv) (by omega) (by omega) fun at1 z1 z2 z3 => ?_)
          dsimp only
          have tk : ∀ z ∈ (La.drop at1).take (na - at1), O.D v z := fun z hz => by
            obtain ⟨j, j1, j2, j3⟩ := seg_at z1 q5 hz
            exact z3 j z j1 j2 j3
          have mm := m.takeA ha hb (by omega) hv z1 tk
          have low : ∀ i, i ≤ at1 → 1 ≤ i → ∃ z, La[i - 1]? = some z ∧ O.D z v := fun i h1 h2 => by
            obtain ⟨z, hz⟩ : ∃ z, La[i - 1]? = some z := ⟨_, List.getElem?_eq_getElem (by omega)⟩
            exact ⟨z, hz, z2 (i - 1) z (by omega) (by rw [Nat.zero_add]; exact hz)⟩
          obtain ⟨ac, hac⟩ : ∃ ac, ac = na - at1 := ⟨_, rfl⟩
          rw [← hac]
          obtain ⟨o1, ho1⟩ : ∃ o1, o1 = out := ⟨_, rfl⟩
          obtain ⟨i1, hi1⟩ : ∃ i1, i1 = na := ⟨_, rfl⟩
          rw [← ho1, ← hi1]
          revert i1
          revert o1
          refine wpS_ite4 (o := out) (i := na) (fun o i => HiI f O La Lb o i nb ∧ 1 ≤ i ∧ i ≤ na ∧ ∃ z, La[i - 1]? = some z ∧ O.D z v) (fun hk0 => ?_) (fun key hk0 => ?_) fun out' i ⟨mm, hi, hil, z, hz, dz⟩ => ?_
          · exact ⟨m, q2, Nat.le_refl _, low na (by omega) q2⟩
          · by_cases k1 : at1 = 0
            · rw [if_pos (by simpa using k1)]
              exact wpS_pure ⟨hs.gal _, .inl ⟨_, _, _, _, _, _, _, rfl, mm.done hb k1⟩⟩
            rw [if_neg (by simpa using k1)]
            exact key _ _ ⟨mm, by omega, z1, low at1 (Nat.le_refl _) (by omega)⟩
          have mz := List.mem_of_getElem? hz
          refine wpS_bind (wpS_elem (at_map f hv) ?_)
          have m2 := mm.oneB ha hb hi hz (by omega) hv dz
          obtain ⟨jb, hjb⟩ : ∃ jb, jb = nb - 1 := ⟨_, rfl⟩
          rw [← hjb] at m2 ⊢
          by_cases k2 : jb = 1
          · rw [if_pos (by simpa using k2)]
            exact wpS_pure ⟨hs.gal _, .inl ⟨_, _, _, _, _, _, _, rfl, m2.first ha hb hd' k2⟩⟩
          rw [if_neg (by simpa using k2)]
          refine wpS_bind (wpS_elem (at_map f hz) ?_)
          refine wpS_bind (gal_true hc ((hs.gal _).kind.trans hk) hb nbb (naa z mz) (fun y hy => hab z mz y hy) (by omega) (by omega) fun at2 y1 y2 y3 => ?_)
          dsimp only
          have at2p : 0 < at2 := by
            rcases Nat.eq_zero_or_pos at2 with q | q
            · subst q
              exact (((y3 0 b0 (Nat.le_refl _) (by omega) (by rw [Nat.zero_add]; exact h1)).trans (hd' z mz b0 h1)).irr).elim
            · exact q
          have tk2 : ∀ y ∈ (Lb.drop at2).take (jb - at2), O.D z y := fun y hy => by
            obtain ⟨j, j1, j2, j3⟩ := seg_at y1 (by omega) hy
            exact y3 j y j1 j2 j3
          have m3 := m2.takeB ha hb hi hz y1 tk2
          have lowb : ∀ j, j ≤ at2 → 1 ≤ j → ∀ y, Lb[j - 1]? = some y → O.D y z := fun j h1 h2 y hy => y2 (j - 1) y (by omega) (by rw [Nat.zero_add]; exact hy)
          obtain ⟨out2, hout2⟩ : ∃ o1, o1 = out'.push (f v) := ⟨_, rfl⟩
          obtain ⟨bc, hbc⟩ : ∃ bc, bc = jb - at2 := ⟨_, rfl⟩
          rw [← hout2] at m2 m3
          obtain ⟨o1, ho1⟩ : ∃ o1, o1 = out2 := ⟨_, rfl⟩
          obtain ⟨i1, hi1⟩ : ∃ i1, i1 = jb := ⟨_, rfl⟩
          rw [← hbc, ← hout2, ← ho1, ← hi1]
          revert i1
          revert o1
          refine wpS_ite4 (o := out2) (i := jb) (fun o j => HiI f O La Lb o i j ∧ 2 ≤ j ∧ j ≤ jb ∧ ∀ y, Lb[j - 1]? = some y → O.D y z) (fun hk1 => ?_) (fun key hk1 => ?_) fun out3 j ⟨m3, hj, hjl, hy3⟩ => ?_
          · exact ⟨m2, by omega, Nat.le_refl _, lowb jb (by omega) (by omega)⟩
          · by_cases k3 : at2 = 1
            · rw [if_pos (by simpa using k3)]
              exact wpS_pure ⟨hs.gal _, .inl ⟨_, _, _, _, _, _, _, rfl, m3.first ha hb hd' k3⟩⟩
            rw [if_neg (by simpa using k3), if_neg (by simp; omega)]
            exact key _ _ ⟨m3, by omega, y1, lowb at2 (Nat.le_refl _) (by omega)⟩
          refine wpS_bind (wpS_elem (at_map f hz) ?_)
          obtain ⟨y, hy⟩ : ∃ y, Lb[j - 1]? = some y := ⟨_, List.getElem?_eq_getElem (by omega)⟩
          have m4 := m3.oneA ha hb (by omega) hy hi hz (hy3 y hy)
          by_cases k4 : i - 1 = 0
          · rw [if_pos (by simpa using k4)]
            exact wpS_pure ⟨hs.gal _, .inl ⟨_, _, _, _, _, _, _, rfl, m4.done hb k4⟩⟩
          rw [if_neg (by simpa using k4)]
          have bound : 2 ≤ j ∧ 1 ≤ i - 1 ∧ j ≤ Lb.length ∧ i - 1 ≤ La.length ∧ x + (i - 1) + j + 2 ≤ La.length + Lb.length := by omega
          split
          · exact wpS_pure ⟨hs.gal _, .inr ⟨_, _, _, _, _, _, rfl, m4, bound⟩⟩
          · exact wpS_pure ⟨hs.gal _, _, _, _, _, _, _, rfl, m4, bound⟩
end
end Mine

open PySem PySem.W PyProof.Rows
namespace Mine
theorem put_back {α : Type} (sa : Nat) : ∀ (ys : List α) (i : Nat) (P X R : List α), X.length = ys.length → P.length = sa + i → (ys.zipIdx i).foldl (fun a (p, j) => a.setIfInBounds (sa + j) p) (P ++ X ++ R).toArray = (P ++ ys ++ R).toArray
  | [], i, P, X, R, hX, hP => by
    obtain rfl : X = [] := List.length_eq_zero_iff.mp hX
    rfl
  | y :: ys, i, P, [], R, hX, hP => by cases hX
  | y :: ys, i, P, b :: X, R, hX, hP => by
    rw [List.zipIdx_cons, List.foldl_cons]
    have e : (P ++ b :: X ++ R).toArray.setIfInBounds (sa + i) y = ((P ++ [y]) ++ X ++ R).toArray := by
      rw [← hP]
      apply Array.toList_inj.mp
      simp
    show List.foldl _ ((P ++ b :: X ++ R).toArray.setIfInBounds (sa + i) y) _ = _
    rw [e, put_back sa ys (i + 1) (P ++ [y]) X R (by simpa using hX) (by simp; omega)]
    simp
section
variable {prog : Program} {w : World} {A : Around} {E : Value → Shared → Prop} {s : Shared}
variable {f : Nat → Keyed} {n : Nat} {O : KO}
theorem galS_false {st : SortSt} {arr : Array Keyed} {M : List Nat} {base m hint x : Nat} {Q : Option Nat → SortSt → Prop} (hc : CmpOk prog w A s f n O) (hk : kindOf st = oneType') (hS : ∀ i y, M[i]? = some y → arr[base + i]? = some (f y)) (hU : Up O M) (hn : ∀ y ∈ M, y < n) (hx : x < n) (hlt : ∀ y ∈ M, y < x) (hm : m = M.length) (hh : hint < m)
    (h : ∀ k, k ≤ m → (∀ i y, i < k → M[i]? = some y → O.D y x) → (∀ i y, k ≤ i → M[i]? = some y → O.D x y) → Q (some k) st) : wpS (model prog w) A E s (gallop' false (f x) arr base m hint) Q st := by
  subst hm
  refine wpS_gallop (b := fun i => !O.klt x (M[i]?.getD 0)) (fun i R hi hR => ?_) (fun i j hij hj e => ?_) hh (fun k h1 h2 h3 => h k h1 (fun i y hi hy => ?_) (fun i y q1 hy => ?_))
  · obtain ⟨y, hy⟩ : ∃ y, M[i]? = some y := ⟨_, List.getElem?_eq_getElem (by omega)⟩
    unfold beyond'
    refine wpS_bind (wpS_elem (hS i y hy) ?_)
    simp only [Bool.false_eq_true, if_false]
    refine wpS_bind (wpS_lt hc hk hx (hn y (List.mem_of_getElem? hy)) ?_)
    rw [hy] at hR
    exact wpS_pure hR
  · obtain ⟨y, hy⟩ : ∃ y, M[i]? = some y := ⟨_, List.getElem?_eq_getElem (by omega)⟩
    obtain ⟨z, hz⟩ : ∃ z, M[j]? = some z := ⟨_, List.getElem?_eq_getElem (by omega)⟩
    rw [hz] at e
    rw [hy]
    simp only [Option.getD_some, Bool.not_eq_true'] at e ⊢
    by_cases q : i = j
    · subst q; rw [hy] at hz; cases hz; exact e
    · have d := hU.get (i := i) (j := j) (by omega) hy hz
      exact KO.kle_trans d.le e
  · have := h2 i hi
    rw [hy] at this
    exact (KO.later' (hlt y (List.mem_of_getElem? hy))).mp (by simpa using this)
  · have := h3 i q1 (List.getElem?_eq_some_iff.mp hy).1
    rw [hy] at this
    exact .inl (by simpa using this)
theorem galS_true {st : SortSt} {arr : Array Keyed} {M : List Nat} {base m hint x : Nat} {Q : Option Nat → SortSt → Prop} (hc : CmpOk prog w A s f n O) (hk : kindOf st = oneType') (hS : ∀ i y, M[i]? = some y → arr[base + i]? = some (f y)) (hU : Up O M) (hn : ∀ y ∈ M, y < n) (hx : x < n) (hlt : ∀ y ∈ M, x < y) (hm : m = M.length) (hh : hint < m)
    (h : ∀ k, k ≤ m → (∀ i y, i < k → M[i]? = some y → O.D y x) → (∀ i y, k ≤ i → M[i]? = some y → O.D x y) → Q (some k) st) : wpS (model prog w) A E s (gallop' true (f x) arr base m hint) Q st := by
  subst hm
  refine wpS_gallop (b := fun i => O.klt (M[i]?.getD 0) x) (fun i R hi hR => ?_) (fun i j hij hj e => ?_) hh (fun k h1 h2 h3 => h k h1 (fun i y hi hy => ?_) (fun i y q1 hy => ?_))
  · obtain ⟨y, hy⟩ : ∃ y, M[i]? = some y := ⟨_, List.getElem?_eq_getElem (by omega)⟩
    unfold beyond'
    refine wpS_bind (wpS_elem (hS i y hy) ?_)
    simp only [if_true]
    rw [hy] at hR
    exact wpS_lt hc hk (hn y (List.mem_of_getElem? hy)) hx hR
  · obtain ⟨y, hy⟩ : ∃ y, M[i]? = some y := ⟨_, List.getElem?_eq_getElem (by omega)⟩
    obtain ⟨z, hz⟩ : ∃ z, M[j]? = some z := ⟨_, List.getElem?_eq_getElem (by omega)⟩
    rw [hz] at e
    rw [hy]
    simp only [Option.getD_some] at e ⊢
    by_cases q : i = j
    · subst q; rw [hy] at hz; cases hz; exact e
    · have d := hU.get (i := i) (j := j) (by omega) hy hz
      rcases O.neg _ y _ e with k | k
      · rw [d.le] at k; cases k
      · exact k
  · have := h2 i hi
    rw [hy] at this
    exact .inl (by simpa using this)
  · have := h3 i q1 (List.getElem?_eq_some_iff.mp hy).1
    rw [hy] at this
    exact (KO.later' (hlt y (List.mem_of_getElem? hy))).mp (by simpa using this)
theorem wpS_set {σ : Type} {M : Model} {st st' : σ} {Q : PUnit → σ → Prop} (h : Q ⟨⟩ st') : wpS M A E s (set st' : StateT σ Sem PUnit) Q st := by
  unfold wpS; rw [StateT.run_set]; exact wpAny_pure ⟨rfl, h⟩
theorem get_left {M R : List Nat} {i y : Nat} (h : M[i]? = some y) : (M ++ R)[i]? = some y := by
  rw [List.getElem?_append_left (List.getElem?_eq_some_iff.mp h).1]; exact h
theorem get_right {M R : List Nat} {i y : Nat} (h : R[i]? = some y) : (M ++ R)[M.length + i]? = some y := by
  rw [List.getElem?_append_right (by omega)]
  rw [← h]; congr 1; omega
theorem in_take {M : List Nat} {k x : Nat} (h : x ∈ M.take k) : ∃ i, i < k ∧ M[i]? = some x := by
  obtain ⟨i, hi, e⟩ := List.mem_iff_getElem.mp h
  rw [List.length_take] at hi
  rw [List.getElem_take] at e
  exact ⟨i, by omega, List.getElem?_eq_some_iff.mpr ⟨by omega, e⟩⟩
theorem in_drop {M : List Nat} {k x : Nat} (h : x ∈ M.drop k) : ∃ i, k ≤ i ∧ M[i]? = some x := by
  obtain ⟨i, hi, e⟩ := List.mem_iff_getElem.mp h
  rw [List.length_drop] at hi
  rw [List.getElem_drop] at e
  exact ⟨k + i, by omega, List.getElem?_eq_some_iff.mpr ⟨by omega, e⟩⟩
theorem wpS_mergeAt {st : SortSt} {M1 M2 : List Nat} {n1 n2 p1 p2 : Nat} {Q : Bool → SortSt → Prop} (hc : CmpOk prog w A s f n O) (hA : Arr f (M1 ++ M2) st) (h1 : Up O M1) (h2 : Up O M2) (l1 : M1.length = n1) (l2 : M2.length = n2) (g1 : 1 ≤ n1) (g2 : 1 ≤ n2)
    (hlt : ∀ x ∈ M1, ∀ y ∈ M2, x < y) (b1 : ∀ x ∈ M1, x < n) (b2 : ∀ x ∈ M2, x < n) (hp : pendingOf st = #[(0, n1, p1), (n1, n2, p2)])
    (h : ∀ L st', Arr f L st' → Up O L → L.Perm (M1 ++ M2) → pendingOf st' = #[(0, n1 + n2, p1)] → Q true st') : wpS (model prog w) A E s (mergeAt' 0) Q st := by
  unfold mergeAt'
  k_delta "mergeAt"
  refine wpS_bind (wpS_get ?_)
  have hp' := hp
  unfold pendingOf at hp'
  have ha' := hA.arr
  unfold arrOf at ha'
  rw [hp']
  dsimp only [List.getElem?_toArray, List.getElem?_cons_zero, List.getElem?_cons_succ]
  refine wpS_bind (wpS_set ?_)
  change wpS (model prog w) A E s _ Q (setPending st _)
  rw [ha']
  obtain ⟨b0, hb0⟩ : ∃ b0, M2[0]? = some b0 := ⟨_, List.getElem?_eq_getElem (by omega)⟩
  have mb0 := List.mem_of_getElem? hb0
  have ep : (((#[(0, n1, p1), (n1, n2, p2)] : Array (Nat × Nat × Nat)).setIfInBounds 0 (0, n1 + n2, p1)).eraseIdxIfInBounds (0 + 1)) = #[(0, n1 + n2, p1)] := by simp [Array.eraseIdxIfInBounds]
  rw [ep]
  have eb : ((M1 ++ M2).map f).toArray[n1]? = some (f b0) := at_map f (by have := get_right (M := M1) hb0; rw [l1] at this; exact this)
  refine wpS_bind (wpS_elem eb ?_)
  refine wpS_bind (galS_false (M := M1) hc hA.kind (fun i y hy => at_map f (by rw [Nat.zero_add]; exact get_left hy)) h1 b1 (b2 b0 mb0) (fun y hy => hlt y hy b0 mb0) l1.symm (by omega) fun k k1 k2 k3 => ?_)
  dsimp only
  by_cases c1 : n1 - k = 0
  · rw [if_pos (by simpa using c1)]
    obtain rfl : k = n1 := by omega
    refine wpS_pure (h (M1 ++ M2) _ ⟨hA.kind, hA.failed, hA.arr⟩ ?_ (.refl _) rfl)
    refine List.pairwise_append.mpr ⟨h1, h2, fun x hx y hy => ?_⟩
    obtain ⟨i, hi⟩ := List.getElem?_of_mem hx
    have d := k2 i x (by have := (List.getElem?_eq_some_iff.mp hi).1; omega) hi
    rcases h2.head hb0 (z := y) (by rw [List.drop_zero]; exact hy) with rfl | q
    · exact d
    · exact d.trans q
  rw [if_neg (by simpa using c1)]
  obtain ⟨t, ht⟩ : ∃ t, M1[n1 - 1]? = some t := ⟨_, List.getElem?_eq_getElem (by omega)⟩
  have mt := List.mem_of_getElem? ht
  have et : ((M1 ++ M2).map f).toArray[0 + k + (n1 - k) - 1]? = some (f t) := at_map f (by rw [show 0 + k + (n1 - k) - 1 = n1 - 1 by omega]; exact get_left ht)
  refine wpS_bind (wpS_elem et ?_)
  refine wpS_bind (galS_true (M := M2) hc hA.kind (fun i y hy => at_map f (by have := get_right (M := M1) hy; rw [l1] at this; exact this)) h2 b2 (b1 t mt) (fun y hy => hlt t mt y hy) l2.symm (by omega) fun k' y1 y2 y3 => ?_)
  dsimp only
  have dt : O.D b0 t := k3 (n1 - 1) t (by omega) ht
  have c2 : k' ≠ 0 := fun q => by
    subst q
    exact ((y3 0 b0 (Nat.le_refl _) hb0).trans dt).irr
  rw [if_neg (by simpa using c2)]
  -- what is merged
  have ex : ((M1 ++ M2).map f).toArray.extract (0 + k) n1 = ((M1.drop k).map f).toArray := by
    rw [ext_seg, Nat.zero_add]
    congr 2
    rw [List.drop_append_of_le_length (by omega), List.take_append_of_le_length (by rw [List.length_drop]; omega)]
    exact List.take_of_length_le (by rw [List.length_drop]; omega)
  have ey : ((M1 ++ M2).map f).toArray.extract n1 (n1 + k') = ((M2.take k').map f).toArray := by
    rw [ext_seg]
    congr 2
    rw [show n1 + k' - n1 = k' by omega, ← l1, List.drop_left]
  rw [ex, ey]
  obtain ⟨a0, ha0⟩ : ∃ a0, M1[k]? = some a0 := ⟨_, List.getElem?_eq_getElem (by omega)⟩
  have u1 : Up O (M1.drop k) := h1.drop k
  have u2 : Up O (M2.take k') := (h2.cut k').1
  have n1' : ∀ x ∈ M1.drop k, x < n := fun x hx => b1 x (List.mem_of_mem_drop hx)
  have n2' : ∀ x ∈ M2.take k', x < n := fun x hx => b2 x (List.mem_of_mem_take hx)
  have lt' : ∀ x ∈ M1.drop k, ∀ y ∈ M2.take k', x < y := fun x hx y hy => hlt x (List.mem_of_mem_drop hx) y (List.mem_of_mem_take hy)
  have e0 : (M1.drop k)[0]? = some a0 := by rw [List.getElem?_drop]; exact ha0
  have e1 : (M2.take k')[0]? = some b0 := by rw [List.getElem?_take, if_pos (by omega)]; exact hb0
  have d0 : O.D b0 a0 := k3 k a0 (Nat.le_refl _) ha0
  have el : (M1.drop k)[(M1.drop k).length - 1]? = some t := by
    rw [List.getElem?_drop, List.length_drop, ← ht]; congr 1; omega
  have dx : ∀ x ∈ M2.take k', O.D x t := fun x hx => by
    obtain ⟨i, i1, i2⟩ := in_take hx
    exact y2 i x i1 i2
  have key : ∀ Lo st', Up O Lo → Lo.Perm (M1.drop k ++ M2.take k') → SameS (setPending st #[(0, n1 + n2, p1)]) st' →
      wpS (model prog w) A E s (do
        modify fun s => setArr s ((Lo.map f).toArray.toList.zipIdx.foldl (fun a (p, j) => a.setIfInBounds (0 + k + j) p) (arrOf s))
        return (failedOf (← get)).isNone) Q st' := by
    intro Lo st' uL pL hs
    refine wpS_bind (wpS_modify (wpS_bind (wpS_get ?_)))
    have ef : failedOf st' = none := hs.failed.trans hA.failed
    have ea : arrOf st' = ((M1 ++ M2).map f).toArray := hs.arr.trans hA.arr
    have lL := pL.length_eq
    rw [List.length_append, List.length_drop, List.length_take] at lL
    have eq : (Lo.map f).toArray.toList.zipIdx.foldl (fun a (p, j) => a.setIfInBounds (0 + k + j) p) (arrOf st') = ((M1.take k ++ Lo ++ M2.drop k').map f).toArray := by
      rw [ea]
      have es : (M1 ++ M2).map f = (M1.take k).map f ++ (M1.drop k ++ M2.take k').map f ++ (M2.drop k').map f := by
        rw [← List.map_append, ← List.map_append]
        congr 1
        rw [← List.append_assoc, List.take_append_drop, List.append_assoc, List.take_append_drop]
      rw [es, put_back (0 + k) (Lo.map f) 0 _ _ _ (by rw [List.length_map, List.length_map]; exact pL.length_eq.symm) (by rw [List.length_map, List.length_take]; omega)]
      rw [List.map_append, List.map_append]
    rw [eq]
    show wpS _ _ _ _ (pure (failedOf st').isNone) Q _
    rw [ef]
    refine wpS_pure (h (M1.take k ++ Lo ++ M2.drop k') _ ⟨hs.kind.trans hA.kind, ef, rfl⟩ ?_ ?_ hs.pend)
    · have m1 : ∀ x ∈ M1.take k, O.D x b0 := fun x hx => by
        obtain ⟨i, i1, i2⟩ := in_take hx
        exact k2 i x i1 i2
      have m2 : ∀ x ∈ M1.take k, ∀ y ∈ M2, O.D x y := fun x hx y hy => by
        rcases h2.head hb0 (z := y) (by rw [List.drop_zero]; exact hy) with rfl | q
        · exact m1 x hx
        · exact (m1 x hx).trans q
      refine List.pairwise_append.mpr ⟨List.pairwise_append.mpr ⟨(h1.cut k).1, uL, fun x hx y hy => ?_⟩, h2.drop k', fun x hx y hy => ?_⟩
      · rcases List.mem_append.mp (pL.mem_iff.mp hy) with hy | hy
        · exact (h1.cut k).2 x hx y hy
        · exact m2 x hx y (List.mem_of_mem_take hy)
      · rcases List.mem_append.mp hx with hx | hx
        · exact m2 x hx y (List.mem_of_mem_drop hy)
        · rcases List.mem_append.mp (pL.mem_iff.mp hx) with hx | hx
          · obtain ⟨i, i1, i2⟩ := in_drop hy
            have d := y3 i y i1 i2
            have hx' := List.mem_of_mem_drop hx
            rcases h1.tail (i := n1) g1 ht (z := x) (by rw [← l1, List.take_length]; exact hx') with rfl | q
            · exact d
            · exact q.trans d
          · exact (h2.cut k').2 x hx y hy
    · have p1 : (M1.take k ++ Lo ++ M2.drop k').Perm (M1.take k ++ (M1.drop k ++ M2.take k') ++ M2.drop k') := (List.Perm.append_left _ pL).append_right _
      refine p1.trans ?_
      rw [← List.append_assoc, List.take_append_drop, List.append_assoc, List.take_append_drop]
  by_cases c3 : n1 - k ≤ k'
  · rw [if_pos c3]
    refine wpS_bind (wpS_mergeLo (st := setPending st #[(0, n1 + n2, p1)]) hc hA.kind u1 u2 n1' n2' lt' e0 e1 d0 (fun x hx y hy => ?_) fun Lo st' a1 a2 a3 => key Lo st' a1 a2 a3)
    rw [el] at hy
    cases hy
    exact dx x hx
  · rw [if_neg c3]
    exact wpS_bind (wpS_mergeHi (st := setPending st #[(0, n1 + n2, p1)]) hc hA.kind u1 u2 n1' n2' lt' e0 e1 d0 el dx fun Lo st' a1 a2 a3 => key Lo st' a1 a2 a3)
end
end Mine

open PySem PySem.W PyProof.Rows
namespace Mine
theorem minRun_half {n : Nat} (h2 : 2 ≤ n) (h : n < 128) : 1 ≤ minRun' n n 0 ∧ minRun' n n 0 ≤ n ∧ n ≤ 2 * minRun' n n 0 := by
  obtain ⟨f, hf⟩ : ∃ f, n = (f + 1) + 1 := ⟨n - 2, by omega⟩
  have e : minRun' n n 0 = minRun' ((f + 1) + 1) n 0 := by rw [← hf]
  rw [e, minRun'_succ]
  by_cases c : n < 64
  · rw [if_pos c]; omega
  · rw [if_neg c, minRun'_succ, if_pos (by omega)]; omega
section
variable {prog : Program} {w : World} {A : Around} {E : Value → Shared → Prop} {s : Shared}
variable {f : Nat → Keyed} {n : Nat} {O : KO}
structure R1 (O : KO) (f : Nat → Keyed) (n n1 : Nat) (M1 : List Nat) (st : SortSt) : Prop where
  rg : Rg f [] 0 n n1 M1 st
  up : Up O M1
  pend : pendingOf st = #[(0, n1, 0)]
structure R2 (O : KO) (f : Nat → Keyed) (n n1 n2 pw : Nat) (M1 M2 : List Nat) (st : SortSt) : Prop where
  arr : Arr f (M1 ++ M2) st
  p1 : M1.Perm (List.range' 0 n1)
  p2 : M2.Perm (List.range' n1 n2)
  u1 : Up O M1
  u2 : Up O M2
  sum : n1 + n2 = n
  g1 : 1 ≤ n1
  g2 : 1 ≤ n2
  pend : pendingOf st = #[(0, n1, pw), (n1, n2, 0)]
structure RF (O : KO) (f : Nat → Keyed) (n : Nat) (L : List Nat) (st : SortSt) : Prop where
  arr : Arr f L st
  perm : L.Perm (List.range' 0 n)
  up : Up O L
  pend : (pendingOf st).size = 1
theorem wpS_sortRunsG {st : SortSt} {Q : Unit → SortSt → Prop} (hc : CmpOk prog w A s f n O) (h2 : 2 ≤ n) (h128 : n < 128) (hA : Arr f (List.range' 0 n) st) (hpd : pendingOf st = #[])
    (h : ∀ L st', Arr f L st' → Up O L → L.Perm (List.range' 0 n) → Q () st') : wpS (model prog w) A E s sortRuns' Q st := by
  rw [sortRuns'_eq]
  refine wpS_bind (wpS_get ?_)
  dsimp only
  have hsz : (arrOf st).size = n := by rw [hA.size]; simp
  obtain ⟨m1, m2, m3⟩ := minRun_half h2 h128
  simp only [hsz]
  generalize minRun' n n 0 = mr at m1 m2 m3 ⊢
  refine wpS_bind (wpS_mono (wpS_forRange
    (I := fun x c st' => (x = 0 ∧ c = (none, 0) ∧ Arr f (List.range' 0 n) st' ∧ pendingOf st' = #[]) ∨ (1 ≤ x ∧ ∃ n1 M1, c = (none, n1) ∧ 1 ≤ n1 ∧ mr ≤ n1 ∧ n1 ≤ n ∧ (x = 1 ∨ n1 = n) ∧ R1 O f n n1 M1 st') ∨ (2 ≤ x ∧ c = (none, n) ∧ ∃ n1 n2 pw M1 M2, R2 O f n n1 n2 pw M1 M2 st'))
    (Q := fun c st' => c = (none, n) ∧ ((∃ M1, R1 O f n n M1 st') ∨ ∃ n1 n2 pw M1 M2, R2 O f n n1 n2 pw M1 M2 st')) ?step ?fin (.inl ⟨rfl, rfl, hA, hpd⟩)) ?post)
  case fin =>
    rintro c st' (⟨hx, _⟩ | ⟨hx, n1, M1, rfl, _, _, _, hor, h1⟩ | ⟨_, rfl, hD⟩)
    · omega
    · obtain rfl : n1 = n := by omega
      exact ⟨rfl, .inl ⟨M1, h1⟩⟩
    · exact ⟨rfl, .inr hD⟩
  case step =>
    rintro x c st' _ hx (⟨rfl, rfl, hA', hp'⟩ | ⟨hx1, n1, M1, rfl, a1, a2, a3, hor, h1⟩ | ⟨hx2, rfl, hD⟩)
    · dsimp only
      rw [if_neg (by omega)]
      refine wpS_bind (wpS_countRunG (P := []) hc rfl (by omega) (by omega) (by simpa using hA') hp' fun m M' st2 g1 g2 hR2 hU2 hp2 => ?_)
      dsimp only
      rw [Nat.sub_zero] at hR2 g2
      by_cases hlt : m < mr
      · rw [if_pos hlt]
        refine wpS_bind (wpS_lift (wpAny_rule ⟨rfl, ?_⟩))
        rw [Nat.sub_zero, Nat.min_eq_right m2]
        refine wpS_bind (wpS_binarySortG (nrem := n) hc rfl (by omega) g1 (by omega) (by omega) hR2 hU2 hp2 fun M3 st3 hR3 hU3 hp3 => ?_)
        simp only [Bool.not_true, Bool.false_eq_true, if_false]
        refine wpS_bind (wpS_get ?_)
        rw [hp3]
        rw [show ((#[] : Array (Nat × Nat × Nat)).back? = none) from rfl]
        dsimp only
        refine wpS_bind (wpS_modify (wpS_pure (.inr (.inl ⟨by omega, _, M3, by rw [Nat.zero_add], by omega, by omega, by omega, .inl (by first | trivial | rfl), ⟨⟨⟨hR3.arr.kind, hR3.arr.failed, hR3.arr.arr⟩, hR3.perm⟩, hU3, ?_⟩⟩))))
        show (pendingOf _).push _ = _
        rw [hp3]
        rfl
      · rw [if_neg hlt]
        have hR3 := hR2
        have hU3 := hU2
        have hp3 := hp2
        generalize M' = M3 at hR3 hU3
        refine wpS_bind (wpS_get ?_)
        rw [hp3]
        rw [show ((#[] : Array (Nat × Nat × Nat)).back? = none) from rfl]
        dsimp only
        refine wpS_bind (wpS_modify (wpS_pure (.inr (.inl ⟨by omega, _, M3, by rw [Nat.zero_add], by omega, by omega, by omega, .inl (by first | trivial | rfl), ⟨⟨⟨hR3.arr.kind, hR3.arr.failed, hR3.arr.arr⟩, hR3.perm⟩, hU3, ?_⟩⟩))))
        show (pendingOf _).push _ = _
        rw [hp3]
        rfl
    · dsimp only
      by_cases hge : n1 ≥ n
      · rw [if_pos hge]
        obtain rfl : n1 = n := by omega
        exact wpS_pure ⟨rfl, .inl ⟨M1, h1⟩⟩
      rw [if_neg hge]
      have l1 := h1.rg.len
      refine wpS_bind (wpS_countRunG (P := M1) hc l1 (by omega) (by omega) (by have := h1.rg.arr; simpa using this) h1.pend fun m M' st2 g1 g2 hR2 hU2 hp2 => ?_)
      dsimp only
      by_cases hlt : m < mr
      · rw [if_pos hlt]
        refine wpS_bind (wpS_lift (wpAny_rule ⟨rfl, ?_⟩))
        have em : min (n - n1) mr = n - n1 := by omega
        rw [em]
        refine wpS_bind (wpS_binarySortG (nrem := n - n1) hc l1 (by omega) g1 g2 (Nat.le_refl _) hR2 hU2 hp2 fun M3 st3 hR3 hU3 hp3 => ?_)
        simp only [Bool.not_true, Bool.false_eq_true, if_false]
        refine wpS_bind (wpS_get ?_)
        rw [hp3]
        rw [show ((#[(0, n1, 0)] : Array (Nat × Nat × Nat)).back? = some (0, n1, 0)) from rfl]
        dsimp only
        refine wpS_bind (wpS_mono (wpS_forRange (I := fun _ c s2 => s2 = st3 ∧ c = (none, ())) (Q := fun c s2 => s2 = st3 ∧ c = (none, ())) ?_ (fun _ _ hh => hh) ⟨rfl, rfl⟩) ?_)
        · rintro x2 c s2 _ _ ⟨rfl, rfl⟩
          refine wpS_bind (wpS_get ?_)
          rw [hp3]
          exact wpS_pure ⟨rfl, rfl⟩
        · rintro c s2 ⟨rfl, rfl⟩
          dsimp only
          refine wpS_bind (wpS_modify (wpS_bind (wpS_modify (wpS_pure (.inr (.inr ⟨by omega, by congr 1; omega, n1, n - n1, power' n (2 * 0 + n1) (2 * 0 + n1 + n1 + (n - n1)) n, M1, M3, ⟨⟨hR3.arr.kind, hR3.arr.failed, ?_⟩, h1.rg.perm, hR3.perm, h1.up, hU3, by omega, by omega, by omega, ?_⟩⟩)))))) 
          · have := hR3.arr.arr
            rw [Nat.sub_self, List.range'_zero, List.append_nil] at this
            exact this
          · show ((pendingOf s2).modify ((pendingOf s2).size - 1) _).push _ = _
            rw [hp3]
            simp
      · rw [if_neg hlt]
        obtain rfl : m = n - n1 := by omega
        obtain ⟨M3, hM3⟩ : ∃ M3, M3 = M' := ⟨_, rfl⟩
        obtain ⟨st3, hst3⟩ : ∃ st3, st3 = st2 := ⟨_, rfl⟩
        have hR3 := hR2
        have hU3 := hU2
        have hp3 := hp2
        rw [← hM3, ← hst3] at hR3
        rw [← hM3] at hU3
        rw [← hst3] at hp3 ⊢
        refine wpS_bind (wpS_get ?_)
        rw [hp3]
        rw [show ((#[(0, n1, 0)] : Array (Nat × Nat × Nat)).back? = some (0, n1, 0)) from rfl]
        dsimp only
        refine wpS_bind (wpS_mono (wpS_forRange (I := fun _ c s2 => s2 = st3 ∧ c = (none, ())) (Q := fun c s2 => s2 = st3 ∧ c = (none, ())) ?_ (fun _ _ hh => hh) ⟨rfl, rfl⟩) ?_)
        · rintro x2 c s2 _ _ ⟨rfl, rfl⟩
          refine wpS_bind (wpS_get ?_)
          rw [hp3]
          exact wpS_pure ⟨rfl, rfl⟩
        · rintro c s2 ⟨rfl, rfl⟩
          dsimp only
          refine wpS_bind (wpS_modify (wpS_bind (wpS_modify (wpS_pure (.inr (.inr ⟨by omega, by congr 1; omega, n1, n - n1, power' n (2 * 0 + n1) (2 * 0 + n1 + n1 + (n - n1)) n, M1, M3, ⟨⟨hR3.arr.kind, hR3.arr.failed, ?_⟩, h1.rg.perm, hR3.perm, h1.up, hU3, by omega, by omega, by omega, ?_⟩⟩)))))) 
          · have := hR3.arr.arr
            rw [Nat.sub_self, List.range'_zero, List.append_nil] at this
            exact this
          · show ((pendingOf s2).modify ((pendingOf s2).size - 1) _).push _ = _
            rw [hp3]
            simp
    · dsimp only
      rw [if_pos (Nat.le_refl _)]
      exact wpS_pure ⟨rfl, .inr hD⟩
  case post =>
    rintro c st' ⟨rfl, hor⟩
    dsimp only
    refine wpS_bind (wpS_mono (wpS_forRange (I := fun x c st'' => c = (none, ()) ∧ ((∃ L, RF O f n L st'') ∨ (x = 0 ∧ ∃ n1 n2 pw M1 M2, R2 O f n n1 n2 pw M1 M2 st''))) (Q := fun c st'' => c = (none, ()) ∧ ∃ L, RF O f n L st'') ?fstep ?ffin ?finit) ?fpost)
    case finit =>
      refine ⟨rfl, ?_⟩
      rcases hor with ⟨M1, h1⟩ | hD
      · refine .inl ⟨M1, ?_, h1.rg.perm, h1.up, by rw [h1.pend]; rfl⟩
        have := h1.rg.arr
        simpa using this
      · exact .inr ⟨rfl, hD⟩
    case ffin =>
      rintro c st'' ⟨rfl, hF | ⟨hx, _⟩⟩
      · exact ⟨rfl, hF⟩
      · omega
    case fpost =>
      rintro c st'' ⟨rfl, L, hF⟩
      exact wpS_pure (h L st'' hF.arr hF.up hF.perm)
    case fstep =>
      rintro x c st'' _ _ ⟨rfl, ⟨L, hF⟩ | ⟨rfl, n1, n2, pw, M1, M2, hD⟩⟩
      · refine wpS_bind (wpS_get ?_)
        rw [if_pos (by rw [hF.pend]; exact Nat.le_refl 1)]
        exact wpS_pure ⟨rfl, L, hF⟩
      · refine wpS_bind (wpS_get ?_)
        rw [hD.pend]
        have k1 : ∀ z ∈ M1, z < n1 := fun z hz => by have := hD.p1.mem_iff.mp hz; simp at this; omega
        have k2 : ∀ z ∈ M2, n1 ≤ z ∧ z < n1 + n2 := fun z hz => by have := hD.p2.mem_iff.mp hz; simp at this; omega
        have hs := hD.sum
        rw [if_neg (by show ¬ 2 ≤ 1; omega)]
        refine wpS_bind (wpS_mergeAt (st := st'') (M1 := M1) (M2 := M2) hc hD.arr hD.u1 hD.u2 (by rw [hD.p1.length_eq]; simp) (by rw [hD.p2.length_eq]; simp) hD.g1 hD.g2 (fun a ha b hb => by have := k1 a ha; have := k2 b hb; omega) (fun a ha => by have := k1 a ha; omega) (fun a ha => by have := k2 a ha; omega) hD.pend fun L st3 hA3 hU3 hP3 hp3 => ?_)
        simp only [Bool.not_true, Bool.false_eq_true, if_false]
        refine wpS_pure ⟨rfl, .inl ⟨L, hA3, ?_, hU3, by rw [hp3]; rfl⟩⟩
        refine hP3.trans ((hD.p1.append hD.p2).trans ?_)
        have e := List.range'_append_1 (s := 0) (m := n1) (n := n2)
        rw [Nat.zero_add] at e
        rw [e, hs]
end
end Mine

open PySem PySem.W PyProof.Rows
namespace Mine
/-! ## < on lists of ints -/
def lexLt : List Int → List Int → Bool
  | [], [] => false
  | [], _ :: _ => true
  | _ :: _, [] => false
  | x :: xs, y :: ys => if x = y then lexLt xs ys else decide (x < y)
theorem lexLt_irr : ∀ xs : List Int, lexLt xs xs = false
  | [] => rfl
  | x :: xs => by unfold lexLt; rw [if_pos rfl]; exact lexLt_irr xs
theorem lexLt_trans : ∀ xs ys zs : List Int, lexLt xs ys = true → lexLt ys zs = true → lexLt xs zs = true
  | [], [], zs, h1, h2 => by cases h1
  | [], y :: ys, [], h1, h2 => by cases h2
  | [], y :: ys, z :: zs, h1, h2 => rfl
  | x :: xs, [], zs, h1, h2 => by cases h1
  | x :: xs, y :: ys, [], h1, h2 => by cases h2
  | x :: xs, y :: ys, z :: zs, h1, h2 => by
    unfold lexLt at h1 h2 ⊢
    by_cases a : x = y
    · rw [if_pos a] at h1
      by_cases b : y = z
      · rw [if_pos b] at h2
        rw [if_pos (a.trans b)]
        exact lexLt_trans xs ys zs h1 h2
      · rw [if_neg b] at h2
        rw [if_neg (a ▸ b), a]; exact h2
    · rw [if_neg a] at h1
      by_cases b : y = z
      · rw [if_neg (b ▸ a), ← b]; exact h1
      · rw [if_neg b] at h2
        have h1 := of_decide_eq_true h1
        have h2 := of_decide_eq_true h2
        rw [if_neg (by omega)]
        exact decide_eq_true (by omega)
theorem lexLt_neg : ∀ xs ys zs : List Int, lexLt xs zs = true → lexLt xs ys = true ∨ lexLt ys zs = true
  | [], [], zs, h => .inr h
  | [], y :: ys, zs, h => .inl rfl
  | x :: xs, [], [], h => by cases h
  | x :: xs, [], z :: zs, h => .inr rfl
  | x :: xs, y :: ys, [], h => by cases h
  | x :: xs, y :: ys, z :: zs, h => by
    unfold lexLt at h ⊢
    by_cases c : x = z
    · subst c
      rw [if_pos rfl] at h
      by_cases a : x = y
      · subst a; rw [if_pos rfl, if_pos rfl]; exact lexLt_neg xs ys zs h
      · rw [if_neg a, if_neg (fun e => a e.symm)]
        rcases Int.lt_or_gt_of_ne a with q | q
        · exact .inl (decide_eq_true q)
        · exact .inr (decide_eq_true q)
    · rw [if_neg c] at h
      have h := of_decide_eq_true h
      by_cases a : x = y
      · subst a; rw [if_pos rfl, if_neg c]; exact .inr (decide_eq_true h)
      · rw [if_neg a]
        by_cases b : y = z
        · subst b; exact .inl (decide_eq_true h)
        · rw [if_neg b]
          rcases Int.lt_or_gt_of_ne a with q | q
          · exact .inl (decide_eq_true q)
          · exact .inr (decide_eq_true (by omega))
/-- keys by place -/
def lexKO (ks : Nat → List Int) : KO := ⟨fun i j => lexLt (ks i) (ks j), fun i => lexLt_irr _, fun a b c => lexLt_trans _ _ _, fun a b c => lexLt_neg _ _ _⟩
set_option maxHeartbeats 4000000 in
open MeetsSeq MeetsSeq3 AutoSeq1 in
theorem lt_loop (l b : Addr) (items items2 : Array Value) (n n2 : Nat) (dd dd2 : Option Addr) (sl sl2 : Array (Option Value)) (xs ys : List Int) (hx : IntsAre items.toList xs) (hy : IntsAre items2.toList ys) (k : Nat) :
    ∀ i : Nat, xs.length - i = k → i ≤ xs.length → i ≤ ys.length → Meets (Builtin.«list.__eq__.loop» ⟨[.ref l, .ref b, rawInt i, rawInt 0], []⟩)
      (fun _ R s => s.heap.get? l = some { cls := .type "list", dict := dd, data := .seq items n, slots := sl } ∧ s.heap.get? b = some { cls := .type "list", dict := dd2, data := .seq items2 n2, slots := sl2 } ∧
        R (.ok (.ret (.bool (lexLt (xs.drop i) (ys.drop i))))) s) := by
  have lx : items.size = xs.length := by have := hx.length; rw [Array.length_toList] at this; exact this
  have ly : items2.size = ys.length := by have := hy.length; rw [Array.length_toList] at this; exact this
  induction k with
  | zero =>
    intro i hk h1 h2 prog w A R s h
    obtain ⟨hp, g, d, tk, os⟩ := s; obtain ⟨hl, hb, h⟩ := h
    wp_walk using wpAny_loadPart' hl, wpAny_loadPart' hb
    have hi1 : items[((i : Nat) : Int).toNat]? = none := by simp; omega
    have hd : xs.drop i = [] := List.drop_eq_nil_of_le (by omega)
    rw [hd] at h
    rw [hi1]
    wp_walk using wpAny_loadPart' hl, wpAny_loadPart' hb
    show R (.ok (.ret (.bool (decide (items.size < items2.size))))) _
    have e : decide (items.size < items2.size) = lexLt [] (ys.drop i) := by
      rcases hq : ys.drop i with _ | ⟨y, r⟩
      · have := congrArg List.length hq
        rw [List.length_drop, List.length_nil] at this
        exact decide_eq_false (by omega)
      · have := congrArg List.length hq
        rw [List.length_drop, List.length_cons] at this
        exact decide_eq_true (by omega)
    rw [e]; exact h
  | succ k ih =>
    intro i hk h1 h2 prog w A R s h
    obtain ⟨hp, g, d, tk, os⟩ := s; obtain ⟨hl, hb, h⟩ := h
    have hlt : i < xs.length := by omega
    have hxi : xs[i]? = some xs[i] := List.getElem?_eq_getElem hlt
    obtain ⟨t, ht⟩ := hx.get i _ hxi
    have hi1 : items[((i : Nat) : Int).toNat]? = some (.int xs[i] t) := by rw [Int.toNat_natCast]; simpa using ht
    have hdx : xs.drop i = xs[i] :: xs.drop (i + 1) := List.drop_eq_getElem_cons hlt
    rw [hdx] at h
    wp_walk using wpAny_loadPart' hl, wpAny_loadPart' hb
    rw [hi1]
    by_cases hiy : i < ys.length
    · have hyi : ys[i]? = some ys[i] := List.getElem?_eq_getElem hiy
      obtain ⟨u, hu⟩ := hy.get i _ hyi
      have hi2 : items2[((i : Nat) : Int).toNat]? = some (.int ys[i] u) := by rw [Int.toNat_natCast]; simpa using hu
      have hdy : ys.drop i = ys[i] :: ys.drop (i + 1) := List.drop_eq_getElem_cons hiy
      rw [hdy] at h
      rw [hi2]
      dsimp only
      have hc : ((i : Int) + 1) = ((i + 1 : Nat) : Int) := by push_cast; rfl
      refine wpAny_bind (EqGives.int _ _ _ _ prog w _ _ _ _ ?_)
      by_cases q : xs[i] = ys[i]
      · have qb : (xs[i] == ys[i]) = true := by simpa using q
        rw [qb]
        have h' : R (.ok (.ret (.bool (lexLt (xs.drop (i + 1)) (ys.drop (i + 1)))))) ⟨hp, g, d, tk, os⟩ := by
          unfold lexLt at h
          rw [if_pos q] at h; exact h
        wp_walk
        rw [hc]
        exact ⟨plainId_quiet plain_eq_loop _, codeAny_builtin entry_eq_loop (by
          rw [Around.under_plainId plain_eq_loop _]
          exact ih (i + 1) (by omega) (by omega) (by omega) prog w A R _ ⟨hl, hb, h'⟩)⟩
      · have qb : (xs[i] == ys[i]) = false := by simpa using q
        rw [qb]
        have h' : R (.ok (.ret (.bool (decide (xs[i] < ys[i]))))) ⟨hp, g, d, tk, os⟩ := by
          unfold lexLt at h
          rw [if_neg q] at h; exact h
        wp_walk using wpAny_loadPart' hl, wpAny_loadPart' hb
        rw [hi1, hi2]
        dsimp only
        refine wpAny_bind (wpAny_lt_int ?_)
        exact wpAny_pure h'
    · have hdy : ys.drop i = [] := List.drop_eq_nil_of_le (by omega)
      have hi2 : items2[((i : Nat) : Int).toNat]? = none := by rw [Int.toNat_natCast]; simp; omega
      rw [hdy] at h
      rw [hi2]
      wp_walk using wpAny_loadPart' hl, wpAny_loadPart' hb
      show R (.ok (.ret (.bool (decide (items.size < items2.size))))) _
      rw [decide_eq_false (by omega)]
      exact h
set_option maxHeartbeats 4000000 in
open MeetsSeq MeetsSeq3 AutoSeq1 in
theorem list_lt (l b : Addr) (items items2 : Array Value) (n n2 : Nat) (dd dd2 : Option Addr) (sl sl2 : Array (Option Value)) (xs ys : List Int) (hx : IntsAre items.toList xs) (hy : IntsAre items2.toList ys) :
    Meets (Builtin.«list.__lt__» ⟨[.ref l, .ref b], []⟩)
      (fun _ R s => s.heap.get? l = some { cls := .type "list", dict := dd, data := .seq items n, slots := sl } ∧ s.heap.get? b = some { cls := .type "list", dict := dd2, data := .seq items2 n2, slots := sl2 } ∧
        R (.ok (.ret (.bool (lexLt xs ys)))) s) := by
  intro prog w A R s h
  obtain ⟨hp, g, d, tk, os⟩ := s; obtain ⟨hl, hb, h⟩ := h
  have f3 := AutoSeq1.sub_list_list
  wp_walk using wpAny_loadPart' hl, wpAny_loadPart' hb
  exact ⟨plainId_quiet plain_eq_loop _, codeAny_builtin entry_eq_loop (by
    rw [Around.under_plainId plain_eq_loop _]
    exact lt_loop l b items items2 n n2 dd dd2 sl sl2 xs ys hx hy _ 0 rfl (Nat.zero_le _) (Nat.zero_le _) prog w A R _ ⟨hl, hb, h⟩)⟩
section
variable {prog : Program} {w : World} {A : Around} {E : Value → Shared → Prop} {s : Shared}
theorem oneLt_list {l b : Addr} {vs us : List Value} {xs ys : List Int} {Q : Bool → Shared → Prop} (hu : A.units < cLine) (hl : s.heap.IsList l vs.toArray) (hb : s.heap.IsList b us.toArray) (hx : IntsAre vs xs) (hy : IntsAre us ys) (h : Q (lexLt xs ys) s) :
    wpAny (model prog w) A (oneLt' true (.ref l) (.ref b)) Q E s := by
  obtain ⟨⟨c1, dd, d1, sl⟩, o1, o2, n, o3⟩ := hl
  obtain ⟨⟨c2, dd2, d2, sl2⟩, p1, p2, n2, p3⟩ := hb
  dsimp only at o2 o3 p2 p3
  subst o2 o3 p2 p3
  rw [oneLt'_eq]
  simp only [if_true]
  refine wpAny_bind (wpAny_cRoomFor hu ?_)
  refine wpAny_bind (wpAny_callSpecialIfBound?_slot (T := "list") (id := "list.__lt__") ⟨_, o1, rfl⟩ PySem.F.slot_list_lt (call_meets PySem.F.slot_list_lt ⟨_, o1, rfl⟩ PySem.F.entry_list_lt (PySem.F.args_list_lt_2 _ _) (list_lt l b vs.toArray us.toArray n n2 dd dd2 sl sl2 xs ys hx hy) ⟨o1, p1, ?_⟩))
  exact wpAny_truthy_bool h
end
end Mine

open PySem PySem.W PyProof.Rows PySem.Calls
namespace Mine
/-! ## list.sort, the heap alone -/
/-- a thing with its key, by place -/
def kf (ks vs : List Value) (i : Nat) : Keyed := (ks.getD i .none, vs.getD i .none)
theorem zip_kf {ks vs : List Value} (hl : ks.length = vs.length) : ks.toArray.zip vs.toArray = ((List.range' 0 vs.length).map (kf ks vs)).toArray := by
  have e : ks.zip vs = (List.range' 0 vs.length).map (kf ks vs) := by
    refine List.ext_getElem (by simp; omega) fun i h1 h2 => ?_
    have hv : i < vs.length := by simpa using h2
    have hk : i < ks.length := by omega
    simp [kf, hv, hk]
  rw [← e]
  apply Array.toList_inj.mp
  simp
/-- the sorted order of places -/
structure Srt (O : KO) (n : Nat) (L : List Nat) : Prop where
  perm : L.Perm (List.range' 0 n)
  up : Up O L
section
variable {prog : Program} {w : World} {A : Around} {E : Value → Shared → Prop} {s : Shared} {O : KO}
theorem run_sort {vs ks : List Value} {κ : SortKind} (hl : ks.length = vs.length) (h128 : vs.length < 128) (hκ : 2 ≤ vs.length → κ = oneType') (hc : CmpOk prog w A s (kf ks vs) vs.length O) {Q : Unit × SortSt → Shared → Prop}
    (h : ∀ L st', Srt O vs.length L → arrOf st' = (L.map (kf ks vs)).toArray → failedOf st' = none → Q ((), st') s) :
    wpAny (model prog w) A ((if vs.toArray.size < 2 then pure () else sortRuns').run (SortSt.mk' κ (ks.toArray.zip vs.toArray) #[] 7 none)) Q E s := by
  rw [List.size_toArray]
  by_cases h2 : vs.length < 2
  · rw [if_pos h2, StateT.run_pure]
    refine wpAny_pure (h (List.range' 0 vs.length) _ ⟨.refl _, ?_⟩ (zip_kf hl) rfl)
    have : vs.length = 0 ∨ vs.length = 1 := by omega
    rcases this with e | e <;> rw [e]
    · exact List.Pairwise.nil
    · exact List.pairwise_singleton _ _
  · rw [if_neg h2]
    obtain rfl := hκ (by omega)
    refine wpAny_mono (wpS_sortRunsG (f := kf ks vs) (n := vs.length) (st := SortSt.mk' oneType' (ks.toArray.zip vs.toArray) #[] 7 none) (Q := fun _ st' => ∃ L, Srt O vs.length L ∧ arrOf st' = (L.map (kf ks vs)).toArray ∧ failedOf st' = none) hc (by omega) h128 ⟨rfl, rfl, zip_kf hl⟩ rfl fun L st' a1 a2 a3 => ⟨L, ⟨a3, a2⟩, a1.arr, a1.failed⟩) (fun r s' ⟨e, L, a1, a2, a3⟩ => ?_) fun _ _ z => z
    obtain ⟨⟨⟩, st'⟩ := r
    subst e
    exact h L st' a1 a2 a3
theorem snd_kf (ks vs : List Value) (L : List Nat) : ((L.map (kf ks vs)).toArray).map (·.2) = (L.map fun i => vs.getD i .none).toArray := by simp [kf]
theorem upd_list {h : Heap} {a : Addr} {xs : Array Value} {n : Nat} (ho : h.get? a = some (seqObj "list" xs n)) (g : Array Value → Array Value) : Heap.SameBut a h (h.update a (Obj.mapSeq g)) ∧ ∃ c, (h.update a (Obj.mapSeq g)).get? a = some (seqObj "list" (g xs) c) :=
  ⟨Heap.SameBut.update h a _, _, get?_update_seq ho g⟩
theorem srt_len {n : Nat} {L : List Nat} (h : Srt O n L) : L.length = n := by rw [h.perm.length_eq]; simp
/-- list.sort with a key, behind the keys -/
theorem end_key {a kS : Addr} {vs ks : List Value} {e e1 : Nat} {P : PySem.Fin → Shared → Prop} (hl : ks.length = vs.length) (h128 : vs.length < 128) (hkS : s.heap.get? kS = some (seqObj "list" ks.toArray e)) (ha : s.heap.get? a = some (seqObj "list" #[] e1)) (hne : a ≠ kS)
    (hT : ∀ v ∈ ks, Looks (model prog w) s.heap (typeOf v) (.type "list")) (hc : CmpOk prog w A s (kf ks vs) vs.length O)
    (h : ∀ L h' c, Srt O vs.length L → (∀ b o, b ≠ a → b ≠ kS → s.heap.get? b = some o → h'.get? b = some o) → h'.get? a = some (seqObj "list" (L.map fun i => vs.getD i .none).toArray c) → P (.done (.ret .none)) { s with heap := h' }) :
    wpAny (model prog w) A (ksk_end a false vs.toArray e1 (.ref kS) ks.toArray) P E s := by
  unfold ksk_end
  dsimp only
  simp only [Bool.false_eq_true, if_false]
  have kind : ∀ (t : SortKind → Sem PySem.Fin), (∀ κ, (2 ≤ vs.length → κ = oneType') → wpAny (model prog w) A (t κ) P E s) → wpAny (model prog w) A (if vs.toArray.size < 2 then (pure general' >>= t) else (keyKind' ks.toArray >>= t)) P E s := by
    intro t hq
    rw [List.size_toArray]
    by_cases h2 : vs.length < 2
    · rw [if_pos h2]; exact wpAny_bind (wpAny_pure (hq _ (by omega)))
    · rw [if_neg h2]
      exact wpAny_bind (kas_kind (by omega) hT (by decide) (by decide) (hq _ fun _ => rfl))
  refine kind _ fun κ hκ => wpAny_bind (run_sort hl h128 hκ hc fun L st' hs har hf => ?_)
  dsimp only
  unfold ksk_tail
  dsimp only
  have ll := srt_len hs
  obtain ⟨s1, c1, g1⟩ := upd_list hkS (fun _ => #[])
  refine wpAny_bind (listUpdate_at hkS rfl ?_ (by rw [List.size_toArray, sizeLine_eq]; omega) (Nat.zero_le _))
  refine wpAny_bind (wpAny_letGo ?_)
  have ha' := (s1.2 a hne).trans ha
  refine wpAny_bind (seqEpoch_at ha' rfl ?_)
  rw [har, snd_kf, hf]
  simp only [Bool.false_eq_true, if_false, bne_self_eq_false]
  obtain ⟨s2, c2, g2⟩ := upd_list ha' (fun _ => (L.map fun i => vs.getD i .none).toArray)
  refine wpAny_bind (listUpdate_at ha' rfl ?_ (Nat.zero_le _) (by rw [List.size_toArray, List.length_map, sizeLine_eq]; omega))
  exact wpAny_pure (h L _ c2 hs (fun b o h1 h2 e => (s2.2 b h1).trans ((s1.2 b h2).trans e)) g2)
end
end Mine

open PySem PySem.W PyProof.Rows PySem.Calls
namespace Mine
section
variable {prog : Program} {w : World} {A : Around} {E : Value → Shared → Prop} {s : Shared} {O : KO}
/-- list.sort without a key -/
theorem sort_plain {a : Addr} {vs : List Value} {n : Nat} {P : PySem.Fin → Shared → Prop} (h128 : vs.length < 128) (ho : s.heap.get? a = some (seqObj "list" vs.toArray n))
    (hk : ∀ h' : Heap, (∀ b o, b ≠ a → s.heap.get? b = some o → h'.get? b = some o) → (∀ v ∈ vs, Looks (model prog w) h' (typeOf v) (.type "list")) ∧ CmpOk prog w A { s with heap := h' } (kf vs vs) vs.length O)
    (h : ∀ L h' c, Srt O vs.length L → (∀ b o, b ≠ a → s.heap.get? b = some o → h'.get? b = some o) → h'.get? a = some (seqObj "list" (L.map fun i => vs.getD i .none).toArray c) → P (.done (.ret .none)) { s with heap := h' }) :
    wpAny (model prog w) A (Builtin.«list.sort» ⟨[.ref a], []⟩) P E s := by
  rw [list_sort_plain]
  have hlt : a < s.heap.objs.size := Heap.lt_size ho
  refine wpAny_bind (listItems_at ho rfl ?_)
  obtain ⟨s1, e1, g1⟩ := upd_list ho (fun _ => #[])
  refine wpAny_bind (listUpdate_at ho rfl ?_ (by rw [List.size_toArray, sizeLine_eq]; omega) (Nat.zero_le _))
  refine wpAny_bind (seqEpoch_at g1 rfl ?_)
  refine wpAny_bind (wpAny_newTuple ?_ (by show vs.length ≤ _; rw [sizeLine_eq]; omega))
  refine wpAny_bind (wpAny_newList ?_ (Nat.zero_le _))
  refine wpAny_holding ?_
  generalize hH : ((s.heap.update a (Obj.mapSeq fun _ => (#[] : Array Value))).push { cls := .type "tuple", data := .seq vs.toArray.toList.toArray }).push { cls := .type "list", data := .seq ([] : List Value).toArray } = H
  have keep : ∀ b o, b ≠ a → s.heap.get? b = some o → H.get? b = some o := fun b o hb e => by
    rw [← hH]
    exact Heap.get?_push_of_some _ (Heap.get?_push_of_some _ ((s1.2 b hb).trans e))
  have ha : H.get? a = some (seqObj "list" #[] e1) := by
    rw [← hH]; exact Heap.get?_push_of_some _ (Heap.get?_push_of_some _ g1)
  show wpAny _ _ _ P E { s with heap := H }
  obtain ⟨hT, hc⟩ := hk H keep
  have kind : ∀ (t : SortKind → Sem PySem.Fin), (∀ κ, (2 ≤ vs.length → κ = oneType') → wpAny (model prog w) A (t κ) P E { s with heap := H }) → wpAny (model prog w) A (if vs.toArray.size < 2 then (pure general' >>= t) else (keyKind' vs.toArray >>= t)) P E { s with heap := H } := by
    intro t hq
    rw [List.size_toArray]
    by_cases h2 : vs.length < 2
    · rw [if_pos h2]; exact wpAny_bind (wpAny_pure (hq _ (by omega)))
    · rw [if_neg h2]
      exact wpAny_bind (kas_kind (by omega) hT (by decide) (by decide) (hq _ fun _ => rfl))
  refine kind _ fun κ hκ => wpAny_bind (run_sort rfl h128 hκ hc fun L st' hs har hf => ?_)
  dsimp only
  have ll := srt_len hs
  refine wpAny_bind (seqEpoch_at ha rfl ?_)
  rw [har, snd_kf, hf]
  simp only [bne_self_eq_false, Bool.false_eq_true, if_false]
  obtain ⟨s2, c2, g2⟩ := upd_list ha (fun _ => (L.map fun i => vs.getD i .none).toArray)
  refine wpAny_bind (listUpdate_at ha rfl ?_ (Nat.zero_le _) (by rw [List.size_toArray, List.length_map, sizeLine_eq]; omega))
  exact wpAny_pure (h L _ c2 hs (fun b o h1 e => (s2.2 b h1).trans (keep b o h1 e)) g2)
end
section
variable {C : Cx} {n : Nat} {f : Fm} {m : AEnv} {σ : AHeap}
/-- what is walked at once into a list -/
def TCol (C : Cx) (f : Fm) (a : AVal) (xs : List AVal) (m : AEnv) (σ : AHeap) : Prop :=
  ∀ n, f.Ok C n → ∀ fz s A' E v (Q : List Value → Shared → Prop), A'.handled = none → SR C f fz m σ s → V (At C fz) v a →
    (∀ vs h' tk, Vs (At C fz) vs xs → (∀ b o, s.heap.get? b = some o → h'.get? b = some o) → s.heap.objs.size ≤ h'.objs.size → Q vs { s with heap := h', toks := tk }) → wpAny (Md C) A' (collect v) Q E s
theorem col_lst {xs : List AVal} (hz : xs.length ≤ sizeLine) : TCol C f (.lst xs) xs m σ := fun n ok fz s A' E v Q hh x hv hQ => by
  obtain ⟨l, us, rfl, hl, hus⟩ := hv.list_ ok x
  refine collect_list hl (hQ us _ s.toks hus (fun b o e => ?_) (by rw [Heap.size_update, size_push']; exact Nat.le_succ _)) (by rw [hus.length]; exact hz)
  have hlt : b < s.heap.objs.size := Heap.lt_size e
  rw [Heap.get?_update_ne _ _ _ _ (Nat.ne_of_lt hlt), Heap.get?_push_ne _ _ _ (Nat.ne_of_lt hlt)]
  exact e
theorem col_rng {a b c : Int} {k : Nat} (hsmall : Builtin.Range.small a b c = true) (hk : Builtin.Range.rangeSize a b c = (k : Int)) (hl : k ≤ 2 ^ 24) : TCol C f (.rng a b c) ((rangeInts a c k).map .int) m σ := fun n ok fz s A' E v Q hh x hv hQ => by
  cases hv with
  | rng p1 =>
    rename_i r t u v
    have ho := x.at_ ok p1
    have hlt : r < s.heap.objs.size := Heap.lt_size ho
    unfold collect
    refine wpAny_bind (wpAny_runValue (codeAny_builtin entry_proto_collect' ?_))
    rw [Around.under_plainId PySem.F.plain_proto_collect _]
    show wpAny _ A'.in1 (newList [] >>= fun l => again (.builtin "list.__iadd__" ⟨[l, .ref r], []⟩)) _ _ s
    refine wpAny_bind (wpAny_newObj_type ?_)
    refine wpAny_pure ⟨plainId_quiet PySem.F.plain_list_iadd _, codeAny_builtin entry_list_iadd' ?_⟩
    rw [Around.under_plainId PySem.F.plain_list_iadd _]
    have hS : (s.heap.push { cls := .type "list", data := .seq ([] : List Value).toArray }).get? s.heap.objs.size = some { cls := .type "list", data := .seq #[] } := Heap.get?_push_size _ rfl
    show wpAny _ A'.in1 (Builtin.List.listExtendWith (.ref s.heap.objs.size) (.ref r) (.ref s.heap.objs.size)) _ _ _
    have key := wpAny_extend_range (prog := C.prog) (w := C.w) (A := A') (s := { s with heap := s.heap.push { cls := .type "list", data := .seq ([] : List Value).toArray } })
      (R := fun (q : Result) (s' : Shared) => ∃ (h' : Heap) (tk : Nat) (acc' : Array Value) (c' : Nat), q = .ok (.ret (.ref s.heap.objs.size)) ∧ s' = { s with heap := h', toks := tk } ∧
        (∀ b o, s.heap.get? b = some o → h'.get? b = some o) ∧ h'.get? s.heap.objs.size = some { cls := .type "list", dict := none, data := .seq acc' c', slots := #[] } ∧ ItemsOf (fun i v => ∃ t, v = .int (a + i * c) t) acc' k)
      hh (Heap.get?_push_of_some _ ho) hsmall hk hl s.heap.objs.size (.ref s.heap.objs.size) 0 hS fun h' tk acc' c' hkk hS' hacc => ⟨h', tk, acc', c', rfl, rfl, fun b o e => hkk b o (Nat.ne_of_lt (Heap.lt_size e)) (Heap.get?_push_of_some _ e), hS', hacc⟩
    have fin : ∀ (h' : Heap) (tk : Nat) (acc' : Array Value) (c' : Nat), (∀ b o, s.heap.get? b = some o → h'.get? b = some o) → h'.get? s.heap.objs.size = some { cls := .type "list", dict := none, data := .seq acc' c', slots := #[] } → ItemsOf (fun i v => ∃ t, v = .int (a + i * c) t) acc' k →
        wpAny (Md C) A' (do
          let o ← load s.heap.objs.size
          match o.data with
          | .seq xs _ => pure xs.toList
          | _ => unsupported "internal:collect") Q E { s with heap := h', toks := tk } := by
      intro h' tk acc' c' hkk hS' hacc
      refine wpAny_bind (wpAny_load hS' ?_)
      refine wpAny_pure (hQ acc'.toList h' tk (carried_rng (carriedAll_of_get _ _ (by simp [hacc.1, rangeInts_length]) fun j v hv => ?_)) hkk (Nat.le_of_lt (Heap.lt_size hS')))
      have hv' : acc'[j]? = some v := by simpa using hv
      obtain ⟨tk, rfl⟩ := hacc.2 j v hv'
      have hj : j < k := by
        have := (Array.getElem?_eq_some_iff.mp hv').1
        rw [hacc.1] at this; exact this
      exact ⟨.int (a + (j : Nat) * c), by simp [rangeInts_get hj], .int _ _⟩
    refine wpAny_mono key (fun fn s' z => ?_) fun e s' z => ?_
    · cases fn with
      | done g =>
        obtain ⟨h', tk, acc', c', e, rfl, h1, h2, h3⟩ := z
        cases e
        exact fin h' tk acc' c' h1 h2 h3
      | again c₁ =>
        refine ⟨z.1, codeAny_mono z.2 fun q s₂ y => ?_⟩
        obtain ⟨h', tk, acc', c', rfl, rfl, h1, h2, h3⟩ := y
        exact fin h' tk acc' c' h1 h2 h3
    · obtain ⟨_, _, _, _, e', _⟩ := z
      cases e'
end
end Mine

open PySem PySem.W PyProof.Rows PySem.Calls
namespace Mine
abbrev lstI (zs : List Int) : AVal := .lst (zs.map .int)
section
variable {C : Cx} {n : Nat} {f : Fm} {m : AEnv} {σ : AHeap}
theorem Vs.pickL {P : Addr → Obj → Prop} {vs : List Value} {xs : List AVal} (h : Vs P vs xs) : ∀ L : List Nat, (∀ i ∈ L, i < xs.length) → Vs P (L.map fun i => vs.getD i .none) (L.map fun i => xs.getD i .none)
  | [], _ => .nil
  | i :: L, hL => by
    have hi := hL i (List.mem_cons_self ..)
    obtain ⟨v, h1, h2⟩ := h.get (List.getElem?_eq_getElem hi)
    have e1 : vs.getD i .none = v := by rw [List.getD_eq_getElem?_getD, h1]; rfl
    have e2 : xs.getD i .none = xs[i] := by rw [List.getD_eq_getElem?_getD, List.getElem?_eq_getElem hi]; rfl
    show Vs P (vs.getD i .none :: _) (xs.getD i .none :: _)
    rw [e1, e2]
    exact .cons h2 (h.pickL L fun j hj => hL j (List.mem_cons_of_mem _ hj))
theorem keys_get {fz : Fz} {s : Shared} {ks : List Value} {kz : List (List Int)} (hat : ∀ a o, At C fz a o → s.heap.get? a = some o) (hv : Vs (At C fz) ks (kz.map lstI)) {i : Nat} (hi : i < ks.length) :
    ∃ l us, ks.getD i .none = .ref l ∧ s.heap.IsList l us.toArray ∧ IntsAre us (kz.getD i []) := by
  have hl := hv.length
  rw [List.length_map] at hl
  obtain ⟨v, h1, h2⟩ := hv.get (i := i) (x := lstI kz[i]) (by rw [List.getElem?_map, List.getElem?_eq_getElem (by omega)]; rfl)
  have e1 : ks.getD i .none = v := by rw [List.getD_eq_getElem?_getD, h1]; rfl
  have e2 : kz.getD i [] = kz[i] := by rw [List.getD_eq_getElem?_getD, List.getElem?_eq_getElem (by omega)]; rfl
  rw [e1, e2]
  cases h2 with
  | lst p1 p2 p3 p4 => exact ⟨_, _, rfl, ⟨_, hat _ _ p1, p2, _, p3⟩, vs_intsAre p4⟩
theorem keys_cmp {fz : Fz} {s : Shared} {A : Around} {ks : List Value} {kz : List (List Int)} (hat : ∀ a o, At C fz a o → s.heap.get? a = some o) (hu : A.units < cLine) (hv : Vs (At C fz) ks (kz.map lstI)) (vs : List Value) (hl : vs.length = ks.length) :
    CmpOk C.prog C.w A s (kf ks vs) vs.length (lexKO fun i => kz.getD i []) := fun E i j Q hi hj hq => by
  obtain ⟨l, us, e1, a1, a2⟩ := keys_get hat hv (i := i) (by omega)
  obtain ⟨b, ws, e2, b1, b2⟩ := keys_get hat hv (i := j) (by omega)
  show wpAny _ _ (oneLt' true (ks.getD i .none) (ks.getD j .none)) Q E s
  rw [e1, e2]
  exact oneLt_list hu a1 b1 a2 b2 hq
theorem keys_ty {fz : Fz} {s : Shared} {ks : List Value} {kz : List (List Int)} (hat : ∀ a o, At C fz a o → s.heap.get? a = some o) (hv : Vs (At C fz) ks (kz.map lstI)) : ∀ v ∈ ks, Looks (Md C) s.heap (typeOf v) (.type "list") := fun v h => by
  obtain ⟨i, hi, e⟩ := List.mem_iff_getElem.mp h
  obtain ⟨l, us, e1, ⟨o, ho, hc, _⟩, a2⟩ := keys_get hat hv hi
  have : ks.getD i .none = v := by rw [List.getD_eq_getElem?_getD, List.getElem?_eq_getElem hi, ← e]; rfl
  rw [← this, e1]
  exact fun A Q E s k q => wpAny_typeOf ⟨o, k _ _ ho, hc⟩ q
theorem srt_lt {O : KO} {n : Nat} {L : List Nat} (h : Srt O n L) {i : Nat} (hi : i ∈ L) : i < n := by
  have := h.perm.mem_iff.mp hi
  simp at this
  omega
theorem tc_sorted {a : AVal} {rows : List (List Int)} {Q : AVal → AHeap → Prop} (hcol : TCol C f a (rows.map lstI) m σ) (h128 : rows.length < 128) (h : ∀ L, Srt (lexKO fun i => rows.getD i []) rows.length L → Q (.lst (L.map fun i => lstI (rows.getD i []))) σ) :
    TC C n f (.raw (.builtin "sorted")) [a] m σ Q := fun ok fz s E v vs x hv hvs => by
  cases hv; obtain _ | ⟨h1, h2⟩ := hvs; cases h2
  refine ⟨keep_builtin, ?_⟩
  rename_i va
  refine Calls.call_function_entry kind_sorted plain_sorted entry_sorted (args_sorted1 _) ?_
  unfold Builtin.«sorted»
  refine wpAny_bind (m := checkCount "sorted" 1 1 _) (wpAny_pure ?_)
  show wpAny _ _ (collect va >>= _) _ _ _
  refine wpAny_bind (hcol n ok fz s _ _ va _ ok.handled x h1 fun vs h' tk hvs hk hsz => ?_)
  have hlen : vs.length = rows.length := by rw [hvs.length, List.length_map]
  refine wpAny_bind (wpAny_newList ?_ (by rw [sizeLine_eq]; omega))
  dsimp only
  generalize hH : h'.push { cls := .type "list", data := .seq vs.toArray } = H
  have ho : H.get? h'.objs.size = some (seqObj "list" vs.toArray 0) := by rw [← hH]; exact Heap.get?_push_size _ rfl
  have keep : ∀ b o, s.heap.get? b = some o → H.get? b = some o := fun b o e => by rw [← hH]; exact Heap.get?_push_of_some _ (hk b o e)
  have x2 : SX C f fz m σ [h'.objs.size] { s with heap := H, toks := tk } := SX.ofFresh (t := tk) x keep fun b hb => by rw [List.mem_singleton.mp hb]; exact hsz
  have e3 := ok.units
  have hne : ∀ {h2 : Heap}, (∀ b o, b ≠ h'.objs.size → H.get? b = some o → h2.get? b = some o) → ∀ a o, At C fz a o → h2.get? a = some o := fun {h2} k a o ha => by
    have hs := x.at_ ok ha
    exact k a o (Nat.ne_of_lt (Nat.lt_of_lt_of_le (Heap.lt_size hs) hsz)) (keep a o hs)
  refine wpAny_bind (wpAny_holding (wpAny_call_entry slot_list_sort ⟨_, ho, rfl⟩ entry_list_sort (sort_plain (s := { s with heap := H, toks := tk }) (O := lexKO fun i => rows.getD i []) (by omega) ho (fun h2 k2 => ⟨keys_ty (s := { s with heap := h2, toks := tk }) (hne k2) hvs, keys_cmp (s := { s with heap := h2, toks := tk }) (hne k2) (by show f.A.units + 1 + 1 < cLine; omega) hvs vs rfl⟩) fun L h2 c hs k2 g2 => ⟨_, rfl, ?_⟩) (args_list_sort _)))
  refine wpAny_pure ⟨_, rfl, ?_⟩
  have x3 : SX C f fz m σ [h'.objs.size] { s with heap := h2, toks := tk } := x2.step (t := tk) fun b o hb e => k2 b o (fun q => hb (by rw [q]; exact List.mem_singleton.mpr rfl)) e
  have x4 := (x3.ice (D := h'.objs.size) (wr := []) (by simp) g2).sr
  rw [hlen] at hs
  have hp := hvs.pickL L fun i hi => by rw [List.length_map]; exact srt_lt hs hi
  have e : (L.map fun i => (rows.map lstI).getD i .none) = L.map fun i => lstI (rows.getD i []) := List.map_congr_left fun i hi => by
    have hi := srt_lt hs hi
    rw [List.getD_eq_getElem?_getD, List.getD_eq_getElem?_getD, List.getElem?_map, List.getElem?_eq_getElem hi]
    rfl
  rw [e] at hp
  exact ⟨_, σ, _, fun p hp => List.mem_append_right _ hp, ⟨_, _, rfl⟩, x4, .lst (.inl (List.mem_append_left _ (List.mem_singleton.mpr rfl))) rfl rfl (hp.up fun p hp => List.mem_append_right _ hp), h L hs⟩
end
end Mine

open PySem PySem.W PyProof.Rows PySem.Calls
namespace Mine
section
variable {C : Cx} {n : Nat} {f : Fm} {m : AEnv} {σ : AHeap}
/-- a call with one keyword -/
def TCK (C : Cx) (n : Nat) (f : Fm) (fv : AVal) (as : List AVal) (kn : Str) (ka : AVal) (m : AEnv) (σ : AHeap) (Q : AVal → AHeap → Prop) : Prop :=
  f.Ok C n → ∀ fz s E v vs kv, SR C f fz m σ s → V (At C fz) v fv → Vs (At C fz) vs as → V (At C fz) kv ka → Keep C s.heap v ∧ wpAny (Md C) f.A (call v vs [(kn, kv)]) (PV C f m fz s Q) E s
theorem we_call1k {g kn : Str} {gp kp : Pos} {e value : Expr} {rest : List Expr} {pos : Pos} {Q : AVal → AHeap → Prop} (h : WE C n f (.Name g gp) m σ fun fv σ₁ => WL C n f (e :: rest) pos m σ₁ fun as σ₂ => WE C n f value m σ₂ fun ka σ₃ => TCK C n f fv as kn ka m σ₃ Q)
    (hplain : ((backTo pos (starEach (e :: rest) f.env)).any (·.1) || (backToKw pos (keywordEach [⟨some kn, value, kp⟩] f.env)).any (·.1.isNone)) = false := by rfl) (hall : (backToKw pos (keywordEach [⟨some kn, value, kp⟩] f.env)).all (·.1.isSome) = true := by rfl)
    (he : starEach (e :: rest) f.env = (false, eval e f.env) :: starEach rest f.env := by rfl) :
    WE C n f (.Call (.Name g gp) (e :: rest) [⟨some kn, value, kp⟩] pos) m σ Q := fun ok fz s E x => by
  refine wpAny_Call_ofName (wpAny_mono (h ok fz s E x) (fun v s₁ hq => hq.el fun fz₁ σ₁ a u1 e1 x1 va q1 => ?_) fun _ _ x => x)
  refine callWith_of (P := fun h => Keep C h v) hplain (fun h k => k) (evalArgs_kw2 hall (wpAny_mono (q1 ok fz₁ s₁ E x1) (fun vs s₂ hq => hq.el fun fz₂ σ₂ as u2 e2 x2 vs' q2 => ?_) fun _ _ x => x) he)
  refine kws_cons (wpAny_mono (q2 ok fz₂ s₂ E x2) (fun kv s₃ hq => hq.el fun fz₃ σ₃ ka u3 e3 x3 vk q3 => kws_nil ?_) fun _ _ x => x)
  obtain ⟨k, c⟩ := q3 ok fz₃ s₃ E v vs kv x3 ((va.up u2).up u3) (vs'.up u3) vk
  exact ⟨k, wpAny_mono c (fun r s₄ p => .up (fun p hp => u3 p (u2 p (u1 p hp))) ((e1.trans e2).trans e3) p) fun _ _ x => x⟩
/-- the frame, called from within -/
@[reducible] def Fm.within (f : Fm) (p : Fz) : Fm := { f with A := f.A.in1.in1, pin := p }
theorem Fm.Ok.within {p : Fz} (ok : f.Ok C (n + 1)) : (f.within p).Ok C n :=
  ⟨ok.below, ok.kin, ok.top, ok.hk, ok.stack, ok.handled, ok.guards, by have := ok.depth; show f.A.depth + 3 * n < _; omega, by have := ok.units; show f.A.units + 1 + 1 + 10 * n + 100 < _; omega, ok.kind, ok.ckind⟩
/-- the keys, one call each -/
theorem key_loop {fz : Fz} {s : Shared} {E : Value → Shared → Prop} {P : PySem.Fin → Shared → Prop} {a kS : Addr} {e1 : Nat} {vs : List Value} {xs : List AVal} {kz : List (List Int)} {fv : Value} {fa : AVal} (ok : f.Ok C (n + 1)) (x : SX C f fz m σ [kS, a] s) (hne : a ≠ kS)
    (ha : s.heap.get? a = some (seqObj "list" #[] e1)) (hk : s.heap.get? kS = some (seqObj "list" #[] 0)) (hvs : Vs (At C fz) vs xs) (hfv : V (At C fz) fv fa) (hl : kz.length = xs.length) (h128 : xs.length < 128)
    (key : ∀ (i : Nat) xa z pin, xs[i]? = some xa → kz[i]? = some z → TC C n (f.within pin) fa [xa] m σ fun r σ' => r = lstI z ∧ σ' = σ)
    (h : ∀ fz' h' tk ks e, (∀ p ∈ fz, p ∈ fz') → SX C f fz' m σ [kS, a] { s with heap := h', toks := tk } → h'.get? a = some (seqObj "list" #[] e1) → h'.get? kS = some (seqObj "list" (List.toArray ks) e) → Vs (At C fz') ks (kz.map lstI) →
      wpAny (Md C) f.A.in1.in1 (ksk_end a false vs.toArray e1 (.ref kS) (List.toArray ks)) P E { s with heap := h', toks := tk }) :
    wpAny (Md C) f.A.in1.in1 (ksk_rest a fv false vs.toArray e1 (.ref kS)) P E s := by
  have hpin : ∀ p ∈ f.pin, p.1 ∉ [kS, a] := by
    obtain ⟨mc, news, δ, F, N, R, e, h1, h2, h3⟩ := x
    exact fun p hp => h1 p (R.sub p (List.mem_append_right _ hp))
  have hL : f.L ∉ [kS, a] := by obtain ⟨mc, news, δ, F, N, R, e, h1, h2, h3⟩ := x; exact h2
  have h0 : ∀ b ∈ [kS, a], f.h₀.get? b = none := by obtain ⟨mc, news, δ, F, N, R, e, h1, h2, h3⟩ := x; exact h3
  have hvl := hvs.length
  unfold ksk_rest
  refine wpAny_bind (wpAny_rule ?_)
  rw [List.forIn_toArray]
  refine wpAny_bind (ksk_fold (fun i s' => ∃ fz' h' tk ks e, s' = { s with heap := h', toks := tk } ∧ (∀ p ∈ fz, p ∈ fz') ∧ SX C f fz' m σ [kS, a] s' ∧ h'.get? a = some (seqObj "list" #[] e1) ∧ h'.get? kS = some (seqObj "list" (List.toArray ks) e) ∧ Vs (At C fz') ks ((kz.take i).map lstI)) vs 0 s
    ⟨fz, s.heap, s.toks, [], 0, rfl, sub_refl, x, ha, hk, by simpa using Vs.nil⟩ ?step ?done)
  case step =>
    rintro j v s' hv ⟨fz', h', tk, ks, e, rfl, u, x1, a1, k1, v1⟩
    rw [Nat.zero_add] at v1 ⊢
    have hj : j < vs.length := (List.getElem?_eq_some_iff.mp hv).1
    have hxj : xs[j]? = some xs[j] := List.getElem?_eq_getElem (by omega)
    have hzj : kz[j]? = some kz[j] := List.getElem?_eq_getElem (by omega)
    obtain ⟨v', hv', vv⟩ := hvs.get hxj
    rw [hv] at hv'
    cases hv'
    have kl := v1.length
    rw [List.length_map, List.length_take] at kl
    have x2 := x1.pin
    have kc := key j _ _ (ownP [kS, a] h' ++ f.pin) hxj hzj ok.within fz' { s with heap := h', toks := tk } (fun _ _ => False) fv [v] x2 (hfv.up u) (.cons (vv.up u) .nil)
    refine wpAny_bind (wpAny_attempt (wpAny_mono kc.2 (fun r s₂ hq => hq.el fun fz₂ σ₂ ra u2 e2 x3 vr q => ?_) fun _ _ hF => hF.elim))
    obtain ⟨rfl, rfl⟩ := q
    obtain ⟨h₂, tk₂, rfl⟩ := e2
    have pinned : ∀ {b o}, b ∈ [kS, a] → h'.get? b = some o → h₂.get? b = some o := fun {b o} hb ho => by
      obtain ⟨mc, news, δ, F, N, R, e⟩ := x3
      exact (N (b, o) (R.sub _ (List.mem_append_right _ (List.mem_append_left _ (mem_ownP.mpr ⟨hb, ho⟩))))).1
    have a2 := pinned (by simp) a1
    have k2 := pinned (by simp) k1
    have x4 : SX C f fz₂ m σ₂ [kS, a] { s with heap := h₂, toks := tk₂ } := SX.unpin (own := ownP [kS, a] h') (fun b hb => by
      rcases List.mem_cons.mp hb with rfl | hb'
      · exact ⟨_, mem_ownP.mpr ⟨hb, k1⟩⟩
      · rw [List.mem_singleton.mp hb'] at hb ⊢; exact ⟨_, mem_ownP.mpr ⟨hb, a1⟩⟩) hpin hL h0 x3
    obtain ⟨s1, c1, g1⟩ := upd_list k2 (·.push r)
    refine wpAny_bind (listUpdate_at k2 rfl ?_ (by rw [List.size_toArray, sizeLine_eq]; omega) (by simp only [List.push_toArray, List.size_toArray, List.length_append, List.length_singleton]; rw [sizeLine_eq]; omega))
    refine wpAny_pure ⟨rfl, fz₂, _, tk₂, ks ++ [r], c1, rfl, fun p hp => u2 p (u p hp), x4.step (t := tk₂) fun b o hb q => (s1.2 b (fun q' => hb (by rw [q']; exact List.mem_cons_self ..))).trans q, (s1.2 a hne).trans a2, by simpa using g1, ?_⟩
    have ek : kz.take (j + 1) = kz.take j ++ [kz[j]] := by rw [List.take_add_one, hzj]; simp
    rw [ek, List.map_append]
    exact (v1.up u2).append (.cons vr .nil)
  case done =>
    rintro s' ⟨fz', h', tk, ks, e, rfl, u, x1, a1, k1, v1⟩
    rw [Nat.zero_add, List.take_of_length_le (by omega)] at v1
    refine wpAny_bind (listItems_at k1 rfl ?_)
    exact h fz' h' tk ks e u x1 a1 k1 v1
theorem tc_sortedK {a : AVal} {d : Clo} {ys : List AVal} {xs : List AVal} {kz : List (List Int)} {Q : AVal → AHeap → Prop} (hcol : TCol C f a xs m σ) (h128 : xs.length < 128) (hl : kz.length = xs.length)
    (key : ∀ (i : Nat) xa z pin, xs[i]? = some xa → kz[i]? = some z → TC C n (f.within pin) (.clos d ys) [xa] m σ fun r σ' => r = lstI z ∧ σ' = σ)
    (h : ∀ L, Srt (lexKO fun i => kz.getD i []) xs.length L → Q (.lst (L.map fun i => xs.getD i .none)) σ) :
    TCK C (n + 1) f (.raw (.builtin "sorted")) [a] (Str.ofString "key") (.clos d ys) m σ Q := fun ok fz s E v vs kv x hv hvs hkv => by
  cases hv; obtain _ | ⟨h1, h2⟩ := hvs; cases h2
  refine ⟨keep_builtin, ?_⟩
  rename_i va
  obtain ⟨q, rfl⟩ : ∃ q, kv = .ref q := by cases hkv; exact ⟨_, rfl⟩
  refine call_function_entry_kw kind_sorted plain_sorted entry_sorted (ksk_s1 _ _) ?_
  unfold Builtin.«sorted»
  refine wpAny_bind (m := checkCount "sorted" 1 1 _) (wpAny_pure ?_)
  show wpAny _ _ (collect va >>= _) _ _ _
  refine wpAny_bind (hcol _ ok fz s _ _ va _ ok.handled x h1 fun vs h' tk hvs hk hsz => ?_)
  have hlen : vs.length = xs.length := hvs.length
  refine wpAny_bind (wpAny_newList ?_ (by rw [sizeLine_eq]; omega))
  dsimp only
  generalize hH : h'.push { cls := .type "list", data := .seq vs.toArray } = H
  have ho : H.get? h'.objs.size = some (seqObj "list" vs.toArray 0) := by rw [← hH]; exact Heap.get?_push_size _ rfl
  have keep : ∀ b o, s.heap.get? b = some o → H.get? b = some o := fun b o e => by rw [← hH]; exact Heap.get?_push_of_some _ (hk b o e)
  have e3 := ok.units
  refine wpAny_bind (wpAny_holding (wpAny_call_entry_kw slot_list_sort ⟨_, ho, rfl⟩ entry_list_sort ?body (ksk_l1 _ _)))
  show wpAny _ _ (Builtin.«list.sort» ⟨[.ref h'.objs.size], [(Str.ofString "key", .ref q)]⟩) _ _ _
  rw [ksk_t1]
  unfold ksk_tree
  refine wpAny_bind (listItems_at ho rfl ?_)
  obtain ⟨s1, e1, g1⟩ := upd_list ho (fun _ => #[])
  refine wpAny_bind (listUpdate_at ho rfl ?_ (by rw [List.size_toArray, sizeLine_eq]; omega) (Nat.zero_le _))
  refine wpAny_bind (seqEpoch_at g1 rfl ?_)
  refine wpAny_bind (wpAny_newTuple ?_ (by show vs.length ≤ _; rw [sizeLine_eq]; omega))
  refine wpAny_bind (wpAny_newList ?_ (Nat.zero_le _))
  refine wpAny_holding ?_
  dsimp only
  generalize hT : (H.update h'.objs.size (Obj.mapSeq fun _ => (#[] : Array Value))).push { cls := .type "tuple", data := .seq vs.toArray.toList.toArray } = T
  generalize hG : T.push { cls := .type "list", data := .seq ([] : List Value).toArray } = G
  have sH : H.objs.size = h'.objs.size + 1 := by rw [← hH, size_push']
  have sT : T.objs.size = h'.objs.size + 2 := by rw [← hT, size_push', Heap.size_update, sH]
  have hne : h'.objs.size ≠ T.objs.size := by rw [sT]; omega
  have hne1 : ∀ {b o}, s.heap.get? b = some o → b ≠ h'.objs.size := fun e => Nat.ne_of_lt (Nat.lt_of_lt_of_le (Heap.lt_size e) hsz)
  have keepG : ∀ b o, s.heap.get? b = some o → G.get? b = some o := fun b o e => by
    rw [← hG, ← hT]
    exact Heap.get?_push_of_some _ (Heap.get?_push_of_some _ ((s1.2 b (hne1 e)).trans (keep b o e)))
  have ga : G.get? h'.objs.size = some (seqObj "list" #[] e1) := by rw [← hG, ← hT]; exact Heap.get?_push_of_some _ (Heap.get?_push_of_some _ g1)
  have gk : G.get? T.objs.size = some (seqObj "list" #[] 0) := by rw [← hG]; exact Heap.get?_push_size _ rfl
  have x2 : SX C f fz m σ [T.objs.size, h'.objs.size] { s with heap := G, toks := tk } := SX.ofFresh (t := tk) x keepG fun b hb => by
    rcases List.mem_cons.mp hb with rfl | hb
    · rw [sT]; omega
    · rw [List.mem_singleton.mp hb]; exact hsz
  refine key_loop (s := { s with heap := G, toks := tk }) ok x2 hne ga gk hvs hkv hl h128 key fun fz' h₂ tk₂ ks e u x3 a3 k3 v3 => ?_
  have kl : ks.length = vs.length := by rw [v3.length, List.length_map]; omega
  have hat : ∀ a o, At C fz' a o → h₂.get? a = some o := fun a o ha => x3.sr.at_ ok ha
  refine end_key (s := { s with heap := h₂, toks := tk₂ }) (O := lexKO fun i => kz.getD i []) kl (by omega) k3 a3 hne (keys_ty (s := { s with heap := h₂, toks := tk₂ }) hat v3) (keys_cmp (s := { s with heap := h₂, toks := tk₂ }) hat (by show f.A.units + 1 + 1 < cLine; omega) v3 vs kl.symm) fun L h3 c hs k3 g3 => ⟨_, rfl, ?_⟩
  refine wpAny_pure ⟨_, rfl, ?_⟩
  have x4 : SX C f fz' m σ [T.objs.size, h'.objs.size] { s with heap := h3, toks := tk₂ } := x3.step (t := tk₂) fun b o hb e => k3 b o (fun q => hb (by rw [q]; simp)) (fun q => hb (by rw [q]; simp)) e
  have x5 := ((x4.sub (wr' := [h'.objs.size]) fun b hb => List.mem_cons_of_mem _ hb).ice (D := h'.objs.size) (wr := []) (by simp) g3).sr
  rw [hlen] at hs
  have hp := (hvs.up u).pickL L fun i hi => srt_lt hs hi
  exact ⟨_, σ, _, fun p hp => List.mem_append_right _ (u p hp), ⟨_, _, rfl⟩, x5, .lst (.inl (List.mem_append_left _ (List.mem_singleton.mpr rfl))) rfl rfl (hp.up fun p hp => List.mem_append_right _ hp), h L hs⟩
end
end Mine

open PySem PySem.W PyProof.Rows PySem.Calls
namespace Mine
section
variable {C : Cx} {n : Nat} {f : Fm} {m : AEnv} {σ : AHeap}
theorem pair_t {P R : Prop} (h : P) : (true = true → P) ∧ (true = false → R) := ⟨fun _ => h, fun e => (nomatch e)⟩
theorem pair_f {P R : Prop} (h : R) : (false = true → P) ∧ (false = false → R) := ⟨fun e => (nomatch e), fun _ => h⟩
theorem pair_b {P R : Prop} {b : Bool} (h : b = true → P) (k : b = false → R) : (b = true → P) ∧ (b = false → R) := ⟨h, k⟩
/-! ## a list under a cell's name that changes no more -/
theorem SR.iceList {fz : Fz} {s : Shared} (x : SR C f fz m σ s) {c a : Addr} {xs : List AVal} (hc : σ c = some (.cell (some (.obj a)))) (ha : σ a = some (.list xs)) :
    ∃ fz', (∀ p ∈ fz, p ∈ fz') ∧ SR (C.withFr [(c, .lst xs)]) f fz' m ((σ.del a).del c) s := by
  obtain ⟨us, k, ho, hv⟩ := x.list ha
  have hca : c ≠ a := fun q => by rw [q, ha] at hc; cases hc
  have x1 := ((x.lendAny ha).ice (D := a) (wr := []) (by simp) ho).sr
  have hc1 : (σ.del a) c = some (.cell (some (.obj a))) := by rw [AHeap.del_ne _ hca]; exact hc
  obtain ⟨o, u, x2, hd, hu⟩ := x1.iceCell hc1
  cases hu
  obtain ⟨mc, news, δ, F, N, R, e⟩ := x2
  refine ⟨_, fun p hp => List.mem_append_right _ (List.mem_append_right _ hp), mc, news, δ, F, N, ⟨R.sub, R.apart, R.ob, R.off, R.doff, R.dσ, fun p hp => ?_, R.dinj⟩, e⟩
  rcases List.mem_append.mp hp with hp | hp
  · rw [List.mem_singleton.mp hp]
    exact ⟨o, .ref a, .inl (List.mem_append_left _ (List.mem_singleton.mpr rfl)), hd, .lst (vs := us) (.inl (List.mem_append_right _ (List.mem_append_left _ (List.mem_singleton.mpr rfl)))) rfl rfl (hv.up fun p hp => List.mem_append_right _ (List.mem_append_right _ hp))⟩
  · exact R.free p hp
theorem SR.noFr {fz : Fz} {s : Shared} {l : List (Addr × AVal)} (x : SR (C.withFr l) f fz m σ s) : SR C f fz m σ s := by
  obtain ⟨mc, news, δ, F, N, R, e⟩ := x
  exact ⟨mc, news, δ, F, N, ⟨R.sub, R.apart, R.ob, R.off, R.doff, R.dσ, fun p hp => R.free p (List.mem_append_right _ hp), R.dinj⟩, e⟩
theorem WS.iceList {ss : List Stmt} {Q : AFlow → AEnv → AHeap → Prop} {c a : Addr} {xs : List AVal} (hc : σ c = some (.cell (some (.obj a)))) (ha : σ a = some (.list xs)) (k : WS (C.withFr [(c, .lst xs)]) n f ss m ((σ.del a).del c) Q) : WS C n f ss m σ Q := fun ok fz s E x => by
  obtain ⟨fz', u, x'⟩ := x.iceList hc ha
  have ok' : f.Ok (C.withFr [(c, .lst xs)]) n := ⟨ok.below, ok.kin, ok.top, ok.hk, ok.stack, ok.handled, ok.guards, ok.depth, ok.units, ok.kind, ok.ckind⟩
  exact wpAny_mono (k ok' fz' s E x') (fun v s' hq => hq.el fun fz₁ σ₁ m₁ a₁ u1 e1 x1 va q1 => ⟨fz₁, σ₁, m₁, a₁, fun p hp => u1 p (u p hp), e1, x1.noFr, va, q1⟩) fun _ _ z => z
/-- a cell's name, frozen -/
theorem we_cellF {y : Str} {pos : Pos} {c : Addr} {a : AVal} {Q : AVal → AHeap → Prop} (hl : f.env.kindOf y = some .cell) (hc : f.env.cells.lookup y = some c) (hv : (c, a) ∈ C.fr) (h : Q a σ) (hd : (y == ("__debug__" : Str)) = false := by decide) : WE C n f (.Name y pos) m σ Q := fun ok fz s E x => by
  have x' := x
  obtain ⟨mc, news, δ, F, N, R, e⟩ := x
  obtain ⟨o, v, h1, h2, h3⟩ := R.free _ hv
  exact wpAny_Name (wpAny_loadName_cell ok.ckind hl hc ⟨o, x'.at_ ok h1, h2⟩ (PV.here x' h3 h)) hd
/-! ## lambdas -/
theorem HR.cs {fz pin : Fz} {δ : Addr → Addr} {news : List (Addr × Obj)} (R : HR C fz pin σ δ news) : ∀ {cs : List Addr} {xs : List AVal}, cs.length = xs.length → (∀ p ∈ cs.zip xs, p ∈ C.fr) → Cs (At C fz) cs xs
  | [], [], _, _ => .nil
  | c :: cs, x :: xs, hl, h => by
    obtain ⟨o, v, h1, h2, h3⟩ := R.free _ (h (c, x) (List.mem_cons_self ..))
    exact .cons h1 h2 h3 (R.cs (Nat.succ.inj hl) fun p hp => h p (List.mem_cons_of_mem _ hp))
  | [], _ :: _, hl, _ => by cases hl
  | _ :: _, [], hl, _ => by cases hl
theorem we_lambda {params : Arguments} {body : Expr} {scope : Scope} {pos : Pos} {d : Clo} {cs : List Addr} {xs : List AVal} {c P : Addr} {es es' : List (Pos × Str)} {Q : AVal → AHeap → Prop}
    (hd : d = ⟨"<lambda>", f.env.qual ++ "<lambda>", params, .expr body, scope, d.free⟩) (hdef : defaultsOf params f.env = ([], [])) (hcd : f.ccd = .ref c) (hC : CodeHd C.H c P) (hcl : closureFor scope f.env = pure (d.free.zip cs)) (hlen : cs.length = xs.length) (hfr : ∀ p ∈ cs.zip xs, p ∈ C.fr)
    (hP : σ P = some (.tab es)) (hes : tabWith pos d.qual es = some es') (h : Q (.clos d xs) (σ.set P (.tab es'))) (hcm : f.comp = none := by rfl) : WE C n f (.Lambda params body scope pos) m σ Q := fun ok fz s E x => by
  have hxs : Cs (At C fz) cs xs := by
    obtain ⟨mc, news, δ, F, N, R, e⟩ := x
    exact R.cs hlen hfr
  refine kla_eval hdef ?_
  have hm := make_clo (d := d) (cs := cs) (pos := pos) (fl := pos.line) (E := E) (Q := Q) ok x hcm hcd hC hP hes (by rw [hd]; exact hcl) hxs h
  rw [hd] at hm
  exact hm
/-- a call of a lambda -/
theorem tc_closE {d : Clo} {xs as : List AVal} {ns : List Str} {body : Expr} {Q : AVal → AHeap → Prop} (hb : d.body = .expr body)
    (hbind : ∀ cl doc pm c ctv vs, vs.length = as.length → bindArgs { name := d.name, qualname := d.qual, params := d.params, body := .expr body, scope := d.scope, globals := mainGlobals, closure := cl, defaults := .none, kwdefaults := .none, doc, pyModule := pm, annotations := none, code := .ref c, closureTuple := ctv, builtins := builtinsNs } ⟨vs, []⟩ = pure (ns.zip vs)) (hnd : ns.Nodup) (hloc : ∀ y ∈ ns, d.scope.names.lookup y = some .local)
    (h : ∀ A₀ A base h₀ outer L fa cdv cs pin, cs.length = xs.length → WE (C.withFr (cs.zip xs)) n ⟨A₀, A, base, h₀, outer, L, fa, d.qual, d.scope, cdv, d.free.zip cs, pin, none⟩ body (ns.zip as) σ fun r σ' => ∃ σ₂ : AHeap, σ₂.le σ' ∧ Q r σ₂)
    (hcell : ∀ x ∈ d.scope.names, x.2 ≠ .cell := by decide) (hco : d.scope.isCoroutine = false := by rfl) (hgen : d.scope.isGenerator = false := by rfl) (hk : d.scope.kind = .function := by rfl) : TC C (n + 1) f (.clos d xs) as m σ Q := fun ok fz s E v vs x hv hvs => by
  cases hv with
  | clos h1 h2 h3 h4 h5 =>
  rename_i a c oc cv t cs doc pm ctv
  have g1 := x.at_ ok h1
  have g2 := x.at_ ok h2
  refine ⟨keeps_F _ ⟨_, _, _, _, g1⟩, wpAny_call ?_⟩
  obtain ⟨mc, news, δ, F, N, R, e⟩ := x
  have e2 := ok.depth
  have e3 := ok.units
  have hlen := hvs.length
  obtain ⟨dn, dq, dp, db, ds, df⟩ := d
  dsimp only at hb hbind hloc h hcell hco hgen hk
  subst hb
  obtain ⟨FG, BG, st, lv⟩ := groundX (R := fun r s' => match r with | .ok (.ret v) => PV C f m fz s Q v s' | .ok _ => False | .error e => E e s') ok.below F N ok.stack rfl ok.kind
  refine kla_callFunE (by omega) g1 rfl hco hgen rfl ⟨c, oc, cv, t, rfl, g2, h3, h4⟩ ?_
  rw [hbind _ _ _ _ _ vs hlen]
  have hlz : ∀ y ∈ ns.zip vs, ds.names.lookup y.1 = some .local := fun y hy => hloc _ (List.of_mem_zip hy).1
  refine wpAny_pure (wpAny_newFunctionEnv hcell hlz (fun h₁ hns hsb => ⟨((ok.top.nolimit).keeps F.keep).fresh _ hsb, ?_⟩) hk)
  show codeAny _ _ (.expr body (envX dq ds s.heap.objs.size a (.ref c) (df.zip cs))) _ _
  have hk₁ : ∀ b o, s.heap.get? b = some o → h₁.get? b = some o := fun b o e => hsb.extBut b o (Nat.ne_of_lt (Heap.lt_size e)) (Heap.get?_push_of_some _ e)
  let C' : Cx := C.withFr (cs.zip xs)
  generalize hg : hideAll s.heap (news.map (·.1)) = g at FG BG st lv
  have F' : Fr g s.heap.objs.size h₁ (fun y => (ns.zip vs).reverse.lookup y) := ⟨hns, fun b o e => hk₁ b o (by rw [← hg] at e; exact of_hideAll _ e), by rw [← hg]; exact Nat.le_of_eq (hideAll_size _ _)⟩
  have N' : News g s.heap.objs.size h₁ news := fun p hp => ⟨hk₁ _ _ (N p hp).1, Nat.ne_of_lt (Heap.lt_size (N p hp).1), by rw [← hg]; exact hideAll_none _ (List.mem_map_of_mem hp)⟩
  let f' : Fm := ⟨f.A, f.A.deeper (envX dq ds s.heap.objs.size a (.ref c) (df.zip cs)), f.base, g, f.fenv :: f.outer, s.heap.objs.size, a, dq, ds, .ref c, df.zip cs, f.pin, none⟩
  have hkH : ∀ b o, C.H.get? b = some o → g.get? b = some o := fun b o hb => FG.keep b o (ok.hk b o hb)
  have ok' : f'.Ok C' n := ⟨BG, ok.kin.keeps st, ok.top.keeps st, hkH, Around.frames_deeper BG.stack, ok.handled, ok.guards, by show f.A.depth + 1 + 3 * n < _; omega, by show f.A.units + 3 + 10 * n + 100 < _; omega, hk, hk⟩
  have R' : HR C' fz f.pin σ δ news := ⟨R.sub, R.apart, R.ob, R.off, R.doff, R.dσ, fun p hp => by
    rcases List.mem_append.mp hp with hp | hp
    · exact h5.get p hp
    · exact R.free p hp, R.dinj⟩
  have x' : SR C' f' fz (ns.zip as) σ { s with heap := h₁, toks := s.toks + (ns.zip vs).length } :=
    ⟨_, news, δ, F', N', R', fun y a hy => lookup_zip hvs hnd hy⟩
  refine kla_codeExpr (wpAny_mono (h f.A _ f.base g (f.fenv :: f.outer) s.heap.objs.size a (.ref c) cs f.pin h5.length ok' fz _ _ x') (fun v s' hq => lv _ _ (hq.el fun fz' σ' b u es x2 va ⟨σ₂, hle, q⟩ => ?_)) fun _ _ y => y)
  obtain ⟨mc', news', δ', F2, N2, R2, e2⟩ := x2.weaken (fun _ _ h => h) hle
  have R3 : HR C fz' f.pin σ₂ δ' news' := ⟨R2.sub, R2.apart, R2.ob, R2.off, R2.doff, R2.dσ, fun p hp => R2.free p (List.mem_append_right _ hp), R2.dinj⟩
  refine leaveK_ F2 N2 fun FK NK => ⟨fz', σ₂, b, u, ?_, ⟨mc, news', δ', FK, NK, R3, fun y b hy => ?_⟩, va, q⟩
  · obtain ⟨hh, tt, ee⟩ := es; exact ⟨hh, tt, ee⟩
  · obtain ⟨v, h1, h2⟩ := e y b hy; exact ⟨v, h1, h2.up u⟩
end
end Mine

open PySem PySem.W PyProof.Rows
set_option maxHeartbeats 8000000
namespace Mine
open_top hd03 for PySem.Challenge.rw_dn0301_03
end Mine

open PySem PySem.W PyProof.Rows PySem.Calls
open Mine
local macro_rules | `(tactic| walk_at "hp") => `(tactic| first
  | assumption
  | exact AHeap.set_same ..
  | (refine (AHeap.set_ne _ _ ?_).trans ?_; first | (first | assumption | exact Ne.symm (by assumption) | exact hp_ne (by assumption) (by assumption) | exact Ne.symm (hp_ne (by assumption) (by assumption)) | walk_at "hne"); walk_at "hp"))
local macro_rules | `(tactic| walk_at "we") => `(tactic| first
  | with_reducible refine we_int ?_
  | ((with_reducible refine' we_local ?h1 ?h2 ?_ ?h3 ?h4); (case h1 => rfl); (case h2 => rfl); (case h3 => decide); (case h4 => rfl))
  | ((with_reducible refine' we_cell ?h1 ?h2 ?h4 ?_ ?h3); (case h1 => rfl); (case h2 => rfl); (case h4 => walk_at "hp"); (case h3 => decide))
  | ((with_reducible refine' we_clocal ?h1 ?h2 ?h4 ?h5 ?_ ?h3); (case h1 => rfl); (case h2 => rfl); (case h4 => walk_at "hp"); (case h5 => rfl); (case h3 => decide))
  | with_reducible refine we_binop ?_
  | with_reducible refine we_none ?_
  | with_reducible refine we_ifexp ?_
  | with_reducible refine we_andN ?_
  | with_reducible refine we_one ?_
  | ((with_reducible refine we_compare ?_ ?h1); (case h1 => rfl))
  | ((with_reducible refine' we_global ?h1 ?h2 ?_ ?h3); (case h1 => rfl); (case h2 => assumption); (case h3 => decide))
  | ((with_reducible refine' we_builtin ?h1 ?h2 ?h4 ?_ ?h5 ?h3); (case h1 => rfl); (case h2 => assumption); (case h4 => boot_by_name); (case h5 => decide); (case h3 => decide))
  | ((with_reducible refine we_call ?_ ?h1); (case h1 => rfl))
  | (refine we_method ?_)
  | with_reducible refine we_tup ?_
  | with_reducible refine we_lst ?_
  | with_reducible refine we_sub (slice := .Name _ _) ?_
  | with_reducible refine we_sub (slice := .Constant _ _ _) ?_)
local macro_rules | `(tactic| walk_at "t2") => `(tactic| first
  | with_reducible refine t2_add ?_
  | with_reducible refine t2_eq ?_
  | with_reducible refine t2_lt ?_
  | ((with_reducible refine t2_div ?h1 ?h2 ?_); (case h1 => decide); (case h2 => decide))
  | ((with_reducible refine t2_mod ?h1 ?h2 ?_); (case h1 => decide); (case h2 => decide)))
local macro_rules | `(tactic| walk_at "tc") => `(tactic| first
  | with_reducible refine tc_cat1 ?_
  | walk_at "tcx"
  | ((with_reducible refine' tc_len ?h1 ?h2 ?_); (case h1 => first | rfl | exact items_obj (by walk_at "hp")); (case h2 => first | decide | (simp <;> omega))))
local macro_rules | `(tactic| walk_at "fw") => `(tactic| first
  | ((with_reducible show WE _ _ _ _ _ _ _); walk_at "we")
  | with_reducible refine wl_nil ?_
  | ((with_reducible refine wl_cons ?_ ?h1); (case h1 => rfl))
  | ((with_reducible show T2 _ _ _ _ _ _ _ _ _); walk_at "t2")
  | with_reducible refine tb_bool ?_
  | ((with_reducible refine' tg_fin ?h1 ?h2 ?h3 ?_); (case h1 => apply_assumption); (case h2 => assumption); (case h3 => assumption))
  | ((with_reducible show List.length _ ≤ sizeLine ∧ _); refine And.intro (by first | decide | (simp [sizeLine_eq])) ?_)
  | ((with_reducible show TC _ _ _ _ _ _ _ _); walk_at "tc")
  | ((with_reducible refine wt_compare ?_ ?h1); (case h1 => rfl))
  | with_reducible refine ws_cons ?_
  | with_reducible refine ws_nil ?_
  | with_reducible refine w1_return ?_
  | with_reducible refine w1_if ?_
  | ((with_reducible refine w1_assign ?_ ?h1); (case h1 => rfl))
  | ((with_reducible refine w1_expr ?_ ?h1 ?h2); (case h1 => rfl); (case h2 => rfl))
  | refine ts_local (by rfl) ?_ (by rfl)
  | with_reducible refine pair_t ?_
  | with_reducible refine pair_f ?_
  | with_reducible refine pair_b (fun hk => ?_) (fun hk => ?_))
local macro_rules | `(tactic| walk_at "fe") => `(tactic| ((fail_if_success (with_reducible show WS _ _ _ _ _ _ _)); walk_at "fw"))
namespace Mine
/-- what the text's top has -/
structure K03 (C : Cx) : Prop where
  hK : C.K = hd03.heap_39 C.w.params
  g_Locator : nsIn C.K mainGlobals (Str.ofString "Locator") = some (some (.ref 52))
  g__law_key : nsIn C.K mainGlobals (Str.ofString "_law_key") = some (some (.ref 63))
  k_52 : keepIn C.K (.ref 52) = true
  k_63 : keepIn C.K (.ref 63) = true
  b_range : nsIn C.K mainGlobals (Str.ofString "range") = some none
  b_len : nsIn C.K mainGlobals (Str.ofString "len") = some none
  b_sorted : nsIn C.K mainGlobals (Str.ofString "sorted") = some none
  b_type : nsIn C.K mainGlobals (Str.ofString "type") = some none
  mk_52 : makesIn C.K 52 = true
  ini_52 : findIn C.K (.ref 52) (Str.ofString "__init__") = some (some (.builtin "object.__init__"))
  pg_52 : ∀ name, plainGet C.K 52 name = true
  f_52_28 : findIn C.K (.ref 52) (Str.ofString "getColumnNumber") = some (some (.ref 28))
  i_52_28 : isFn C.K (.ref 28) = true
  k_52_28 : keepIn C.K (.ref 28) = true
  f_52_35 : findIn C.K (.ref 52) (Str.ofString "getLineNumber") = some (some (.ref 35))
  i_52_35 : isFn C.K (.ref 35) = true
  k_52_35 : keepIn C.K (.ref 35) = true
  f_52_42 : findIn C.K (.ref 52) (Str.ofString "getPublicId") = some (some (.ref 42))
  i_52_42 : isFn C.K (.ref 42) = true
  k_52_42 : keepIn C.K (.ref 42) = true
  f_52_49 : findIn C.K (.ref 52) (Str.ofString "getSystemId") = some (some (.ref 49))
  i_52_49 : isFn C.K (.ref 49) = true
  k_52_49 : keepIn C.K (.ref 49) = true
theorem k03 {C : Cx} (hK : C.K = hd03.heap_39 C.w.params) : K03 C := by
  obtain ⟨prog, w, K, vp, loose, mean, mg, mb, H⟩ := C
  dsimp only at hK
  subst hK
  constructor <;> first | kernel_rfl | rfl | (intro name; kernel_rfl)
section
variable {C : Cx} {n : Nat} {σ : AHeap} {Q : AVal → AHeap → Prop} {a : AVal}
theorem getColumnNumber (K : K03 C) (h : Q (.int (-1)) σ) : Fn C (n + 1) 28 [a] σ Q := by
  refine fn_plain (ns := [Str.ofString "self"]) (dv := []) (da := []) (ho := by rw [K.hK]; rfl) (hcd := by rw [K.hK]; kernel_rfl) (hbind := ?_) (hd := fun _ => .nil) (hnd := by decide) (hloc := by decide) (h := ?_)
  · intro S vs hv
    match vs, hv with
    | [v], _ => rfl
  · intro A₀ A base h₀ outer L pin
    exact ws_cons (w1_return (we_unary (we_int (t1_neg (ret_le h)))))
theorem getLineNumber (K : K03 C) (h : Q (.int (-1)) σ) : Fn C (n + 1) 35 [a] σ Q := by
  refine fn_plain (ns := [Str.ofString "self"]) (dv := []) (da := []) (ho := by rw [K.hK]; rfl) (hcd := by rw [K.hK]; kernel_rfl) (hbind := ?_) (hd := fun _ => .nil) (hnd := by decide) (hloc := by decide) (h := ?_)
  · intro S vs hv
    match vs, hv with
    | [v], _ => rfl
  · intro A₀ A base h₀ outer L pin
    exact ws_cons (w1_return (we_unary (we_int (t1_neg (ret_le h)))))
theorem getPublicId (K : K03 C) (h : Q .none σ) : Fn C (n + 1) 42 [a] σ Q := by
  refine fn_plain (ns := [Str.ofString "self"]) (dv := []) (da := []) (ho := by rw [K.hK]; rfl) (hcd := by rw [K.hK]; kernel_rfl) (hbind := ?_) (hd := fun _ => .nil) (hnd := by decide) (hloc := by decide) (h := ?_)
  · intro S vs hv
    match vs, hv with
    | [v], _ => rfl
  · intro A₀ A base h₀ outer L pin
    exact ws_cons (w1_return (we_none (ret_le h)))
theorem getSystemId (K : K03 C) (h : Q .none σ) : Fn C (n + 1) 49 [a] σ Q := by
  refine fn_plain (ns := [Str.ofString "self"]) (dv := []) (da := []) (ho := by rw [K.hK]; rfl) (hcd := by rw [K.hK]; kernel_rfl) (hbind := ?_) (hd := fun _ => .nil) (hnd := by decide) (hloc := by decide) (h := ?_)
  · intro S vs hv
    match vs, hv with
    | [v], _ => rfl
  · intro A₀ A base h₀ outer L pin
    exact ws_cons (w1_return (we_none (ret_le h)))
end
end Mine

open PySem PySem.W PyProof.Rows PySem.Calls
local macro_rules | `(tactic| walk_at "tcx") => `(tactic| first
  | ((with_reducible refine tc_fn ?h1 (getLineNumber ?h2 ?_)); (case h1 => assumption); (case h2 => assumption))
  | ((with_reducible refine tc_fn ?h1 (getColumnNumber ?h2 ?_)); (case h1 => assumption); (case h2 => assumption))
  | ((with_reducible refine tc_fn ?h1 (getPublicId ?h2 ?_)); (case h1 => assumption); (case h2 => assumption))
  | ((with_reducible refine tc_fn ?h1 (getSystemId ?h2 ?_)); (case h1 => assumption); (case h2 => assumption))
  | ((with_reducible refine tc_fin ?h1 ?h2 ?h3 ?_); (case h1 => assumption); (case h2 => assumption); (case h3 => assumption)))
namespace Mine

def PlaceOf (p : AVal) (zs : List Int) : Prop := (p = .fin 52 ∧ zs = [255, 255, 0, 0]) ∨ p = lstI zs
def lamE (e : Expr) : Option (Arguments × Expr × Scope × Pos) :=
  match e with
  | .Call _ _ [⟨_, .Lambda params body scope pos, _⟩] _ => some (params, body, scope, pos)
  | _ => none
def lamAt (k : Nat) : Option (Arguments × Expr × Scope × Pos) :=
  match segOf PySem.Challenge.pw_dn0301_03 4 [] k with
  | some (_, .Assign _ e _ :: _) => lamE e
  | some (_, .Return (some (.BoolOp _ [_, .Compare e _ _ _] _)) _ :: _) => lamE e
  | _ => none
def lamOf (k : Nat) : Clo :=
  match lamAt k with
  | some (params, body, scope, _) => ⟨Str.ofString "<lambda>", Str.ofString "law.<locals>.<lambda>", params, .expr body, scope, [Str.ofString "places"]⟩
  | none => ⟨Str.ofString "", Str.ofString "", default, .stmts [], default, []⟩
def lamPos (k : Nat) : Pos := match lamAt k with
  | some (_, _, _, pos) => pos
  | none => default
section
variable {C : Cx} {n : Nat} {σ : AHeap} {Q : AVal → AHeap → Prop}
theorem tc_type_lst {f : Fm} {m : AEnv} {xs : List AVal} (h : Q (.raw (.type "list")) σ) : TC C n f (.raw (.type "type")) [.lst xs] m σ Q := fun ok fz s E v vs x hv hvs => by
  cases hv; obtain _ | ⟨h1, h2⟩ := hvs; cases h2
  obtain ⟨l, us, rfl, hl, _⟩ := h1.list_ ok x
  exact ⟨keep_type, call_type_of hl.typeIs (by decide) (.here x (.raw _) h)⟩
set_option maxHeartbeats 4000000 in
theorem key03_fin (K : K03 C) (h : Q (lstI [255, 255, 0, 0]) σ) : Fn C (n + 3) 63 [.fin 52] σ Q := by
  refine fn_plain (ns := [Str.ofString "place"]) (dv := []) (da := []) (ho := by rw [K.hK]; rfl) (hcd := by rw [K.hK]; kernel_rfl) (hbind := ?_) (hd := fun _ => .nil) (hnd := by decide) (hloc := by decide) (h := ?_)
  · intro S vs hv
    match vs, hv with
    | [v1], _ => rfl
  · intro A₀ A base h₀ outer L pin
    have K' := K
    cases K'
    repeat walk_at "fw"
    refine tc_type_fin ?_
    repeat walk_at "fw"
    refine t2_isRef ?_
    repeat walk_at "fw"
    have e255 : Builtin.bitAnd (-1) 255 = 255 := by decide +kernel
    refine t2_and ?_
    rw [e255]
    repeat walk_at "fw"
    refine t2_and ?_
    rw [e255]
    repeat walk_at "fw"
    refine t2_isNone rfl ?_
    repeat walk_at "fw"
    refine t2_isNone rfl ?_
    repeat walk_at "fw"
    exact ret_le h
set_option maxHeartbeats 4000000 in
theorem key03_lst (K : K03 C) {xs : List AVal} (h : Q (.lst xs) σ) : Fn C (n + 1) 63 [.lst xs] σ Q := by
  refine fn_plain (ns := [Str.ofString "place"]) (dv := []) (da := []) (ho := by rw [K.hK]; rfl) (hcd := by rw [K.hK]; kernel_rfl) (hbind := ?_) (hd := fun _ => .nil) (hnd := by decide) (hloc := by decide) (h := ?_)
  · intro S vs hv
    match vs, hv with
    | [v1], _ => rfl
  · intro A₀ A base h₀ outer L pin
    have K' := K
    cases K'
    repeat walk_at "fw"
    refine tc_type_lst ?_
    repeat walk_at "fw"
    refine t2_isRaw (by decide) ?_
    have e : (Value.type "list" == Value.ref 52) = false := by decide
    rw [e]
    repeat walk_at "fw"
    exact ret_le h
theorem key03 (K : K03 C) {p : AVal} {zs : List Int} (hp : PlaceOf p zs) (h : Q (lstI zs) σ) : Fn C (n + 3) 63 [p] σ Q := by
  rcases hp with ⟨rfl, rfl⟩ | rfl
  · exact key03_fin K h
  · exact key03_lst (n := n + 2) K h
theorem cloE_intro {d : Clo} {P : Clo → Prop} {name qual : Str} {params : Arguments} {body : Expr} {kind : ScopeKind} {names : List (Str × NameKind)} {g c : Bool} {more : List (Str × Const)} {free : List Str} (e : d = ⟨name, qual, params, .expr body, ⟨kind, names, g, c, more⟩, free⟩) (k : P ⟨name, qual, params, .expr body, ⟨kind, names, g, c, more⟩, free⟩) : P d := e ▸ k
set_option maxHeartbeats 4000000 in
theorem lam_call (K : K03 C) {f : Fm} {m : AEnv} {i : Nat} {pls : List AVal} {p : AVal} {zs : List Int} {k : Nat} (hi : i = 4 ∨ i = 5) (hk : pls[k]? = some p) (hp : PlaceOf p zs) (hl : k < 2 ^ 60) : TC C (n + 4) f (.clos (lamOf i) [.lst pls]) [.int k] m σ fun r σ' => r = lstI zs ∧ σ' = σ := by
  rcases hi with rfl | rfl
  · refine cloE_intro (d := lamOf 4) (P := fun d => TC C (n + 4) f (.clos d [.lst pls]) [.int k] m σ fun r σ' => r = lstI zs ∧ σ' = σ) (by rfl) ?_
    refine tc_closE (ns := [Str.ofString "k"]) rfl ?_ (by decide) (by decide) ?_
    · intro cl doc pm c ctv vs hv
      match vs, hv with
      | [v], _ => rfl
    · intro A₀ A base h₀ outer L fa cdv cs pin hcs
      match cs, hcs with
      | [c1], _ =>
      have m1 : (c1, AVal.lst pls) ∈ (C.withFr ([c1].zip [.lst pls])).fr := .head _
      have K' : K03 (C.withFr ([c1].zip [.lst pls])) := k03 K.hK
      have K2 := K'
      cases K2
      repeat walk_at "fw"
      refine we_free (c := c1) rfl rfl m1 ?_
      repeat walk_at "fw"
      refine t2_item (y := p) rfl (by omega) (by omega) (by simpa using hk) ?_
      repeat walk_at "fw"
      refine tc_fn (by assumption) (key03 K' hp ?_)
      exact ⟨σ, AHeap.le_refl _, rfl, rfl⟩
  · refine cloE_intro (d := lamOf 5) (P := fun d => TC C (n + 4) f (.clos d [.lst pls]) [.int k] m σ fun r σ' => r = lstI zs ∧ σ' = σ) (by rfl) ?_
    refine tc_closE (ns := [Str.ofString "k"]) rfl ?_ (by decide) (by decide) ?_
    · intro cl doc pm c ctv vs hv
      match vs, hv with
      | [v], _ => rfl
    · intro A₀ A base h₀ outer L fa cdv cs pin hcs
      match cs, hcs with
      | [c1], _ =>
      have m1 : (c1, AVal.lst pls) ∈ (C.withFr ([c1].zip [.lst pls])).fr := .head _
      have K' : K03 (C.withFr ([c1].zip [.lst pls])) := k03 K.hK
      have K2 := K'
      cases K2
      repeat walk_at "fw"
      refine we_free (c := c1) rfl rfl m1 ?_
      repeat walk_at "fw"
      refine t2_item (y := p) rfl (by omega) (by omega) (by simpa using hk) ?_
      repeat walk_at "fw"
      refine tc_fn (by assumption) (key03 K' hp ?_)
      exact ⟨σ, AHeap.le_refl _, rfl, rfl⟩
end
end Mine

open PySem PySem.W PyProof.Rows PySem.Calls
namespace Mine

/-! ## the plain law -/
def plainOf (x : Int) : List Int := if x.fmod 5 < 2 then [255, 255, 0, 0] else [(250 + (x.fdiv 5).fmod 8).fmod 256, (250 + (x.fdiv 40).fmod 8).fmod 256, (x.fdiv 320).fmod 2, (x.fdiv 640).fmod 2]
def placeOf (x : Int) : AVal := if x.fmod 5 < 2 then .fin 52 else lstI (plainOf x)
theorem place_ok (x : Int) : PlaceOf (placeOf x) (plainOf x) := by
  unfold placeOf
  by_cases h : x.fmod 5 < 2
  · rw [if_pos h]; exact .inl ⟨rfl, by unfold plainOf; rw [if_pos h]⟩
  · rw [if_neg h]; exact .inr rfl
theorem plain_len (x : Int) : (plainOf x).length = 4 := by
  unfold plainOf; split <;> rfl
theorem up_uniq {O : KO} : ∀ {L L' : List Nat}, L.Perm L' → Up O L → Up O L' → L = L'
  | [], L', p, _, _ => (List.nil_perm.mp p).symm
  | a :: r, [], p, _, _ => absurd p.length_eq (by simp)
  | a :: r, b :: r', p, h, h' => by
    obtain ⟨h1, h2⟩ := List.pairwise_cons.mp h
    obtain ⟨h1', h2'⟩ := List.pairwise_cons.mp h'
    have e : a = b := by
      rcases List.mem_cons.mp (p.mem_iff.mp (List.mem_cons_self ..)) with e | ha
      · exact e
      · rcases List.mem_cons.mp (p.mem_iff.mpr (List.mem_cons_self ..)) with e | hb
        · exact e.symm
        · exact (((h1 b hb).trans (h1' a ha)).irr).elim
    subst e
    rw [up_uniq ((List.perm_cons _).mp p) h2 h2']
theorem srt_uniq {O : KO} {n : Nat} {L L' : List Nat} (h : Srt O n L) (h' : Srt O n L') : L = L' := up_uniq (h.perm.trans h'.perm.symm) h.up h'.up
theorem lex_app {i j : Int} : ∀ {p q : List Int}, p.length = q.length → lexLt (p ++ [i]) (q ++ [j]) = if p = q then decide (i < j) else lexLt p q
  | [], [], _ => by
    rw [if_pos rfl]
    show (if i = j then lexLt [] [] else decide (i < j)) = _
    by_cases h : i = j
    · rw [if_pos h, h]; simp [lexLt]
    · rw [if_neg h]
  | [], _ :: _, h => by cases h
  | _ :: _, [], h => by cases h
  | x :: p, y :: q, h => by
    show (if x = y then lexLt (p ++ [i]) (q ++ [j]) else decide (x < y)) = if x :: p = y :: q then decide (i < j) else (if x = y then lexLt p q else decide (x < y))
    have ih := lex_app (i := i) (j := j) (p := p) (q := q) (by simpa using h)
    by_cases hx : x = y
    · subst hx
      rw [if_pos rfl, if_pos rfl, ih]
      by_cases hp : p = q
      · subst hp; rw [if_pos rfl, if_pos rfl]
      · rw [if_neg hp, if_neg (fun e => hp (List.cons.inj e).2)]
    · rw [if_neg hx, if_neg hx, if_neg (fun e => hx (List.cons.inj e).1)]
def rowsOf (ps : List (List Int)) : List (List Int) := (List.range ps.length).map fun k => ps.getD k [] ++ [(k : Int)]
theorem rows_get {ps : List (List Int)} {k : Nat} (h : k < ps.length) : (rowsOf ps).getD k [] = ps.getD k [] ++ [(k : Int)] := by
  unfold rowsOf
  rw [List.getD_eq_getElem?_getD, List.getElem?_map, List.getElem?_range h]
  rfl
theorem rows_len (ps : List (List Int)) : (rowsOf ps).length = ps.length := by simp [rowsOf]
/-- by row and by key: the same order -/
theorem rows_srt {ps : List (List Int)} (h4 : ∀ z ∈ ps, z.length = 4) {L : List Nat} (h : Srt (lexKO fun i => (rowsOf ps).getD i []) ps.length L) : Srt (lexKO fun i => ps.getD i []) ps.length L := by
  refine ⟨h.perm, List.Pairwise.imp_of_mem (fun {a b} ha hb d => ?_) h.up⟩
  have ha := srt_lt h ha
  have hb := srt_lt h hb
  have len : ∀ {i}, i < ps.length → (ps.getD i []).length = 4 := fun {i} hi => by
    rw [List.getD_eq_getElem?_getD, List.getElem?_eq_getElem hi]
    exact h4 _ (List.getElem_mem hi)
  have hl : (ps.getD a []).length = (ps.getD b []).length := by rw [len ha, len hb]
  by_cases e : ps.getD a [] = ps.getD b []
  · have key : a < b := by
      rcases d with d | ⟨_, d⟩
      · change lexLt ((rowsOf ps).getD a []) ((rowsOf ps).getD b []) = true at d
        rw [rows_get ha, rows_get hb, lex_app hl, if_pos e] at d
        have := of_decide_eq_true d
        omega
      · exact d
    refine .inr ⟨?_, key⟩
    show lexLt (ps.getD b []) (ps.getD a []) = false
    rw [e]; exact lexLt_irr _
  · rcases d with d | ⟨d, d2⟩
    · change lexLt ((rowsOf ps).getD a []) ((rowsOf ps).getD b []) = true at d
      rw [rows_get ha, rows_get hb, lex_app hl, if_neg e] at d
      exact .inl d
    · change lexLt ((rowsOf ps).getD b []) ((rowsOf ps).getD a []) = false at d
      rw [rows_get ha, rows_get hb, lex_app hl.symm, if_neg (fun q => e q.symm)] at d
      exact .inr ⟨d, d2⟩
/-- what is sorted already stays -/
theorem again_srt {ps : List (List Int)} {L L3 : List Nat} (h : Srt (lexKO fun i => ps.getD i []) ps.length L) (h3 : Srt (lexKO fun i => (L.map fun k => ps.getD k []).getD i []) ps.length L3) : L3 = List.range' 0 ps.length := by
  refine srt_uniq h3 ⟨.refl _, ?_⟩
  have ll := srt_len h
  have := List.pairwise_lt_range' (s := 0) (n := ps.length) (step := 1) (by decide)
  refine List.Pairwise.imp_of_mem (fun {a b} ha hb l => .inr ⟨?_, l⟩) this
  have ha : a < L.length := by simp at ha; omega
  have hb : b < L.length := by simp at hb; omega
  show lexLt ((L.map fun k => ps.getD k []).getD b []) ((L.map fun k => ps.getD k []).getD a []) = false
  have g : ∀ {i} (hi : i < L.length), (L.map fun k => ps.getD k []).getD i [] = ps.getD L[i] [] := fun {i} hi => by
    rw [List.getD_eq_getElem?_getD, List.getElem?_map, List.getElem?_eq_getElem hi]; rfl
  rw [g ha, g hb]
  exact (h.up.get l (List.getElem?_eq_getElem ha) (List.getElem?_eq_getElem hb)).le
theorem pick_range {xs : List AVal} : (List.range' 0 xs.length).map (fun i => xs.getD i .none) = xs := by
  refine List.ext_getElem (by simp) fun i h1 h2 => ?_
  simp [h2]
end Mine

open PySem PySem.W PyProof.Rows PySem.Calls
namespace Mine

def cells03 (L : Nat) : List (Str × Addr) := [(Str.ofString "places", L + 2), (Str.ofString "plain", L + 1)]
structure G3 (σ : AHeap) (L ps pl : Addr) (done : List Int) : Prop where
  tab : σ 65 = some (.tab [])
  cpl : σ (L + 1) = some (.cell (some (.obj pl)))
  cps : σ (L + 2) = some (.cell (some (.obj ps)))
  lpl : σ pl = some (.list (done.map fun x => lstI (plainOf x)))
  lps : σ ps = some (.list (done.map placeOf))
  ne : ps ≠ pl
theorem ne_kind {σ : AHeap} {a b : Addr} {o o' : AObj} (h : σ a = some o) (h' : σ b = some o') (hn : o ≠ o') : a ≠ b := fun q => by
  rw [q, h'] at h; exact hn (Option.some.inj h).symm
theorem G3.put {σ : AHeap} {L ps pl : Addr} {done : List Int} (h : G3 σ L ps pl done) (x : Int) : G3 ((σ.set ps (.list (done.map placeOf ++ [placeOf x]))).set pl (.list ((done.map fun x => lstI (plainOf x)) ++ [lstI (plainOf x)]))) L ps pl (done ++ [x]) := by
  have n1 : (65 : Addr) ≠ pl := ne_kind h.tab h.lpl (by intro e; cases e)
  have n2 : (65 : Addr) ≠ ps := ne_kind h.tab h.lps (by intro e; cases e)
  have n3 : L + 1 ≠ pl := ne_kind h.cpl h.lpl (by intro e; cases e)
  have n4 : L + 1 ≠ ps := ne_kind h.cpl h.lps (by intro e; cases e)
  have n5 : L + 2 ≠ pl := ne_kind h.cps h.lpl (by intro e; cases e)
  have n6 : L + 2 ≠ ps := ne_kind h.cps h.lps (by intro e; cases e)
  refine ⟨?_, ?_, ?_, ?_, ?_, h.ne⟩
  · rw [AHeap.set_ne _ _ n1, AHeap.set_ne _ _ n2]; exact h.tab
  · rw [AHeap.set_ne _ _ n3, AHeap.set_ne _ _ n4]; exact h.cpl
  · rw [AHeap.set_ne _ _ n5, AHeap.set_ne _ _ n6]; exact h.cps
  · rw [AHeap.set_same, List.map_append]; rfl
  · rw [AHeap.set_ne _ _ h.ne, AHeap.set_same, List.map_append]; rfl
def E3 (S : AVal) : AEnv := [(Str.ofString "script", S), (Str.ofString "again", .fin 52)]
section
variable {C : Cx} {σ : AHeap}
set_option maxHeartbeats 8000000 in
theorem step03 (K : K03 C) {S : AVal} {L ps pl : Addr} {done : List Int} {x : Int} (G : G3 σ L ps pl done) (hl : done.length ≤ 80) :
    Seg PySem.Challenge.pw_dn0301_03 4 [(2, 0)] 0 fun scope ss => ∀ A₀ A base h₀ outer fa cdv pin, WS C 20 ⟨A₀, A, base, h₀, outer, L, fa, Str.ofString "law", scope, cdv, [(Str.ofString "places", L + 2), (Str.ofString "plain", L + 1)], pin, none⟩ ss [(Str.ofString "script", S), (Str.ofString "again", .fin 52), (Str.ofString "x", .int x)] σ
      fun fl m' σ₁ => fl = .next ∧ G3 σ₁ L ps pl (done ++ [x]) ∧ Has m' (E3 S) := by
  refine seg_intro (by rfl) ?_
  intro A₀ A base h₀ outer fa cdv pin
  have K' := K
  cases K'
  have cpl := G.cpl
  have cps := G.cps
  have lpl := G.lpl
  have lps := G.lps
  have hne := G.ne
  have n1 : L + 1 ≠ pl := ne_kind cpl lpl (by intro e; cases e)
  have n2 : L + 1 ≠ ps := ne_kind cpl lps (by intro e; cases e)
  have n3 : L + 2 ≠ pl := ne_kind cps lpl (by intro e; cases e)
  have n4 : L + 2 ≠ ps := ne_kind cps lps (by intro e; cases e)
  have l1 : (done.map placeOf).length ≤ sizeLine := by rw [List.length_map, sizeLine_eq]; omega
  have l2 : (done.map fun x => lstI (plainOf x)).length ≤ sizeLine := by rw [List.length_map, sizeLine_eq]; omega
  have P := G.put x
  have fin : ∀ {p z : AVal} {m' : AEnv}, placeOf x = p → lstI (plainOf x) = z → Has m' (E3 S) → (AFlow.next = .next ∧ G3 ((σ.set ps (.list (done.map placeOf ++ [p]))).set pl (.list ((done.map fun x => lstI (plainOf x)) ++ [z]))) L ps pl (done ++ [x]) ∧ Has m' (E3 S)) := by
    rintro p z m' rfl rfl hm
    exact ⟨rfl, P, hm⟩
  repeat walk_at "fw"
  · rename_i hk
    have hk : x.fmod 5 < 2 := by simpa using hk
    refine tg_listM lps PySem.F.slot_list_append PySem.F.type_list_append ?_
    repeat walk_at "fw"
    all_goals
      repeat walk_at "fw"
      first | refine tc_append lps l1 ?_ | (refine tc_fin (c := 52) (by assumption) (by assumption) (by assumption) ?_; (repeat walk_at "fw"); refine tc_append lps l1 ?_)
      repeat walk_at "fw"
      refine tg_listM (a := pl) ((AHeap.set_ne _ _ hne.symm).trans lpl) PySem.F.slot_list_append PySem.F.type_list_append ?_
      repeat walk_at "fw"
      refine tc_append ((AHeap.set_ne _ _ hne.symm).trans lpl) l2 ?_
      repeat walk_at "fw"
      refine fin ?_ ?_ ⟨rfl, rfl, trivial⟩
      · unfold placeOf; rw [if_pos hk]
      · unfold plainOf; rw [if_pos hk]; rfl
  · rename_i hk
    have hk : ¬ x.fmod 5 < 2 := by simpa using hk
    repeat walk_at "fw"
    refine tg_listM lps PySem.F.slot_list_append PySem.F.type_list_append ?_
    repeat walk_at "fw"
    refine tc_append lps l1 ?_
    repeat walk_at "fw"
    refine tg_listM (a := pl) ((AHeap.set_ne _ _ hne.symm).trans lpl) PySem.F.slot_list_append PySem.F.type_list_append ?_
    repeat walk_at "fw"
    refine tc_append ((AHeap.set_ne _ _ hne.symm).trans lpl) l2 ?_
    repeat walk_at "fw"
    refine fin ?_ ?_ ⟨rfl, rfl, trivial⟩
    · unfold placeOf; rw [if_neg hk]; unfold plainOf; rw [if_neg hk]; rfl
    · unfold plainOf; rw [if_neg hk]; rfl
end
end Mine

open PySem PySem.W PyProof.Rows PySem.Calls
namespace Mine

theorem rd_ints {σ : AHeap} : ∀ L : List Nat, RdAll σ (L.map fun (i : Nat) => .int (i : Int)) ((L.map fun (i : Nat) => (i : Int)).map .int)
  | [] => .nil
  | i :: L => .cons (.int _) (rd_ints L)
abbrev plzOf (all : List Int) : List (List Int) := all.map plainOf
theorem range_ints {k : Nat} : (rangeInts 0 1 k).map AVal.int = (List.range' 0 k).map fun (i : Nat) => AVal.int (i : Int) := by
  refine List.ext_getElem (by simp [rangeInts_length]) fun i h1 h2 => ?_
  have hi : i < k := by simpa using h2
  have e := rangeInts_get (a := 0) (c := 1) hi
  have h3 : i < (rangeInts 0 1 k).length := by rw [rangeInts_length]; exact hi
  rw [List.getElem?_eq_getElem h3] at e
  have e := Option.some.inj e
  simp [e]
theorem pick_ints {k : Nat} {L : List Nat} (h : ∀ i ∈ L, i < k) : (L.map fun i => ((List.range' 0 k).map fun (i : Nat) => AVal.int (i : Int)).getD i .none) = L.map fun (i : Nat) => AVal.int (i : Int) :=
  List.map_congr_left fun i hi => by
    have := h i hi
    simp [this]
section
variable {C : Cx} {σ : AHeap}
set_option maxHeartbeats 8000000 in
theorem told03 (K : K03 C) (hC : CodeHd C.H 67 65) {S : AVal} {L : Addr} {all : List Int} {ps : List (List Int)} (hps : ps = all.map plainOf) (m1 : (L + 2, AVal.lst (all.map placeOf)) ∈ C.fr) (ht : σ 65 = some (.tab [])) (hl : all.length ≤ 80) {L1 : List Nat} (h1 : Srt (lexKO fun i => ps.getD i []) ps.length L1) :
    Seg PySem.Challenge.pw_dn0301_03 4 [] 4 fun scope ss => ∀ A₀ A base h₀ outer fa pin, WS C 20 ⟨A₀, A, base, h₀, outer, L, fa, Str.ofString "law", scope, .ref 67, [(Str.ofString "places", L + 2), (Str.ofString "plain", L + 1)], pin, none⟩ ss [(Str.ofString "script", S), (Str.ofString "again", .fin 52), (Str.ofString "due", .lst (L1.map fun (i : Nat) => .int (i : Int)))] σ
      fun fl m' σ₁ => fl = .ret (.bool true) ∧ ∃ es, σ₁ 65 = some (.tab es) := by
  refine seg_intro (by rfl) ?_
  intro A₀ A base h₀ outer fa pin
  have K' := K
  cases K'
  have pll : ps.length = all.length := by rw [hps]; exact List.length_map ..
  have plc : (all.map placeOf).length = all.length := List.length_map ..
  have look : ∀ {i : Nat}, i < all.length → ∃ p, (all.map placeOf)[i]? = some p ∧ PlaceOf p (ps.getD i []) := fun {i} hi => by
    refine ⟨placeOf all[i], by rw [List.getElem?_map, List.getElem?_eq_getElem hi]; rfl, ?_⟩
    have e : ps.getD i [] = plainOf all[i] := by
      rw [hps, List.getD_eq_getElem?_getD, List.getElem?_map, List.getElem?_eq_getElem hi]; rfl
    rw [e]; exact place_ok _
  with_reducible refine ws_cons ?_
  with_reducible refine w1_assign ?_ ?hs
  case hs => rfl
  with_reducible refine we_call1k ?_ ?h1 ?h2 ?h3
  case h1 => rfl
  case h2 => rfl
  case h3 => rfl
  repeat walk_at "fw"
  refine we_cellF rfl rfl m1 ?_
  repeat walk_at "fw"
  refine tc_range1 ?_
  repeat walk_at "fw"
  refine we_lambda (d := lamOf 4) (cs := [L + 2]) (xs := [.lst (all.map placeOf)]) (c := 67) (P := 65) (es := []) (es' := [(lamPos 4, (lamOf 4).qual)]) ?hd ?hdef rfl hC ?hcl rfl ?hfr ht ?hes ?_
  case hd => kernel_rfl
  case hdef => rfl
  case hcl => kernel_rfl
  case hfr => intro p hp; rw [List.mem_singleton.mp hp]; exact m1
  case hes => rfl
  refine tc_sortedK (xs := (List.range' 0 all.length).map fun (i : Nat) => AVal.int (i : Int)) (kz := ps) (by rw [← range_ints, plc]; exact col_rng (rng_small1 (by omega) (by omega)) rng_size1' (by omega)) (by simp; omega) (by simp [pll]) ?_ ?_
  · intro i xa z pin hx hz
    have hi : i < all.length := by have := (List.getElem?_eq_some_iff.mp hz).1; omega
    obtain ⟨p, hp1, hp2⟩ := look hi
    have e1 : xa = .int (i : Int) := by
      rw [List.getElem?_map, List.getElem?_range' (by omega)] at hx
      have := Option.some.inj hx
      rw [← this]; simp
    have e2 : ps.getD i [] = z := by rw [List.getD_eq_getElem?_getD, hz]; rfl
    rw [e2] at hp2
    subst e1
    exact lam_call (n := 15) K (.inl rfl) hp1 hp2 (by omega)
  · intro L2 h2
    rw [List.length_map, List.length_range', ← pll] at h2
    obtain rfl := srt_uniq h1 h2
    rw [pick_ints (fun i hi => by have := srt_lt h1 hi; omega)]
    have ll := srt_len h1
    repeat walk_at "fw"
    refine t2_eqS (Rd.lst (rd_ints L1)) (Rd.lst (rd_ints L1)) (dk_ints (k := 0) _) ?_
    repeat walk_at "fw"
    with_reducible refine we_call1k ?_ ?h1 ?h2 ?h3
    case h1 => rfl
    case h2 => rfl
    case h3 => rfl
    repeat walk_at "fw"
    refine we_lambda (d := lamOf 5) (cs := [L + 2]) (xs := [.lst (all.map placeOf)]) (c := 67) (P := 65) (es := [(lamPos 4, (lamOf 4).qual)]) (es' := [(lamPos 4, (lamOf 4).qual), (lamPos 5, (lamOf 5).qual)]) ?hd ?hdef rfl hC ?hcl rfl ?hfr (AHeap.set_same ..) ?hes ?_
    case hd => kernel_rfl
    case hdef => rfl
    case hcl => kernel_rfl
    case hfr => intro p hp; rw [List.mem_singleton.mp hp]; exact m1
    case hes => kernel_rfl
    refine tc_sortedK (xs := L1.map fun (i : Nat) => AVal.int (i : Int)) (kz := L1.map fun k => ps.getD k []) (col_lst (by rw [List.length_map, sizeLine_eq]; omega)) (by rw [List.length_map]; omega) (by simp) ?_ ?_
    · intro i xa z pin hx hz
      have hi : i < L1.length := by have := (List.getElem?_eq_some_iff.mp hz).1; simpa using this
      have hL := srt_lt h1 (List.getElem_mem hi)
      obtain ⟨p, hp1, hp2⟩ := look (i := L1[i]) (by omega)
      have e1 : xa = .int (L1[i] : Int) := by
        rw [List.getElem?_map, List.getElem?_eq_getElem hi] at hx
        exact (Option.some.inj hx).symm
      have e2 : ps.getD L1[i] [] = z := by
        rw [List.getElem?_map, List.getElem?_eq_getElem hi] at hz
        exact Option.some.inj hz
      rw [e2] at hp2
      subst e1
      exact lam_call (n := 15) K (.inr rfl) hp1 hp2 (by omega)
    · intro L3 h3
      rw [List.length_map, ll] at h3
      have e3 := again_srt h1 h3
      have e4 := pick_range (xs := L1.map fun (i : Nat) => AVal.int (i : Int))
      rw [List.length_map, ll] at e4
      rw [e3, e4]
      repeat walk_at "fw"
      refine t2_eqS (Rd.lst (rd_ints L1)) (Rd.lst (rd_ints L1)) (dk_ints (k := 0) _) ?_
      exact ⟨rfl, _, AHeap.set_same ..⟩
end
end Mine

open PySem PySem.W PyProof.Rows PySem.Calls
namespace Mine

section
variable {C : Cx} {σ : AHeap}
set_option maxHeartbeats 8000000 in
theorem due03 (K : K03 C) (hC : CodeHd C.H 67 65) {S : AVal} {L : Addr} {all : List Int} {ps : List (List Int)} (hps : ps = all.map plainOf) (m1 : (L + 2, AVal.lst (all.map placeOf)) ∈ C.fr) (m2 : (L + 1, AVal.lst (ps.map lstI)) ∈ C.fr) (ht : σ 65 = some (.tab [])) (hl : all.length ≤ 80) :
    Seg PySem.Challenge.pw_dn0301_03 4 [] 3 fun scope ss => ∀ A₀ A base h₀ outer fa pin, WS C 20 ⟨A₀, A, base, h₀, outer, L, fa, Str.ofString "law", scope, .ref 67, [(Str.ofString "places", L + 2), (Str.ofString "plain", L + 1)], pin, none⟩ ss [(Str.ofString "script", S), (Str.ofString "again", .fin 52)] σ
      fun fl m' σ₁ => fl = .ret (.bool true) ∧ ∃ es, σ₁ 65 = some (.tab es) := by
  refine seg_intro (by rfl) ?_
  intro A₀ A base h₀ outer fa pin
  have K' := K
  cases K'
  have pl4 : ∀ z ∈ ps, z.length = 4 := fun z hz => by
    rw [hps] at hz
    obtain ⟨x, _, rfl⟩ := List.mem_map.mp hz
    exact plain_len x
  have pll : ps.length = all.length := by rw [hps]; exact List.length_map ..
  have psl : (ps.map lstI).length = ps.length := List.length_map ..
  with_reducible refine ws_cons ?_
  with_reducible refine w1_assignComp (cl := []) (fun rest ys σ' => σ' = σ ∧ ∃ L1 d r : List Nat, Srt (lexKO fun i => (rowsOf ps).getD i []) ps.length L1 ∧ L1 = d ++ r ∧ rest = (r.map fun i => lstI ((rowsOf ps).getD i [])) ∧ ys = d.map fun (i : Nat) => .int (i : Int)) ?hc ?_ ?_ ?_ ?hs ?h1 ?h2 ?h3 ?h4 ?h5 ?h6
  case h6 => intro _; rfl
  case hc => rfl
  case hs => rfl
  case h1 => rfl
  case h2 => decide
  case h3 => rfl
  case h4 => decide
  case h5 => rfl
  · with_reducible refine wi ?_
    iterate 3 walk_at "fw"
    refine we_compB (cl := [(Str.ofString "plain", L + 1)]) (fun back rest ys σ' => back = id ∧ σ' = σ ∧ ∃ j, rest = (rngL 0 1 ps.length).drop j ∧ ys = ((rowsOf ps).take j).map lstI ∧ j ≤ ps.length) rfl ?_ ?_ ?_
    · with_reducible refine wi ?_
      repeat walk_at "fw"
      refine we_cellF rfl rfl m2 ?_
      repeat walk_at "fw"
      refine tc_range1 ?_
      rw [psl]
      exact ti_rng (k := ps.length) (rng_small1 (by omega) (by omega)) rng_size1' ⟨by rw [rngL_length, sizeLine_eq]; omega, rfl, rfl, 0, by simp, by simp, Nat.zero_le _⟩
    · rintro back pin' c v xs ys σ' ⟨rfl, rfl, j, hr, rfl, hj5⟩ hcn
      obtain ⟨hj, rfl, rfl⟩ := rngL_cons hr
      rw [show (0 + (j : Int) * 1) = j by omega]
      refine wq_nil ?_
      rw [if_pos rfl]
      iterate 2 walk_at "fw"
      refine we_cellF rfl rfl m2 ?_
      repeat walk_at "fw"
      refine t2_item (y := lstI (ps.getD j [])) rfl (by omega) (by omega) (by rw [Int.toNat_natCast, List.getElem?_map, List.getD_eq_getElem?_getD, List.getElem?_eq_getElem hj]; rfl) ?_
      repeat walk_at "fw"
      have l4 : (ps.getD j []).length = 4 := by
        rw [List.getD_eq_getElem?_getD, List.getElem?_eq_getElem hj]
        exact pl4 _ (List.getElem_mem hj)
      refine t2_cat rfl rfl (by rw [List.length_map, l4, sizeLine_eq]; show 4 + 1 ≤ 16777216; decide) ?_
      refine ⟨⟨_, AHeap.set_same ..⟩, σ', AHeap.le_set hcn, hcn, rfl, rfl, j + 1, rfl, ?_, by omega⟩
      have hr : (rowsOf ps)[j]? = some (ps.getD j [] ++ [(j : Int)]) := by
        unfold rowsOf
        rw [List.getElem?_map, List.getElem?_range hj]; rfl
      rw [List.take_add_one, hr, List.map_append]
      simp
    · rintro back ys σ' ⟨rfl, rfl, j, hr, rfl, hj5⟩
      have hj := rngL_nil hr
      obtain rfl : j = ps.length := by omega
      rw [List.take_of_length_le (by rw [rows_len]; exact Nat.le_refl _)]
      repeat walk_at "fw"
      have hrl := rows_len ps
      refine tc_sorted (rows := rowsOf ps) (col_lst (by rw [List.length_map, hrl, sizeLine_eq]; omega)) (by omega) fun L1 h1 => ?_
      rw [hrl] at h1
      refine ti_lst ⟨rfl, ?_, rfl, L1, [], L1, h1, rfl, rfl, rfl⟩
      rw [List.length_map, srt_len h1, sizeLine_eq]; omega
  · rintro pin' c v xs ys σ' ⟨rfl, L1, d, r, h1, h2, h3, rfl⟩ hcn
    cases r with
    | nil => cases h3
    | cons i r =>
      cases h3
      have hi : i < ps.length := srt_lt h1 (by rw [h2]; simp)
      have l4 : (ps.getD i []).length = 4 := by
        rw [List.getD_eq_getElem?_getD, List.getElem?_eq_getElem hi]
        exact pl4 _ (List.getElem_mem hi)
      refine wq_nil ?_
      rw [if_pos rfl]
      repeat walk_at "fw"
      refine t2_item (y := .int (i : Int)) rfl (by omega) (by omega) ?_ ?_
      · rw [rows_get hi, List.map_append]
        show (List.map AVal.int (ps.getD i []) ++ _)[4]? = _
        rw [List.getElem?_append_right (by rw [List.length_map]; omega), List.length_map, l4]; rfl
      refine ⟨⟨_, AHeap.set_same ..⟩, σ', AHeap.le_set hcn, hcn, rfl, L1, d ++ [i], r, h1, by rw [h2]; simp, rfl, by rw [List.map_append]; rfl⟩
  · rintro pin' ys σ' ⟨rfl, L1, d, r, h1, h2, h3, rfl⟩
    obtain rfl : r = [] := by cases r with
      | nil => rfl
      | cons u us => cases h3
    rw [List.append_nil] at h2
    subst h2
    have h1 := rows_srt pl4 h1
    refine ts_local rfl ?_
    dsimp only [Fm.withPin]
    with_reducible show WS _ _ _ _ _ _ _
    with_reducible refine WS.weaken (m' := [(Str.ofString "script", S), (Str.ofString "again", .fin 52), (Str.ofString "due", .lst (L1.map fun (i : Nat) => .int (i : Int)))]) ?hm (AHeap.le_refl _) ?_
    case hm => exact Has.sub ⟨rfl, rfl, rfl, trivial⟩
    with_reducible refine' seg_elim (told03 K hC hps m1 ht hl h1) ?ho _ _ _ _ _ _ _
    case ho => rfl
end
end Mine

open PySem PySem.W PyProof.Rows PySem.Calls
namespace Mine

def Inv03 (S : AVal) (L ps pl : Addr) (xs : List AVal) (m : AEnv) (σ : AHeap) : Prop :=
  ∃ (us done : List Int), xs = us.map .int ∧ done.length + us.length ≤ 71 ∧ G3 σ L ps pl done ∧ m = [(Str.ofString "script", S), (Str.ofString "again", .fin 52)]
section
variable {C : Cx} {σ : AHeap}
set_option maxHeartbeats 8000000 in
theorem end03 (K : K03 C) (hC : CodeHd C.H 67 65) {S : AVal} {L ps pl : Addr} {all : List Int} (G : G3 σ L ps pl all) (hl : all.length ≤ 80) :
    Seg PySem.Challenge.pw_dn0301_03 4 [] 3 fun scope ss => ∀ A₀ A base h₀ outer fa pin, WS C 20 ⟨A₀, A, base, h₀, outer, L, fa, Str.ofString "law", scope, .ref 67, [(Str.ofString "places", L + 2), (Str.ofString "plain", L + 1)], pin, none⟩ ss [(Str.ofString "script", S), (Str.ofString "again", .fin 52)] σ
      fun fl m' σ₁ => fl = .ret (.bool true) ∧ ∃ es, σ₁ 65 = some (.tab es) := by
  refine seg_intro (by rfl) ?_
  intro A₀ A base h₀ outer fa pin
  have e : (all.map fun x => lstI (plainOf x)) = (all.map plainOf).map lstI := by rw [List.map_map]; rfl
  have n1 : (65 : Addr) ≠ pl := ne_kind G.tab G.lpl (by intro e; cases e)
  have n2 : (65 : Addr) ≠ ps := ne_kind G.tab G.lps (by intro e; cases e)
  have n3 : (65 : Addr) ≠ L + 1 := ne_kind G.tab G.cpl (by intro e; cases e)
  have n4 : (65 : Addr) ≠ L + 2 := ne_kind G.tab G.cps (by intro e; cases e)
  have n5 : L + 1 ≠ ps := ne_kind G.cpl G.lps (by intro e; cases e)
  have n6 : pl ≠ L + 2 := (ne_kind G.cps G.lpl (by intro e; cases e)).symm
  have n7 : L + 1 ≠ L + 2 := Nat.ne_of_lt (Nat.lt_succ_self _)
  refine WS.iceList G.cps G.lps ?_
  have c1 : ((σ.del ps).del (L + 2)) (L + 1) = some (.cell (some (.obj pl))) := by rw [AHeap.del_ne _ n7, AHeap.del_ne _ n5]; exact G.cpl
  have c2 : ((σ.del ps).del (L + 2)) pl = some (.list (all.map fun x => lstI (plainOf x))) := by rw [AHeap.del_ne _ n6, AHeap.del_ne _ (Ne.symm G.ne)]; exact G.lpl
  refine WS.iceList c1 c2 ?_
  have c3 : ((((σ.del ps).del (L + 2)).del pl).del (L + 1)) 65 = some (.tab []) := by rw [AHeap.del_ne _ n3, AHeap.del_ne _ n1, AHeap.del_ne _ n4, AHeap.del_ne _ n2]; exact G.tab
  generalize ((((σ.del ps).del (L + 2)).del pl).del (L + 1)) = σ2 at c3 ⊢
  rw [e]
  have K2 : K03 ((C.withFr [(L + 2, AVal.lst (all.map placeOf))]).withFr [(L + 1, AVal.lst ((all.map plainOf).map lstI))]) := k03 K.hK
  with_reducible refine' seg_elim (due03 K2 ?hC rfl ?m1 ?m2 c3 hl) ?ho _ _ _ _ _ _ _
  case hC => exact hC
  case m1 => exact .tail _ (.head _)
  case m2 => exact .head _
  case ho => rfl
set_option maxHeartbeats 8000000 in
theorem loop03 (K : K03 C) (hC : CodeHd C.H 67 65) {ns : List Int} (hns : ns.length ≤ 63) {L ps pl : Addr} (G : G3 σ L ps pl []) :
    Seg PySem.Challenge.pw_dn0301_03 4 [] 2 fun scope ss => ∀ A₀ A base h₀ outer fa pin, WS C 20 ⟨A₀, A, base, h₀, outer, L, fa, Str.ofString "law", scope, .ref 67, [(Str.ofString "places", L + 2), (Str.ofString "plain", L + 1)], pin, none⟩ ss [(Str.ofString "script", .lst (ns.map .int)), (Str.ofString "again", .fin 52)] σ
      fun fl m' σ₁ => fl = .ret (.bool true) ∧ ∃ es, σ₁ 65 = some (.tab es) := by
  refine seg_intro (by rfl) ?_
  intro A₀ A base h₀ outer fa pin
  have K' := K
  cases K'
  with_reducible refine ws_cons ?_
  with_reducible refine w1_for (Inv03 (.lst (ns.map .int)) L ps pl) ?_ ?_ ?_ ?hs
  case hs => intro _; rfl
  · with_reducible refine wi ?_
    repeat walk_at "fw"
    refine t2_cat rfl rfl (by simp [sizeLine_eq]; omega) ?_
    exact ti_lst ⟨rfl, [547, 227, 0, 187, 867, 1, 222, 272] ++ ns, [], by simp, by simp; omega, G, rfl⟩
  · rintro pin x xs m' σ' ⟨us, done, he, hn, G, rfl⟩
    cases us with
    | nil => cases he
    | cons u us =>
      cases he
      walk_at "fw"
      dsimp only [Fm.withPin]
      have hn' : done.length + us.length + 1 ≤ 71 := by simpa [Nat.add_assoc] using hn
      with_reducible show WS _ _ _ _ _ _ _
      with_reducible refine WS.mono (Q := fun fl m' σ₁ => fl = .next ∧ G3 σ₁ L ps pl (done ++ [u]) ∧ Has m' (E3 (.lst (ns.map .int)))) ?h1 ?_
      case h1 =>
        with_reducible refine WS.weaken (m' := [(Str.ofString "script", .lst (ns.map .int)), (Str.ofString "again", .fin 52), (Str.ofString "x", .int u)]) ?hm (AHeap.le_refl _) ?_
        case hm => exact Has.sub ⟨rfl, rfl, rfl, trivial⟩
        with_reducible refine' seg_elim (step03 K G (by omega)) ?ho _ _ _ _ _ _ _ _
        case ho => rfl
      rintro fl m' σ₁ ⟨rfl, G, hm⟩
      exact ⟨_, _, Has.sub hm, AHeap.le_refl _, us, done ++ [u], rfl, by simp; omega, G, rfl⟩
  · rintro m' σ' ⟨us, done, he, hn, G, rfl⟩
    with_reducible refine' seg_elim (end03 K hC G (by omega)) ?ho2 _ _ _ _ _ _ _
    case ho2 => rfl
set_option maxHeartbeats 8000000 in
theorem start03 (K : K03 C) (hC : CodeHd C.H 67 65) {ns : List Int} (hns : ns.length ≤ 63) {L : Addr} (t0 : σ 65 = some (.tab [])) (t1 : σ (L + 1) = some (.cell none)) (t2 : σ (L + 2) = some (.cell none)) :
    Seg PySem.Challenge.pw_dn0301_03 4 [] 0 fun scope ss => ∀ A₀ A base h₀ outer fa pin, WS C 20 ⟨A₀, A, base, h₀, outer, L, fa, Str.ofString "law", scope, .ref 67, [(Str.ofString "places", L + 2), (Str.ofString "plain", L + 1)], pin, none⟩ ss [(Str.ofString "script", .lst (ns.map .int))] σ
      fun fl m' σ₁ => fl = .ret (.bool true) ∧ ∃ es, σ₁ 65 = some (.tab es) := by
  refine seg_intro (by rfl) ?_
  intro A₀ A base h₀ outer fa pin
  have K' := K
  cases K'
  walk_at "fw"
  repeat walk_at "fe"
  with_reducible refine ws_cons ?_
  with_reducible refine w1_assignT ?_ ?h1 ?h2
  case h1 => rfl
  case h2 => rfl
  with_reducible refine we_tup ?_
  iterate 1 walk_at "fw"
  refine we_listM ?_
  iterate 2 walk_at "fw"
  intro ps p1
  have a1 : L + 1 ≠ ps := hp_ne t1 p1
  have a2 : L + 2 ≠ ps := hp_ne t2 p1
  have a3 : (65 : Addr) ≠ ps := hp_ne t0 p1
  iterate 1 walk_at "fw"
  refine we_listM ?_
  iterate 2 walk_at "fw"
  intro pl p2
  have b1 : L + 1 ≠ pl := hp_ne ((AHeap.set_ne _ _ a1).trans t1) p2
  have b2 : L + 2 ≠ pl := hp_ne ((AHeap.set_ne _ _ a2).trans t2) p2
  have b3 : (65 : Addr) ≠ pl := hp_ne ((AHeap.set_ne _ _ a3).trans t0) p2
  have b4 : ps ≠ pl := hp_ne (AHeap.set_same ..) p2
  have c1 : L + 1 ≠ L + 2 := Nat.ne_of_lt (Nat.lt_succ_self _)
  have c2 : (65 : Addr) ≠ L + 1 := fun q => by rw [q, t1] at t0; cases t0
  have c3 : (65 : Addr) ≠ L + 2 := fun q => by rw [q, t2] at t0; cases t0
  repeat walk_at "fe"
  have d2 : ((σ.set ps (.list [])).set pl (.list [])) (L + 2) = some (.cell none) := (AHeap.set_ne _ _ b2).trans ((AHeap.set_ne _ _ a2).trans t2)
  have d1 : (((σ.set ps (.list [])).set pl (.list [])).set (L + 2) (.cell (some (.obj ps)))) (L + 1) = some (.cell none) := (AHeap.set_ne _ _ c1).trans ((AHeap.set_ne _ _ b1).trans ((AHeap.set_ne _ _ a1).trans t1))
  refine ta_tup (tas_cons (ta_name (ts_cell (c := L + 2) (by rfl) (by rfl) d2 ?_)))
  refine tas_cons (ta_name (ts_cell (c := L + 1) (by rfl) (by rfl) d1 ?_))
  refine tas_nil ?_
  have G : G3 (((((σ.set ps (.list [])).set pl (.list [])).set (L + 2) (.cell (some (.obj ps)))).set (L + 1) (.cell (some (.obj pl))))) L ps pl [] := by
    refine ⟨?_, AHeap.set_same .., ?_, ?_, ?_, b4⟩
    · rw [AHeap.set_ne _ _ c2, AHeap.set_ne _ _ c3, AHeap.set_ne _ _ b3, AHeap.set_ne _ _ a3]; exact t0
    · rw [AHeap.set_ne _ _ (Ne.symm c1)]; exact AHeap.set_same ..
    · rw [AHeap.set_ne _ _ (Ne.symm b1), AHeap.set_ne _ _ (Ne.symm b2)]; exact AHeap.set_same ..
    · rw [AHeap.set_ne _ _ (Ne.symm a1), AHeap.set_ne _ _ (Ne.symm a2), AHeap.set_ne _ _ b4]; exact AHeap.set_same ..
  with_reducible show WS _ _ _ _ _ _ _
  with_reducible refine WS.weaken (m' := [(Str.ofString "script", .lst (ns.map .int)), (Str.ofString "again", .fin 52)]) ?hm (AHeap.le_refl _) ?_
  case hm => exact Has.sub ⟨rfl, rfl, trivial⟩
  with_reducible refine' seg_elim (loop03 K hC hns G) ?ho _ _ _ _ _ _ _
  case ho => rfl
end
end Mine
set_option maxHeartbeats 8000000 in
theorem PySem.Challenge.cw_dn0301_03_holds : PySem.Challenge.rw_dn0301_03.Holds :=
  Mine.hd03 (by
  w_strict (k_go0
            refine' Mine.enterTC (P := 65) ?cs ?ml ?B ?X ?T ?hL ?hI ?F ?N ?hPL ?Y ?hk ?hn ?hcs ?hck ?hml ?h ?hQ
            case B => assumption
            case X => assumption
            case T => assumption
            case hL => assumption
            case hI => assumption
            case F => assumption
            case Y => assumption
            case hPL => assumption
            case hk => rfl
            case hn => omega
            case hck => decide +kernel
            case cs => exact (fun L => [(Str.ofString "places", L + 2), (Str.ofString "plain", L + 1)])
            case ml => exact (fun v => [(Str.ofString "script", v)])
            case hcs => intro L; kernel_rfl
            case hml => intro v; kernel_rfl
            case N => assumption
            case hQ =>
              intro h' tk mc' F' G'
              refine ⟨?_, G', trivial⟩
              wrow_close
            case h =>
              intro A₀ A base h₀ outer L ns hPL hns
              generalize hC' : Mine.Cx.mk _ _ _ _ _ _ _ _ _ _ = C
              have K : Mine.K03 C := by subst hC'; exact Mine.k03 rfl
              have hC : PySem.W.CodeHd C.H 67 65 := by subst hC'; exact codeHd
              clear hC'
              have hne : (65 : PySem.Addr) ≠ L + 1 := Nat.ne_of_lt (Nat.lt_succ_of_lt hPL)
              have hne2 : (65 : PySem.Addr) ≠ L + 2 := Nat.ne_of_lt (Nat.lt_succ_of_lt (Nat.lt_succ_of_lt hPL))
              have h12 : L + 1 ≠ L + 2 := Nat.ne_of_lt (Nat.lt_succ_self _)
              have key := Mine.start03 K hC hns (σ := Mine.AHeap.set (Mine.AHeap.set (Mine.AHeap.set (fun _ => none) 65 (.tab [])) (L + 1) (.cell none)) (L + 2) (.cell none)) (L := L) ((Mine.AHeap.set_ne _ _ hne2).trans ((Mine.AHeap.set_ne _ _ hne).trans (Mine.AHeap.set_same ..))) ((Mine.AHeap.set_ne _ _ h12).trans (Mine.AHeap.set_same ..)) (Mine.AHeap.set_same ..)
              exact Mine.seg_elim key rfl _ _ _ _ _ _ _))

