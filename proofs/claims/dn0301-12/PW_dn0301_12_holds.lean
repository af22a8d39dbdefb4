import PyProof.Rows.All
import Wide.All
import OpenK.AllK
import Wide.FinOn
import Lean
import PySem.Challenge.RW_dn0301_12
set_option compiler.extract_closed false
open PySem PySem.W PyProof.Rows PySem.Calls
set_option Elab.async false
set_option maxRecDepth 100000
set_option linter.unusedVariables false
namespace Mine

/-! ## abstract values, objects, contexts -/
/-- a def inside a def, as the text has it -/
structure Clo where
  name : Str
  qual : Str
  params : Arguments
  body : FuncBody
  scope : Scope
  free : List Str
inductive AVal where
  | none
  | bool (b : Bool)
  | int (i : Int)
  | str (s : Str)
  | bytes (b : Array UInt8)
  | raw (v : Value)
  | obj (a : Addr)
  | fin (C : Addr)
  | lst (xs : List AVal)
  | tup (xs : List AVal)
  | rng (a b c : Int)
  | clos (d : Clo) (xs : List AVal)
  | meth (g : Addr) (x : AVal)

inductive AObj where
  | inst (C : Addr) (as : List (Str × AVal))
  | list (xs : List AVal)
  | dict (es : List (Int × AVal))
  | cell (v : Option AVal)
  | ns (as : List (Str × AVal))
  | tab (es : List (Pos × Str))

structure Cx where
  prog : Program
  w : World
  K : Frag
  vp : Program
  loose : List Str
  mean : ExcName → Option Value
  mg : Str → Option Value
  mb : Str → Option Value
  H : Heap
  fr : List (Addr × AVal)

abbrev Fz := List (Addr × Obj)
def At (C : Cx) (fz : Fz) (a : Addr) (o : Obj) : Prop := (a, o) ∈ fz ∨ C.H.get? a = some o
theorem At.mono {C : Cx} {fz fz' : Fz} (h : ∀ p ∈ fz, p ∈ fz') {a : Addr} {o : Obj} (x : At C fz a o) : At C fz' a o := x.imp (h _) id

abbrev cloObj (d : Clo) (cs : List Addr) (doc pm : Value) (c : Addr) (ctv : Value) : Obj :=
  { cls := .type "function", data := .func { name := d.name, qualname := d.qual, params := d.params, body := d.body, scope := d.scope, globals := mainGlobals, closure := d.free.zip cs, defaults := .none, kwdefaults := .none, doc, pyModule := pm, annotations := none, code := .ref c, closureTuple := ctv, builtins := builtinsNs } }
abbrev tupOf (vs : List Value) : Obj := { cls := .type "tuple", data := .seq vs.toArray }

mutual
inductive V (P : Addr → Obj → Prop) : Value → AVal → Prop
  | none : V P .none .none
  | bool (b : Bool) : V P (.bool b) (.bool b)
  | int (i : Int) (t : Tok) : V P (.int i t) (.int i)
  | str (x : Str) (t : Tok) : V P (.str x t) (.str x)
  | bytes (b : Array UInt8) (t : Tok) : V P (.bytes b t) (.bytes b)
  | raw (v : Value) : V P v (.raw v)
  | obj (a : Addr) : V P (.ref a) (.obj a)
  | fin {a d C : Addr} : P a (instObj C d) → P d (dictOf [] 0) → V P (.ref a) (.fin C)
  | lst {a : Addr} {o : Obj} {n : Nat} {vs : List Value} {xs : List AVal} : P a o → o.cls = .type "list" → o.data = .seq vs.toArray n → Vs P vs xs → V P (.ref a) (.lst xs)
  | tup {a : Addr} {o : Obj} {n : Nat} {vs : List Value} {xs : List AVal} : P a o → o.cls = .type "tuple" → o.data = .seq vs.toArray n → Vs P vs xs → V P (.ref a) (.tup xs)
  | rng {r : Addr} {a b c : Int} {t u v : Tok} : P r { cls := .type "range", dict := none, data := .fields #[.int a t, .int b u, .int c v], slots := #[] } → V P (.ref r) (.rng a b c)
  | clos {a c : Addr} {oc : Obj} {vs : Array Value} {t : Tok} {d : Clo} {cs : List Addr} {doc pm ctv : Value} {xs : List AVal} : P a (cloObj d cs doc pm c ctv) → P c oc → oc.data = .fields vs → vs[1]? = some (.str d.qual t) → Cs P cs xs → V P (.ref a) (.clos d xs)
  | meth {a g : Addr} {v : Value} {x : AVal} : P a (methodObj (.ref g) v) → V P v x → V P (.ref a) (.meth g x)
inductive Vs (P : Addr → Obj → Prop) : List Value → List AVal → Prop
  | nil : Vs P [] []
  | cons {v : Value} {av : AVal} {vs : List Value} {xs : List AVal} : V P v av → Vs P vs xs → Vs P (v :: vs) (av :: xs)
inductive Cs (P : Addr → Obj → Prop) : List Addr → List AVal → Prop
  | nil : Cs P [] []
  | cons {c : Addr} {o : Obj} {v : Value} {x : AVal} {cs : List Addr} {xs : List AVal} : P c o → o.data = .cell (some v) → V P v x → Cs P cs xs → Cs P (c :: cs) (x :: xs)
end

mutual
theorem V.mono {P P' : Addr → Obj → Prop} (k : ∀ a o, P a o → P' a o) : ∀ {v : Value} {x : AVal}, V P v x → V P' v x
  | _, _, .none => .none
  | _, _, .bool b => .bool b
  | _, _, .int i t => .int i t
  | _, _, .str x t => .str x t
  | _, _, .bytes b t => .bytes b t
  | _, _, .raw v => .raw v
  | _, _, .obj a => .obj a
  | _, _, .fin h1 h2 => .fin (k _ _ h1) (k _ _ h2)
  | _, _, .lst h1 h2 h3 h4 => .lst (k _ _ h1) h2 h3 (Vs.mono k h4)
  | _, _, .tup h1 h2 h3 h4 => .tup (k _ _ h1) h2 h3 (Vs.mono k h4)
  | _, _, .rng h1 => .rng (k _ _ h1)
  | _, _, .clos h1 h2 h3 h4 h5 => .clos (k _ _ h1) (k _ _ h2) h3 h4 (Cs.mono k h5)
  | _, _, .meth h1 h2 => .meth (k _ _ h1) (V.mono k h2)
theorem Vs.mono {P P' : Addr → Obj → Prop} (k : ∀ a o, P a o → P' a o) : ∀ {vs : List Value} {xs : List AVal}, Vs P vs xs → Vs P' vs xs
  | _, _, .nil => .nil
  | _, _, .cons h1 h2 => .cons (V.mono k h1) (Vs.mono k h2)
theorem Cs.mono {P P' : Addr → Obj → Prop} (k : ∀ a o, P a o → P' a o) : ∀ {vs : List Addr} {xs : List AVal}, Cs P vs xs → Cs P' vs xs
  | _, _, .nil => .nil
  | _, _, .cons h1 h2 h3 h4 => .cons (k _ _ h1) h2 (V.mono k h3) (Cs.mono k h4)
end
theorem V.up {C : Cx} {fz fz' : Fz} (h : ∀ p ∈ fz, p ∈ fz') {v : Value} {x : AVal} (a : V (At C fz) v x) : V (At C fz') v x := a.mono fun _ _ => At.mono h
theorem Vs.up {C : Cx} {fz fz' : Fz} (h : ∀ p ∈ fz, p ∈ fz') {v : List Value} {x : List AVal} (a : Vs (At C fz) v x) : Vs (At C fz') v x := a.mono fun _ _ => At.mono h
theorem Vs.length {P : Addr → Obj → Prop} : ∀ {vs : List Value} {xs : List AVal}, Vs P vs xs → vs.length = xs.length
  | _, _, .nil => rfl
  | _, _, .cons _ h => by simp [h.length]
theorem Vs.append {P : Addr → Obj → Prop} : ∀ {vs : List Value} {xs : List AVal} {ws : List Value} {ys : List AVal}, Vs P vs xs → Vs P ws ys → Vs P (vs ++ ws) (xs ++ ys)
  | _, _, _, _, .nil, h => h
  | _, _, _, _, .cons a b, h => .cons a (b.append h)
theorem Vs.get {P : Addr → Obj → Prop} : ∀ {vs : List Value} {xs : List AVal}, Vs P vs xs → ∀ {i : Nat} {x : AVal}, xs[i]? = some x → ∃ v, vs[i]? = some v ∧ V P v x
  | _, _, .nil, _, _, e => by simp at e
  | _, _, .cons a b, 0, _, e => by simp at e; subst e; exact ⟨_, rfl, a⟩
  | _, _, .cons a b, i + 1, _, e => by simp at e; obtain ⟨v, h1, h2⟩ := b.get e; exact ⟨v, by simpa using h1, h2⟩
theorem Vs.set {P : Addr → Obj → Prop} : ∀ {vs : List Value} {xs : List AVal}, Vs P vs xs → ∀ (i : Nat) {v : Value} {x : AVal}, V P v x → Vs P (vs.set i v) (xs.set i x)
  | _, _, .nil, _, _, _, _ => .nil
  | _, _, .cons a b, 0, _, _, h => .cons h b
  | _, _, .cons a b, i + 1, _, _, h => .cons a (b.set i h)
theorem Vs.reverse {P : Addr → Obj → Prop} : ∀ {vs : List Value} {xs : List AVal}, Vs P vs xs → Vs P vs.reverse xs.reverse
  | _, _, .nil => .nil
  | _, _, .cons a b => by simp only [List.reverse_cons]; exact b.reverse.append (.cons a .nil)

/-! ## attribute dicts -/
inductive Es (P : Addr → Obj → Prop) : List DictEntry → List (Str × AVal) → Prop
  | nil : Es P [] []
  | cons {h : Int} {x : Str} {t : Tok} {v : Value} {av : AVal} {es : List DictEntry} {as : List (Str × AVal)} : V P v av → Es P es as → Es P (⟨h, .str x t, v⟩ :: es) ((x, av) :: as)
def getA (x : Str) : List (Str × AVal) → Option AVal
  | [] => none
  | (y, a) :: r => if y == x then some a else getA x r
def setA (x : Str) (v : AVal) : List (Str × AVal) → List (Str × AVal)
  | [] => [(x, v)]
  | (y, a) :: r => if y == x then (y, v) :: r else (y, a) :: setA x v r
theorem Es.mono {P P' : Addr → Obj → Prop} (k : ∀ a o, P a o → P' a o) : ∀ {es : List DictEntry} {as : List (Str × AVal)}, Es P es as → Es P' es as
  | _, _, .nil => .nil
  | _, _, .cons a b => .cons (a.mono k) (b.mono k)
theorem Es.length {P : Addr → Obj → Prop} : ∀ {es : List DictEntry} {as : List (Str × AVal)}, Es P es as → es.length = as.length
  | _, _, .nil => rfl
  | _, _, .cons _ b => by simp [b.length]
theorem Es.noRef {P : Addr → Obj → Prop} : ∀ {es : List DictEntry} {as : List (Str × AVal)}, Es P es as → es.any (·.refKey) = false
  | _, _, .nil => rfl
  | _, _, .cons _ b => by rw [List.any_cons, b.noRef]; rfl
theorem getL_cons_hit {x : Str} {e : DictEntry} {es : List DictEntry} (h : e.key.isStr x = true) : getL x (e :: es) = some (some e.val) := by
  unfold getL; rw [List.find?_cons, h]
theorem Es.get_some {P : Addr → Obj → Prop} {x : Str} : ∀ {es : List DictEntry} {as : List (Str × AVal)}, Es P es as → ∀ {a : AVal}, getA x as = some a → ∃ v, getL x es = some (some v) ∧ V P v a
  | _, _, .nil, _, e => by cases e
  | _, _, .cons (h := hh) (x := y) (t := t) (v := v) (es := es) (as := as) q b, a, e => by
    unfold getA at e
    by_cases hy : (y == x) = true
    · rw [if_pos hy] at e; cases e
      exact ⟨v, getL_cons_hit hy, q⟩
    · rw [if_neg hy] at e
      obtain ⟨u, h1, h2⟩ := b.get_some e
      refine ⟨u, ?_, h2⟩
      have hy' : Value.isStr (.str y t) x = false := by show (y == x) = false; exact Bool.eq_false_iff.mpr hy
      unfold getL at h1 ⊢
      rw [List.find?_cons]
      simp only [hy']
      revert h1
      cases List.find? (fun x_1 => x_1.key.isStr x) es with
      | none => intro h1; rw [List.any_cons]; revert h1; cases es.any (·.refKey) <;> intro h1 <;> cases h1
      | some e' => exact id
theorem Es.get_none {P : Addr → Obj → Prop} {x : Str} : ∀ {es : List DictEntry} {as : List (Str × AVal)}, Es P es as → getA x as = none → getL x es = some none
  | _, _, .nil, _ => rfl
  | _, _, .cons (h := hh) (x := y) (t := t) (v := v) (es := es) (as := as) q b, e => by
    unfold getA at e
    by_cases hy : (y == x) = true
    · rw [if_pos hy] at e; cases e
    · rw [if_neg hy] at e
      have h1 := b.get_none e
      have hy' : Value.isStr (.str y t) x = false := by show (y == x) = false; exact Bool.eq_false_iff.mpr hy
      unfold getL at h1 ⊢
      rw [List.find?_cons]
      simp only [hy']
      revert h1
      cases List.find? (fun x_1 => x_1.key.isStr x) es with
      | none => rw [List.any_cons, b.noRef]; intro _; rfl
      | some e' => exact id
theorem Es.isSome {P : Addr → Obj → Prop} {x : Str} {es : List DictEntry} {as : List (Str × AVal)} (h : Es P es as) : (getL x es).isSome = true := by
  cases q : getA x as with
  | none => rw [h.get_none q]; rfl
  | some a => obtain ⟨v, e, _⟩ := h.get_some q; rw [e]; rfl
theorem Es.put {P : Addr → Obj → Prop} {x : Str} {hh : Int} {t : Tok} {v : Value} {a : AVal} (hv : V P v a) : ∀ {es : List DictEntry} {as : List (Str × AVal)}, Es P es as → Es P (putL x hh (.str x t) v es) (setA x a as)
  | _, _, .nil => .cons hv .nil
  | _, _, .cons (h := h') (x := y) (t := t') (v := v') (es := es) (as := as) q b => by
    unfold putL setA
    by_cases hy : (y == x) = true
    · have hy' : Value.isStr (.str y t') x = true := hy
      rw [if_pos hy, if_pos hy']; exact .cons hv b
    · have hy' : ¬ Value.isStr (.str y t') x = true := hy
      rw [if_neg hy, if_neg hy']; exact .cons q (b.put hv)

/-! ## abstract heap -/
abbrev AHeap := Addr → Option AObj
def AHeap.set (σ : AHeap) (a : Addr) (o : AObj) : AHeap := fun b => if b = a then some o else σ b
@[simp] theorem AHeap.set_same (σ : AHeap) (a : Addr) (o : AObj) : σ.set a o a = some o := if_pos rfl
theorem AHeap.set_ne (σ : AHeap) {a b : Addr} (o : AObj) (h : b ≠ a) : σ.set a o b = σ b := if_neg h
def AHeap.le (σ σ' : AHeap) : Prop := ∀ a o, σ a = some o → σ' a = some o

/-- what stands under names -/
def ER (P : Addr → Obj → Prop) (m : List (Str × AVal)) (mc : Str → Option Value) : Prop := ∀ x a, getA x m = some a → ∃ v, mc x = some v ∧ V P v a
theorem ER.mono {P P' : Addr → Obj → Prop} (k : ∀ a o, P a o → P' a o) {m : List (Str × AVal)} {mc : Str → Option Value} (h : ER P m mc) : ER P' m mc := fun x a e => by obtain ⟨v, h1, h2⟩ := h x a e; exact ⟨v, h1, h2.mono k⟩
/-- a dict with whole numbers as keys -/
inductive Ks (P : Addr → Obj → Prop) : List (Int × Value) → List (Int × AVal) → Prop
  | nil : Ks P [] []
  | cons {k : Int} {v : Value} {a : AVal} {kvs : List (Int × Value)} {es : List (Int × AVal)} : V P v a → Ks P kvs es → Ks P ((k, v) :: kvs) ((k, a) :: es)
theorem Ks.mono {P P' : Addr → Obj → Prop} (k : ∀ a o, P a o → P' a o) : ∀ {kvs : List (Int × Value)} {es : List (Int × AVal)}, Ks P kvs es → Ks P' kvs es
  | _, _, .nil => .nil
  | _, _, .cons a b => .cons (a.mono k) (b.mono k)
/-- a code's table of the codes made in it -/
inductive Tb (P : Addr → Obj → Prop) : List Value → List (Pos × Str) → Prop
  | nil : Tb P [] []
  | cons {pos : Pos} {qual : Str} {c : Addr} {oc : Obj} {vs : Array Value} {t : Tok} {ps : List Value} {es : List (Pos × Str)} : P c oc → oc.data = .fields vs → vs[1]? = some (.str qual t) → Tb P ps es → Tb P (rawInt pos.line :: rawInt pos.col :: .ref c :: ps) ((pos, qual) :: es)
theorem Tb.mono {P P' : Addr → Obj → Prop} (k : ∀ a o, P a o → P' a o) : ∀ {ps : List Value} {es : List (Pos × Str)}, Tb P ps es → Tb P' ps es
  | _, _, .nil => .nil
  | _, _, .cons a b c d => .cons (k _ _ a) b c (Tb.mono k d)
def OR (P : Addr → Obj → Prop) (news : List (Addr × Obj)) (d a : Addr) : AObj → Prop
  | .inst C as => (a, instObj C d) ∈ news ∧ ∃ es n, (d, dictOf es n) ∈ news ∧ Es P es as
  | .list xs => ∃ vs n, (a, listOf vs.toArray n) ∈ news ∧ Vs P vs xs
  | .dict es => ∃ o kvs, (a, o) ∈ news ∧ (∀ prog w, o.IsDictOf (intKind prog w) kvs) ∧ Ks P kvs es
  | .ns as => ∃ o mc, (a, o) ∈ news ∧ LCg.NsObj o mc ∧ ER P as mc
  | .tab es => ∃ ps, (a, tabObj ps) ∈ news ∧ Tb P ps.toList es
  | .cell none => ∃ o, (a, o) ∈ news ∧ o.data = .cell none
  | .cell (some x) => ∃ o v, (a, o) ∈ news ∧ o.data = .cell (some v) ∧ V P v x

structure HR (C : Cx) (fz pin : Fz) (σ : AHeap) (δ : Addr → Addr) (news : List (Addr × Obj)) : Prop where
  sub : ∀ p ∈ fz ++ pin, p ∈ news
  apart : ∀ p ∈ fz, ∀ q ∈ pin, p.1 ≠ q.1
  ob : ∀ a ao, σ a = some ao → OR (At C fz) news (δ a) a ao
  off : ∀ a ao, σ a = some ao → ∀ p ∈ fz ++ pin, p.1 ≠ a
  doff : ∀ a c as, σ a = some (.inst c as) → ∀ p ∈ fz ++ pin, p.1 ≠ δ a
  dσ : ∀ a c as, σ a = some (.inst c as) → σ (δ a) = none
  free : ∀ p ∈ C.fr, ∃ o v, At C fz p.1 o ∧ o.data = .cell (some v) ∧ V (At C fz) v p.2
  dinj : ∀ a c as b c' bs, σ a = some (.inst c as) → σ b = some (.inst c' bs) → δ a = δ b → a = b

theorem OR.key {P : Addr → Obj → Prop} {news : List (Addr × Obj)} {d a : Addr} {o : AObj} (h : OR P news d a o) : ∃ o', (a, o') ∈ news := by
  cases o with
  | inst C as => exact ⟨_, h.1⟩
  | list xs => obtain ⟨vs, n, h, _⟩ := h; exact ⟨_, h⟩
  | dict es => obtain ⟨o, kvs, h, _⟩ := h; exact ⟨o, h⟩
  | ns as => obtain ⟨o, mc, h, _⟩ := h; exact ⟨o, h⟩
  | tab es => obtain ⟨ps, h, _⟩ := h; exact ⟨_, h⟩
  | cell v => cases v with
    | none => obtain ⟨o, h, _⟩ := h; exact ⟨o, h⟩
    | some v => obtain ⟨o, _, h, _⟩ := h; exact ⟨o, h⟩
theorem OR.mono {P P' : Addr → Obj → Prop} {news news' : List (Addr × Obj)} {d a : Addr} {o : AObj} (k : ∀ a o, P a o → P' a o) (h : OR P news d a o) (hn : ∀ o', (a, o') ∈ news → (a, o') ∈ news') (hd : ∀ c as, o = .inst c as → ∀ o', (d, o') ∈ news → (d, o') ∈ news') : OR P' news' d a o := by
  cases o with
  | inst C as => obtain ⟨h1, es, n, h2, h3⟩ := h; exact ⟨hn _ h1, es, n, hd _ _ rfl _ h2, h3.mono k⟩
  | list xs => obtain ⟨vs, n, h1, h2⟩ := h; exact ⟨vs, n, hn _ h1, h2.mono k⟩
  | dict es => obtain ⟨o, kvs, h1, h2, h3⟩ := h; exact ⟨o, kvs, hn _ h1, h2, h3.mono k⟩
  | ns as => obtain ⟨o, mc, h1, h2, h3⟩ := h; exact ⟨o, mc, hn _ h1, h2, h3.mono k⟩
  | tab es => obtain ⟨ps, h1, h2⟩ := h; exact ⟨ps, hn _ h1, h2.mono k⟩
  | cell v => cases v with
    | none => obtain ⟨o, h1, h2⟩ := h; exact ⟨o, hn _ h1, h2⟩
    | some v => obtain ⟨o, v, h1, h2, h3⟩ := h; exact ⟨o, v, hn _ h1, h2, h3.mono k⟩

/-! ## frames, the state -/
structure Fm where
  A₀ : Around
  A : Around
  base : Heap
  h₀ : Heap
  outer : List Env
  L : Addr
  a : Addr
  cn : Str
  cs : Scope
  ccd : Value
  cl : List (Str × Addr)
  pin : Fz
  comp : Option (Scope × List (Str × Addr) × Addr)
@[reducible] def Fm.withPin (f : Fm) (p : Fz) : Fm := { f with pin := p }
/-- the function's own surroundings -/
@[reducible] def Fm.fenv (f : Fm) : Env := envX f.cn f.cs f.L f.a f.ccd f.cl
/-- those of a row built in it -/
@[reducible] def Fm.envOn (f : Fm) : Option (Scope × List (Str × Addr) × Addr) → Env
  | none => f.fenv
  | some (sc, cl, c) => compEnvC sc cl c f.fenv
@[reducible] def Fm.env (f : Fm) : Env := f.envOn f.comp
@[reducible] def Fm.withComp (f : Fm) (k : Option (Scope × List (Str × Addr) × Addr)) (p : Fz) : Fm := { f with comp := k, pin := p }

structure Fm.Ok (C : Cx) (n : Nat) (f : Fm) : Prop where
  below : Below f.A₀ f.base f.outer f.h₀
  kin : C.K.In f.h₀
  top : Top C.vp C.loose C.mean C.mg C.mb f.h₀
  hk : ∀ b o, C.H.get? b = some o → f.h₀.get? b = some o
  stack : f.A.frames = some (f.fenv :: f.outer)
  handled : f.A.handled = none
  guards : f.A.guards = some []
  depth : f.A.depth + 3 * n < recursionLimit
  units : f.A.units + 10 * n + 100 < cLine
  kind : f.cs.kind = .function
  ckind : f.env.scope.kind = .function

abbrev AEnv := List (Str × AVal)
def AEnv.get (m : AEnv) (x : Str) : Option AVal := getA x m
def AEnv.set (m : AEnv) (x : Str) (v : AVal) : AEnv := setA x v m
theorem getA_setA {x y : Str} {v : AVal} : ∀ {m : List (Str × AVal)}, getA y (setA x v m) = if y = x then some v else getA y m
  | [] => by
    unfold setA getA
    by_cases h : y = x
    · simp [h]
    · have : ¬ (x = y) := fun e => h e.symm
      simp [h, this, getA]
  | (z, a) :: r => by
    unfold setA
    by_cases hz : (z == x) = true
    · rw [if_pos hz]
      have hz' : z = x := by simpa using hz
      subst hz'
      unfold getA
      by_cases h : y = z
      · simp [h]
      · have : ¬ (z = y) := fun e => h e.symm
        simp [h, this]
    · rw [if_neg hz]
      unfold getA
      by_cases h : (z == y) = true
      · rw [if_pos h, if_pos h]
        have hz' : z = y := by simpa using h
        subst hz'
        have : ¬ z = x := by simpa using hz
        rw [if_neg this]
      · rw [if_neg h, if_neg h]; exact getA_setA
def SR (C : Cx) (f : Fm) (fz : Fz) (m : AEnv) (σ : AHeap) (s : Shared) : Prop :=
  ∃ mc news δ, Fr f.h₀ f.L s.heap mc ∧ News f.h₀ f.L s.heap news ∧ HR C fz f.pin σ δ news ∧ ER (At C fz) m mc
def Same (s s' : Shared) : Prop := ∃ h tk, s' = { s with heap := h, toks := tk }
theorem Same.rfl {s : Shared} : Same s s := ⟨s.heap, s.toks, by cases s; exact Eq.refl _⟩
theorem Same.mk {s : Shared} {h : Heap} {tk : Nat} : Same s { s with heap := h, toks := tk } := ⟨h, tk, Eq.refl _⟩
theorem Same.trans {s s₁ s₂ : Shared} (a : Same s s₁) (b : Same s₁ s₂) : Same s s₂ := by
  obtain ⟨h, t, e⟩ := a; obtain ⟨h', t', e'⟩ := b; subst e; subst e'; exact ⟨h', t', Eq.refl _⟩

section
variable {C : Cx} {f : Fm} {fz : Fz} {m : AEnv} {σ : AHeap} {s : Shared}
theorem SR.at_ {n : Nat} (ok : f.Ok C n) (x : SR C f fz m σ s) {a : Addr} {o : Obj} (h : At C fz a o) : s.heap.get? a = some o := by
  obtain ⟨mc, news, δ, F, N, R, _⟩ := x
  rcases h with h | h
  · exact (N _ (R.sub _ (List.mem_append_left _ h))).1
  · exact F.keep _ _ (ok.hk _ _ h)
theorem SR.weaken (x : SR C f fz m σ s) {m' : AEnv} {σ' : AHeap} (hm : ∀ y a, m'.get y = some a → m.get y = some a) (hσ : σ'.le σ) : SR C f fz m' σ' s := by
  obtain ⟨mc, news, δ, F, N, R, e⟩ := x
  refine ⟨mc, news, δ, F, N, ⟨R.sub, R.apart, fun a o h => R.ob a o (hσ _ _ h), fun a o h => R.off a o (hσ _ _ h), fun a c as h => R.doff a c as (hσ _ _ h), fun a c as h => ?_, R.free, fun a c as b c' bs h1 h2 => R.dinj a c as b c' bs (hσ _ _ h1) (hσ _ _ h2)⟩, fun y a h => e y a (hm _ _ h)⟩
  cases q : σ' (δ a) with
  | none => rfl
  | some o => have := hσ _ _ q; rw [R.dσ a c as (hσ _ _ h)] at this; cases this
theorem news_lt {h₀ h : Heap} {L : Addr} {news : List (Addr × Obj)} (N : News h₀ L h news) {p : Addr × Obj} (hp : p ∈ news) : p.1 < h.objs.size := Heap.lt_size (N p hp).1

/-- a heap that only grew -/
theorem SR.grow (x : SR C f fz m σ s) {h' : Heap} {t : Nat} (k : ∀ b o, s.heap.get? b = some o → h'.get? b = some o) : SR C f fz m σ { s with heap := h', toks := t } := by
  obtain ⟨mc, news, δ, F, N, R, e⟩ := x
  exact ⟨mc, news, δ, F.grownK k, fun p hp => ⟨k _ _ (N p hp).1, (N p hp).2⟩, R, e⟩

/-- new objects, frozen from the start -/
theorem SR.freeze (x : SR C f fz m σ s) {h' : Heap} {t : Nat} (k : ∀ b o, s.heap.get? b = some o → h'.get? b = some o) (new : List (Addr × Obj)) (hn : ∀ p ∈ new, s.heap.get? p.1 = none ∧ s.heap.objs.size ≤ p.1 ∧ h'.get? p.1 = some p.2) :
    SR C f (new ++ fz) m σ { s with heap := h', toks := t } := by
  obtain ⟨mc, news, δ, F, N, R, e⟩ := x
  have key : ∀ a ao, σ a = some ao → a < s.heap.objs.size := fun a ao h => by obtain ⟨o, h⟩ := (R.ob a ao h).key; exact news_lt N h
  have dkey : ∀ a c as, σ a = some (.inst c as) → δ a < s.heap.objs.size := fun a c as h => by obtain ⟨_, es, n, h, _⟩ := R.ob a _ h; exact news_lt N h
  have up : ∀ p ∈ fz, p ∈ new ++ fz := fun p hp => List.mem_append_right _ hp
  have split : ∀ p ∈ (new ++ fz) ++ f.pin, p ∈ new ∨ p ∈ fz ++ f.pin := fun p hp => by
    rw [List.append_assoc] at hp; exact List.mem_append.mp hp
  refine ⟨mc, new ++ news, δ, F.grownK k, fun p hp => ?_, ⟨fun p hp => ?_, fun p hp q hq => ?_, fun a ao h => ?_, fun a ao h p hp => ?_, fun a c as h p hp => ?_, R.dσ, fun p hp => let ⟨o, v, a, b, c⟩ := R.free p hp; ⟨o, v, a.mono up, b, c.up up⟩, R.dinj⟩, fun y a h => ?_⟩
  · rcases List.mem_append.mp hp with hp | hp
    · obtain ⟨h1, h2, h3⟩ := hn p hp
      refine ⟨h3, fun q => ?_, ?_⟩
      · obtain ⟨oL, _, _, hL, _⟩ := F.ns; rw [q, hL] at h1; cases h1
      · cases q : f.h₀.get? p.1 with
        | none => rfl
        | some o => rw [F.keep _ _ q] at h1; cases h1
    · exact ⟨k _ _ (N p hp).1, (N p hp).2⟩
  · rcases split p hp with hp | hp
    · exact List.mem_append_left _ hp
    · exact List.mem_append_right _ (R.sub _ hp)
  · rcases List.mem_append.mp hp with hp | hp
    · exact fun e => absurd (news_lt N (R.sub _ (List.mem_append_right _ hq))) (Nat.not_lt.mpr (e ▸ (hn p hp).2.1))
    · exact R.apart p hp q hq
  · exact (R.ob a ao h).mono (fun _ _ => At.mono up) (fun _ q => List.mem_append_right _ q) fun _ _ _ _ q => List.mem_append_right _ q
  · rcases split p hp with hp | hp
    · exact fun q => absurd (key a ao h) (Nat.not_lt.mpr (q ▸ (hn p hp).2.1))
    · exact R.off a ao h p hp
  · rcases split p hp with hp | hp
    · exact fun q => absurd (dkey a c as h) (Nat.not_lt.mpr (q ▸ (hn p hp).2.1))
    · exact R.doff a c as h p hp
  · obtain ⟨v, h1, h2⟩ := e y a h; exact ⟨v, h1, h2.up up⟩
end
end Mine

open PySem PySem.W PyProof.Rows PySem.Calls
namespace Mine
def upd (news : List (Addr × Obj)) (D : Addr) (o : Obj) : List (Addr × Obj) := (D, o) :: news.filter (fun p => decide (p.1 ≠ D))
theorem mem_upd {news : List (Addr × Obj)} {D : Addr} {o : Obj} {p : Addr × Obj} (h : p ∈ news) (hn : p.1 ≠ D) : p ∈ upd news D o :=
  List.mem_cons_of_mem _ (List.mem_filter.mpr ⟨h, by simpa using hn⟩)
theorem news_upd' {h₀ h h' : Heap} {L D : Addr} {news : List (Addr × Obj)} {o o' : Obj} (N : News h₀ L h news) (hD : (D, o) ∈ news) (hs : Heap.SameBut D h h') (ho : h'.get? D = some o') : News h₀ L h' (upd news D o') := by
  intro p hp
  rcases List.mem_cons.mp hp with rfl | hp
  · exact ⟨ho, (N _ hD).2⟩
  · obtain ⟨h1, h2⟩ := List.mem_filter.mp hp
    have h2 : p.1 ≠ D := by simpa using h2
    exact ⟨(hs.2 _ h2).trans (N p h1).1, (N p h1).2⟩

section
variable {C : Cx} {f : Fm} {fz : Fz} {m : AEnv} {σ : AHeap} {s : Shared}

theorem SR.list (x : SR C f fz m σ s) {a : Addr} {xs : List AVal} (h : σ a = some (.list xs)) : ∃ vs n, s.heap.get? a = some (listOf vs.toArray n) ∧ Vs (At C fz) vs xs := by
  obtain ⟨mc, news, δ, F, N, R, e⟩ := x
  obtain ⟨vs, n, h1, h2⟩ := R.ob a _ h
  exact ⟨vs, n, (N _ h1).1, h2⟩
theorem SR.inst (x : SR C f fz m σ s) {a c : Addr} {as : List (Str × AVal)} (h : σ a = some (.inst c as)) : ∃ d es n, s.heap.get? a = some (instObj c d) ∧ s.heap.get? d = some (dictOf es n) ∧ Es (At C fz) es as := by
  obtain ⟨mc, news, δ, F, N, R, e⟩ := x
  obtain ⟨h1, es, n, h2, h3⟩ := R.ob a _ h
  exact ⟨_, es, n, (N _ h1).1, (N _ h2).1, h3⟩
theorem SR.cell (x : SR C f fz m σ s) {a : Addr} {v : AVal} (h : σ a = some (.cell (some v))) : ∃ o u, s.heap.get? a = some o ∧ o.data = .cell (some u) ∧ V (At C fz) u v := by
  obtain ⟨mc, news, δ, F, N, R, e⟩ := x
  obtain ⟨o, u, h1, h2, h3⟩ := R.ob a _ h
  exact ⟨o, u, (N _ h1).1, h2, h3⟩
theorem SR.lt (x : SR C f fz m σ s) {a : Addr} {o : AObj} (h : σ a = some o) : a < s.heap.objs.size := by
  obtain ⟨mc, news, δ, F, N, R, e⟩ := x
  obtain ⟨o, h⟩ := (R.ob a _ h).key; exact news_lt N h
theorem SR.fresh (x : SR C f fz m σ s) {a : Addr} (h : s.heap.objs.size ≤ a) : σ a = none := by
  cases q : σ a with
  | none => rfl
  | some o => exact absurd (x.lt q) (Nat.not_lt.mpr h)

/-- a list's, a cell's object is changed -/
theorem SR.change (x : SR C f fz m σ s) {a : Addr} {ao ao' : AObj} {h' : Heap} {t : Nat} {o' : Obj} (h : σ a = some ao) (hn : ∀ c as, ao ≠ .inst c as) (hn' : ∀ c as, ao' ≠ .inst c as) (hs : Heap.SameBut a s.heap h') (ho : h'.get? a = some o')
    (hr : ∀ news d, (a, o') ∈ news → OR (At C fz) news d a ao') : SR C f fz m (σ.set a ao') { s with heap := h', toks := t } := by
  obtain ⟨mc, news, δ, F, N, R, e⟩ := x
  obtain ⟨o, hm⟩ := (R.ob a _ h).key
  have dn : ∀ b c as, σ b = some (.inst c as) → δ b ≠ a := fun b c as hb q => by have := R.dσ b c as hb; rw [q, h] at this; cases this
  have keep : ∀ {b c as}, σ.set a ao' b = some (.inst c as) → b ≠ a ∧ σ b = some (.inst c as) := fun {b c as} hb => by
    by_cases q : b = a
    · subst q; rw [AHeap.set_same] at hb; exact absurd (Option.some.inj hb) (hn' c as)
    · rw [AHeap.set_ne _ _ q] at hb; exact ⟨q, hb⟩
  refine ⟨mc, upd news a o', δ, F.change hs (N _ hm).2.1 (N _ hm).2.2, news_upd' N hm hs ho, ⟨fun p hp => mem_upd (R.sub p hp) (R.off a _ h p hp), R.apart, fun b bo hb => ?_, fun b bo hb p hp => ?_, fun b c as hb p hp => R.doff b c as (keep hb).2 p hp, fun b c as hb => ?_, R.free, fun b c as b' c' bs h1 h2 => R.dinj b c as b' c' bs (keep h1).2 (keep h2).2⟩, e⟩
  · by_cases q : b = a
    · subst q; rw [AHeap.set_same] at hb; cases hb; exact hr _ _ (List.mem_cons_self ..)
    · rw [AHeap.set_ne _ _ q] at hb
      exact (R.ob b bo hb).mono (fun _ _ x => x) (fun _ hm => mem_upd hm q) fun c as eb _ hm => mem_upd hm (dn b c as (eb ▸ hb))
  · by_cases q : b = a
    · subst q; exact R.off b _ h p hp
    · rw [AHeap.set_ne _ _ q] at hb; exact R.off b bo hb p hp
  · rw [AHeap.set_ne _ _ (dn b c as (keep hb).2)]; exact R.dσ b c as (keep hb).2
theorem SR.setList (x : SR C f fz m σ s) {a : Addr} {xs xs' : List AVal} {h' : Heap} {t n : Nat} {vs' : List Value} (h : σ a = some (.list xs)) (hs : Heap.SameBut a s.heap h') (ho : h'.get? a = some (listOf vs'.toArray n)) (hv : Vs (At C fz) vs' xs') :
    SR C f fz m (σ.set a (.list xs')) { s with heap := h', toks := t } := x.change h (fun _ _ => nofun) (fun _ _ => nofun) hs ho fun _ _ hm => ⟨_, _, hm, hv⟩
theorem SR.setCell (x : SR C f fz m σ s) {a : Addr} {v₀ : Option AVal} {v : AVal} {u : Value} {h' : Heap} {t : Nat} {o' : Obj} (h : σ a = some (.cell v₀)) (hs : Heap.SameBut a s.heap h') (ho : h'.get? a = some o') (hd : o'.data = .cell (some u)) (hv : V (At C fz) u v) :
    SR C f fz m (σ.set a (.cell (some v))) { s with heap := h', toks := t } := x.change h (fun _ _ => nofun) (fun _ _ => nofun) hs ho fun _ _ hm => ⟨_, _, hm, hd, hv⟩

/-- new mutable things -/
theorem SR.newThing (x : SR C f fz m σ s) {a : Addr} {ao : AObj} {h' : Heap} {t : Nat} {o : Obj} (hn : ∀ c as, ao ≠ .inst c as) (k : ∀ b o, s.heap.get? b = some o → h'.get? b = some o) (ha : s.heap.objs.size ≤ a) (ho : h'.get? a = some o)
    (hr : ∀ news d, (a, o) ∈ news → OR (At C fz) news d a ao) : SR C f fz m (σ.set a ao) { s with heap := h', toks := t } := by
  have hσ := x.fresh ha
  obtain ⟨mc, news, δ, F, N, R, e⟩ := x
  have hnone : s.heap.get? a = none := by
    cases q : s.heap.get? a with
    | none => rfl
    | some o => exact absurd (Heap.lt_size q) (Nat.not_lt.mpr ha)
  have nn : ∀ p ∈ news, p.1 ≠ a := fun p hp q => absurd (news_lt N hp) (Nat.not_lt.mpr (q ▸ ha))
  have keep : ∀ {b c as}, σ.set a ao b = some (.inst c as) → b ≠ a ∧ σ b = some (.inst c as) := fun {b c as} hb => by
    by_cases q : b = a
    · subst q; rw [AHeap.set_same] at hb; exact absurd (Option.some.inj hb) (hn c as)
    · rw [AHeap.set_ne _ _ q] at hb; exact ⟨q, hb⟩
  have dn : ∀ b c as, σ b = some (.inst c as) → δ b ≠ a := fun b c as hb => by obtain ⟨_, es, n, h, _⟩ := R.ob b _ hb; exact nn _ h
  refine ⟨mc, (a, o) :: news, δ, F.grownK k, fun p hp => ?_, ⟨fun p hp => .tail _ (R.sub p hp), R.apart, fun b bo hb => ?_, fun b bo hb p hp => ?_, fun b c as hb p hp => R.doff b c as (keep hb).2 p hp, fun b c as hb => ?_, R.free, fun b c as b' c' bs h1 h2 => R.dinj b c as b' c' bs (keep h1).2 (keep h2).2⟩, e⟩
  · rcases List.mem_cons.mp hp with rfl | hp
    · refine ⟨ho, fun q => ?_, ?_⟩
      · obtain ⟨oL, _, _, hL, _⟩ := F.ns; dsimp only at q; rw [q, hL] at hnone; cases hnone
      · cases q : f.h₀.get? a with
        | none => rfl
        | some o => rw [F.keep _ _ q] at hnone; cases hnone
    · exact ⟨k _ _ (N p hp).1, (N p hp).2⟩
  · by_cases q : b = a
    · subst q; rw [AHeap.set_same] at hb; cases hb; exact hr _ _ (List.mem_cons_self ..)
    · rw [AHeap.set_ne _ _ q] at hb
      exact (R.ob b bo hb).mono (fun _ _ x => x) (fun _ hm => .tail _ hm) fun c as eb _ hm => .tail _ hm
  · by_cases q : b = a
    · subst q; exact nn _ (R.sub p hp)
    · rw [AHeap.set_ne _ _ q] at hb; exact R.off b bo hb p hp
  · rw [AHeap.set_ne _ _ (dn b c as (keep hb).2)]; exact R.dσ b c as (keep hb).2
theorem SR.newList (x : SR C f fz m σ s) {a : Addr} {xs : List AVal} {h' : Heap} {t n : Nat} {vs : List Value} (k : ∀ b o, s.heap.get? b = some o → h'.get? b = some o) (ha : s.heap.objs.size ≤ a) (ho : h'.get? a = some (listOf vs.toArray n)) (hv : Vs (At C fz) vs xs) :
    SR C f fz m (σ.set a (.list xs)) { s with heap := h', toks := t } := x.newThing (fun _ _ => nofun) k ha ho fun _ _ hm => ⟨_, _, hm, hv⟩
/-- a name of the frame is stored -/
theorem SR.store (x : SR C f fz m σ s) {y : Str} {v : Value} {a : AVal} (hv : V (At C fz) v a) :
    ∃ mc news, Fr f.h₀ f.L s.heap mc ∧ News f.h₀ f.L s.heap news ∧ ∀ h' t, Fr f.h₀ f.L h' (fun z => if z = y then some v else mc z) → News f.h₀ f.L h' news → SR C f fz (m.set y a) σ { s with heap := h', toks := t } := by
  obtain ⟨mc, news, δ, F, N, R, e⟩ := x
  refine ⟨mc, news, F, N, fun h' t F' N' => ⟨_, news, δ, F', N', R, fun z b hz => ?_⟩⟩
  unfold AEnv.get AEnv.set at hz
  rw [getA_setA] at hz
  by_cases q : z = y
  · rw [if_pos q] at hz; cases hz; exact ⟨v, if_pos q, hv⟩
  · rw [if_neg q] at hz; obtain ⟨u, h1, h2⟩ := e z b hz; exact ⟨u, (if_neg q).trans h1, h2⟩
end
end Mine

open PySem PySem.W PyProof.Rows PySem.Calls
namespace Mine
abbrev Md (C : Cx) : Model := model C.prog C.w

def PV (C : Cx) (f : Fm) (m : AEnv) (fz : Fz) (s : Shared) (Q : AVal → AHeap → Prop) (v : Value) (s' : Shared) : Prop :=
  ∃ fz' σ' a, (∀ p ∈ fz, p ∈ fz') ∧ Same s s' ∧ SR C f fz' m σ' s' ∧ V (At C fz') v a ∧ Q a σ'
def PL (C : Cx) (f : Fm) (m : AEnv) (fz : Fz) (s : Shared) (Q : List AVal → AHeap → Prop) (v : List Value) (s' : Shared) : Prop :=
  ∃ fz' σ' a, (∀ p ∈ fz, p ∈ fz') ∧ Same s s' ∧ SR C f fz' m σ' s' ∧ Vs (At C fz') v a ∧ Q a σ'
def PB (C : Cx) (f : Fm) (m : AEnv) (fz : Fz) (s : Shared) (Q : Bool → AHeap → Prop) (b : Bool) (s' : Shared) : Prop :=
  ∃ fz' σ', (∀ p ∈ fz, p ∈ fz') ∧ Same s s' ∧ SR C f fz' m σ' s' ∧ Q b σ'
inductive AFlow where
  | next | brk | cont
  | ret (a : AVal)
def FV (P : Addr → Obj → Prop) : Flow → AFlow → Prop
  | .next, .next => True
  | .brk, .brk => True
  | .cont, .cont => True
  | .ret v, .ret a => V P v a
  | _, _ => False
def PS (C : Cx) (f : Fm) (fz : Fz) (s : Shared) (Q : AFlow → AEnv → AHeap → Prop) (fl : Flow) (s' : Shared) : Prop :=
  ∃ fz' σ' m' a, (∀ p ∈ fz, p ∈ fz') ∧ Same s s' ∧ SR C f fz' m' σ' s' ∧ FV (At C fz') fl a ∧ Q a m' σ'

theorem PV.el {C : Cx} {f : Fm} {m : AEnv} {fz : Fz} {s : Shared} {Q : AVal → AHeap → Prop} {v : Value} {s' : Shared} {P : Prop} (h : PV C f m fz s Q v s') (k : ∀ fz' σ' a, (∀ p ∈ fz, p ∈ fz') → Same s s' → SR C f fz' m σ' s' → V (At C fz') v a → Q a σ' → P) : P := by
  obtain ⟨fz', σ', a, h1, h2, h3, h4, h5⟩ := h; exact k fz' σ' a h1 h2 h3 h4 h5
theorem PL.el {C : Cx} {f : Fm} {m : AEnv} {fz : Fz} {s : Shared} {Q : List AVal → AHeap → Prop} {v : List Value} {s' : Shared} {P : Prop} (h : PL C f m fz s Q v s') (k : ∀ fz' σ' a, (∀ p ∈ fz, p ∈ fz') → Same s s' → SR C f fz' m σ' s' → Vs (At C fz') v a → Q a σ' → P) : P := by
  obtain ⟨fz', σ', a, h1, h2, h3, h4, h5⟩ := h; exact k fz' σ' a h1 h2 h3 h4 h5
theorem PB.el {C : Cx} {f : Fm} {m : AEnv} {fz : Fz} {s : Shared} {Q : Bool → AHeap → Prop} {b : Bool} {s' : Shared} {P : Prop} (h : PB C f m fz s Q b s') (k : ∀ fz' σ', (∀ p ∈ fz, p ∈ fz') → Same s s' → SR C f fz' m σ' s' → Q b σ' → P) : P := by
  obtain ⟨fz', σ', h1, h2, h3, h5⟩ := h; exact k fz' σ' h1 h2 h3 h5
theorem PS.el {C : Cx} {f : Fm} {fz : Fz} {s : Shared} {Q : AFlow → AEnv → AHeap → Prop} {fl : Flow} {s' : Shared} {P : Prop} (h : PS C f fz s Q fl s') (k : ∀ fz' σ' m' a, (∀ p ∈ fz, p ∈ fz') → Same s s' → SR C f fz' m' σ' s' → FV (At C fz') fl a → Q a m' σ' → P) : P := by
  obtain ⟨fz', σ', m', a, h1, h2, h3, h4, h5⟩ := h; exact k fz' σ' m' a h1 h2 h3 h4 h5
theorem PU.el {C : Cx} {f : Fm} {fz : Fz} {s : Shared} {Q : AEnv → AHeap → Prop} {s' : Shared} {P : Prop} (h : ∃ fz' σ' m', (∀ p ∈ fz, p ∈ fz') ∧ Same s s' ∧ SR C f fz' m' σ' s' ∧ Q m' σ') (k : ∀ fz' σ' m', (∀ p ∈ fz, p ∈ fz') → Same s s' → SR C f fz' m' σ' s' → Q m' σ' → P) : P := by
  obtain ⟨fz', σ', m', h1, h2, h3, h5⟩ := h; exact k fz' σ' m' h1 h2 h3 h5
theorem PH.el {C : Cx} {f : Fm} {m : AEnv} {fz : Fz} {s : Shared} {Q : AHeap → Prop} {s' : Shared} {P : Prop} (h : ∃ fz' σ', (∀ p ∈ fz, p ∈ fz') ∧ Same s s' ∧ SR C f fz' m σ' s' ∧ Q σ') (k : ∀ fz' σ', (∀ p ∈ fz, p ∈ fz') → Same s s' → SR C f fz' m σ' s' → Q σ' → P) : P := by
  obtain ⟨fz', σ', h1, h2, h3, h5⟩ := h; exact k fz' σ' h1 h2 h3 h5
def WE (C : Cx) (n : Nat) (f : Fm) (e : Expr) (m : AEnv) (σ : AHeap) (Q : AVal → AHeap → Prop) : Prop :=
  f.Ok C n → ∀ fz s E, SR C f fz m σ s → wpAny (Md C) f.A (eval e f.env) (PV C f m fz s Q) E s
def WL (C : Cx) (n : Nat) (f : Fm) (es : List Expr) (pos : Pos) (m : AEnv) (σ : AHeap) (Q : List AVal → AHeap → Prop) : Prop :=
  f.Ok C n → ∀ fz s E, SR C f fz m σ s → wpAny (Md C) f.A (spliced (backTo pos (starEach es f.env))) (PL C f m fz s Q) E s
def WT (C : Cx) (n : Nat) (f : Fm) (e : Expr) (m : AEnv) (σ : AHeap) (Q : Bool → AHeap → Prop) : Prop :=
  f.Ok C n → ∀ fz s E, SR C f fz m σ s → wpAny (Md C) f.A (isTrue e f.env (eval e f.env)) (PB C f m fz s Q) E s
/-- trees over one, two, many values -/
def T1 (C : Cx) (n : Nat) (f : Fm) (t : Value → Sem Value) (a : AVal) (m : AEnv) (σ : AHeap) (Q : AVal → AHeap → Prop) : Prop :=
  f.Ok C n → ∀ fz s E v, SR C f fz m σ s → V (At C fz) v a → wpAny (Md C) f.A (t v) (PV C f m fz s Q) E s
def T2 (C : Cx) (n : Nat) (f : Fm) (t : Value → Value → Sem Value) (a b : AVal) (m : AEnv) (σ : AHeap) (Q : AVal → AHeap → Prop) : Prop :=
  f.Ok C n → ∀ fz s E v w, SR C f fz m σ s → V (At C fz) v a → V (At C fz) w b → wpAny (Md C) f.A (t v w) (PV C f m fz s Q) E s
def TL (C : Cx) (n : Nat) (f : Fm) (t : List Value → Sem Value) (as : List AVal) (m : AEnv) (σ : AHeap) (Q : AVal → AHeap → Prop) : Prop :=
  f.Ok C n → ∀ fz s E vs, SR C f fz m σ s → Vs (At C fz) vs as → wpAny (Md C) f.A (t vs) (PV C f m fz s Q) E s
def TB (C : Cx) (n : Nat) (f : Fm) (t : Value → Sem Bool) (a : AVal) (m : AEnv) (σ : AHeap) (Q : Bool → AHeap → Prop) : Prop :=
  f.Ok C n → ∀ fz s E v, SR C f fz m σ s → V (At C fz) v a → wpAny (Md C) f.A (t v) (PB C f m fz s Q) E s
def W1 (C : Cx) (n : Nat) (f : Fm) (st : Stmt) (m : AEnv) (σ : AHeap) (Q : AFlow → AEnv → AHeap → Prop) : Prop :=
  f.Ok C n → ∀ fz s E, SR C f fz m σ s → wpAny (Md C) f.A (exec st f.env) (PS C f fz s Q) E s
def WS (C : Cx) (n : Nat) (f : Fm) (ss : List Stmt) (m : AEnv) (σ : AHeap) (Q : AFlow → AEnv → AHeap → Prop) : Prop :=
  f.Ok C n → ∀ fz s E, SR C f fz m σ s → wpAny (Md C) f.A (execs ss f.env) (PS C f fz s Q) E s

section
variable {C : Cx} {n : Nat} {f : Fm} {m : AEnv} {σ : AHeap} {s s₁ s' : Shared} {fz fz₁ : Fz}
theorem sub_refl {fz : Fz} : ∀ p ∈ fz, p ∈ fz := fun _ h => h
theorem PV.up {Q : AVal → AHeap → Prop} {v : Value} (h : ∀ p ∈ fz, p ∈ fz₁) (hs : Same s s₁) (x : PV C f m fz₁ s₁ Q v s') : PV C f m fz s Q v s' := by
  obtain ⟨fz', σ', a, h1, h2, h3, h4, h5⟩ := x
  exact ⟨fz', σ', a, fun p hp => h1 p (h p hp), hs.trans h2, h3, h4, h5⟩
theorem PB.up {Q : Bool → AHeap → Prop} {v : Bool} (h : ∀ p ∈ fz, p ∈ fz₁) (hs : Same s s₁) (x : PB C f m fz₁ s₁ Q v s') : PB C f m fz s Q v s' := by
  obtain ⟨fz', σ', h1, h2, h3, h5⟩ := x
  exact ⟨fz', σ', fun p hp => h1 p (h p hp), hs.trans h2, h3, h5⟩
theorem PS.up {Q : AFlow → AEnv → AHeap → Prop} {v : Flow} (h : ∀ p ∈ fz, p ∈ fz₁) (hs : Same s s₁) (x : PS C f fz₁ s₁ Q v s') : PS C f fz s Q v s' := by
  obtain ⟨fz', σ', m', a, h1, h2, h3, h4, h5⟩ := x
  exact ⟨fz', σ', m', a, fun p hp => h1 p (h p hp), hs.trans h2, h3, h4, h5⟩
theorem PV.here {Q : AVal → AHeap → Prop} {v : Value} {a : AVal} (x : SR C f fz m σ s) (hv : V (At C fz) v a) (q : Q a σ) : PV C f m fz s Q v s := ⟨fz, σ, a, sub_refl, .rfl, x, hv, q⟩
theorem PV.tok {Q : AVal → AHeap → Prop} {v : Value} {a : AVal} {t : Nat} (x : SR C f fz m σ s) (hv : V (At C fz) v a) (q : Q a σ) : PV C f m fz s Q v { s with toks := t } := ⟨fz, σ, a, sub_refl, .mk, x, hv, q⟩

/-! ## consequence -/
theorem WS.mono {ss : List Stmt} {Q Q' : AFlow → AEnv → AHeap → Prop} (h : WS C n f ss m σ Q) (k : ∀ a m σ, Q a m σ → Q' a m σ) : WS C n f ss m σ Q' :=
  fun ok fz s E x => wpAny_mono (h ok fz s E x) (fun v s' hq => hq.el fun fz' σ' m' a h1 h2 h3 h4 h5 => ⟨fz', σ', m', a, h1, h2, h3, h4, k _ _ _ h5⟩) fun _ _ x => x
theorem WS.weaken {ss : List Stmt} {m' : AEnv} {σ' : AHeap} {Q : AFlow → AEnv → AHeap → Prop} (hm : ∀ y a, m'.get y = some a → m.get y = some a) (hσ : σ'.le σ) (h : WS C n f ss m' σ' Q) : WS C n f ss m σ Q :=
  fun ok fz s E x => h ok fz s E (x.weaken hm hσ)

/-! ## expressions -/
theorem we_int {i : Int} {k : Nat} {pos : Pos} {Q : AVal → AHeap → Prop} (h : Q (.int i) σ) : WE C n f (.Constant (.int i) k pos) m σ Q :=
  fun ok fz s E x => wpAny_Constant_int (.tok x (.int _ _) h)
theorem we_str {i : Str} {k : Nat} {pos : Pos} {Q : AVal → AHeap → Prop} (h : Q (.str i) σ) : WE C n f (.Constant (.str i) k pos) m σ Q :=
  fun ok fz s E x => wpAny_Constant_str (.tok x (.str _ _) h)
theorem we_none {k : Nat} {pos : Pos} {Q : AVal → AHeap → Prop} (h : Q .none σ) : WE C n f (.Constant .none k pos) m σ Q :=
  fun ok fz s E x => wpAny_Constant_none (.here x .none h)
theorem we_bool {b : Bool} {k : Nat} {pos : Pos} {Q : AVal → AHeap → Prop} (h : Q (.bool b) σ) : WE C n f (.Constant (.bool b) k pos) m σ Q :=
  fun ok fz s E x => wpAny_Constant_bool (.here x (.bool b) h)
theorem we_local {y : Str} {pos : Pos} {a : AVal} {Q : AVal → AHeap → Prop} (hl : f.fenv.kindOf y = some .local) (hv : m.get y = some a) (h : Q a σ) (hd : (y == ("__debug__" : Str)) = false := by decide) (hcm : f.comp = none := by rfl) : WE C n f (.Name y pos) m σ Q := fun ok fz s E x => by
  have x' := x
  obtain ⟨mc, news, δ, F, N, R, e⟩ := x
  obtain ⟨v, h1, h2⟩ := e y a hv
  have he : f.env = f.fenv := by unfold Fm.env; rw [hcm]
  rw [he]
  exact nameX_L F h1 (.here x' h2 h) ok.kind hl hd
/-- a name of a row that is being built -/
theorem we_clocal {y : Str} {pos : Pos} {sc : Scope} {cl : List (Str × Addr)} {c : Addr} {as : List (Str × AVal)} {a : AVal} {Q : AVal → AHeap → Prop} (hcm : f.comp = some (sc, cl, c)) (hl : f.env.kindOf y = some .local) (hc : σ c = some (.ns as)) (hv : getA y as = some a) (h : Q a σ) (hd : (y == ("__debug__" : Str)) = false := by decide) : WE C n f (.Name y pos) m σ Q := fun ok fz s E x => by
  have x' := x
  obtain ⟨mc, news, δ, F, N, R, e⟩ := x
  obtain ⟨o, mc', h1, h2, h3⟩ := R.ob c _ hc
  obtain ⟨v, h4, h5⟩ := h3 y a hv
  have hL : f.env.locals = c := by unfold Fm.env; rw [hcm]; rfl
  exact wpAny_Name (wpAny_loadName_local ok.ckind hl (by rw [hL]; exact h2.ns (N _ h1).1) h4 (.here x' h5 h)) hd
theorem we_cell {y : Str} {pos : Pos} {c : Addr} {a : AVal} {Q : AVal → AHeap → Prop} (hl : f.env.kindOf y = some .cell) (hc : f.env.cells.lookup y = some c) (hv : σ c = some (.cell (some a))) (h : Q a σ) (hd : (y == ("__debug__" : Str)) = false := by decide) : WE C n f (.Name y pos) m σ Q := fun ok fz s E x => by
  have x' := x
  obtain ⟨mc, news, δ, F, N, R, e⟩ := x
  obtain ⟨o, v, h1, h2, h3⟩ := R.ob c _ hv
  exact wpAny_Name (wpAny_loadName_cell ok.ckind hl hc ⟨o, N.get h1, h2⟩ (.here x' h3 h)) hd
theorem we_global {y : Str} {pos : Pos} {v : Value} {Q : AVal → AHeap → Prop} (hl : f.env.kindOf y = some .globalImplicit) (hv : nsIn C.K mainGlobals y = some (some v)) (h : Q (.raw v) σ) (hd : (y == ("__debug__" : Str)) = false := by decide) : WE C n f (.Name y pos) m σ Q := fun ok fz s E x => by
  have x' := x
  obtain ⟨mc, news, δ, F, N, R, e⟩ := x
  have hg : f.env.globals = mainGlobals := by unfold Fm.env; cases f.comp <;> rfl
  have T := topRead_of ok.top
  exact Name_function_global ok.ckind hl (loadGlobal_global (env := f.env) (by rw [hg]; exact T.g.keeps F.keep) (mg_of ok.kin T.g hv) (.here x' (.raw v) h)) hd
theorem we_builtin {y : Str} {pos : Pos} {v : Value} {Q : AVal → AHeap → Prop} (hl : f.env.kindOf y = some .globalImplicit) (hv : nsIn C.K mainGlobals y = some none) (hb : bootBuiltins y = some v) (h : Q (.raw v) σ) (hn : y ≠ "__name__" := by decide) (hd : (y == ("__debug__" : Str)) = false := by decide) :
    WE C n f (.Name y pos) m σ Q := fun ok fz s E x => by
  have x' := x
  obtain ⟨mc, news, δ, F, N, R, e⟩ := x
  have hg : f.env.globals = mainGlobals := by unfold Fm.env; cases f.comp <;> rfl
  have hbb : f.env.builtins = builtinsNs := by unfold Fm.env; cases f.comp <;> rfl
  have T := topRead_of ok.top
  exact Name_function_global ok.ckind hl (loadGlobal_builtin (env := f.env) (by rw [hg]; exact T.g.keeps F.keep) (mg_none_of ok.kin T.g hv) (by rw [hbb]; exact T.b.keeps F.keep) ((T.builtins y hn).trans hb) (.here x' (.raw v) h)) hd
theorem we_binop {l r : Expr} {op : Operator} {pos : Pos} {Q : AVal → AHeap → Prop} (h : WE C n f l m σ fun a σ₁ => WE C n f r m σ₁ fun b σ₂ => T2 C n f (binaryOp op) a b m σ₂ Q) : WE C n f (.BinOp l op r pos) m σ Q := fun ok fz s E x => by
  refine wpAny_BinOp (wpAny_mono (h ok fz s E x) (fun v s₁ hq => hq.el fun fz₁ σ₁ a u1 e1 x1 va q1 => wpAny_mono (q1 ok fz₁ s₁ E x1) (fun w s₂ hq => hq.el fun fz₂ σ₂ b u2 e2 x2 vb q2 => ?_) fun _ _ x => x) fun _ _ x => x)
  exact wpAny_mono (q2 ok fz₂ s₂ E v w x2 (va.up u2) vb) (fun r s₃ p => .up (fun p hp => u2 p (u1 p hp)) (e1.trans e2) p) fun _ _ x => x
theorem we_ifexp {t b o : Expr} {pos : Pos} {Q : AVal → AHeap → Prop} (h : WT C n f t m σ fun c σ₁ => (c = true → WE C n f b m σ₁ Q) ∧ (c = false → WE C n f o m σ₁ Q)) : WE C n f (.IfExp t b o pos) m σ Q := fun ok fz s E x => by
  refine wpAny_IfExp (wpAny_mono (h ok fz s E x) (fun c s₁ hq => hq.el fun fz₁ σ₁ u1 e1 x1 q1 => ?_) fun _ _ x => x)
  cases c with
  | true => exact wpAny_mono (q1.1 rfl ok fz₁ s₁ E x1) (fun r s₃ p => .up u1 e1 p) fun _ _ x => x
  | false => exact wpAny_mono (q1.2 rfl ok fz₁ s₁ E x1) (fun r s₃ p => .up u1 e1 p) fun _ _ x => x
/-! ## rows of expressions -/
theorem wl_nil {pos : Pos} {Q : List AVal → AHeap → Prop} (h : Q [] σ) : WL C n f [] pos m σ Q := fun ok fz s E x => wpAny_items_nil ⟨fz, σ, [], sub_refl, .rfl, x, .nil, h⟩
theorem wl_cons {e : Expr} {es : List Expr} {pos : Pos} {Q : List AVal → AHeap → Prop} (h : WE C n f e m σ fun a σ₁ => WL C n f es pos m σ₁ fun as σ₂ => Q (a :: as) σ₂)
    (he : starEach (e :: es) f.env = (false, eval e f.env) :: starEach es f.env := by rfl) : WL C n f (e :: es) pos m σ Q := fun ok fz s E x => by
  refine wpAny_items_cons (wpAny_mono (h ok fz s E x) (fun v s₁ hq => hq.el fun fz₁ σ₁ a u1 e1 x1 va q1 => wpAny_mono (q1 ok fz₁ s₁ E x1) (fun w s₂ hq => hq.el fun fz₂ σ₂ b u2 e2 x2 vb q2 => ?_) fun _ _ x => x) fun _ _ x => x) he
  exact ⟨fz₂, σ₂, a :: b, fun p hp => u2 p (u1 p hp), e1.trans e2, x2, .cons (va.up u2) vb, q2⟩
/-- a list display, frozen; and one that may change -/
theorem we_lst {es : List Expr} {pos : Pos} {Q : AVal → AHeap → Prop} (h : WL C n f es pos m σ fun as σ₁ => as.length ≤ sizeLine ∧ Q (.lst as) σ₁) : WE C n f (.List es pos) m σ Q := fun ok fz s E x => by
  refine wpAny_List (wpAny_mono (h ok fz s E x) (fun vs s₁ hq => hq.el fun fz₁ σ₁ as u1 e1 x1 va ⟨q0, q1⟩ => ⟨by rw [va.length]; exact q0, ?_⟩) fun _ _ x => x)
  have hs : s₁.heap.get? s₁.heap.objs.size = none := by
    cases q : s₁.heap.get? s₁.heap.objs.size with
    | none => rfl
    | some o => exact absurd (Heap.lt_size q) (Nat.lt_irrefl _)
  refine ⟨[(s₁.heap.objs.size, listOf vs.toArray 0)] ++ fz₁, σ₁, .lst as, fun p hp => List.mem_append_right _ (u1 p hp), e1.trans ⟨_, _, rfl⟩, x1.freeze (t := s₁.toks) (fun b o e => Heap.get?_push_of_some _ e) _ ?_, .lst (.inl (List.mem_append_left _ (List.mem_singleton.mpr rfl))) rfl rfl (va.up fun p hp => List.mem_append_right _ hp), q1⟩
  intro p hp
  rw [List.mem_singleton.mp hp]
  exact ⟨hs, Nat.le_refl _, Heap.get?_push_size _ rfl⟩
theorem we_tup {es : List Expr} {k : Nat} {pos : Pos} {Q : AVal → AHeap → Prop} (h : WL C n f es pos m σ fun as σ₁ => as.length ≤ sizeLine ∧ Q (.tup as) σ₁) : WE C n f (.Tuple es k pos) m σ Q := fun ok fz s E x => by
  refine wpAny_Tuple (wpAny_mono (h ok fz s E x) (fun vs s₁ hq => hq.el fun fz₁ σ₁ as u1 e1 x1 va ⟨q0, q1⟩ => ⟨by rw [va.length]; exact q0, ?_⟩) fun _ _ x => x)
  have hs : s₁.heap.get? s₁.heap.objs.size = none := by
    cases q : s₁.heap.get? s₁.heap.objs.size with
    | none => rfl
    | some o => exact absurd (Heap.lt_size q) (Nat.lt_irrefl _)
  refine ⟨[(s₁.heap.objs.size, tupOf vs)] ++ fz₁, σ₁, .tup as, fun p hp => List.mem_append_right _ (u1 p hp), e1.trans ⟨_, _, rfl⟩, x1.freeze (t := s₁.toks) (fun b o e => Heap.get?_push_of_some _ e) _ ?_, .tup (.inl (List.mem_append_left _ (List.mem_singleton.mpr rfl))) rfl rfl (va.up fun p hp => List.mem_append_right _ hp), q1⟩
  intro p hp
  rw [List.mem_singleton.mp hp]
  exact ⟨hs, Nat.le_refl _, Heap.get?_push_size _ rfl⟩
theorem we_listM {es : List Expr} {pos : Pos} {Q : AVal → AHeap → Prop} (h : WL C n f es pos m σ fun as σ₁ => as.length ≤ sizeLine ∧ ∀ a, σ₁ a = none → Q (.obj a) (σ₁.set a (.list as))) : WE C n f (.List es pos) m σ Q := fun ok fz s E x => by
  refine wpAny_List (wpAny_mono (h ok fz s E x) (fun vs s₁ hq => hq.el fun fz₁ σ₁ as u1 e1 x1 va ⟨q0, q1⟩ => ⟨by rw [va.length]; exact q0, ?_⟩) fun _ _ x => x)
  exact ⟨fz₁, _, .obj s₁.heap.objs.size, u1, e1.trans ⟨_, _, rfl⟩, x1.newList (t := s₁.toks) (fun b o e => Heap.get?_push_of_some _ e) (Nat.le_refl _) (Heap.get?_push_size _ rfl) va, .obj _, q1 _ (x1.fresh (Nat.le_refl _))⟩

/-! ## tests -/
theorem wt_compare {l r : Expr} {op : CmpOp} {pos : Pos} {Q : Bool → AHeap → Prop} (h : WE C n f l m σ fun a σ₁ => WE C n f r m σ₁ fun b σ₂ => T2 C n f (compareOp op) a b m σ₂ fun c σ₃ => TB C n f truthy c m σ₃ Q) (hm : behindInMarks op r = false := by rfl) :
    WT C n f (.Compare l [op] [r] pos) m σ Q := fun ok fz s E x => by
  refine wpAny_isTrue_Compare1 (wpAny_mono (h ok fz s E x) (fun v s₁ hq => hq.el fun fz₁ σ₁ a u1 e1 x1 va q1 => wpAny_mono (q1 ok fz₁ s₁ E x1) (fun w s₂ hq => hq.el fun fz₂ σ₂ b u2 e2 x2 vb q2 => ?_) fun _ _ x => x) fun _ _ x => x) hm
  refine wpAny_mono (q2 ok fz₂ s₂ E v w x2 (va.up u2) vb) (fun r s₃ hq => hq.el fun fz₃ σ₃ c u3 e3 x3 vc q3 => ?_) fun _ _ x => x
  exact wpAny_mono (q3 ok fz₃ s₃ E r x3 vc) (fun b s₄ p => .up (fun p hp => u3 p (u2 p (u1 p hp))) ((e1.trans e2).trans e3) p) fun _ _ x => x
theorem wt_not {t : Expr} {pos : Pos} {Q : Bool → AHeap → Prop} (h : WT C n f t m σ fun b σ₁ => Q (!b) σ₁) : WT C n f (.UnaryOp .Not t pos) m σ Q := fun ok fz s E x =>
  wpAny_isTrue_Not (wpAny_mono (h ok fz s E x) (fun v s₁ hq => hq.el fun fz₁ σ₁ u1 e1 x1 q1 => ⟨fz₁, σ₁, u1, e1, x1, q1⟩) fun _ _ x => x)
theorem wt_value {e : Expr} {Q : Bool → AHeap → Prop} (h : WE C n f e m σ fun a σ₁ => TB C n f truthy a m σ₁ Q) (he : ∀ whole, isTrue e f.env whole = (do let v ← whole; standAt e.pos; holding [v] (truthy v)) := by intro _; rfl) : WT C n f e m σ Q := fun ok fz s E x => by
  refine wpAny_isTrue_value (wpAny_mono (h ok fz s E x) (fun v s₁ hq => hq.el fun fz₁ σ₁ a u1 e1 x1 va q1 => ?_) fun _ _ x => x) (he _)
  exact wpAny_mono (q1 ok fz₁ s₁ E v x1 va) (fun b s₄ p => .up u1 e1 p) fun _ _ x => x
/-- a chain of tests in a condition -/
def WA (C : Cx) (n : Nat) (f : Fm) (op : BoolOp) (es : List Expr) (m : AEnv) (σ : AHeap) (Q : Bool → AHeap → Prop) : Prop :=
  f.Ok C n → ∀ fz s E, SR C f fz m σ s → wpAny (Md C) f.A (allTrue op es f.env) (PB C f m fz s Q) E s
theorem wt_bool {op : BoolOp} {es : List Expr} {pos : Pos} {Q : Bool → AHeap → Prop} (h : WA C n f op es m σ Q) : WT C n f (.BoolOp op es pos) m σ Q := fun ok fz s E x => wpAny_isTrue_BoolOp (h ok fz s E x)
theorem wa_or_nil {Q : Bool → AHeap → Prop} (h : Q false σ) : WA C n f .Or [] m σ Q := fun ok fz s E x => wpAny_allTrue_Or_nil ⟨fz, σ, sub_refl, .rfl, x, h⟩
theorem wa_or {e : Expr} {es : List Expr} {Q : Bool → AHeap → Prop} (h : WT C n f e m σ fun b σ₁ => (b = true → Q true σ₁) ∧ (b = false → WA C n f .Or es m σ₁ Q)) : WA C n f .Or (e :: es) m σ Q := fun ok fz s E x => by
  refine wpAny_allTrue_Or_cons (wpAny_mono (h ok fz s E x) (fun c s₁ hq => hq.el fun fz₁ σ₁ u1 e1 x1 q1 => ?_) fun _ _ x => x)
  cases c with
  | false => exact wpAny_mono (q1.2 rfl ok fz₁ s₁ E x1) (fun r s₃ p => .up u1 e1 p) fun _ _ x => x
  | true => exact ⟨fz₁, σ₁, u1, e1, x1, q1.1 rfl⟩
theorem tb_bool {b : Bool} {Q : Bool → AHeap → Prop} (h : Q b σ) : TB C n f truthy (.bool b) m σ Q := fun ok fz s E v x hv => by
  cases hv; exact wpAny_truthy_bool ⟨fz, σ, sub_refl, .rfl, x, h⟩

/-! ## statements -/
theorem ws_nil {Q : AFlow → AEnv → AHeap → Prop} (h : Q .next m σ) : WS C n f [] m σ Q := fun ok fz s E x => wpAny_execs_nil ⟨fz, σ, m, .next, sub_refl, .rfl, x, trivial, h⟩
theorem ws_cons {st : Stmt} {ss : List Stmt} {Q : AFlow → AEnv → AHeap → Prop} (h : W1 C n f st m σ fun a m' σ' => match a with | .next => WS C n f ss m' σ' Q | a => Q a m' σ') : WS C n f (st :: ss) m σ Q := fun ok fz s E x => by
  refine wpAny_execs_cons (wpAny_mono (h ok fz s E x) (fun fl s₁ hq => hq.el fun fz₁ σ₁ m₁ a u1 e1 x1 va q1 => ?_) fun _ _ x => x)
  cases fl with
  | next =>
    cases a with
    | next => exact wpAny_mono (q1 ok fz₁ s₁ E x1) (fun r s₃ p => .up u1 e1 p) fun _ _ x => x
    | _ => exact va.elim
  | brk => cases a <;> first | exact ⟨fz₁, σ₁, m₁, _, u1, e1, x1, va, q1⟩ | exact va.elim
  | cont => cases a <;> first | exact ⟨fz₁, σ₁, m₁, _, u1, e1, x1, va, q1⟩ | exact va.elim
  | ret v => cases a <;> first | exact ⟨fz₁, σ₁, m₁, _, u1, e1, x1, va, q1⟩ | exact va.elim
theorem w1_return {e : Expr} {pos : Pos} {Q : AFlow → AEnv → AHeap → Prop} (h : WE C n f e m σ fun a σ₁ => Q (.ret a) m σ₁) : W1 C n f (.Return (some e) pos) m σ Q := fun ok fz s E x =>
  wpAny_Return_some (wpAny_mono (h ok fz s E x) (fun v s₁ hq => hq.el fun fz₁ σ₁ a u1 e1 x1 va q1 => ⟨fz₁, σ₁, m, .ret a, u1, e1, x1, va, q1⟩) fun _ _ x => x)
theorem w1_if {t : Expr} {b o : List Stmt} {pos : Pos} {Q : AFlow → AEnv → AHeap → Prop} (h : WT C n f t m σ fun c σ₁ => (c = true → WS C n f b m σ₁ Q) ∧ (c = false → WS C n f o m σ₁ Q)) : W1 C n f (.If t b o pos) m σ Q := fun ok fz s E x => by
  refine wpAny_If (wpAny_mono (h ok fz s E x) (fun c s₁ hq => hq.el fun fz₁ σ₁ u1 e1 x1 q1 => ?_) fun _ _ x => x)
  cases c with
  | true => exact wpAny_mono (q1.1 rfl ok fz₁ s₁ E x1) (fun r s₃ p => .up u1 e1 p) fun _ _ x => x
  | false => exact wpAny_mono (q1.2 rfl ok fz₁ s₁ E x1) (fun r s₃ p => .up u1 e1 p) fun _ _ x => x
/-- storing a value under a name: as a tree -/
def TS (C : Cx) (n : Nat) (f : Fm) (y : Str) (a : AVal) (m : AEnv) (σ : AHeap) (Q : AEnv → AHeap → Prop) : Prop :=
  f.Ok C n → ∀ fz s E v, SR C f fz m σ s → V (At C fz) v a → wpAny (Md C) f.A (storeName f.env y v) (fun _ s' => ∃ fz' σ' m', (∀ p ∈ fz, p ∈ fz') ∧ Same s s' ∧ SR C f fz' m' σ' s' ∧ Q m' σ') E s
theorem ts_local {y : Str} {a : AVal} {Q : AEnv → AHeap → Prop} (hl : f.fenv.kindOf y = some .local) (h : Q (m.set y a) σ) (hcm : f.comp = none := by rfl) : TS C n f y a m σ Q := fun ok fz s E v x hv => by
  have he : f.env = f.fenv := by unfold Fm.env; rw [hcm]
  rw [he]
  obtain ⟨mc, news, F, N, k⟩ := x.store (y := y) hv
  exact storeX_L F N (fun h' F' N' => ⟨fz, σ, _, sub_refl, .mk, k h' _ F' N', h⟩) ok.kind hl
theorem ts_cell {y : Str} {a : AVal} {c : Addr} {v₀ : Option AVal} {Q : AEnv → AHeap → Prop} (hl : f.env.kindOf y = some .cell) (hc : f.env.cells.lookup y = some c) (hv : σ c = some (.cell v₀)) (h : Q m (σ.set c (.cell (some a)))) : TS C n f y a m σ Q := fun ok fz s E v x va => by
  have x' := x
  obtain ⟨mc, news, δ, F, N, R, e⟩ := x
  obtain ⟨o, u, ho, hd⟩ : ∃ o u, (c, o) ∈ news ∧ o.data = .cell u := by
    cases v₀ with
    | none => obtain ⟨o, h1, h2⟩ := R.ob c _ hv; exact ⟨o, _, h1, h2⟩
    | some a => obtain ⟨o, u, h1, h2, _⟩ := R.ob c _ hv; exact ⟨o, _, h1, h2⟩
  refine wpAny_storeName_cell ok.ckind hl hc ⟨o, (N _ ho).1, hd⟩ fun h' hv' hs => ?_
  obtain ⟨o', ho', hd'⟩ := hv'
  exact ⟨fz, _, m, sub_refl, ⟨_, _, rfl⟩, x'.setCell (t := s.toks) hv hs ho' hd' va, h⟩
theorem w1_assign {y : Str} {py : Pos} {e : Expr} {pos : Pos} {Q : AFlow → AEnv → AHeap → Prop} (h : WE C n f e m σ fun a σ₁ => TS C n f y a m σ₁ fun m' σ' => Q .next m' σ')
    (hs : swapsWith e (some (.Name y py)) pos.line f.env = pure false := by rfl) : W1 C n f (.Assign [.Name y py] e pos) m σ Q := fun ok fz s E x => by
  refine wpAny_Assign_Name (wpAny_mono (h ok fz s E x) (fun v s₁ hq => hq.el fun fz₁ σ₁ a u1 e1 x1 va q1 => ?_) fun _ _ x => x) hs
  exact wpAny_mono (q1 ok fz₁ s₁ E v x1 va) (fun _ s₂ hq => PU.el hq fun fz₂ σ₂ m₂ u2 e2 x2 q2 => ⟨fz₂, σ₂, m₂, .next, fun p hp => u2 p (u1 p hp), e1.trans e2, x2, trivial, q2⟩) fun _ _ x => x
end
end Mine

open PySem PySem.W PyProof.Rows PySem.Calls
namespace Mine
def Near (f : Fm) (A : Around) : Prop := A.frames = f.A.frames ∧ A.handled = f.A.handled ∧ A.guards = f.A.guards ∧ A.depth ≤ f.A.depth + 2 ∧ A.units ≤ f.A.units + 4
theorem Near.refl {f : Fm} : Near f f.A := ⟨rfl, rfl, rfl, by omega, by omega⟩
def RV (C : Cx) (f : Fm) (m : AEnv) (fz : Fz) (s : Shared) (Q : AVal → AHeap → Prop) (r : Result) (s' : Shared) : Prop := ∃ v, r = .ok (.ret v) ∧ PV C f m fz s Q v s'
/-- what a call of a def of the text does -/
def Fn (C : Cx) (n : Nat) (fa : Addr) (as : List AVal) (σ : AHeap) (Q : AVal → AHeap → Prop) : Prop :=
  ∀ f m A, f.Ok C n → Near f A → ∀ fz s vs, SR C f fz m σ s → Vs (At C fz) vs as → codeAny (Md C) A (.call (.ref fa) ⟨vs, []⟩) (RV C f m fz s Q) s
def Keep (C : Cx) (h : Heap) (v : Value) : Prop := ∃ k, (k = Keeper.frame ∨ k = Keeper.machine ∨ k = Keeper.boundFrame) ∧ Looks (Md C) h (keeperOf v) k
/-- a call -/
def TC (C : Cx) (n : Nat) (f : Fm) (fv : AVal) (as : List AVal) (m : AEnv) (σ : AHeap) (Q : AVal → AHeap → Prop) : Prop :=
  f.Ok C n → ∀ fz s E v vs, SR C f fz m σ s → V (At C fz) v fv → Vs (At C fz) vs as → Keep C s.heap v ∧ wpAny (Md C) f.A (call v vs) (PV C f m fz s Q) E s
/-- a method looked up -/
def TG (C : Cx) (n : Nat) (f : Fm) (name : Str) (ov : AVal) (m : AEnv) (σ : AHeap) (Q : AVal → List AVal → AHeap → Prop) : Prop :=
  f.Ok C n → ∀ fz s E v pl, SR C f fz m σ s → V (At C fz) v ov → wpAny (Md C) f.A (getMethod v name pl) (fun fx s' => ∃ fz' σ' fa as, (∀ p ∈ fz, p ∈ fz') ∧ Same s s' ∧ SR C f fz' m σ' s' ∧ V (At C fz') fx.1 fa ∧ Vs (At C fz') fx.2 as ∧ Q fa as σ') E s

section
variable {C : Cx} {n : Nat} {f : Fm} {m : AEnv} {σ : AHeap}
theorem cw {pos : Pos} {v : Value} {first : List Value} {args : List Expr} {s : Shared} {E : Value → Shared → Prop} {Q : Value → Shared → Prop}
    (h : wpAny (Md C) f.A (spliced (backTo pos (starEach args f.env))) (fun vs s₁ => Keep C s₁.heap v ∧ wpAny (Md C) f.A (call v (first ++ vs)) Q E s₁) E s)
    (hplain : (backTo pos (starEach args f.env)).any (·.1) = false := by rfl) : wpAny (Md C) f.A (callWith pos v first (backTo pos (starEach args f.env)) (backToKw pos (keywordEach [] f.env))) Q E s := by
  show wpAny (Md C) f.A (callWith pos v first (backTo pos (starEach args f.env)) []) Q E s
  revert h hplain
  generalize backTo pos (starEach args f.env) = l
  intro h hplain
  refine callWith_of (P := fun h => Keep C h v) (by rw [hplain]; rfl) (fun h k => k) ?_
  cases l with
  | nil =>
    unfold evalArgs
    show wpAny _ _ (spliced [] >>= _) _ E s
    exact wpAny_bind (wpAny_mono h (fun vs s₁ h₁ => wpAny_bind (wpAny_pure (wpAny_holding (wpAny_bind (wpAny_pure (wpAny_bind (wpAny_pure (wpAny_pure h₁)))))))) fun _ _ x => x)
  | cons p l => 
    obtain ⟨b, x⟩ := p
    cases b with
    | true => cases hplain
    | false => exact evalArgs_plain h
theorem we_call {g : Str} {gp : Pos} {args : List Expr} {pos : Pos} {Q : AVal → AHeap → Prop} (h : WE C n f (.Name g gp) m σ fun fv σ₁ => WL C n f args pos m σ₁ fun as σ₂ => TC C n f fv as m σ₂ Q)
    (hplain : (backTo pos (starEach args f.env)).any (·.1) = false := by rfl) : WE C n f (.Call (.Name g gp) args [] pos) m σ Q := fun ok fz s E x => by
  refine wpAny_Call_ofName (wpAny_mono (h ok fz s E x) (fun v s₁ hq => hq.el fun fz₁ σ₁ a u1 e1 x1 va q1 => cw (wpAny_mono (q1 ok fz₁ s₁ E x1) (fun vs s₂ hq => hq.el fun fz₂ σ₂ as u2 e2 x2 vs' q2 => ?_) fun _ _ x => x) hplain) fun _ _ x => x)
  obtain ⟨k, c⟩ := q2 ok fz₂ s₂ E v vs x2 (va.up u2) vs'
  exact ⟨k, wpAny_mono c (fun r s₃ p => .up (fun p hp => u2 p (u1 p hp)) (e1.trans e2) p) fun _ _ x => x⟩
theorem we_callE {g : Expr} {args : List Expr} {pos : Pos} {Q : AVal → AHeap → Prop} (h : WE C n f g m σ fun fv σ₁ => WL C n f args pos m σ₁ fun as σ₂ => TC C n f fv as m σ₂ Q)
    (he : eval (.Call g args [] pos) f.env = (do callWith pos (← eval g f.env) [] (backTo pos (starEach args f.env)) (backToKw pos (keywordEach [] f.env))) := by rfl)
    (hplain : (backTo pos (starEach args f.env)).any (·.1) = false := by rfl) : WE C n f (.Call g args [] pos) m σ Q := fun ok fz s E x => by
  rw [he]
  refine wpAny_bind (wpAny_mono (h ok fz s E x) (fun v s₁ hq => hq.el fun fz₁ σ₁ a u1 e1 x1 va q1 => cw (wpAny_mono (q1 ok fz₁ s₁ E x1) (fun vs s₂ hq => hq.el fun fz₂ σ₂ as u2 e2 x2 vs' q2 => ?_) fun _ _ x => x) hplain) fun _ _ x => x)
  obtain ⟨k, c⟩ := q2 ok fz₂ s₂ E v vs x2 (va.up u2) vs'
  exact ⟨k, wpAny_mono c (fun r s₃ p => .up (fun p hp => u2 p (u1 p hp)) (e1.trans e2) p) fun _ _ x => x⟩
theorem we_method {o : Expr} {name : Str} {apos pos : Pos} {args : List Expr} {pl : Sem Bool} {Q : AVal → AHeap → Prop}
    (h : WE C n f o m σ fun ov σ₁ => TG C n f name ov m σ₁ fun fv first σ₂ => WL C n f args pos m σ₂ fun as σ₃ => TC C n f fv (first ++ as) m σ₃ Q)
    (he : eval (.Call (.Attribute o name apos) args [] pos) f.env = (do
      let ov ← eval o f.env
      standAt apos.atName
      let (g, first) ← holding [ov] (getMethod ov name pl)
      callWith pos g first (backTo pos (starEach args f.env)) (backToKw pos (keywordEach [] f.env))) := by rfl)
    (hplain : (backTo pos (starEach args f.env)).any (·.1) = false := by rfl) : WE C n f (.Call (.Attribute o name apos) args [] pos) m σ Q := fun ok fz s E x => by
  refine methodCall_KW (pl := pl) (wpAny_mono (h ok fz s E x) (fun v s₁ hq => hq.el fun fz₁ σ₁ a u1 e1 x1 va q1 => wpAny_mono (q1 ok fz₁ s₁ E v pl x1 va) (fun fx s₂ ⟨fz₂, σ₂, fa, fs, u2, e2, x2, vf, vfs, q2⟩ => cw (wpAny_mono (q2 ok fz₂ s₂ E x2) (fun vs s₃ hq => hq.el fun fz₃ σ₃ as u3 e3 x3 vs' q3 => ?_) fun _ _ x => x) hplain) fun _ _ x => x) fun _ _ x => x) he
  obtain ⟨k, c⟩ := q3 ok fz₃ s₃ E fx.1 (fx.2 ++ vs) x3 (vf.up u3) ((vfs.up u3).append vs')
  exact ⟨k, wpAny_mono c (fun r s₄ p => .up (fun p hp => u3 p (u2 p (u1 p hp))) ((e1.trans e2).trans e3) p) fun _ _ x => x⟩

/-! ## methods of own instances -/
theorem tg_inst {a c g : Addr} {as : List (Str × AVal)} {name : Str} {Q : AVal → List AVal → AHeap → Prop} (hσ : σ a = some (.inst c as)) (hn : getA name as = none) (hg : plainGet C.K c name = true)
    (hf : findIn C.K (.ref c) name = some (some (.ref g))) (ht : isFn C.K (.ref g) = true) (h : Q (.raw (.ref g)) [.obj a] σ) : TG C n f name (.obj a) m σ Q := fun ok fz s E v pl x hv => by
  cases hv
  obtain ⟨d, es, k, h1, h2, h3⟩ := x.inst hσ
  have x' := x
  obtain ⟨mc, news, δ, F, N, R, e⟩ := x
  exact method_inst F ok.kin (⟨h1, rfl, rfl, h2⟩ : InstAt s.heap a (instObj c d) c (some (dictOf es k))) hg hf ht (h3.get_none hn) ⟨fz, σ, _, _, sub_refl, .rfl, x', .raw _, .cons (.obj a) .nil, h⟩
theorem keep_K {g : Value} (ok : f.Ok C n) {fz : Fz} {s : Shared} (x : SR C f fz m σ s) (hk : keepIn C.K g = true) : Keep C s.heap g := by
  obtain ⟨mc, news, δ, F, N, R, e⟩ := x
  exact keeps_K hk _ (ok.kin.keeps F.keep)
theorem tc_fn {g : Addr} {as : List AVal} {Q : AVal → AHeap → Prop} (hk : keepIn C.K (.ref g) = true) (h : Fn C n g as σ Q) : TC C n f (.raw (.ref g)) as m σ Q := fun ok fz s E v vs x hv hvs => by
  cases hv
  refine ⟨keep_K ok x hk, wpAny_call (codeAny_mono (h f m f.A ok .refl fz s vs x hvs) fun r s' ⟨v, e, p⟩ => ?_)⟩
  subst e; exact p

/-! ## a def of the text, without cells -/
def retOf : AFlow → AVal
  | .ret a => a
  | _ => .none
theorem lookup_nd {β : Type} : ∀ {l : List (Str × β)}, (l.map (·.1)).Nodup → ∀ {y : Str} {v : β}, (y, v) ∈ l → l.lookup y = some v
  | [], _, _, _, h => nomatch h
  | (z, u) :: l, nd, y, v, h => by
    rw [List.map_cons, List.nodup_cons] at nd
    rcases List.mem_cons.mp h with e | h
    · cases e; simp
    · have : y ≠ z := fun e => nd.1 (List.mem_map.mpr ⟨_, h, e⟩)
      rw [List.lookup_cons]
      have hb : (y == z) = false := by simpa using this
      rw [hb]
      exact lookup_nd nd.2 h
theorem lookup_zip {P : Addr → Obj → Prop} : ∀ {ns : List Str} {vs : List Value} {as : List AVal}, Vs P vs as → ns.Nodup → ∀ {y : Str} {a : AVal}, getA y (ns.zip as) = some a → ∃ v, (ns.zip vs).reverse.lookup y = some v ∧ V P v a := by
  intro ns vs as h
  have key : ∀ {ns : List Str} {vs : List Value} {as : List AVal}, Vs P vs as → ns.Nodup → ∀ {y : Str} {a : AVal}, getA y (ns.zip as) = some a → ∃ v, (y, v) ∈ ns.zip vs ∧ V P v a := by
    intro ns
    induction ns with
    | nil => intro vs as _ _ y a e; cases as <;> cases e
    | cons z ns ih =>
      intro vs as h hd y a e
      cases h with
      | nil => cases e
      | cons hv h =>
        rw [List.zip_cons_cons] at e
        unfold getA at e
        by_cases q : (z == y) = true
        · rw [if_pos q] at e; cases e
          have : z = y := by simpa using q
          subst this
          exact ⟨_, List.mem_cons_self .., hv⟩
        · rw [if_neg q] at e
          obtain ⟨v, h1, h2⟩ := ih h (List.nodup_cons.mp hd).2 e
          exact ⟨v, List.mem_cons_of_mem _ h1, h2⟩
  intro hd y a e
  obtain ⟨v, h1, h2⟩ := key h hd e
  refine ⟨v, ?_, h2⟩
  have nd : ((ns.zip vs).reverse.map (·.1)).Nodup := by
    rw [List.map_reverse]
    refine List.pairwise_reverse.mpr (List.Pairwise.imp (fun h => Ne.symm h) ?_)
    have : (ns.zip vs).map (·.1) = ns.take vs.length := by
      clear h hd e h1 h2 key
      induction ns generalizing vs with
      | nil => simp
      | cons z ns ih => cases vs with
        | nil => simp
        | cons v vs => simp [ih]
    rw [this]
    exact List.Nodup.sublist (List.take_sublist ..) hd
  exact lookup_nd nd (List.mem_reverse.mpr h1)

theorem fn_plain {fa : Addr} {name qual : Str} {params : Arguments} {body : List Stmt} {scope : Scope} {dV kV doc pm cdv ct oc : Value} {an od : Option Addr} {osl : Array (Option Value)} {as da : List AVal} {ns : List Str} {dv : List Value} {Q : AVal → AHeap → Prop}
    (ho : C.K.lookup fa = some ⟨oc, od, .func (fnOf name qual params body scope dV kV doc pm an cdv ct), osl⟩) (hcd : codeIn C.K cdv qual = true)
    (hbind : ∀ S vs, vs.length = as.length → peek C.K S (bindArgs (fnOf name qual params body scope dV kV doc pm an cdv ct) ⟨vs, []⟩) = some (ns.zip (vs ++ dv)))
    (hd : ∀ P, Vs P dv da) (hnd : ns.Nodup) (hloc : ∀ y ∈ ns, scope.names.lookup y = some .local)
    (h : ∀ A₀ A base h₀ outer L pin, WS C n ⟨A₀, A, base, h₀, outer, L, fa, qual, scope, cdv, [], pin, none⟩ body (ns.zip (as ++ da)) σ fun fl _ σ' => ∃ σ₂ : AHeap, σ₂.le σ' ∧ Q (retOf fl) σ₂)
    (hco : scope.isCoroutine = false := by rfl) (hgen : scope.isGenerator = false := by rfl) (hk : scope.kind = .function := by rfl) (hcell : ∀ x ∈ scope.names, x.2 ≠ .cell := by decide) :
    Fn C (n + 1) fa as σ Q := fun f m A ok hn fz s vs x hvs => by
  obtain ⟨mc, news, δ, F, N, R, e⟩ := x
  have X := ok.kin.keeps F.keep
  have e2 := ok.depth
  have e3 := ok.units
  obtain ⟨n1, n2, n3, n4, n5⟩ := hn
  have hlen := hvs.length
  refine code_def (env := f.fenv) (binds := ns.zip (vs ++ dv)) ok.below F ok.kin N ok.top (n1.trans ok.stack) rfl ok.kind ho hcd (by omega) (kp_binds X fun S => hbind S vs hlen) (fun y hy => hloc _ (List.of_mem_zip hy).1) (fun g L' h₁ FG F' N' B' KG TG => ?_) hco hgen hk hcell
  let f' : Fm := ⟨A, A.deeper (envOf qual scope L' fa cdv), f.base, g, f.fenv :: f.outer, L', fa, qual, scope, cdv, [], f.pin, none⟩
  have hkH : ∀ b o, C.H.get? b = some o → g.get? b = some o := fun b o hb => FG.keep b o (ok.hk b o hb)
  have ok' : f'.Ok C n := ⟨B', KG, TG, hkH, Around.frames_deeper B'.stack, n2.trans ok.handled, n3.trans ok.guards, by show A.depth + 1 + 3 * n < _; omega, by show A.units + 3 + 10 * n + 100 < _; omega, hk, hk⟩
  have hz := hvs.append (hd (At C fz))
  have x' : SR C f' fz (ns.zip (as ++ da)) σ { s with heap := h₁, toks := s.toks + (ns.zip (vs ++ dv)).length } :=
    ⟨_, news, δ, F', N', R, fun y a hy => lookup_zip hz hnd hy⟩
  refine wpAny_mono (h A _ f.base g (f.fenv :: f.outer) L' f.pin ok' fz _ _ x') (fun fl s' hq => hq.el fun fz' σ' m' a u es x2 va ⟨σ₂, hle, q⟩ => ?_) fun _ _ z => z
  obtain ⟨mc', news', δ', F2, N2, R2, e2⟩ := x2.weaken (fun _ _ h => h) hle
  refine leaveK_ F2 N2 fun FK NK => ⟨_, rfl, fz', σ₂, retOf a, u, ?_, ⟨mc, news', δ', FK, NK, R2, fun y b hy => ?_⟩, ?_, q⟩
  · obtain ⟨hh, tt, ee⟩ := es; exact ⟨hh, tt, ee⟩
  · obtain ⟨v, h1, h2⟩ := e y b hy; exact ⟨v, h1, h2.up u⟩
  · cases fl <;> cases a <;> first | exact va.elim | exact .none | exact va
end
end Mine

open PySem PySem.W PyProof.Rows PySem.Calls
namespace Mine
/-! ## storing -/
def PU (C : Cx) (f : Fm) (fz : Fz) (s : Shared) (Q : AEnv → AHeap → Prop) (s' : Shared) : Prop := ∃ fz' σ' m', (∀ p ∈ fz, p ∈ fz') ∧ Same s s' ∧ SR C f fz' m' σ' s' ∧ Q m' σ'
def TA (C : Cx) (n : Nat) (f : Fm) (t : Expr) (a : AVal) (m : AEnv) (σ : AHeap) (Q : AEnv → AHeap → Prop) : Prop :=
  f.Ok C n → ∀ fz s E v, SR C f fz m σ s → V (At C fz) v a → wpAny (Md C) f.A (assign t f.env v) (fun _ => PU C f fz s Q) E s
def TAs (C : Cx) (n : Nat) (f : Fm) (ts : List Expr) (as : List AVal) (m : AEnv) (σ : AHeap) (Q : AEnv → AHeap → Prop) : Prop :=
  f.Ok C n → ∀ fz s E vs, SR C f fz m σ s → Vs (At C fz) vs as → wpAny (Md C) f.A (assignInOrder ((assignEach ts f.env).map (·.2)) vs) (fun _ => PU C f fz s Q) E s
def TSs (C : Cx) (n : Nat) (f : Fm) (ys : List Str) (as : List AVal) (m : AEnv) (σ : AHeap) (Q : AEnv → AHeap → Prop) : Prop :=
  f.Ok C n → ∀ fz s E vs, SR C f fz m σ s → Vs (At C fz) vs as → wpAny (Md C) f.A (assignInOrder (ys.map fun y => bindName f.env y) vs) (fun _ => PU C f fz s Q) E s
section
variable {C : Cx} {n : Nat} {f : Fm} {m : AEnv} {σ : AHeap}
theorem PU.up {s s₁ s' : Shared} {fz fz₁ : Fz} {Q : AEnv → AHeap → Prop} (h : ∀ p ∈ fz, p ∈ fz₁) (hs : Same s s₁) (x : PU C f fz₁ s₁ Q s') : PU C f fz s Q s' := by
  obtain ⟨fz', σ', m', h1, h2, h3, h4⟩ := x
  exact ⟨fz', σ', m', fun p hp => h1 p (h p hp), hs.trans h2, h3, h4⟩
theorem ta_name {y : Str} {pos : Pos} {a : AVal} {Q : AEnv → AHeap → Prop} (h : TS C n f y a m σ Q) : TA C n f (.Name y pos) a m σ Q := fun ok fz s E v x hv => assign_Name (h ok fz s E v x hv)
theorem tas_nil {Q : AEnv → AHeap → Prop} (h : Q m σ) : TAs C n f [] [] m σ Q := fun ok fz s E vs x hv => by cases hv; exact wpAny_assignInOrder_none ⟨fz, σ, m, sub_refl, .rfl, x, h⟩
theorem tas_cons {t : Expr} {ts : List Expr} {a : AVal} {as : List AVal} {Q : AEnv → AHeap → Prop} (h : TA C n f t a m σ fun m' σ' => TAs C n f ts as m' σ' Q)
    (he : (assignEach (t :: ts) f.env).map (·.2) = assign t f.env :: (assignEach ts f.env).map (·.2) := by rfl) : TAs C n f (t :: ts) (a :: as) m σ Q := fun ok fz s E vs x hv => by
  cases hv with
  | cons hv hvs =>
    rw [he]
    refine wpAny_assignInOrder_more (wpAny_mono (h ok fz s E _ x hv) (fun _ s₁ hq => PU.el hq fun fz₁ σ₁ m₁ u1 e1 x1 q1 => ?_) fun _ _ x => x)
    exact wpAny_mono (q1 ok fz₁ s₁ E _ x1 (hvs.up u1)) (fun _ s₂ p => .up u1 e1 p) fun _ _ x => x
theorem tss_nil {Q : AEnv → AHeap → Prop} (h : Q m σ) : TSs C n f [] [] m σ Q := fun ok fz s E vs x hv => by cases hv; exact wpAny_assignInOrder_none ⟨fz, σ, m, sub_refl, .rfl, x, h⟩
theorem tss_cons {y : Str} {ys : List Str} {a : AVal} {as : List AVal} {Q : AEnv → AHeap → Prop} (h : TS C n f y a m σ fun m' σ' => TSs C n f ys as m' σ' Q) : TSs C n f (y :: ys) (a :: as) m σ Q := fun ok fz s E vs x hv => by
  cases hv with
  | cons hv hvs =>
    refine wpAny_assignInOrder_more (wpAny_bindName (wpAny_mono (h ok fz s E _ x hv) (fun _ s₁ hq => PU.el hq fun fz₁ σ₁ m₁ u1 e1 x1 q1 => ?_) fun _ _ x => x))
    exact wpAny_mono (q1 ok fz₁ s₁ E _ x1 (hvs.up u1)) (fun _ s₂ p => .up u1 e1 p) fun _ _ x => x
theorem ext_keeps {h h' : Heap} (e : Heap.ExtBut h.objs.size h h') : ∀ b o, h.get? b = some o → h'.get? b = some o := fun b o q => e b o (Nat.ne_of_lt (Heap.lt_size q)) q
theorem V.tuple_ {fz : Fz} {s : Shared} (ok : f.Ok C n) (x : SR C f fz m σ s) {v : Value} {xs : List AVal} (h : V (At C fz) v (.tup xs)) : ∃ t vs, v = .ref t ∧ s.heap.IsTuple t vs.toArray ∧ Vs (At C fz) vs xs := by
  cases h with
  | tup h1 h2 h3 h4 => exact ⟨_, _, rfl, ⟨_, x.at_ ok h1, h2, _, h3⟩, h4⟩
theorem V.list_ {fz : Fz} {s : Shared} (ok : f.Ok C n) (x : SR C f fz m σ s) {v : Value} {xs : List AVal} (h : V (At C fz) v (.lst xs)) : ∃ t vs, v = .ref t ∧ s.heap.IsList t vs.toArray ∧ Vs (At C fz) vs xs := by
  cases h with
  | lst h1 h2 h3 h4 => exact ⟨_, _, rfl, ⟨_, x.at_ ok h1, h2, _, h3⟩, h4⟩
theorem w1_assignS {ts : List Expr} {k : Nat} {tp : Pos} {e : Expr} {pos : Pos} {names : List Str} {Q : AFlow → AEnv → AHeap → Prop} (h : WE C n f e m σ fun a σ₁ => ∃ as, a = .tup as ∧ as.length = names.length ∧ TSs C n f names.reverse as.reverse m σ₁ fun m' σ' => Q .next m' σ')
    (hw : swappedStores [.Tuple ts k tp] e f.env = pure (some names)) (hs : swapsWithSole [.Tuple ts k tp] e pos.line f.env = pure false := by rfl) : W1 C n f (.Assign [.Tuple ts k tp] e pos) m σ Q := fun ok fz s E x => by
  refine Assign_Tuple_swapped (wpAny_mono (h ok fz s E x) (fun v s₁ hq => hq.el fun fz₁ σ₁ a u1 e1 x1 va ⟨as, ea, hl, q1⟩ => ?_) fun _ _ x => x) hs hw
  subst ea
  obtain ⟨t, vs, rfl, ht, hvs⟩ := va.tuple_ ok x1
  have hlen : names.length = vs.toArray.size := by rw [List.size_toArray, hvs.length, hl]
  rw [hlen]
  refine wpAny_unpackItems_tuple ok.handled ht fun h' he => ?_
  exact wpAny_mono (q1 ok fz₁ { s₁ with heap := h' } E vs.reverse (x1.grow (t := s₁.toks) (ext_keeps he)) hvs.reverse) (fun _ s₂ hq => PU.el hq fun fz₂ σ₂ m₂ u2 e2 x2 q2 => ⟨fz₂, σ₂, m₂, .next, fun p hp => u2 p (u1 p hp), (e1.trans ⟨h', s₁.toks, rfl⟩).trans e2, x2, trivial, q2⟩) fun _ _ x => x

/-! ## loops -/
/-- the state, with some addresses kept apart -/
def SX (C : Cx) (f : Fm) (fz : Fz) (m : AEnv) (σ : AHeap) (wr : List Addr) (s : Shared) : Prop :=
  ∃ mc news δ, Fr f.h₀ f.L s.heap mc ∧ News f.h₀ f.L s.heap news ∧ HR C fz f.pin σ δ news ∧ ER (At C fz) m mc ∧ (∀ p ∈ news, p.1 ∉ wr) ∧ f.L ∉ wr ∧ ∀ b ∈ wr, f.h₀.get? b = none
theorem SX.sr {fz : Fz} {wr : List Addr} {s : Shared} (x : SX C f fz m σ wr s) : SR C f fz m σ s := by
  obtain ⟨mc, news, δ, F, N, R, e, _⟩ := x; exact ⟨mc, news, δ, F, N, R, e⟩
theorem SX.step {fz : Fz} {wr : List Addr} {s : Shared} {h' : Heap} {t : Nat} (x : SX C f fz m σ wr s) (k : ∀ b o, b ∉ wr → s.heap.get? b = some o → h'.get? b = some o) : SX C f fz m σ wr { s with heap := h', toks := t } := by
  obtain ⟨mc, news, δ, F, N, R, e, h1, h2, h3⟩ := x
  refine ⟨mc, news, δ, ⟨F.ns.at' fun o q => k _ o h2 q, fun b o q => k b o (fun hb => by rw [h3 b hb] at q; cases q) (F.keep b o q), F.above⟩, fun p hp => ⟨k _ _ (h1 p hp) (N p hp).1, (N p hp).2⟩, R, e, h1, h2, h3⟩
def ownP (wr : List Addr) (h : Heap) : Fz := wr.filterMap fun b => (h.get? b).map fun o => (b, o)
theorem mem_ownP {wr : List Addr} {h : Heap} {p : Addr × Obj} : p ∈ ownP wr h ↔ p.1 ∈ wr ∧ h.get? p.1 = some p.2 := by
  unfold ownP
  rw [List.mem_filterMap]
  constructor
  · rintro ⟨b, hb, e⟩
    obtain ⟨o, ho, rfl⟩ := Option.map_eq_some_iff.mp e
    exact ⟨hb, ho⟩
  · rintro ⟨h1, h2⟩
    exact ⟨p.1, h1, by rw [h2]; rfl⟩
theorem SX.pin {fz : Fz} {wr : List Addr} {s : Shared} (x : SX C f fz m σ wr s) : SR C (f.withPin (ownP wr s.heap ++ f.pin)) fz m σ s := by
  obtain ⟨mc, news, δ, F, N, R, e, h1, h2, h3⟩ := x
  have off : ∀ {p : Addr × Obj}, p ∈ ownP wr s.heap → p.1 ∈ wr := fun hp => (mem_ownP.mp hp).1
  have three : ∀ p ∈ fz ++ (ownP wr s.heap ++ f.pin), p ∈ ownP wr s.heap ∨ p ∈ fz ++ f.pin := fun p hp => by
    rcases List.mem_append.mp hp with hp | hp
    · exact .inr (List.mem_append_left _ hp)
    · rcases List.mem_append.mp hp with hp | hp
      · exact .inl hp
      · exact .inr (List.mem_append_right _ hp)
  refine ⟨mc, ownP wr s.heap ++ news, δ, F, fun p hp => ?_, ⟨fun p hp => ?_, fun p hp q hq => ?_, fun a ao h => (R.ob a ao h).mono (fun _ _ z => z) (fun _ q => List.mem_append_right _ q) fun _ _ _ _ q => List.mem_append_right _ q, fun a ao h p hp => ?_, fun a c as h p hp => ?_, R.dσ, R.free, R.dinj⟩, e⟩
  · rcases List.mem_append.mp hp with hp | hp
    · obtain ⟨a, b⟩ := mem_ownP.mp hp
      exact ⟨b, fun q => h2 (q ▸ a), h3 _ a⟩
    · exact N p hp
  · rcases three p hp with hp | hp
    · exact List.mem_append_left _ hp
    · exact List.mem_append_right _ (R.sub p hp)
  · rcases List.mem_append.mp hq with hq | hq
    · exact fun q' => h1 p (R.sub p (List.mem_append_left _ hp)) (q' ▸ off hq)
    · exact R.apart p hp q hq
  · rcases three p hp with hp | hp
    · obtain ⟨o, ho⟩ := (R.ob a ao h).key
      exact fun q => h1 _ ho (by show a ∈ wr; rw [← q]; exact off hp)
    · exact R.off a ao h p hp
  · rcases three p hp with hp | hp
    · obtain ⟨_, es, k, ho, _⟩ := R.ob a _ h
      exact fun q => h1 _ ho (by show δ a ∈ wr; rw [← q]; exact off hp)
    · exact R.doff a c as h p hp
theorem SX.unpin {fz : Fz} {wr : List Addr} {s : Shared} {own : Fz} (hl : ∀ b ∈ wr, ∃ o, (b, o) ∈ own) (hp : ∀ p ∈ f.pin, p.1 ∉ wr) (h2 : f.L ∉ wr) (h3 : ∀ b ∈ wr, f.h₀.get? b = none) (x : SR C (f.withPin (own ++ f.pin)) fz m σ s) : SX C f fz m σ wr s := by
  obtain ⟨mc, news, δ, F, N, R, e⟩ := x
  have inpin : ∀ {b o}, (b, o) ∈ own → (b, o) ∈ fz ++ (own ++ f.pin) := fun h => List.mem_append_right _ (List.mem_append_left _ h)
  have keepM : ∀ {p : Addr × Obj}, p ∈ news → p.1 ∉ wr → p ∈ news.filter (fun p => decide (p.1 ∉ wr)) := fun h q => List.mem_filter.mpr ⟨h, by simpa using q⟩
  have anw : ∀ a ao, σ a = some ao → a ∉ wr := fun a ao h q => by obtain ⟨o, ho⟩ := hl a q; exact R.off a ao h _ (inpin ho) rfl
  have dnw : ∀ a c as, σ a = some (.inst c as) → δ a ∉ wr := fun a c as h q => by obtain ⟨o, ho⟩ := hl _ q; exact R.doff a c as h _ (inpin ho) rfl
  have up : ∀ p ∈ fz ++ f.pin, p ∈ fz ++ (own ++ f.pin) := fun p hp => (List.mem_append.mp hp).elim (fun h => List.mem_append_left _ h) fun h => List.mem_append_right _ (List.mem_append_right _ h)
  refine ⟨mc, news.filter (fun p => decide (p.1 ∉ wr)), δ, F, fun p hp => N p (List.mem_filter.mp hp).1, ⟨fun p hp' => keepM (R.sub p (up p hp')) ?_, fun p hp q hq => R.apart p hp q (List.mem_append_right _ hq), fun a ao h => (R.ob a ao h).mono (fun _ _ z => z) (fun _ q => keepM q (anw a ao h)) fun c as ea _ q => keepM q (dnw a c as (ea ▸ h)), fun a ao h p hp => R.off a ao h p (up p hp), fun a c as h p hp => R.doff a c as h p (up p hp), R.dσ, R.free, R.dinj⟩, e, fun p hp => by simpa using (List.mem_filter.mp hp).2, h2, h3⟩
  rcases List.mem_append.mp hp' with h | h
  · intro q
    obtain ⟨o, ho⟩ := hl _ q
    exact R.apart p h _ (List.mem_append_left _ ho) rfl
  · exact hp p h
theorem Fm.Ok.pin {n : Nat} {p : Fz} (ok : f.Ok C n) : (f.withPin p).Ok C n := ⟨ok.below, ok.kin, ok.top, ok.hk, ok.stack, ok.handled, ok.guards, ok.depth, ok.units, ok.kind, ok.ckind⟩

/-- what a value yields when it is walked -/
structure Wk (C : Cx) (f : Fm) (fz : Fz) (I : Addr) (wr : List Addr) (xs : List AVal) (St : Nat → Heap → Prop) (Lent : Heap → Prop) (back : AHeap → AHeap) : Prop where
  go : ∀ i (s : Shared) (Q : Option Value → Shared → Prop) (E : Value → Shared → Prop) x, xs[i]? = some x → St i s.heap →
    (∀ v h' tk, V (At C fz) v x → St (i + 1) h' → (∀ b o, b ∉ wr → s.heap.get? b = some o → h'.get? b = some o) → Q (some v) { s with heap := h', toks := tk }) → wpAny (Md C) f.A (pyNext (.ref I)) Q E s
  done : ∀ (s : Shared) (Q : Option Value → Shared → Prop) (E : Value → Shared → Prop), St xs.length s.heap →
    (∀ h' tk, (∀ b o, b ∉ wr → s.heap.get? b = some o → h'.get? b = some o) → Lent h' → Q none { s with heap := h', toks := tk }) → wpAny (Md C) f.A (pyNext (.ref I)) Q E s
  live : ∀ i h, St i h → ∀ b ∈ wr, ∃ o, h.get? b = some o
  frame : ∀ i h h', St i h → (∀ b ∈ wr, ∀ o, h.get? b = some o → h'.get? b = some o) → (∀ b o, At C fz b o ∨ (b, o) ∈ f.pin → h'.get? b = some o) → St i h'
  lent : ∀ i h, St i h → Lent h
  back : ∀ fz' m' σ' s', (∀ p ∈ fz, p ∈ fz') → SX C f fz' m' σ' wr s' → Lent s'.heap → SR C f fz' m' (back σ') s'
  self : ∀ i (s : Shared) (Q : Value → Shared → Prop) (E : Value → Shared → Prop), St i s.heap → Q (.ref I) s → wpAny (Md C) f.A (pyIter (.ref I)) Q E s
  lentF : ∀ (h h' : Heap), Lent h → (∀ b ∈ wr, ∀ o, h.get? b = some o → h'.get? b = some o) → Lent h'
structure WkT (C : Cx) (f : Fm) (fz : Fz) (I : Addr) (wr : List Addr) (xs : List (List AVal)) (St : Nat → Heap → Prop) (Lent : Heap → Prop) (back : AHeap → AHeap) : Prop where
  go : ∀ i (s : Shared) (Q : Option Value → Shared → Prop) (E : Value → Shared → Prop) x, xs[i]? = some x → St i s.heap →
    (∀ T vs h' tk, Vs (At C fz) vs x → h'.IsTuple T vs.toArray → T ∉ wr → (∀ b o, b ∉ wr → s.heap.get? b = some o → h'.get? b = some o) →
      (∀ ts k pos (s₂ : Shared) (Q₂ : Unit → Shared → Prop) (E₂ : Value → Shared → Prop), s₂.heap = h' → (∀ h₂, St (i + 1) h₂ → (∀ b o, b ∉ wr → h'.get? b = some o → h₂.get? b = some o) → Q₂ () { s₂ with heap := h₂ }) → wpAny (Md C) f.A (letOwnedTupleGo (.Tuple ts k pos) (.ref I) (.ref T)) Q₂ E₂ s₂) →
      Q (some (.ref T)) { s with heap := h', toks := tk }) → wpAny (Md C) f.A (pyNext (.ref I)) Q E s
  done : ∀ (s : Shared) (Q : Option Value → Shared → Prop) (E : Value → Shared → Prop), St xs.length s.heap →
    (∀ h' tk, (∀ b o, b ∉ wr → s.heap.get? b = some o → h'.get? b = some o) → Lent h' → Q none { s with heap := h', toks := tk }) → wpAny (Md C) f.A (pyNext (.ref I)) Q E s
  live : ∀ i h, St i h → ∀ b ∈ wr, ∃ o, h.get? b = some o
  frame : ∀ i h h', St i h → (∀ b ∈ wr, ∀ o, h.get? b = some o → h'.get? b = some o) → (∀ b o, At C fz b o ∨ (b, o) ∈ f.pin → h'.get? b = some o) → St i h'
  lent : ∀ i h, St i h → Lent h
  back : ∀ fz' m' σ' s', (∀ p ∈ fz, p ∈ fz') → SX C f fz' m' σ' wr s' → Lent s'.heap → SR C f fz' m' (back σ') s'
/-- the head of a for: the value and its iterator -/
def WI (C : Cx) (n : Nat) (f : Fm) (e : Expr) (m : AEnv) (σ : AHeap) (Q : (AHeap → AHeap) → List AVal → AHeap → Prop) : Prop :=
  f.Ok C n → ∀ fz s E, SR C f fz m σ s → wpAny (Md C) f.A (eval e f.env) (fun v s₁ => wpAny (Md C) f.A (pyIter v) (fun it s' => ∃ fz' σ' I wr xs St Lent back, it = .ref I ∧ (∀ p ∈ fz, p ∈ fz') ∧ Same s s' ∧ SX C f fz' m σ' wr s' ∧ Wk C f fz' I wr xs St Lent back ∧ St 0 s'.heap ∧ Q back xs σ') E s₁) E s
def WIT (C : Cx) (n : Nat) (f : Fm) (e : Expr) (m : AEnv) (σ : AHeap) (Q : (AHeap → AHeap) → List (List AVal) → AHeap → Prop) : Prop :=
  f.Ok C n → ∀ fz s E, SR C f fz m σ s → wpAny (Md C) f.A (eval e f.env) (fun v s₁ => wpAny (Md C) f.A (pyIter v) (fun it s' => ∃ fz' σ' I wr xs St Lent back, it = .ref I ∧ (∀ p ∈ fz, p ∈ fz') ∧ Same s s' ∧ SX C f fz' m σ' wr s' ∧ WkT C f fz' I wr xs St Lent back ∧ St 0 s'.heap ∧ Q back xs σ') E s₁) E s
def TI (C : Cx) (n : Nat) (f : Fm) (a : AVal) (m : AEnv) (σ : AHeap) (Q : (AHeap → AHeap) → List AVal → AHeap → Prop) : Prop :=
  f.Ok C n → ∀ fz s E v, SR C f fz m σ s → V (At C fz) v a → wpAny (Md C) f.A (pyIter v) (fun it s' => ∃ fz' σ' I wr xs St Lent back, it = .ref I ∧ (∀ p ∈ fz, p ∈ fz') ∧ Same s s' ∧ SX C f fz' m σ' wr s' ∧ Wk C f fz' I wr xs St Lent back ∧ St 0 s'.heap ∧ Q back xs σ') E s
theorem wi {e : Expr} {Q : (AHeap → AHeap) → List AVal → AHeap → Prop} (h : WE C n f e m σ fun a σ₁ => TI C n f a m σ₁ Q) : WI C n f e m σ Q := fun ok fz s E x =>
  wpAny_mono (h ok fz s E x) (fun v s₁ hq => hq.el fun fz₁ σ₁ a u1 e1 x1 va q1 => wpAny_mono (q1 ok fz₁ s₁ E v x1 va) (fun it s₂ ⟨fz₂, σ₂, I, wr, xs, St, Lent, back, ei, u2, e2, r⟩ => ⟨fz₂, σ₂, I, wr, xs, St, Lent, back, ei, fun p hp => u2 p (u1 p hp), e1.trans e2, r⟩) fun _ _ x => x) fun _ _ x => x
/-- one turn: what must hold behind the body -/
def Turn (back : AHeap → AHeap) (Inv : AEnv → AHeap → Prop) (Q : AFlow → AEnv → AHeap → Prop) : AFlow → AEnv → AHeap → Prop
  | .next, m, σ => ∃ m' σ', (∀ y a, AEnv.get m' y = some a → AEnv.get m y = some a) ∧ AHeap.le σ' σ ∧ Inv m' σ'
  | .cont, m, σ => ∃ m' σ', (∀ y a, AEnv.get m' y = some a → AEnv.get m y = some a) ∧ AHeap.le σ' σ ∧ Inv m' σ'
  | .brk, m, σ => Q .next m (back σ)
  | .ret a, m, σ => Q (.ret a) m (back σ)
theorem w1_forB {y : Str} {py : Pos} {iter : Expr} {body : List Stmt} {pos : Pos} {Q : AFlow → AEnv → AHeap → Prop} (Inv : (AHeap → AHeap) → List AVal → AEnv → AHeap → Prop)
    (h : WI C n f iter m σ fun back xs σ₂ => Inv back xs m σ₂)
    (turn : ∀ back pin x xs m' σ', Inv back (x :: xs) m' σ' → TS C n (f.withPin pin) y x m' σ' fun m₁ σ₁ => WS C n (f.withPin pin) body m₁ σ₁ (Turn back (Inv back xs) Q))
    (done : ∀ back m' σ', Inv back [] m' σ' → Q .next m' (back σ')) (hs : ∀ x, foldedSetIterable iter f.env x = pure x := by intro _; rfl) : W1 C n f (.For (.Name y py) iter body [] pos) m σ Q := fun ok fz s E x => by
  refine wpAny_For (wpAny_mono (h ok fz s E x) (fun v s₁ q1 => wpAny_mono q1 (fun it s₂ ⟨fz₂, σ₂, I, wr, xs, St, Lent, back, ei, u2, e2, x2, W, st, q2⟩ => ?_) fun _ _ x => x) fun _ _ x => x) hs
  subst ei
  have hpin : ∀ p ∈ f.pin, p.1 ∉ wr := by
    obtain ⟨mc, news, δ, F, N, R, e, h1, h2, h3⟩ := x2
    exact fun p hp => h1 p (R.sub p (List.mem_append_right _ hp))
  have hL : f.L ∉ wr := by obtain ⟨mc, news, δ, F, N, R, e, h1, h2, h3⟩ := x2; exact h2
  have h0 : ∀ b ∈ wr, f.h₀.get? b = none := by obtain ⟨mc, news, δ, F, N, R, e, h1, h2, h3⟩ := x2; exact h3
  refine codeAny_forLoop (fun k s' => ∃ fz' m' σ' i, (∀ p ∈ fz₂, p ∈ fz') ∧ Same s₂ s' ∧ SX C f fz' m' σ' wr s' ∧ St i s'.heap ∧ Inv back (xs.drop i) m' σ' ∧ i ≤ xs.length ∧ k = xs.length - i) ?_ (xs.length) ⟨fz₂, m, σ₂, 0, sub_refl, .rfl, x2, st, q2, Nat.zero_le _, rfl⟩
  rintro k s' ⟨fz', m', σ', i, u3, e3, x3, st3, q3, hi, rfl⟩
  have uu : ∀ p ∈ fz, p ∈ fz' := fun p hp => u3 p (u2 p hp)
  cases hx : xs[i]? with
  | none =>
    have hlen : i = xs.length := by have := List.getElem?_eq_none_iff.mp hx; omega
    subst hlen
    refine W.done _ _ _ st3 fun h' tk k hl => wpAny_execs_nil ?_
    rw [List.drop_length] at q3
    exact ⟨fz', back σ', m', .next, uu, (e2.trans e3).trans ⟨_, _, rfl⟩, W.back _ _ _ _ u3 (x3.step (t := tk) k) hl, trivial, done _ _ _ q3⟩
  | some b =>
    obtain ⟨hlt, hb⟩ := List.getElem?_eq_some_iff.mp hx
    have hd : xs.drop i = b :: xs.drop (i + 1) := by rw [List.drop_eq_getElem_cons hlt, hb]
    rw [hd] at q3
    refine W.go i _ _ _ b hx st3 fun v h' tk hv st' k => ?_
    have x4 := x3.step (t := tk) k
    have x5 := x4.pin
    refine PyProof.Rows.assign_Name (wpAny_mono (turn back (ownP wr h' ++ f.pin) b _ m' σ' q3 ok.pin fz' _ _ v x5 (hv.up u3)) (fun _ s₅ hq => PU.el hq fun fz₅ σ₅ m₅ u5 e5 x6 q5 => ?_) fun _ _ x => x)
    refine wpAny_mono (q5 ok.pin fz₅ s₅ _ x6) (fun fl s₆ hq => hq.el fun fz₆ σ₆ m₆ a₆ u6 e6 x7 va6 q6 => ?_) fun _ _ x => x
    have es : Same s s₆ := ((((e2.trans e3).trans ⟨_, _, rfl⟩).trans e5).trans e6)
    have us : ∀ p ∈ fz, p ∈ fz₆ := fun p hp => u6 p (u5 p (uu p hp))
    have u26 : ∀ p ∈ fz₂, p ∈ fz₆ := fun p hp => u6 p (u5 p (u3 p hp))
    have un : ∀ {m' : AEnv} {σ' : AHeap}, SR C (f.withPin (ownP wr h' ++ f.pin)) fz₆ m' σ' s₆ → SX C f fz₆ m' σ' wr s₆ := fun x => SX.unpin (fun b hb => by obtain ⟨o, ho⟩ := W.live _ _ st' b hb; exact ⟨o, (mem_ownP (p := (b, o))).mpr ⟨hb, ho⟩⟩) hpin hL h0 x
    have st6 : St (i + 1) s₆.heap := by
      refine W.frame _ _ _ st' (fun b hb o ho => ?_) fun b o q => ?_
      · obtain ⟨mc, news, δ, F, N, R, e⟩ := x7
        exact (N _ (R.sub _ (List.mem_append_right _ (List.mem_append_left _ ((mem_ownP (p := (b, o))).mpr ⟨hb, ho⟩))))).1
      · rcases q with q | q
        · exact (x7.at_ ok.pin (q.mono u26))
        · obtain ⟨mc, news, δ, F, N, R, e⟩ := x7
          exact (N _ (R.sub _ (List.mem_append_right _ (List.mem_append_right _ q)))).1
    have bk := W.back _ _ _ _ u26 (un x7) (W.lent _ _ st6)
    have next : Turn back (Inv back (xs.drop (i + 1))) Q .next m₆ σ₆ → ∃ m, m < xs.length - i ∧ ∃ fz' m' σ' i, (∀ p ∈ fz₂, p ∈ fz') ∧ Same s₂ s₆ ∧ SX C f fz' m' σ' wr s₆ ∧ St i s₆.heap ∧ Inv back (xs.drop i) m' σ' ∧ i ≤ xs.length ∧ m = xs.length - i := by
      rintro ⟨m₇, σ₇, hm, hσ, q7⟩
      exact ⟨xs.length - (i + 1), by omega, fz₆, m₇, σ₇, i + 1, u26, ((e3.trans ⟨_, _, rfl⟩).trans e5).trans e6, un (x7.weaken hm hσ), st6, q7, hlt, rfl⟩
    cases fl with
    | next => cases a₆ <;> first | exact next q6 | exact va6.elim
    | cont => cases a₆ <;> first | exact next q6 | exact va6.elim
    | brk => cases a₆ <;> first | exact ⟨fz₆, back σ₆, m₆, .next, us, es, bk, trivial, q6⟩ | exact va6.elim
    | ret r => cases a₆ <;> first | exact ⟨fz₆, back σ₆, m₆, .ret _, us, es, bk, va6, q6⟩ | exact va6.elim
theorem w1_forTB {ts : List Expr} {tk : Nat} {tp : Pos} {iter : Expr} {body : List Stmt} {pos : Pos} {Q : AFlow → AEnv → AHeap → Prop} (Inv : (AHeap → AHeap) → List (List AVal) → AEnv → AHeap → Prop)
    (h : WIT C n f iter m σ fun back xs σ₂ => Inv back xs m σ₂)
    (turn : ∀ back pin x xs m' σ', Inv back (x :: xs) m' σ' → (assignEach ts f.env).length = x.length ∧ TAs C n (f.withPin pin) ts x m' σ' fun m₁ σ₁ => WS C n (f.withPin pin) body m₁ σ₁ (Turn back (Inv back xs) Q))
    (done : ∀ back m' σ', Inv back [] m' σ' → Q .next m' (back σ')) (hstar : (assignEach ts f.env).findIdx? (·.1) = none := by rfl) (hs : ∀ x, foldedSetIterable iter f.env x = pure x := by intro _; rfl) : W1 C n f (.For (.Tuple ts tk tp) iter body [] pos) m σ Q := fun ok fz s E x => by
  refine wpAny_For (wpAny_mono (h ok fz s E x) (fun v s₁ q1 => wpAny_mono q1 (fun it s₂ ⟨fz₂, σ₂, I, wr, xs, St, Lent, back, ei, u2, e2, x2, W, st, q2⟩ => ?_) fun _ _ x => x) fun _ _ x => x) hs
  subst ei
  have hpin : ∀ p ∈ f.pin, p.1 ∉ wr := by
    obtain ⟨mc, news, δ, F, N, R, e, h1, h2, h3⟩ := x2
    exact fun p hp => h1 p (R.sub p (List.mem_append_right _ hp))
  have hL : f.L ∉ wr := by obtain ⟨mc, news, δ, F, N, R, e, h1, h2, h3⟩ := x2; exact h2
  have h0 : ∀ b ∈ wr, f.h₀.get? b = none := by obtain ⟨mc, news, δ, F, N, R, e, h1, h2, h3⟩ := x2; exact h3
  refine codeAny_forLoop_any (fun k s' => ∃ fz' m' σ' i, (∀ p ∈ fz₂, p ∈ fz') ∧ Same s₂ s' ∧ SX C f fz' m' σ' wr s' ∧ St i s'.heap ∧ Inv back (xs.drop i) m' σ' ∧ i ≤ xs.length ∧ k = xs.length - i) ?_ (xs.length) ⟨fz₂, m, σ₂, 0, sub_refl, .rfl, x2, st, q2, Nat.zero_le _, rfl⟩
  rintro k s' ⟨fz', m', σ', i, u3, e3, x3, st3, q3, hi, rfl⟩
  have uu : ∀ p ∈ fz, p ∈ fz' := fun p hp => u3 p (u2 p hp)
  cases hx : xs[i]? with
  | none =>
    have hlen : i = xs.length := by have := List.getElem?_eq_none_iff.mp hx; omega
    subst hlen
    refine W.done _ _ _ st3 fun h' tk k hl => wpAny_execs_nil ?_
    rw [List.drop_length] at q3
    exact ⟨fz', back σ', m', .next, uu, (e2.trans e3).trans ⟨_, _, rfl⟩, W.back _ _ _ _ u3 (x3.step (t := tk) k) hl, trivial, done _ _ _ q3⟩
  | some b =>
    obtain ⟨hlt, hb⟩ := List.getElem?_eq_some_iff.mp hx
    have hd : xs.drop i = b :: xs.drop (i + 1) := by rw [List.drop_eq_getElem_cons hlt, hb]
    rw [hd] at q3
    refine W.go i _ _ _ b hx st3 fun T vs h₁ tk₁ hvs hT hTw k₁ hgo => ?_
    refine hgo _ _ _ _ _ _ rfl fun h' st' k₂ => ?_
    have x4 := (x3.step (t := tk₁) k₁).step (t := tk₁) k₂
    have x5 := x4.pin
    obtain ⟨hn, tn⟩ := turn back (ownP wr h' ++ f.pin) b _ m' σ' q3
    have hT' : h'.IsTuple T vs.toArray := by obtain ⟨o, ho, r⟩ := hT; exact ⟨o, k₂ _ _ hTw ho, r⟩
    refine wpAny_assign_Tuple ok.handled hT' (by rw [hn, List.size_toArray, hvs.length]) hstar fun h'' he => ?_
    have x5' := x5.grow (t := tk₁) (ext_keeps he)
    refine wpAny_mono (tn ok.pin fz' { s' with heap := h'', toks := tk₁ } _ vs x5' (hvs.up u3)) (fun _ s₅ hq => PU.el hq fun fz₅ σ₅ m₅ u5 e5 x6 q5 => ?_) fun _ _ x => x
    refine wpAny_mono (q5 ok.pin fz₅ s₅ _ x6) (fun fl s₆ hq => hq.el fun fz₆ σ₆ m₆ a₆ u6 e6 x7 va6 q6 => ?_) fun _ _ x => x
    have e35 : Same s₂ s₆ := ((e3.trans ⟨h'', tk₁, rfl⟩).trans e5).trans e6
    have us : ∀ p ∈ fz, p ∈ fz₆ := fun p hp => u6 p (u5 p (uu p hp))
    have u26 : ∀ p ∈ fz₂, p ∈ fz₆ := fun p hp => u6 p (u5 p (u3 p hp))
    have un : ∀ {m' : AEnv} {σ' : AHeap}, SR C (f.withPin (ownP wr h' ++ f.pin)) fz₆ m' σ' s₆ → SX C f fz₆ m' σ' wr s₆ := fun x => SX.unpin (fun b hb => by obtain ⟨o, ho⟩ := W.live _ _ st' b hb; exact ⟨o, (mem_ownP (p := (b, o))).mpr ⟨hb, ho⟩⟩) hpin hL h0 x
    have st6 : St (i + 1) s₆.heap := by
      refine W.frame _ _ _ st' (fun b hb o ho => ?_) fun b o q => ?_
      · obtain ⟨mc, news, δ, F, N, R, e⟩ := x7
        exact (N _ (R.sub _ (List.mem_append_right _ (List.mem_append_left _ ((mem_ownP (p := (b, o))).mpr ⟨hb, ho⟩))))).1
      · rcases q with q | q
        · exact (x7.at_ ok.pin (q.mono u26))
        · obtain ⟨mc, news, δ, F, N, R, e⟩ := x7
          exact (N _ (R.sub _ (List.mem_append_right _ (List.mem_append_right _ q)))).1
    have bk := W.back _ _ _ _ u26 (un x7) (W.lent _ _ st6)
    have next : Turn back (Inv back (xs.drop (i + 1))) Q .next m₆ σ₆ → ∃ m, m < xs.length - i ∧ ∃ fz' m' σ' i, (∀ p ∈ fz₂, p ∈ fz') ∧ Same s₂ s₆ ∧ SX C f fz' m' σ' wr s₆ ∧ St i s₆.heap ∧ Inv back (xs.drop i) m' σ' ∧ i ≤ xs.length ∧ m = xs.length - i := by
      rintro ⟨m₇, σ₇, hm, hσ, q7⟩
      exact ⟨xs.length - (i + 1), by omega, fz₆, m₇, σ₇, i + 1, u26, e35, un (x7.weaken hm hσ), st6, q7, hlt, rfl⟩
    cases fl with
    | next => cases a₆ <;> first | exact next q6 | exact va6.elim
    | cont => cases a₆ <;> first | exact next q6 | exact va6.elim
    | brk => cases a₆ <;> first | exact ⟨fz₆, back σ₆, m₆, .next, us, e2.trans e35, bk, trivial, q6⟩ | exact va6.elim
    | ret r => cases a₆ <;> first | exact ⟨fz₆, back σ₆, m₆, .ret _, us, e2.trans e35, bk, va6, q6⟩ | exact va6.elim
end
end Mine

open PySem PySem.W PyProof.Rows PySem.Calls
namespace Mine
section
variable {C : Cx} {n : Nat} {f : Fm} {m : AEnv} {σ : AHeap}
theorem ge_none {h : Heap} {a : Addr} (ha : h.objs.size ≤ a) : h.get? a = none := by
  cases q : h.get? a with
  | none => rfl
  | some o => exact absurd (Heap.lt_size q) (Nat.not_lt.mpr ha)
/-- one new frozen object -/
theorem PV.new {fz : Fz} {s : Shared} {Q : AVal → AHeap → Prop} {a : AVal} {h' : Heap} {t : Nat} {b : Addr} {o : Obj} (x : SR C f fz m σ s) (k : ∀ b o, s.heap.get? b = some o → h'.get? b = some o) (hb : s.heap.objs.size ≤ b) (ho : h'.get? b = some o)
    (hv : ∀ fz', (b, o) ∈ fz' → (∀ p ∈ fz, p ∈ fz') → V (At C fz') (.ref b) a) (q : Q a σ) : PV C f m fz s Q (.ref b) { s with heap := h', toks := t } :=
  ⟨[(b, o)] ++ fz, σ, a, fun p hp => List.mem_append_right _ hp, .mk, x.freeze (t := t) k _ (fun p hp => by rw [List.mem_singleton.mp hp]; exact ⟨ge_none hb, hb, ho⟩), hv _ (List.mem_append_left _ (List.mem_singleton.mpr rfl)) (fun p hp => List.mem_append_right _ hp), q⟩
theorem PV.push {fz : Fz} {s : Shared} {Q : AVal → AHeap → Prop} {a : AVal} {t : Nat} {o : Obj} (x : SR C f fz m σ s) (hf : o.isFreed = false) (hv : ∀ fz', (s.heap.objs.size, o) ∈ fz' → (∀ p ∈ fz, p ∈ fz') → V (At C fz') (.ref s.heap.objs.size) a) (q : Q a σ) :
    PV C f m fz s Q (.ref s.heap.objs.size) { s with heap := s.heap.push o, toks := t } := .new x (fun b o e => Heap.get?_push_of_some _ e) (Nat.le_refl _) (Heap.get?_push_size _ hf) hv q
theorem PV.grow {fz : Fz} {s : Shared} {Q : AVal → AHeap → Prop} {v : Value} {a : AVal} {h' : Heap} {t : Nat} (x : SR C f fz m σ s) (k : ∀ b o, s.heap.get? b = some o → h'.get? b = some o) (hv : V (At C fz) v a) (q : Q a σ) : PV C f m fz s Q v { s with heap := h', toks := t } :=
  ⟨fz, σ, a, sub_refl, .mk, x.grow (t := t) k, hv, q⟩

/-! ## ints -/
section
variable {Q : AVal → AHeap → Prop} {a b : Int}
theorem t2_add (h : Q (.int (a + b)) σ) : T2 C n f (binaryOp .Add) (.int a) (.int b) m σ Q := fun ok fz s E v w x hv hw => by cases hv; cases hw; exact add_int (.tok x (.int _ _) h)
theorem t2_sub (h : Q (.int (a - b)) σ) : T2 C n f (binaryOp .Sub) (.int a) (.int b) m σ Q := fun ok fz s E v w x hv hw => by cases hv; cases hw; exact sub_int (.tok x (.int _ _) h)
theorem t2_div (hb : b ≠ 0) (hs : b.natAbs < 1073741824) (h : Q (.int (a.fdiv b)) σ) : T2 C n f (binaryOp .FloorDiv) (.int a) (.int b) m σ Q := fun ok fz s E v w x hv hw => by cases hv; cases hw; exact floordiv_int hb (.tok x (.int _ _) h) (.inl (PyProof.noPylong_small hs))
theorem t2_mod (hb : b ≠ 0) (hs : b.natAbs < 1073741824) (h : Q (.int (a.fmod b)) σ) : T2 C n f (binaryOp .Mod) (.int a) (.int b) m σ Q := fun ok fz s E v w x hv hw => by cases hv; cases hw; exact mod_int' hb (.tok x (.int _ _) h)
theorem t2_pow (hn : 0 ≤ b) (hb : b ≤ 1000000) (ha : a.natAbs < 2 ^ 64) (h : Q (.int (a ^ b.toNat)) σ) : T2 C n f (binaryOp .Pow) (.int a) (.int b) m σ Q := fun ok fz s E v w x hv hw => by cases hv; cases hw; exact pow_int_small hn hb ha (.tok x (.int _ _) h)
theorem t2_eq (h : Q (.bool (a == b)) σ) : T2 C n f (compareOp .Eq) (.int a) (.int b) m σ Q := fun ok fz s E v w x hv hw => by cases hv; cases hw; exact PyProof.Rows.eq_int (.here x (.bool _) h)
theorem t2_ne (h : Q (.bool (a != b)) σ) : T2 C n f (compareOp .NotEq) (.int a) (.int b) m σ Q := fun ok fz s E v w x hv hw => by cases hv; cases hw; exact PyProof.Rows.ne_int (.here x (.bool _) h)
end

/-! ## None -/
def isNone : AVal → Option Bool
  | .none => some true
  | .raw _ => Option.none
  | _ => some false
theorem isNone_ok {P : Addr → Obj → Prop} {v : Value} {a : AVal} {b : Bool} (h : V P v a) (e : isNone a = some b) : (v == Value.none) = b := by
  cases h <;> simp [isNone] at e <;> subst e <;> rfl
theorem t2_isNone {a : AVal} {b : Bool} {Q : AVal → AHeap → Prop} (e : isNone a = some b) (h : Q (.bool b) σ) : T2 C n f (compareOp .Is) a .none m σ Q := fun ok fz s E v w x hv hw => by
  have := isNone_ok hv e
  cases hw; exact is_none (by rw [this]; exact .here x (.bool _) h)
theorem t2_isNotNone {a : AVal} {b : Bool} {Q : AVal → AHeap → Prop} (e : isNone a = some b) (h : Q (.bool (!b)) σ) : T2 C n f (compareOp .IsNot) a .none m σ Q := fun ok fz s E v w x hv hw => by
  have := isNone_ok hv e
  cases hw; exact isNot_none (by rw [this]; exact .here x (.bool _) h)

/-! ## builtins called -/
theorem keep_builtin {h : Heap} {i : String} : Keep C h (.builtin i) := ⟨.machine, .inr (.inl rfl), Looks.of_pure rfl⟩
theorem keep_type {h : Heap} {i : String} : Keep C h (.type i) := ⟨.machine, .inr (.inl rfl), Looks.of_pure rfl⟩
theorem tc_range1 {a : Int} {Q : AVal → AHeap → Prop} (h : Q (.rng 0 a 1) σ) : TC C n f (.raw (.type "range")) [.int a] m σ Q := fun ok fz s E v vs x hv hvs => by
  cases hv; obtain _ | ⟨h1, h2⟩ := hvs; cases h2; cases h1
  exact ⟨keep_type, call_range_1 (.push x rfl (fun fz' h _ => .rng (.inl h)) h)⟩
/-! ## iterators -/
theorem SX.ofPush {fz : Fz} {s : Shared} {o : Obj} {t : Nat} (x : SR C f fz m σ s) : SX C f fz m σ [s.heap.objs.size] { s with heap := s.heap.push o, toks := t } := by
  obtain ⟨mc, news, δ, F, N, R, e⟩ := x
  obtain ⟨oL, a1, a2, hL, a3⟩ := id F.ns
  refine ⟨mc, news, δ, F.push o, fun p hp => ⟨Heap.get?_push_of_some _ (N p hp).1, (N p hp).2⟩, R, e, fun p hp hm => ?_, fun hm => ?_, fun b hb => ?_⟩
  · exact absurd (news_lt N hp) (by rw [List.mem_singleton.mp hm]; exact Nat.lt_irrefl _)
  · exact absurd (Heap.lt_size hL) (by rw [List.mem_singleton.mp hm]; exact Nat.lt_irrefl _)
  · rw [List.mem_singleton.mp hb]
    cases q : f.h₀.get? s.heap.objs.size with
    | none => rfl
    | some o => exact absurd (Heap.lt_size (F.keep _ _ q)) (Nat.lt_irrefl _)
theorem ti_lst {xs : List AVal} {Q : (AHeap → AHeap) → List AVal → AHeap → Prop} (h : Q id xs σ) : TI C n f (.lst xs) m σ Q := fun ok fz s E v x hv => by
  cases hv with
  | lst p1 p2 p3 p4 =>
    rename_i l o k vs
    have ho := x.at_ ok p1
    have hl : s.heap.IsList l vs.toArray := ⟨_, ho, p2, _, p3⟩
    have hne : l ≠ s.heap.objs.size := Nat.ne_of_lt (Heap.lt_size ho)
    refine wpAny_pyIter_list hl ?_
    have W := Walks.list (prog := C.prog) (w := C.w) ok.handled s.heap.objs.size l hne vs.toArray
    refine ⟨fz, σ, s.heap.objs.size, [s.heap.objs.size], xs, fun i h => h.IsListIter s.heap.objs.size l i ∧ h.IsList l vs.toArray, fun _ => True, id, rfl, sub_refl, ⟨_, s.toks, rfl⟩, SX.ofPush (t := s.toks) x, ⟨?_, ?_, ?_, ?_, fun _ _ _ => trivial, fun _ _ _ _ _ x _ => x.sr, fun i s Q E h q => W.self i s Q E h q, fun _ _ _ _ => trivial⟩, ⟨⟨_, Heap.get?_push_size _ rfl, rfl, rfl⟩, hl.at fun o e => Heap.get?_push_of_some _ e⟩, h⟩
    · intro i s Q E y hy hs hQ
      have hi : i < vs.toArray.size := by rw [List.size_toArray, p4.length]; exact (List.getElem?_eq_some_iff.mp hy).1
      refine W.item i s Q E hi hs fun v h' tk hv => hQ v h' tk ?_
      obtain ⟨u, h1, h2⟩ := p4.get hy
      have : vs[i]? = some v := by simpa using hv
      rw [h1] at this; cases this; exact h2
    · intro s Q E hs hQ
      have hz : vs.toArray.size = xs.length := by rw [List.size_toArray, p4.length]
      refine W.done s Q E (by rw [hz]; exact hs) fun h' tk k => hQ h' tk k trivial
    · intro i h hs b hb
      rw [List.mem_singleton.mp hb]
      obtain ⟨o, h1, _⟩ := hs.1; exact ⟨o, h1⟩
    · intro i h h' hs hw hp
      exact ⟨hs.1.at fun o e => hw _ (List.mem_singleton.mpr rfl) o e, ⟨_, hp _ _ (.inl p1), p2, _, p3⟩⟩
def rngL (a c : Int) (k : Nat) : List AVal := (List.range k).map fun (i : Nat) => AVal.int (a + (i : Int) * c)
theorem ti_rng {a b c : Int} {k : Nat} {Q : (AHeap → AHeap) → List AVal → AHeap → Prop} (hsmall : Builtin.Range.small a b c = true) (hk : Builtin.Range.rangeSize a b c = (k : Int)) (h : Q id (rngL a c k) σ) : TI C n f (.rng a b c) m σ Q := fun ok fz s E v x hv => by
  cases hv with
  | rng p1 =>
    have ho := x.at_ ok p1
    refine wpAny_pyIter_range ho hsmall ?_
    have W := Walks.range (prog := C.prog) (w := C.w) ok.handled s.heap.objs.size a c k
    have hlen : (rngL a c k).length = k := by simp [rngL]
    refine ⟨fz, σ, s.heap.objs.size, [s.heap.objs.size], rngL a c k, fun i h => IsRangeIter h s.heap.objs.size (a + (i : Nat) * c) ((k : Int) - (i : Nat)) c, fun _ => True, id, rfl, sub_refl, ⟨_, s.toks, rfl⟩, SX.ofPush (t := s.toks) x, ⟨?_, ?_, ?_, ?_, fun _ _ _ => trivial, fun _ _ _ _ _ x _ => x.sr, fun i s Q E h q => W.self i s Q E h q, fun _ _ _ _ => trivial⟩, ?_, h⟩
    · intro i s Q E y hy hs hQ
      have hi : i < k := by have := (List.getElem?_eq_some_iff.mp hy).1; omega
      refine W.item i s Q E hi hs fun v h' tk hv => hQ v h' tk ?_
      obtain ⟨t, rfl⟩ := hv
      have : y = .int (a + i * c) := by simp [rngL, hi] at hy; exact hy.symm
      subst this
      exact .int _ _
    · intro s Q E hs hQ
      exact W.done s Q E (by rw [hlen] at hs; exact hs) fun h' tk k => hQ h' tk k trivial
    · intro i h hs b hb
      rw [List.mem_singleton.mp hb]
      exact ⟨_, hs⟩
    · intro i h h' hs hw hp
      exact hw _ (List.mem_singleton.mpr rfl) _ hs
    · show IsRangeIter _ _ _ _ _
      rw [hk]
      simpa using Heap.get?_push_size s.heap (o := { cls := .type "range_iterator", data := .fields #[rawInt a, rawInt k, rawInt c] }) rfl
theorem w1_for {y : Str} {py : Pos} {iter : Expr} {body : List Stmt} {pos : Pos} {Q : AFlow → AEnv → AHeap → Prop} (Inv : List AVal → AEnv → AHeap → Prop)
    (h : WI C n f iter m σ fun back xs σ₂ => back = id ∧ Inv xs m σ₂)
    (turn : ∀ pin x xs m' σ', Inv (x :: xs) m' σ' → TS C n (f.withPin pin) y x m' σ' fun m₁ σ₁ => WS C n (f.withPin pin) body m₁ σ₁ (Turn id (Inv xs) Q))
    (done : ∀ m' σ', Inv [] m' σ' → Q .next m' σ') (hs : ∀ x, foldedSetIterable iter f.env x = pure x := by intro _; rfl) : W1 C n f (.For (.Name y py) iter body [] pos) m σ Q := by
  refine w1_forB (fun back xs m σ => back = id ∧ Inv xs m σ) h (fun back pin x xs m' σ' ⟨e, q⟩ => ?_) (fun back m' σ' ⟨e, q⟩ => by subst e; exact done _ _ q) hs
  subst e
  have key : Turn id (Inv xs) Q = Turn id (fun m σ => id = (id : AHeap → AHeap) ∧ Inv xs m σ) Q := by
    funext a m σ; cases a <;> simp [Turn]
  rw [← key]
  exact turn pin x xs m' σ' q
end
end Mine

open PySem PySem.W PyProof.Rows PySem.Calls
namespace Mine
section
variable {C : Cx} {n : Nat} {f : Fm} {m : AEnv} {σ : AHeap}
theorem HR.addFz {fz pin : Fz} {δ : Addr → Addr} {news : List (Addr × Obj)} (R : HR C fz pin σ δ news) (new : Fz) (hn : ∀ p ∈ new, ∀ q ∈ news, q.1 ≠ p.1) : HR C (new ++ fz) pin σ δ (new ++ news) := by
  have up : ∀ p ∈ fz, p ∈ new ++ fz := fun p hp => List.mem_append_right _ hp
  have split : ∀ p ∈ (new ++ fz) ++ pin, p ∈ new ∨ p ∈ fz ++ pin := fun p hp => by rw [List.append_assoc] at hp; exact List.mem_append.mp hp
  refine ⟨fun p hp => ?_, fun p hp q hq => ?_, fun a ao h => (R.ob a ao h).mono (fun _ _ => At.mono up) (fun _ q => List.mem_append_right _ q) fun _ _ _ _ q => List.mem_append_right _ q, fun a ao h p hp => ?_, fun a c as h p hp => ?_, R.dσ, fun p hp => let ⟨o, v, a, b, c⟩ := R.free p hp; ⟨o, v, a.mono up, b, c.up up⟩, R.dinj⟩
  · rcases split p hp with hp | hp
    · exact List.mem_append_left _ hp
    · exact List.mem_append_right _ (R.sub _ hp)
  · rcases List.mem_append.mp hp with hp | hp
    · exact fun e => hn p hp q (R.sub _ (List.mem_append_right _ hq)) e.symm
    · exact R.apart p hp q hq
  · rcases split p hp with hp | hp
    · obtain ⟨o, ho⟩ := (R.ob a ao h).key; exact fun q => hn p hp _ ho q.symm
    · exact R.off a ao h p hp
  · rcases split p hp with hp | hp
    · obtain ⟨_, es, k, ho, _⟩ := R.ob a _ h; exact fun q => hn p hp _ ho q.symm
    · exact R.doff a c as h p hp
theorem ER.up {fz fz' : Fz} {mc : Str → Option Value} (h : ∀ p ∈ fz, p ∈ fz') (e : ER (At C fz) m mc) : ER (At C fz') m mc := fun y a hy => by obtain ⟨v, h1, h2⟩ := e y a hy; exact ⟨v, h1, h2.up h⟩

/-! ## things of a class -/
theorem HR.addInst {fz pin : Fz} {δ : Addr → Addr} {news : List (Addr × Obj)} {y d c : Addr} (R : HR C fz pin σ δ news) (l1 : ∀ q ∈ news, q.1 < d) (l2 : d < y) :
    HR C fz pin (σ.set y (.inst c [])) (fun b => if b = y then d else δ b) ((y, instObj c d) :: (d, dictOf [] 0) :: news) := by
  have ny : ∀ q ∈ news, q.1 ≠ y := fun q hq => Nat.ne_of_lt (Nat.lt_trans (l1 q hq) l2)
  have nd : ∀ q ∈ news, q.1 ≠ d := fun q hq => Nat.ne_of_lt (l1 q hq)
  have ky : ∀ b bo, σ b = some bo → b ≠ y ∧ b ≠ d := fun b bo hb => by obtain ⟨o, h⟩ := (R.ob b bo hb).key; exact ⟨ny _ h, nd _ h⟩
  have kd : ∀ b c as, σ b = some (.inst c as) → δ b ≠ y ∧ δ b ≠ d := fun b c as hb => by obtain ⟨_, es, k, h, _⟩ := R.ob b _ hb; exact ⟨ny _ h, nd _ h⟩
  have hσd : σ d = none := by
    cases q : σ d with
    | none => rfl
    | some o => exact absurd rfl (ky d o q).2
  have hne : y ≠ d := Nat.ne_of_gt l2
  refine ⟨fun p hp => .tail _ (.tail _ (R.sub p hp)), R.apart, fun b bo hb => ?_, fun b bo hb p hp => ?_, fun b c₁ as hb p hp => ?_, fun b c₁ as hb => ?_, R.free, fun b c₁ as b' c' bs h1 h2 => ?_⟩
  · by_cases q : b = y
    · subst q; rw [AHeap.set_same] at hb; cases hb
      rw [if_pos rfl]
      exact ⟨List.mem_cons_self .., [], 0, .tail _ (List.mem_cons_self ..), .nil⟩
    · rw [AHeap.set_ne _ _ q] at hb
      rw [if_neg q]
      exact (R.ob b bo hb).mono (fun _ _ x => x) (fun _ hm => .tail _ (.tail _ hm)) fun c as eb _ hm => .tail _ (.tail _ hm)
  · by_cases q : b = y
    · subst q; exact ny _ (R.sub p hp)
    · rw [AHeap.set_ne _ _ q] at hb; exact R.off b bo hb p hp
  · by_cases q : b = y
    · rw [if_pos q]; exact nd _ (R.sub p hp)
    · rw [AHeap.set_ne _ _ q] at hb; rw [if_neg q]; exact R.doff b c₁ as hb p hp
  · by_cases q : b = y
    · rw [if_pos q, AHeap.set_ne _ _ (Ne.symm hne)]; exact hσd
    · rw [AHeap.set_ne _ _ q] at hb; rw [if_neg q, AHeap.set_ne _ _ (kd b c₁ as hb).1]; exact R.dσ b c₁ as hb
  · by_cases q : b = y <;> by_cases q' : b' = y
    · intro _; rw [q, q']
    · rw [AHeap.set_ne _ _ q'] at h2; rw [if_pos q, if_neg q']; exact fun e => absurd e.symm (kd b' c' bs h2).2
    · rw [AHeap.set_ne _ _ q] at h1; rw [if_neg q, if_pos q']; exact fun e => absurd e (kd b c₁ as h1).2
    · rw [AHeap.set_ne _ _ q] at h1; rw [AHeap.set_ne _ _ q'] at h2; rw [if_neg q, if_neg q']; exact R.dinj b c₁ as b' c' bs h1 h2
theorem HR.noneAt {fz pin : Fz} {δ : Addr → Addr} {news : List (Addr × Obj)} {y : Addr} (R : HR C fz pin σ δ news) (l : ∀ q ∈ news, q.1 ≠ y) : σ y = none := by
  cases q : σ y with
  | none => rfl
  | some o => obtain ⟨o, h⟩ := (R.ob y o q).key; exact absurd rfl (l _ h)
/-- a thing of a class with an own __init__ -/
theorem tc_inst {c g : Addr} {as : List AVal} {Q : AVal → AHeap → Prop} (hk : keepIn C.K (.ref c) = true) (hm : makesIn C.K c = true) (hi : findIn C.K (.ref c) "__init__" = some (some (.ref g))) (hf : isFn C.K (.ref g) = true)
    (h : ∀ a, σ a = none → Fn C n g (.obj a :: as) (σ.set a (.inst c [])) fun r σ' => r = .none ∧ Q (.obj a) σ') : TC C n f (.raw (.ref c)) as m σ Q := fun ok fz s E v vs x hv hvs => by
  cases hv
  refine ⟨keep_K ok x hk, ?_⟩
  obtain ⟨mc, news, δ, F, N, R, e⟩ := x
  refine call_cls F ok.kin N hm hi hf fun y d h' F' N' l1 l2 => ?_
  have x' : SR C f fz m (σ.set y (.inst c [])) { s with heap := h' } := ⟨mc, _, _, F', N', R.addInst l1 l2, e⟩
  have hn : Near f (f.A.under (.builtin "type.__call__" ⟨.ref c :: vs, []⟩)) := ⟨rfl, rfl, rfl, by show f.A.depth + 1 ≤ _; omega, by show f.A.units + 1 ≤ _; omega⟩
  refine codeAny_mono (h y (R.noneAt fun q hq => Nat.ne_of_lt (Nat.lt_trans (l1 q hq) l2)) f m _ ok hn fz _ (.ref y :: vs) x' (.cons (.obj y) hvs)) fun r s' ⟨v, er, fz', σ', a, u, es, x2, va, q0, q⟩ => ?_
  subst er; subst q0
  cases va
  exact ⟨rfl, fz', σ', .obj y, u, Same.trans ⟨h', s.toks, rfl⟩ es, x2, .obj y, q⟩

/-! ## type, is -/
/-! ## functions of ints -/
theorem tc_min {a b : Int} {Q : AVal → AHeap → Prop} (h : Q (.int (if b < a then b else a)) σ) : TC C n f (.raw (.builtin "min")) [.int a, .int b] m σ Q := fun ok fz s E v vs x hv hvs => by
  cases hv; obtain _ | ⟨h1, h2⟩ := hvs; obtain _ | ⟨h2, h3⟩ := h2; cases h3; cases h1; cases h2
  refine ⟨keep_builtin, min_two_ints ok.handled fun h' tk k => ?_⟩
  refine PV.grow x k ?_ h
  split <;> exact .int _ _

/-! ## lists -/
theorem SR.newFz {fz : Fz} {s : Shared} (x : SR C f fz m σ s) : ∃ mc news, Fr f.h₀ f.L s.heap mc ∧ News f.h₀ f.L s.heap news ∧
    ∀ h' t o, Fr f.h₀ f.L h' mc → News f.h₀ f.L h' ((s.heap.objs.size, o) :: news) → SR C f ([(s.heap.objs.size, o)] ++ fz) m σ { s with heap := h', toks := t } := by
  obtain ⟨mc, news, δ, F, N, R, e⟩ := x
  refine ⟨mc, news, F, N, fun h' t o F' N' => ⟨mc, _, δ, F', N', R.addFz [(s.heap.objs.size, o)] fun p hp q hq => ?_, e.up fun p hp => List.mem_append_right _ hp⟩⟩
  rw [List.mem_singleton.mp hp]
  exact Nat.ne_of_lt (news_lt N hq)
theorem SR.newL {fz : Fz} {s : Shared} (x : SR C f fz m σ s) : ∃ mc news, Fr f.h₀ f.L s.heap mc ∧ News f.h₀ f.L s.heap news ∧ σ s.heap.objs.size = none ∧
    ∀ h' t vs k xs, Fr f.h₀ f.L h' mc → News f.h₀ f.L h' ((s.heap.objs.size, listOf vs.toArray k) :: news) → Vs (At C fz) vs xs → SR C f fz m (σ.set s.heap.objs.size (.list xs)) { s with heap := h', toks := t } := by
  have hf := x.fresh (Nat.le_refl _)
  obtain ⟨mc, news, δ, F, N, R, e⟩ := x
  refine ⟨mc, news, F, N, hf, fun h' t vs k xs F' N' hv => ⟨mc, (s.heap.objs.size, listOf vs.toArray k) :: news, δ, F', N', ?_, e⟩⟩
  have nn : ∀ q ∈ news, q.1 ≠ s.heap.objs.size := fun q hq => Nat.ne_of_lt (news_lt N hq)
  have keep : ∀ {b c as}, σ.set s.heap.objs.size (.list xs) b = some (.inst c as) → b ≠ s.heap.objs.size ∧ σ b = some (.inst c as) := fun {b c as} hb => by
    by_cases q : b = s.heap.objs.size
    · subst q; rw [AHeap.set_same] at hb; cases hb
    · rw [AHeap.set_ne _ _ q] at hb; exact ⟨q, hb⟩
  have dn : ∀ b c as, σ b = some (.inst c as) → δ b ≠ s.heap.objs.size := fun b c as hb => by obtain ⟨_, es, n, h, _⟩ := R.ob b _ hb; exact nn _ h
  refine ⟨fun p hp => .tail _ (R.sub p hp), R.apart, fun b bo hb => ?_, fun b bo hb p hp => ?_, fun b c as hb p hp => R.doff b c as (keep hb).2 p hp, fun b c as hb => ?_, R.free, fun b c as b' c' bs h1 h2 => R.dinj b c as b' c' bs (keep h1).2 (keep h2).2⟩
  · by_cases q : b = s.heap.objs.size
    · subst q; rw [AHeap.set_same] at hb; cases hb; exact ⟨vs, k, List.mem_cons_self .., hv⟩
    · rw [AHeap.set_ne _ _ q] at hb
      exact (R.ob b bo hb).mono (fun _ _ x => x) (fun _ hm => .tail _ hm) fun c as eb _ hm => .tail _ hm
  · by_cases q : b = s.heap.objs.size
    · subst q; exact nn _ (R.sub p hp)
    · rw [AHeap.set_ne _ _ q] at hb; exact R.off b bo hb p hp
  · rw [AHeap.set_ne _ _ (dn b c as (keep hb).2)]; exact R.dσ b c as (keep hb).2
/-- a list, frozen or not: its items now -/
def items (σ : AHeap) : AVal → Option (List AVal)
  | .lst xs => some xs
  | .obj a => match σ a with
    | some (.list xs) => some xs
    | _ => none
  | _ => none
theorem V.items {fz : Fz} {s : Shared} (ok : f.Ok C n) (x : SR C f fz m σ s) {v : Value} {a : AVal} {xs : List AVal} (h : V (At C fz) v a) (e : items σ a = some xs) : ∃ l vs, v = .ref l ∧ s.heap.IsList l vs.toArray ∧ Vs (At C fz) vs xs := by
  cases h with
  | obj a =>
    have e' : (match σ a with | some (.list xs) => some xs | _ => Option.none) = some xs := e
    split at e'
    · rename_i ys hs; cases e'
      obtain ⟨vs, k, h1, h2⟩ := x.list hs
      exact ⟨a, vs, rfl, ⟨_, h1, rfl, _, rfl⟩, h2⟩
    · cases e'
  | lst h1 h2 h3 h4 => cases e; exact ⟨_, _, rfl, ⟨_, x.at_ ok h1, h2, _, h3⟩, h4⟩
  | _ => cases e
theorem t2_cat {a b : AVal} {xs ys : List AVal} {Q : AVal → AHeap → Prop} (ha : items σ a = some xs) (hb : items σ b = some ys) (hl : xs.length + ys.length ≤ sizeLine) (h : Q (.lst (xs ++ ys)) σ) : T2 C n f (binaryOp .Add) a b m σ Q := fun ok fz s E v w x hv hw => by
  obtain ⟨l, vs, rfl, hlv, hvs⟩ := hv.items ok x ha
  obtain ⟨l', ws, rfl, hlw, hws⟩ := hw.items ok x hb
  obtain ⟨mc, news, F, N, k⟩ := x.newFz
  refine add_lists F N hlv hlw (fun h' F' N' => ?_) (by rw [hvs.length, hws.length]; exact hl)
  exact ⟨_, σ, .lst (xs ++ ys), fun p hp => List.mem_append_right _ hp, ⟨h', s.toks, rfl⟩, k h' s.toks _ F' N', .lst (.inl (List.mem_append_left _ (List.mem_singleton.mpr rfl))) rfl rfl ((hvs.append hws).up fun p hp => List.mem_append_right _ hp), h⟩
theorem t2_catM {a b : AVal} {xs ys : List AVal} {Q : AVal → AHeap → Prop} (ha : items σ a = some xs) (hb : items σ b = some ys) (hl : xs.length + ys.length ≤ sizeLine) (h : ∀ l, σ l = none → Q (.obj l) (σ.set l (.list (xs ++ ys)))) : T2 C n f (binaryOp .Add) a b m σ Q := fun ok fz s E v w x hv hw => by
  obtain ⟨l, vs, rfl, hlv, hvs⟩ := hv.items ok x ha
  obtain ⟨l', ws, rfl, hlw, hws⟩ := hw.items ok x hb
  obtain ⟨mc, news, F, N, hno, k⟩ := x.newL
  refine add_lists F N hlv hlw (fun h' F' N' => ?_) (by rw [hvs.length, hws.length]; exact hl)
  exact ⟨fz, _, .obj s.heap.objs.size, sub_refl, ⟨h', s.toks, rfl⟩, k h' s.toks _ 0 _ F' N' (hvs.append hws), .obj _, h _ hno⟩
end
end Mine

open PySem PySem.W PyProof.Rows PySem.Calls
namespace Mine
section
variable {C : Cx} {n : Nat} {f : Fm} {m : AEnv} {σ : AHeap}
theorem SX.ofFresh {fz : Fz} {s : Shared} {h' : Heap} {t : Nat} {wr : List Addr} (x : SR C f fz m σ s) (k : ∀ b o, s.heap.get? b = some o → h'.get? b = some o) (hw : ∀ b ∈ wr, s.heap.objs.size ≤ b) : SX C f fz m σ wr { s with heap := h', toks := t } := by
  obtain ⟨mc, news, δ, F, N, R, e⟩ := x
  obtain ⟨oL, a1, a2, hL, a3⟩ := id F.ns
  refine ⟨mc, news, δ, F.grownK k, fun p hp => ⟨k _ _ (N p hp).1, (N p hp).2⟩, R, e, fun p hp hm => ?_, fun hm => ?_, fun b hb => ?_⟩
  · exact absurd (news_lt N hp) (Nat.not_lt.mpr (hw _ hm))
  · exact absurd (Heap.lt_size hL) (Nat.not_lt.mpr (hw _ hm))
  · cases q : f.h₀.get? b with
    | none => rfl
    | some o => exact absurd (Heap.lt_size (F.keep _ _ q)) (Nat.not_lt.mpr (hw _ hb))
theorem V.lstD {P : Addr → Obj → Prop} {v : Value} {xs : List AVal} (h : V P v (.lst xs)) : ∃ l o k us, v = .ref l ∧ P l o ∧ o.cls = .type "list" ∧ o.data = .seq (List.toArray us) k ∧ Vs P us xs := by
  cases h with
  | lst p1 p2 p3 p4 => exact ⟨_, _, _, _, rfl, p1, p2, p3, p4⟩
def enumFrom (k : Nat) : List AVal → List (List AVal)
  | [] => []
  | x :: xs => [.int k, x] :: enumFrom (k + 1) xs
theorem w1_forT {ts : List Expr} {tk : Nat} {tp : Pos} {iter : Expr} {body : List Stmt} {pos : Pos} {Q : AFlow → AEnv → AHeap → Prop} (Inv : List (List AVal) → AEnv → AHeap → Prop)
    (h : WIT C n f iter m σ fun back xs σ₂ => back = id ∧ Inv xs m σ₂)
    (turn : ∀ pin x xs m' σ', Inv (x :: xs) m' σ' → (assignEach ts f.env).length = x.length ∧ TAs C n (f.withPin pin) ts x m' σ' fun m₁ σ₁ => WS C n (f.withPin pin) body m₁ σ₁ (Turn id (Inv xs) Q))
    (done : ∀ m' σ', Inv [] m' σ' → Q .next m' σ') (hstar : (assignEach ts f.env).findIdx? (·.1) = none := by rfl) (hs : ∀ x, foldedSetIterable iter f.env x = pure x := by intro _; rfl) : W1 C n f (.For (.Tuple ts tk tp) iter body [] pos) m σ Q := by
  refine w1_forTB (fun back xs m σ => back = id ∧ Inv xs m σ) h (fun back pin x xs m' σ' ⟨e, q⟩ => ?_) (fun back m' σ' ⟨e, q⟩ => by subst e; exact done _ _ q) hstar hs
  subst e
  have key : Turn id (Inv xs) Q = Turn id (fun m σ => id = (id : AHeap → AHeap) ∧ Inv xs m σ) Q := by
    funext a m σ; cases a <;> simp [Turn]
  rw [← key]
  exact turn pin x xs m' σ' q
end
end Mine
namespace Mine
section
variable {C : Cx} {n : Nat} {f : Fm} {m : AEnv} {σ : AHeap}
/-! ## methods of lists -/
def scalar : AVal → Bool
  | .none => true
  | .bool _ => true
  | .int _ => true
  | .str _ => true
  | _ => false
def notNone : AVal → Bool
  | .none => false
  | _ => true
end
end Mine

open PySem PySem.W PyProof.Rows PySem.Calls
namespace Mine
end Mine
namespace Mine
theorem vs_ints {P : Addr → Obj → Prop} : ∀ {vs : List Value} {ns : List Int}, IntsAre vs ns → Vs P vs (ns.map .int)
  | _, _, .nil => .nil
  | _, _, .cons n t r => .cons (.int n t) (vs_ints r)
end Mine

open PySem PySem.W PyProof.Rows PySem.Calls
namespace Mine
section
variable {C : Cx} {n : Nat} {f : Fm} {m : AEnv} {σ : AHeap}
theorem WE.cut {e : Expr} {Q P : AVal → AHeap → Prop} (h : WE C n f e m σ P) (k : ∀ a σ₁, P a σ₁ → Q a σ₁) : WE C n f e m σ Q := fun ok fz s E x =>
  wpAny_mono (h ok fz s E x) (fun v s₁ hq => hq.el fun fz₁ σ₁ a u1 e1 x1 va q1 => ⟨fz₁, σ₁, a, u1, e1, x1, va, k _ _ q1⟩) fun _ _ x => x

/-! ## items by place -/
theorem we_sub {value slice : Expr} {pos : Pos} {Q : AVal → AHeap → Prop} (h : WE C n f value m σ fun a σ₁ => WE C n f slice m σ₁ fun b σ₂ => T2 C n f (subscriptTail value slice) a b m σ₂ Q) : WE C n f (.Subscript value slice pos) m σ Q := fun ok fz s E x => by
  refine Subscript_ (wpAny_mono (h ok fz s E x) (fun v s₁ hq => hq.el fun fz₁ σ₁ a u1 e1 x1 va q1 => wpAny_mono (q1 ok fz₁ s₁ E x1) (fun w s₂ hq => hq.el fun fz₂ σ₂ b u2 e2 x2 vb q2 => ?_) fun _ _ x => x) fun _ _ x => x)
  exact wpAny_mono (q2 ok fz₂ s₂ E v w x2 (va.up u2) vb) (fun r s₃ p => .up (fun p hp => u2 p (u1 p hp)) (e1.trans e2) p) fun _ _ x => x
theorem t2_item {value slice : Expr} {a : AVal} {i : Int} {xs : List AVal} {y : AVal} {Q : AVal → AHeap → Prop} (ha : items σ a = some xs) (h0 : 0 ≤ i) (hf : i < 2 ^ 63) (hy : xs[i.toNat]? = some y) (h : Q y σ)
    (hs : ∀ l u, subscripted slice false (.ref l) (.int i u) = operate [.ref l, .int i u] (getItem (.ref l) (.int i u)) := by intro _ _; rfl) : T2 C n f (subscriptTail value slice) a (.int i) m σ Q := fun ok fz s E v w x hv hw => by
  cases hw
  obtain ⟨l, vs, rfl, hl, hvs⟩ := hv.items ok x ha
  obtain ⟨u, g1, g2⟩ := hvs.get hy
  exact tail_any hl.typeIs slot_list_getitem.lookup (wpAny_getItem_list (x := u) hl h0 hf (by simpa using g1) (.here x g2 h)) (hs _ _)
/-! ## slices -/
def WO (C : Cx) (n : Nat) (f : Fm) (e : Option Expr) (m : AEnv) (σ : AHeap) (Q : AVal → AHeap → Prop) : Prop :=
  f.Ok C n → ∀ fz s E, SR C f fz m σ s → wpAny (Md C) f.A (evalPart e f.env) (PV C f m fz s Q) E s
theorem wo_none {Q : AVal → AHeap → Prop} (h : Q .none σ) : WO C n f none m σ Q := fun ok fz s E x => wpAny_pure (.here x .none h)
theorem wo_some {e : Expr} {Q : AVal → AHeap → Prop} (h : WE C n f e m σ Q) : WO C n f (some e) m σ Q := fun ok fz s E x => h ok fz s E x
def part : AVal → Option (Option Int)
  | .none => some none
  | .int i => some (some i)
  | _ => none
theorem V.part {P : Addr → Obj → Prop} {v : Value} {a : AVal} {p : Option Int} (h : V P v a) (e : part a = some p) : IsPart v p := by
  cases h <;> cases e
  · exact .none
  · exact .int _ _
def pickA (xs : List AVal) (lo hi st : Option Int) : List AVal :=
  (sliceRange (sliceBounds lo hi st xs.length).1 (sliceBounds lo hi st xs.length).2.1 (sliceBounds lo hi st xs.length).2.2).filterMap (xs[·]?)
theorem Vs.pickAll {P : Addr → Obj → Prop} {vs : List Value} {xs : List AVal} (h : Vs P vs xs) : ∀ ks : List Nat, Vs P (ks.filterMap (vs[·]?)) (ks.filterMap (xs[·]?))
  | [] => .nil
  | k :: ks => by
    have ih := h.pickAll ks
    cases e : xs[k]? with
    | none =>
      have : vs[k]? = none := by rw [List.getElem?_eq_none_iff] at e ⊢; rw [h.length]; exact e
      simpa [List.filterMap_cons, e, this] using ih
    | some x =>
      obtain ⟨v, h1, h2⟩ := h.get e
      simpa [List.filterMap_cons, e, h1] using Vs.cons h2 ih
theorem Vs.pick {P : Addr → Obj → Prop} {vs : List Value} {xs : List AVal} (h : Vs P vs xs) (lo hi st : Option Int) : Vs P (slicePick vs.toArray lo hi st).toList (pickA xs lo hi st) := by
  unfold slicePick pickA
  simp only [List.size_toArray, h.length, List.getElem?_toArray, List.toList_toArray]
  exact h.pickAll _
theorem pickA_plain (xs : List AVal) (lo hi : Option Int) : pickA xs lo hi none = (xs.drop (lo.elim 0 (clipAt xs.length))).take (hi.elim xs.length (clipAt xs.length) - lo.elim 0 (clipAt xs.length)) := by
  unfold pickA
  rw [sliceBounds_plain]
  have := pick_run (xs.toArray)
  simp only [List.getElem?_toArray, List.toList_toArray] at this
  simp only [sliceRange_one]
  exact this _ _
theorem sub_slice {st : Option Expr} {lower upper : Option Expr} {p : Pos} {o i : Value} : ∃ ops, subscripted (.Slice lower upper st p) false o i = operate ops (getItem o i) := by
  cases st with
  | none => exact ⟨_, rfl⟩
  | some e => exact ⟨_, rfl⟩
theorem slice_core {value : Expr} {lower upper step : Option Expr} {p pos : Pos} {fz : Fz} {s : Shared} {E : Value → Shared → Prop} {R : Value → Shared → Prop} (ok : f.Ok C n) (x : SR C f fz m σ s)
    (h : WE C n f value m σ fun a σ₁ => WO C n f lower m σ₁ fun l σ₂ => WO C n f upper m σ₂ fun u σ₃ => WO C n f step m σ₃ fun st σ₄ =>
      ∃ xs lo hi sp, items σ₄ a = some xs ∧ part l = some lo ∧ part u = some hi ∧ part st = some sp ∧ sp ≠ some 0 ∧ xs.length ≤ sizeLine ∧
        ∀ fz' s' vs h', (∀ p ∈ fz, p ∈ fz') → Same s s' → SR C f fz' m σ₄ s' → Vs (At C fz') vs (pickA xs lo hi sp) → (∀ b o, s'.heap.get? b = some o → h'.get? b = some o) → h'.get? (s'.heap.objs.size + 1) = some (listOf vs.toArray 0) → R (.ref (s'.heap.objs.size + 1)) { s' with heap := h' }) :
    wpAny (Md C) f.A (eval (.Subscript value (.Slice lower upper step p) pos) f.env) R E s := by
  refine Subscript_ (wpAny_mono (h ok fz s E x) (fun v s₁ hq => hq.el fun fz₁ σ₁ a u1 e1 x1 va q1 => wpAny_Slice (wpAny_mono (q1 ok fz₁ s₁ E x1) (fun l s₂ hq => hq.el fun fz₂ σ₂ al u2 e2 x2 vl q2 => wpAny_mono (q2 ok fz₂ s₂ E x2) (fun u s₃ hq => hq.el fun fz₃ σ₃ au u3 e3 x3 vu q3 => wpAny_mono (q3 ok fz₃ s₃ E x3) (fun st s₄ hq => hq.el fun fz₄ σ₄ ast u4 e4 x4 vst ⟨xs, lo, hi, sp, hx, hlo, hhi, hsp, h0, hz, k⟩ => ?_) fun _ _ x => x) fun _ _ x => x) fun _ _ x => x)) fun _ _ x => x)
  obtain ⟨b, vs, rfl, hl, hvs⟩ := (((va.up u2).up u3).up u4).items ok x4 hx
  have hl' : (s₄.heap.push { cls := .type "slice", data := .fields #[l, u, st] }).IsList b vs.toArray := hl.push _
  obtain ⟨ops, hs⟩ := sub_slice (st := step) (lower := lower) (upper := upper) (p := p) (o := .ref b) (i := .ref s₄.heap.objs.size)
  refine tail_any hl'.typeIs slot_list_getitem.lookup (wpAny_getItem_list_slice hl' (Heap.IsSliceOf.new ..) (vl.part hlo) (vu.part hhi) (vst.part hsp) h0 ?_ (by rw [List.size_toArray, hvs.length]; exact hz)) hs
  rw [Heap.size_push]
  have hp := hvs.pick lo hi sp
  have e : slicePick vs.toArray lo hi sp = (slicePick vs.toArray lo hi sp).toList.toArray := by simp
  refine k fz₄ s₄ (slicePick vs.toArray lo hi sp).toList _ (fun p hp => u4 p (u3 p (u2 p (u1 p hp)))) (((e1.trans e2).trans e3).trans e4) x4 hp (fun b o e => Heap.get?_push_of_some _ (Heap.get?_push_of_some _ e)) ?_
  rw [← e]
  have := Heap.get?_push_size (s₄.heap.push { cls := .type "slice", data := .fields #[l, u, st] }) (o := { cls := .type "list", data := .seq (slicePick vs.toArray lo hi sp) }) rfl
  rw [Heap.size_push] at this
  exact this
theorem we_slice {value : Expr} {lower upper step : Option Expr} {p pos : Pos} {Q : AVal → AHeap → Prop}
    (h : WE C n f value m σ fun a σ₁ => WO C n f lower m σ₁ fun l σ₂ => WO C n f upper m σ₂ fun u σ₃ => WO C n f step m σ₃ fun st σ₄ =>
      ∃ xs lo hi sp, items σ₄ a = some xs ∧ part l = some lo ∧ part u = some hi ∧ part st = some sp ∧ sp ≠ some 0 ∧ xs.length ≤ sizeLine ∧ Q (.lst (pickA xs lo hi sp)) σ₄) :
    WE C n f (.Subscript value (.Slice lower upper step p) pos) m σ Q := fun ok fz s E x => by
  refine slice_core ok x (WE.cut h fun a σ₁ h1 ok fz s E x => wpAny_mono (h1 ok fz s E x) (fun v s₁ hq => hq.el fun fz₁ σ₁ a u1 e1 x1 va q1 => ⟨fz₁, σ₁, a, u1, e1, x1, va, fun ok fz s E x => wpAny_mono (q1 ok fz s E x) (fun v s₁ hq => hq.el fun fz₁ σ₁ a u1 e1 x1 va q1 => ⟨fz₁, σ₁, a, u1, e1, x1, va, fun ok fz s E x => wpAny_mono (q1 ok fz s E x) (fun v s₁ hq => hq.el fun fz₁ σ₁ a u1 e1 x1 va q1 => ⟨fz₁, σ₁, a, u1, e1, x1, va, ?_⟩) fun _ _ x => x⟩) fun _ _ x => x⟩) fun _ _ x => x)
  obtain ⟨xs, lo, hi, sp, h1, h2, h3, h4, h5, h6, q⟩ := q1
  exact ⟨xs, lo, hi, sp, h1, h2, h3, h4, h5, h6, fun fz' s' vs h' u e x' hv k ho => PV.up u e (PV.new (t := s'.toks) x' k (Nat.le_succ _) ho (fun fz'' hm hu => .lst (.inl hm) rfl rfl (hv.up hu)) q)⟩
/-! ## changing a list -/
theorem mapSeq_listOf (g : Array Value → Array Value) (its : Array Value) (k : Nat) : ∃ k', Obj.mapSeq g (listOf its k) = listOf (g its) k' := ⟨_, rfl⟩
theorem SR.updList {fz : Fz} {s : Shared} {a : Addr} {xs xs' : List AVal} {vs : List Value} {k : Nat} (x : SR C f fz m σ s) (h : σ a = some (.list xs)) (ho : s.heap.get? a = some (listOf vs.toArray k)) (g : Array Value → Array Value) (hg : Vs (At C fz) (g vs.toArray).toList xs') (t : Nat) :
    SR C f fz m (σ.set a (.list xs')) { s with heap := s.heap.update a (Obj.mapSeq g), toks := t } := by
  obtain ⟨k', e⟩ := mapSeq_listOf g vs.toArray k
  have ho' : (s.heap.update a (Obj.mapSeq g)).get? a = some (listOf (g vs.toArray).toList.toArray k') := by
    rw [Heap.get?_update_self _ ho (by rw [e]; rfl), e]
  exact x.setList (t := t) h (Heap.SameBut.update ..) ho' hg
/-- storing at a place: as a tree -/
def TU (C : Cx) (n : Nat) (f : Fm) (o i y : AVal) (m : AEnv) (σ : AHeap) (Q : AHeap → Prop) : Prop :=
  f.Ok C n → ∀ fz s E vo vi vy, SR C f fz m σ s → V (At C fz) vo o → V (At C fz) vi i → V (At C fz) vy y → wpAny (Md C) f.A (setItem vo vi vy) (fun _ s' => ∃ fz' σ', (∀ p ∈ fz, p ∈ fz') ∧ Same s s' ∧ SR C f fz' m σ' s' ∧ Q σ') E s
theorem tu_list {a : Addr} {xs : List AVal} {i : Int} {y : AVal} {Q : AHeap → Prop} (ha : σ a = some (.list xs)) (h0 : 0 ≤ i) (hl : i < xs.length) (hf : i < 2 ^ 63) (h : Q (σ.set a (.list (xs.set i.toNat y)))) : TU C n f (.obj a) (.int i) y m σ Q := fun ok fz s E vo vi vy x ho hi hy => by
  cases ho; cases hi
  obtain ⟨us, k, ho, p4⟩ := x.list ha
  refine ki_setAt ho h0 hf (by rw [List.size_toArray, p4.length]; exact hl) ⟨fz, _, sub_refl, ⟨_, s.toks, rfl⟩, x.updList ha ho _ ?_ s.toks, h⟩
  have := p4.set i.toNat hy
  simpa using this
theorem w1_setItem {o i : Expr} {tp : Pos} {e : Expr} {pos : Pos} {Q : AFlow → AEnv → AHeap → Prop} (h : WE C n f e m σ fun y σ₁ => WE C n f o m σ₁ fun ov σ₂ => WE C n f i m σ₂ fun iv σ₃ => TU C n f ov iv y m σ₃ fun σ₄ => Q .next m σ₄)
    (hs : swapsWith e (some (.Subscript o i tp)) pos.line f.env = pure false := by rfl) : W1 C n f (.Assign [.Subscript o i tp] e pos) m σ Q := fun ok fz s E x => by
  refine wpAny_Assign_Subscript (wpAny_mono (h ok fz s E x) (fun v s₁ hq => hq.el fun fz₁ σ₁ a u1 e1 x1 va q1 => wpAny_mono (q1 ok fz₁ s₁ E x1) (fun ov s₂ hq => hq.el fun fz₂ σ₂ b u2 e2 x2 vb q2 => wpAny_mono (q2 ok fz₂ s₂ E x2) (fun iv s₃ hq => hq.el fun fz₃ σ₃ c u3 e3 x3 vc q3 => ?_) fun _ _ x => x) fun _ _ x => x) fun _ _ x => x) hs
  exact wpAny_mono (q3 ok fz₃ s₃ E ov iv v x3 (vb.up u3) vc ((va.up u2).up u3)) (fun _ s₄ hq => PH.el hq fun fz₄ σ₄ u4 e4 x4 q4 => ⟨fz₄, σ₄, m, .next, fun p hp => u4 p (u3 p (u2 p (u1 p hp))), ((e1.trans e2).trans e3).trans e4, x4, trivial, q4⟩) fun _ _ x => x
theorem w1_expr {e : Expr} {pos : Pos} {Q : AFlow → AEnv → AHeap → Prop} (h : WE C n f e m σ fun _ σ₁ => Q .next m σ₁) (hi : interactive f.env = false := by rfl) (hs : swapsWith e none pos.line f.env = pure false := by rfl) : W1 C n f (.Expr e pos) m σ Q := fun ok fz s E x => by
  refine wpAny_Expr_any (hi := hi) (hs := hs) (wpAny_mono (h ok fz s E x) (fun v s₁ hq => hq.el fun fz₁ σ₁ a u1 e1 x1 va q1 => ⟨fz₁, σ₁, m, .next, u1, e1, x1, trivial, q1⟩) fun _ _ x => x)
end
end Mine

open PySem PySem.W PyProof.Rows PySem.Calls
namespace Mine
section
variable {C : Cx} {n : Nat} {f : Fm} {m : AEnv} {σ : AHeap}
/-! ## rows built by a comprehension -/
def WQ (C : Cx) (n : Nat) (f : Fm) (ifs : List Expr) (m : AEnv) (σ : AHeap) (Q : Bool → AHeap → Prop) : Prop :=
  f.Ok C n → ∀ fz s E, SR C f fz m σ s → wpAny (Md C) f.A (forIn ifs true fun c r => if r = true then do let ok ← isTrue c f.env (eval c f.env); pure (ForInStep.yield ok) else pure (ForInStep.yield r)) (PB C f m fz s Q) E s
theorem wq_nil {Q : Bool → AHeap → Prop} (h : Q true σ) : WQ C n f [] m σ Q := fun ok fz s E x => wpAny_tests_nil ⟨fz, σ, sub_refl, .rfl, x, h⟩
theorem SX.sub {fz : Fz} {wr wr' : List Addr} {s : Shared} (h : ∀ b ∈ wr', b ∈ wr) (x : SX C f fz m σ wr s) : SX C f fz m σ wr' s := by
  obtain ⟨mc, news, δ, F, N, R, e, h1, h2, h3⟩ := x
  exact ⟨mc, news, δ, F, N, R, e, fun p hp q => h1 p hp (h _ q), fun q => h2 (h _ q), fun b hb => h3 b (h _ hb)⟩
theorem SX.wide {fz : Fz} {wr : List Addr} {s : Shared} {h' : Heap} {t : Nat} (x : SX C f fz m σ wr s) (new : List Addr) (k : ∀ b o, s.heap.get? b = some o → h'.get? b = some o) (hw : ∀ b ∈ new, s.heap.objs.size ≤ b) : SX C f fz m σ (new ++ wr) { s with heap := h', toks := t } := by
  obtain ⟨mc, news, δ, F, N, R, e, h1, h2, h3⟩ := x
  obtain ⟨oL, a1, a2, hL, a3⟩ := id F.ns
  refine ⟨mc, news, δ, F.grownK k, fun p hp => ⟨k _ _ (N p hp).1, (N p hp).2⟩, R, e, fun p hp hm => ?_, fun hm => ?_, fun b hb => ?_⟩
  · rcases List.mem_append.mp hm with hm | hm
    · exact absurd (news_lt N hp) (Nat.not_lt.mpr (hw _ hm))
    · exact h1 p hp hm
  · rcases List.mem_append.mp hm with hm | hm
    · exact absurd (Heap.lt_size hL) (Nat.not_lt.mpr (hw _ hm))
    · exact h2 hm
  · rcases List.mem_append.mp hb with hm | hm
    · cases q : f.h₀.get? b with
      | none => rfl
      | some o => exact absurd (Heap.lt_size (F.keep _ _ q)) (Nat.not_lt.mpr (hw _ hm))
    · exact h3 b hm
/-- an address that was kept apart becomes a frozen thing -/
theorem SX.ice {fz : Fz} {wr : List Addr} {s : Shared} {D : Addr} {o : Obj} (x : SX C f fz m σ (D :: wr) s) (hD : D ∉ wr) (ho : s.heap.get? D = some o) : SX C f ([(D, o)] ++ fz) m σ wr s := by
  obtain ⟨mc, news, δ, F, N, R, e, h1, h2, h3⟩ := x
  refine ⟨mc, [(D, o)] ++ news, δ, F, fun p hp => ?_, R.addFz [(D, o)] (fun p hp q hq => ?_), e.up fun p hp => List.mem_append_right _ hp, fun p hp q => ?_, fun q => h2 (List.mem_cons_of_mem _ q), fun b hb => h3 b (List.mem_cons_of_mem _ hb)⟩
  · rcases List.mem_append.mp hp with hp | hp
    · rw [List.mem_singleton.mp hp]; exact ⟨ho, fun q => h2 (by rw [← q]; exact List.mem_cons_self ..), h3 D (List.mem_cons_self ..)⟩
    · exact N p hp
  · rw [List.mem_singleton.mp hp]; exact fun e => h1 q hq (by rw [e]; exact List.mem_cons_self ..)
  · rcases List.mem_append.mp hp with hp | hp
    · rw [List.mem_singleton.mp hp] at q; exact hD q
    · exact h1 p hp (List.mem_cons_of_mem _ q)
/-- the row's own names become a thing of the state -/
theorem SX.names {fz : Fz} {wr : List Addr} {s : Shared} {c : Addr} {mc' : Str → Option Value} {as : List (Str × AVal)} {k : Option (Scope × List (Str × Addr) × Addr)} (x : SX C f fz m σ (c :: wr) s) (hc : c ∉ wr) (hns : s.heap.Ns c mc') (he : ER (At C fz) as mc') :
    σ c = none ∧ SR C (f.withComp k (ownP wr s.heap ++ f.pin)) fz m (σ.set c (.ns as)) s := by
  obtain ⟨o, ho, hn⟩ := LCg.ns_obj hns
  have hwr := (SX.sub (wr' := wr) (fun b hb => List.mem_cons_of_mem _ hb) x)
  obtain ⟨mc, news, δ, F, N, R, e, h1, h2, h3⟩ := x
  have nn : ∀ q ∈ news, q.1 ≠ c := fun q hq e => h1 q hq (by rw [e]; exact List.mem_cons_self ..)
  have hno : σ c = none := R.noneAt nn
  have off : ∀ {p : Addr × Obj}, p ∈ ownP wr s.heap → p.1 ∈ wr := fun hp => (mem_ownP.mp hp).1
  have three : ∀ p ∈ fz ++ (ownP wr s.heap ++ f.pin), p ∈ ownP wr s.heap ∨ p ∈ fz ++ f.pin := fun p hp => by
    rcases List.mem_append.mp hp with hp | hp
    · exact .inr (List.mem_append_left _ hp)
    · rcases List.mem_append.mp hp with hp | hp
      · exact .inl hp
      · exact .inr (List.mem_append_right _ hp)
  have keep : ∀ {b c' as'}, σ.set c (.ns as) b = some (.inst c' as') → b ≠ c ∧ σ b = some (.inst c' as') := fun {b c' as'} hb => by
    by_cases q : b = c
    · subst q; rw [AHeap.set_same] at hb; cases hb
    · rw [AHeap.set_ne _ _ q] at hb; exact ⟨q, hb⟩
  have dn : ∀ b c' as', σ b = some (.inst c' as') → δ b ≠ c := fun b c' as' hb => by obtain ⟨_, es, n, h, _⟩ := R.ob b _ hb; exact nn _ h
  have up : ∀ {p}, p ∈ news → p ∈ (c, o) :: (ownP wr s.heap ++ news) := fun h => .tail _ (List.mem_append_right _ h)
  refine ⟨hno, mc, (c, o) :: (ownP wr s.heap ++ news), δ, F, fun p hp => ?_, ⟨fun p hp => ?_, fun p hp q hq => ?_, fun b bo hb => ?_, fun b bo hb p hp => ?_, fun b c' as' hb p hp => ?_, fun b c' as' hb => ?_, R.free, fun b c' as' b' c'' bs g1 g2 => R.dinj b c' as' b' c'' bs (keep g1).2 (keep g2).2⟩, e⟩
  · rcases List.mem_cons.mp hp with rfl | hp
    · exact ⟨ho, fun q => h2 (by rw [← q]; exact List.mem_cons_self ..), h3 c (List.mem_cons_self ..)⟩
    · rcases List.mem_append.mp hp with hp | hp
      · obtain ⟨a, b⟩ := mem_ownP.mp hp
        exact ⟨b, fun q => h2 (List.mem_cons_of_mem _ (q ▸ a)), h3 _ (List.mem_cons_of_mem _ a)⟩
      · exact N p hp
  · rcases three p hp with hp | hp
    · exact .tail _ (List.mem_append_left _ hp)
    · exact up (R.sub p hp)
  · rcases List.mem_append.mp hq with hq | hq
    · exact fun q' => h1 p (R.sub p (List.mem_append_left _ hp)) (List.mem_cons_of_mem _ (q' ▸ off hq))
    · exact R.apart p hp q hq
  · by_cases q : b = c
    · subst q; rw [AHeap.set_same] at hb; cases hb; exact ⟨o, mc', List.mem_cons_self .., hn, he⟩
    · rw [AHeap.set_ne _ _ q] at hb
      exact (R.ob b bo hb).mono (fun _ _ x => x) (fun _ hm => up hm) fun _ _ eb _ hm => up hm
  · by_cases q : b = c
    · rcases three p hp with hp | hp
      · exact fun q' => hc (by rw [← q, ← q']; exact off hp)
      · rw [q]; exact nn _ (R.sub p hp)
    · rw [AHeap.set_ne _ _ q] at hb
      rcases three p hp with hp | hp
      · obtain ⟨o, ho⟩ := (R.ob b bo hb).key
        exact fun q => h1 _ ho (List.mem_cons_of_mem _ (by show b ∈ wr; rw [← q]; exact off hp))
      · exact R.off b bo hb p hp
  · rcases three p hp with hp | hp
    · obtain ⟨_, es, k, ho, _⟩ := R.ob b _ (keep hb).2
      exact fun q => h1 _ ho (List.mem_cons_of_mem _ (by show δ b ∈ wr; rw [← q]; exact off hp))
    · exact R.doff b c' as' (keep hb).2 p hp
  · rw [AHeap.set_ne _ _ (dn b c' as' (keep hb).2)]; exact R.dσ b c' as' (keep hb).2
theorem SX.unname {fz : Fz} {wr : List Addr} {s : Shared} {own : Fz} {c : Addr} {as : List (Str × AVal)} {σ' : AHeap} {k : Option (Scope × List (Str × Addr) × Addr)} (hl : ∀ b ∈ wr, ∃ o, (b, o) ∈ own) (hp : ∀ p ∈ f.pin, p.1 ∉ wr) (h2 : f.L ∉ wr) (h3 : ∀ b ∈ wr, f.h₀.get? b = none)
    (x : SR C (f.withComp k (own ++ f.pin)) fz m σ s) (hc : σ c = some (.ns as)) (hσ : σ'.le σ) (hσc : σ' c = none) : SX C f fz m σ' (c :: wr) s ∧ ∃ mc', s.heap.Ns c mc' := by
  have x' : SR C (f.withPin (own ++ f.pin)) fz m σ s := x
  have x'' := SX.unpin hl hp h2 h3 x'
  obtain ⟨mc, news, δ, F, N, R, e, g1, g2, g3⟩ := x''
  obtain ⟨o, mc', hm, hn, _⟩ := R.ob c _ hc
  have hN := N _ hm
  have inst : ∀ {a c' as'}, σ' a = some (.inst c' as') → σ a = some (.inst c' as') := fun h => hσ _ _ h
  have dc : ∀ a c' as', σ a = some (.inst c' as') → δ a ≠ c := fun a c' as' h q => by have := R.dσ a c' as' h; rw [q, hc] at this; cases this
  have keepM : ∀ {p : Addr × Obj}, p ∈ news → p.1 ≠ c → p ∈ news.filter (fun p => decide (p.1 ≠ c)) := fun h q => List.mem_filter.mpr ⟨h, by simpa using q⟩
  have ne : ∀ {a ao}, σ' a = some ao → a ≠ c := fun h q => by rw [q, hσc] at h; cases h
  refine ⟨⟨mc, news.filter (fun p => decide (p.1 ≠ c)), δ, F, fun p hp => N p (List.mem_filter.mp hp).1, ⟨fun p hp => keepM (R.sub p hp) (R.off c _ hc p hp), R.apart, fun a ao h => (R.ob a ao (hσ _ _ h)).mono (fun _ _ z => z) (fun _ q => keepM q (ne h)) fun c' as' ea _ q => keepM q (dc a c' as' (inst (ea ▸ h))), fun a ao h => R.off a ao (hσ _ _ h), fun a c' as' h => R.doff a c' as' (inst h), fun a c' as' h => ?_, R.free, fun a c' as' b c'' bs q1 q2 => R.dinj a c' as' b c'' bs (inst q1) (inst q2)⟩, e, fun p hp q => ?_, fun q => ?_, fun b hb => ?_⟩, mc', hn.ns hN.1⟩
  · cases q : σ' (δ a) with
    | none => rfl
    | some o => have := hσ _ _ q; rw [R.dσ a c' as' (inst h)] at this; cases this
  · obtain ⟨q1, q2⟩ := List.mem_filter.mp hp
    rcases List.mem_cons.mp q with q | q
    · exact (by simpa using q2 : p.1 ≠ c) q
    · exact g1 p q1 q
  · rcases List.mem_cons.mp q with q | q
    · exact hN.2.1 q.symm
    · exact g2 q
  · rcases List.mem_cons.mp hb with rfl | hb
    · exact hN.2.2
    · exact g3 b hb
theorem Fm.Ok.comp {n : Nat} {sc : Scope} {cl : List (Str × Addr)} {c : Addr} {p : Fz} (ok : f.Ok C n) (hk : sc.kind = .function) : (f.withComp (some (sc, cl, c)) p).Ok C n := ⟨ok.below, ok.kin, ok.top, ok.hk, ok.stack, ok.handled, ok.guards, ok.depth, ok.units, ok.kind, hk⟩

theorem comp_blockG {scope' : Scope} {elt iter : Expr} {x : Str} {px : Pos} {ifs : List Expr} {scope : Scope} {cl : List (Str × Addr)} {pos : Pos} {fz₂ : Fz} {σ₂ : AHeap} {I : Addr} {wr : List Addr} {xs : List AVal} {St : Nat → Heap → Prop} {Lent : Heap → Prop} {back : AHeap → AHeap} {s₂ : Shared} {E : Value → Shared → Prop} {RR : Value → Addr → Result → Shared → Prop}
    (Inv : List AVal → List AVal → AHeap → Prop) (ok : f.Ok C n) (hee₀ : ∀ c, compEnvC scope cl c f.env = f.envOn (some (scope', cl, c))) (hk' : scope'.kind = .function) (hcell : ∀ y ∈ scope.names, y.2 ≠ .cell) (hkind : scope.kind = .function) (hx : scope.names.lookup x = some .local)
    (x2 : SX C f fz₂ m σ₂ wr s₂) (W : Wk C f fz₂ I wr xs St Lent back) (st : St 0 s₂.heap) (hz : xs.length ≤ sizeLine) (q2 : Inv xs [] σ₂)
    (turn : ∀ pin c v xs ys σ', Inv (v :: xs) ys σ' → σ' c = none → WQ C n (f.withComp (some (scope', cl, c)) pin) ifs m (σ'.set c (.ns [(x, v)])) fun b σ₁ => if b = true then WE C n (f.withComp (some (scope', cl, c)) pin) elt m σ₁ fun y σ₂ => (∃ as, σ₂ c = some (.ns as)) ∧ ∃ σ₃ : AHeap, σ₃.le σ₂ ∧ σ₃ c = none ∧ Inv xs (ys ++ [y]) σ₃ else (∃ as, σ₁ c = some (.ns as)) ∧ ∃ σ₃ : AHeap, σ₃.le σ₁ ∧ σ₃ c = none ∧ Inv xs ys σ₃)
    (done : ∀ c D fz' σ' ys vs k h tk mc', (∀ p ∈ fz₂, p ∈ fz') → SX C f fz' m σ' (c :: D :: wr) { s₂ with heap := h, toks := tk } → c ∉ wr → D ∉ wr → c ≠ D → h.Ns c mc' → h.get? D = some (listOf vs.toArray k) → Vs (At C fz') vs ys → Lent h → Inv [] ys σ' → RR (.ref D) c (.ok .next) { s₂ with heap := h, toks := tk }) :
    wpAny (Md C) f.A (newList []) (fun acc s₃ => wpAny (Md C) f.A (newFunctionEnv scope f.env.globals cl [] f.env.qual none .none (some f.env)) (fun cenv s₄ =>
      codeAny (Md C) f.A (.compStart (.ListComp elt [⟨.Name x px, iter, ifs, 0⟩] scope pos) 0 (.ref I) acc { cenv with scope := relabel scope f.env }) (RR acc cenv.locals) s₄) E s₃) E s₂ := by
  refine wpAny_newObj_type (wpAny_newFunctionEnv hcell (by intro y hy; simp at hy) (fun h₁ hns₁ hsb₁ => ?_) hkind)
  dsimp only at hns₁ hsb₁ ⊢
  generalize hH2 : s₂.heap.push { cls := .type "list", dict := none, data := .seq ([] : List Value).toArray } = H2 at hns₁ hsb₁ ⊢
  have hC : H2.objs.size = s₂.heap.objs.size + 1 := by rw [← hH2, Heap.size_push]
  have hDC : s₂.heap.objs.size ≠ H2.objs.size := by rw [hC]; exact Nat.ne_of_lt (Nat.lt_succ_self _)
  have below : ∀ b, b < s₂.heap.objs.size → b ≠ H2.objs.size ∧ b ≠ s₂.heap.objs.size := fun b hb => ⟨by rw [hC]; exact Nat.ne_of_lt (Nat.lt_succ_of_lt hb), Nat.ne_of_lt hb⟩
  have old : ∀ b o, s₂.heap.get? b = some o → h₁.get? b = some o := fun b o e => hsb₁.extBut b o (below b (Heap.lt_size e)).1 (Heap.get?_push_of_some _ (hH2 ▸ Heap.get?_push_of_some _ e))
  have hacc : h₁.get? s₂.heap.objs.size = some (listOf ([] : List Value).toArray 0) := hsb₁.extBut _ _ hDC (Heap.get?_push_of_some _ (hH2 ▸ Heap.get?_push_size _ rfl))
  generalize hD : s₂.heap.objs.size = D at *
  generalize hCc : H2.objs.size = c at *
  have wlt : ∀ b ∈ wr, b < D := fun b hb => by obtain ⟨o, ho⟩ := W.live _ _ st b hb; rw [← hD]; exact Heap.lt_size ho
  have hDw : D ∉ wr := fun q => Nat.lt_irrefl _ (wlt _ q)
  have hcw : c ∉ wr := fun q => by exact absurd (wlt _ q) (by rw [hC]; exact Nat.not_lt.mpr (Nat.le_succ _))
  have hst₁ : St 0 h₁ := W.frame _ _ _ st (fun b _ o e => old b o e) fun b o q => by
    rcases q with q | q
    · exact old _ _ (x2.sr.at_ ok q)
    · obtain ⟨mc, news, δ, F, N, R, e, _⟩ := x2
      exact old _ _ (N _ (R.sub _ (List.mem_append_right _ q))).1
  have x3 : SX C f fz₂ m σ₂ (c :: D :: wr) { s₂ with heap := h₁, toks := s₂.toks + ([] : List (Str × Value)).length } := x2.wide (t := s₂.toks + ([] : List (Str × Value)).length) [c, D] old (fun b hb => by
    rcases List.mem_cons.mp hb with rfl | hb
    · rw [hC, hD]; exact Nat.le_succ _
    · rw [List.mem_singleton.mp hb, hD]; exact Nat.le_refl _)
  have hpin : ∀ p ∈ f.pin, p.1 ∉ D :: wr := by
    obtain ⟨mc, news, δ, F, N, R, e, h1, h2, h3⟩ := x3
    exact fun p hp q => h1 p (R.sub p (List.mem_append_right _ hp)) (List.mem_cons_of_mem _ q)
  have hL : f.L ∉ D :: wr := by obtain ⟨mc, news, δ, F, N, R, e, h1, h2, h3⟩ := x3; exact fun q => h2 (List.mem_cons_of_mem _ q)
  have h0 : ∀ b ∈ D :: wr, f.h₀.get? b = none := by obtain ⟨mc, news, δ, F, N, R, e, h1, h2, h3⟩ := x3; exact fun b hb => h3 b (List.mem_cons_of_mem _ hb)
  have hcD : c ∉ D :: wr := fun q => by
    rcases List.mem_cons.mp q with q | q
    · exact hDC q.symm
    · exact hcw q
  have loop : ∀ s₃ : Shared, s₃ = { s₂ with heap := h₁, toks := s₂.toks + ([] : List (Str × Value)).length } →
      codeAny (Md C) f.A (.compLoop (.ListComp elt [⟨.Name x px, iter, ifs, 0⟩] scope pos) 0 (.ref I) (.ref D) (compEnvC scope cl c f.env)) (RR (.ref D) c) s₃ := by
    rintro s₃ rfl
    refine codeAny_compLoop_tests (fun k s' => ∃ fz' σ' i h tk ys vs kk mc', s' = { s₂ with heap := h, toks := tk } ∧ (∀ p ∈ fz₂, p ∈ fz') ∧ SX C f fz' m σ' (c :: D :: wr) s' ∧ h.Ns c mc' ∧ h.get? D = some (listOf vs.toArray kk) ∧ Vs (At C fz') vs ys ∧ ys.length ≤ i ∧ St i h ∧ Inv (xs.drop i) ys σ' ∧ i ≤ xs.length ∧ k = xs.length - i) ?_ xs.length
      ⟨fz₂, σ₂, 0, h₁, _, [], [], 0, _, rfl, sub_refl, x3, hns₁, hacc, .nil, Nat.le_refl _, hst₁, q2, Nat.zero_le _, rfl⟩
    rintro k s' ⟨fz', σ', i, h, tk, ys, vs, kk, mc', rfl, u3, x4, hns, hD4, hvs, hyl, st4, q4, hi, rfl⟩
    cases hxi : xs[i]? with
    | none =>
      have hlen : i = xs.length := by have := List.getElem?_eq_none_iff.mp hxi; omega
      subst hlen
      refine W.done _ _ _ st4 fun h' tk' kp hl => ?_
      rw [List.drop_length] at q4
      exact done c D fz' σ' ys vs kk h' tk' mc' u3 (x4.step (t := tk') fun b o hb e => kp b o (fun q => hb (List.mem_cons_of_mem _ (List.mem_cons_of_mem _ q))) e) hcw hDw (Ne.symm hDC) (hns.at' fun o e => kp _ o hcw e) (kp _ _ hDw hD4) hvs hl q4
    | some b =>
      obtain ⟨hlt, hb⟩ := List.getElem?_eq_some_iff.mp hxi
      have hd : xs.drop i = b :: xs.drop (i + 1) := by rw [List.drop_eq_getElem_cons hlt, hb]
      rw [hd] at q4
      refine W.go i _ _ _ b hxi st4 fun v h₂ tk₂ hv st5 kp => ?_
      refine wpAny_assign_Name (wpAny_storeName_local (lookup_relabel_local hx) (hns.at' fun o e => kp _ o hcw e) (fun h₃ hn₃ hs₃ => ?_) (by simp [compEnvC, relabel, hkind]))
      have x5 : SX C f fz' m σ' (c :: D :: wr) { s₂ with heap := h₃, toks := tk₂ + 1 } := x4.step (t := tk₂ + 1) fun b o hb e => hs₃.extBut b o (fun q => hb (by rw [q]; exact List.mem_cons_self ..)) (kp b o (fun q => hb (List.mem_cons_of_mem _ (List.mem_cons_of_mem _ q))) e)
      have hD5 : h₃.get? D = some (listOf vs.toArray kk) := hs₃.extBut _ _ hDC (kp _ _ hDw hD4)
      have st6 : St (i + 1) h₃ := by
        refine W.frame _ _ _ st5 (fun b hb o e => hs₃.extBut b o (fun q => hcw (by have q' : b = c := q; rw [← q']; exact hb)) e) fun b o q => ?_
        rcases q with q | q
        · exact x5.sr.at_ ok (q.mono u3)
        · obtain ⟨mc, news, δ, F, N, R, e, _⟩ := x5
          exact (N _ (R.sub _ (List.mem_append_right _ q))).1
      have he : ER (At C fz') [(x, b)] (fun y => if y = x then some v else mc' y) := fun y a hy => by
        unfold getA at hy
        by_cases q : (x == y) = true
        · rw [if_pos q] at hy; cases hy
          have : x = y := by simpa using q
          exact ⟨v, if_pos this.symm, hv.up u3⟩
        · rw [if_neg q] at hy; cases hy
      obtain ⟨hcn, x6⟩ := SX.names (k := some (scope', cl, c)) x5 hcD hn₃ he
      have hee : compEnvC scope cl c f.env = (f.withComp (some (scope', cl, c)) (ownP (D :: wr) h₃ ++ f.pin)).env := hee₀ c
      have live : ∀ b ∈ D :: wr, ∃ o, (b, o) ∈ ownP (D :: wr) h₃ := fun b hb => by
        rcases List.mem_cons.mp hb with rfl | hb'
        · exact ⟨_, mem_ownP.mpr ⟨hb, hD5⟩⟩
        · obtain ⟨o, ho⟩ := W.live _ _ st6 b hb'; exact ⟨o, mem_ownP.mpr ⟨hb, ho⟩⟩
      have after : ∀ {fz₇ σ₇ s₇}, (∀ p ∈ fz', p ∈ fz₇) → SR C (f.withComp (some (scope', cl, c)) (ownP (D :: wr) h₃ ++ f.pin)) fz₇ m σ₇ s₇ → St (i + 1) s₇.heap ∧ s₇.heap.get? D = some (listOf vs.toArray kk) := by
        intro fz₇ σ₇ s₇ u7 x7
        have pinned : ∀ {b o}, (b, o) ∈ ownP (D :: wr) h₃ ++ f.pin → s₇.heap.get? b = some o := fun {b o} hm => by
          obtain ⟨mc, news, δ, F, N, R, e⟩ := x7
          exact (N _ (R.sub _ (List.mem_append_right _ hm))).1
        refine ⟨W.frame _ _ _ st6 (fun b hb o ho => pinned (List.mem_append_left _ (mem_ownP.mpr ⟨List.mem_cons_of_mem _ hb, ho⟩))) fun b o q => ?_, pinned (List.mem_append_left _ (mem_ownP.mpr ⟨List.mem_cons_self .., hD5⟩))⟩
        rcases q with q | q
        · exact x7.at_ (ok.comp hk') ((q.mono u3).mono u7)
        · exact pinned (List.mem_append_right _ q)
      rw [hee]
      refine wpAny_mono (turn (ownP (D :: wr) h₃ ++ f.pin) c b _ ys σ' q4 hcn (ok.comp hk') fz' _ _ x6) (fun bb s₇ hq => hq.el fun fz₇ σ₇ u7 e7 x7 q7 => ?_) fun _ _ x => x
      cases bb with
      | false =>
        rw [if_neg (by decide)] at q7 ⊢
        obtain ⟨⟨as, has⟩, σ₃, hle, hσc, q7⟩ := q7
        obtain ⟨x8, mc8, hn8⟩ := SX.unname live hpin hL h0 x7 has hle hσc
        obtain ⟨st8, hD8⟩ := after u7 x7
        obtain ⟨hh, tt, ee⟩ := e7
        subst ee
        exact ⟨xs.length - (i + 1), by omega, fz₇, σ₃, i + 1, hh, tt, ys, vs, kk, mc8, rfl, fun p hp => u7 p (u3 p hp), x8, hn8, hD8, hvs.up u7, by omega, st8, q7, hlt, rfl⟩
      | true =>
        rw [if_pos rfl] at q7 ⊢
        refine wpAny_mono (q7 (ok.comp hk') fz₇ s₇ _ x7) (fun y s₈ hq => hq.el fun fz₈ σ₈ ya u8 e8 x8 vy q8 => ?_) fun _ _ x => x
        obtain ⟨⟨as, has⟩, σ₃, hle, hσc, q8⟩ := q8
        obtain ⟨x9, mc9, hn9⟩ := SX.unname live hpin hL h0 x8 has hle hσc
        obtain ⟨st9, hD9⟩ := after (fun p hp => u8 p (u7 p hp)) x8
        obtain ⟨hh, tt, ee⟩ := e7.trans e8
        subst ee
        refine append_at (hsz := by rw [List.size_toArray, hvs.length]; omega) hD9 fun h₅ hs₅ hD₅ => ?_
        refine ⟨xs.length - (i + 1), by omega, fz₈, σ₃, i + 1, h₅, tt, ys ++ [ya], vs ++ [y], kk + 1, mc9, rfl, fun p hp => u8 p (u7 p (u3 p hp)), x9.step (t := tt) fun b o hb e => hs₅.extBut b o (fun q => hb (by rw [q]; exact List.mem_cons_of_mem _ (List.mem_cons_self ..))) e, hn9.sameBut hs₅ (Ne.symm hDC), by simpa using hD₅, ((hvs.up u7).up u8).append (.cons vy .nil), by simp; omega, ?_, q8, hlt, rfl⟩
        refine W.frame _ _ _ st9 (fun b hb o e => hs₅.extBut b o (fun q => hDw (q ▸ hb)) e) fun b o q => ?_
        have ne : b ≠ D := fun e => by
          rcases q with q | q
          · rcases q with q | q
            · obtain ⟨mc, news, δ, F, N, R, e', g1, g2, g3⟩ := x2.wide (t := s₂.toks) [c, D] old (fun b hb => by
                rcases List.mem_cons.mp hb with rfl | hb
                · rw [hC, hD]; exact Nat.le_succ _
                · rw [List.mem_singleton.mp hb, hD]; exact Nat.le_refl _)
              exact g1 _ (R.sub _ (List.mem_append_left _ q)) (by rw [e]; exact List.mem_cons_of_mem _ (List.mem_cons_self ..))
            · have := ok.hk _ _ q; rw [e, h0 D (List.mem_cons_self ..)] at this; cases this
          · exact hpin _ q (by rw [e]; exact List.mem_cons_self ..)
        have : hh.get? b = some o := by
          rcases q with q | q
          · exact x8.at_ (ok.comp hk') (((q.mono u3).mono u7).mono u8)
          · obtain ⟨mc, news, δ, F, N, R, e⟩ := x8
            exact (N _ (R.sub _ (List.mem_append_right _ (List.mem_append_right _ q)))).1
        exact hs₅.extBut b o ne this
  exact codeAny_compStart_list (loop _ rfl) (W.self 0 _ _ _ hst₁ (loop _ rfl))

theorem comp_block {elt iter : Expr} {x : Str} {px : Pos} {ifs : List Expr} {scope : Scope} {cl : List (Str × Addr)} {pos : Pos} {fz₂ : Fz} {σ₂ : AHeap} {I : Addr} {wr : List Addr} {xs : List AVal} {St : Nat → Heap → Prop} {Lent : Heap → Prop} {back : AHeap → AHeap} {s₂ : Shared} {E : Value → Shared → Prop} {RR : Value → Addr → Result → Shared → Prop}
    (Inv : List AVal → List AVal → AHeap → Prop) (ok : f.Ok C n) (hcf : f.comp = none) (hcell : ∀ y ∈ scope.names, y.2 ≠ .cell) (hkind : scope.kind = .function) (hx : scope.names.lookup x = some .local)
    (x2 : SX C f fz₂ m σ₂ wr s₂) (W : Wk C f fz₂ I wr xs St Lent back) (st : St 0 s₂.heap) (hz : xs.length ≤ sizeLine) (q2 : Inv xs [] σ₂)
    (turn : ∀ pin c v xs ys σ', Inv (v :: xs) ys σ' → σ' c = none → WQ C n (f.withComp (some (scope, cl, c)) pin) ifs m (σ'.set c (.ns [(x, v)])) fun b σ₁ => if b = true then WE C n (f.withComp (some (scope, cl, c)) pin) elt m σ₁ fun y σ₂ => (∃ as, σ₂ c = some (.ns as)) ∧ ∃ σ₃ : AHeap, σ₃.le σ₂ ∧ σ₃ c = none ∧ Inv xs (ys ++ [y]) σ₃ else (∃ as, σ₁ c = some (.ns as)) ∧ ∃ σ₃ : AHeap, σ₃.le σ₁ ∧ σ₃ c = none ∧ Inv xs ys σ₃)
    (done : ∀ c D fz' σ' ys vs k h tk mc', (∀ p ∈ fz₂, p ∈ fz') → SX C f fz' m σ' (c :: D :: wr) { s₂ with heap := h, toks := tk } → c ∉ wr → D ∉ wr → c ≠ D → h.Ns c mc' → h.get? D = some (listOf vs.toArray k) → Vs (At C fz') vs ys → Lent h → Inv [] ys σ' → RR (.ref D) c (.ok .next) { s₂ with heap := h, toks := tk }) :
    wpAny (Md C) f.A (newList []) (fun acc s₃ => wpAny (Md C) f.A (newFunctionEnv scope f.env.globals cl [] f.env.qual none .none (some f.env)) (fun cenv s₄ =>
      codeAny (Md C) f.A (.compStart (.ListComp elt [⟨.Name x px, iter, ifs, 0⟩] scope pos) 0 (.ref I) acc { cenv with scope := relabel scope f.env }) (RR acc cenv.locals) s₄) E s₃) E s₂ :=
  comp_blockG (scope' := scope) Inv ok (fun c => by have hfe : f.env = f.fenv := by unfold Fm.env; rw [hcf]
                                                    rw [hfe]) hkind hcell hkind hx x2 W st hz q2 turn done
/-- a row built in a row, as a value -/
theorem we_compG {scope' : Scope} {elt iter : Expr} {x : Str} {px : Pos} {ifs : List Expr} {scope : Scope} {cl : List (Str × Addr)} {pos : Pos} {Q : AVal → AHeap → Prop} (Inv : (AHeap → AHeap) → List AVal → List AVal → AHeap → Prop)
    (hclos : closureFor scope f.env = pure cl)
    (h : WI C n f iter m σ fun back xs σ₂ => xs.length ≤ sizeLine ∧ Inv back xs [] σ₂)
    (turn : ∀ back pin c v xs ys σ', Inv back (v :: xs) ys σ' → σ' c = none → WQ C n (f.withComp (some (scope', cl, c)) pin) ifs m (σ'.set c (.ns [(x, v)])) fun b σ₁ => if b = true then WE C n (f.withComp (some (scope', cl, c)) pin) elt m σ₁ fun y σ₂ => (∃ as, σ₂ c = some (.ns as)) ∧ ∃ σ₃ : AHeap, σ₃.le σ₂ ∧ σ₃ c = none ∧ Inv back xs (ys ++ [y]) σ₃ else (∃ as, σ₁ c = some (.ns as)) ∧ ∃ σ₃ : AHeap, σ₃.le σ₁ ∧ σ₃ c = none ∧ Inv back xs ys σ₃)
    (done : ∀ back ys σ', Inv back [] ys σ' → Q (.lst ys) (back σ'))
    (hee₀ : ∀ c, compEnvC scope cl c f.env = f.envOn (some (scope', cl, c)) := by intro _; rfl) (hk' : scope'.kind = .function := by rfl) (hcell : ∀ y ∈ scope.names, y.2 ≠ .cell := by decide) (hkind : scope.kind = .function := by rfl) (hnames : ∀ y ∈ scope.names, y.2 = .local → scope.names.lookup y.1 = some .local := by decide) (hx : scope.names.lookup x = some .local := by rfl)
    (hs : ∀ x, foldedSetIterable iter f.env x = pure x := by intro _; rfl) : WE C n f (.ListComp elt [⟨.Name x px, iter, ifs, 0⟩] scope pos) m σ Q := fun ok fz s E x0 => by
  rw [eval_ListComp]
  refine wpAny_comprehension_free (use := none) rfl hs hclos hkind hnames (wpAny_mono (h ok fz s E x0) (fun v s₁ q1 => wpAny_mono q1 (fun it s₂ ⟨fz₂, σ₂, I, wr, xs, St, Lent, back, ei, u2, e2, x2, W, st, hz, q2⟩ => ?_) fun _ _ x => x) fun _ _ x => x)
  subst ei
  refine comp_blockG (scope' := scope') (RR := fun acc c => compPost (Md C) f.A E none (PV C f m fz s Q) acc c) (Inv back) ok hee₀ hk' hcell hkind hx x2 W st hz q2 (fun pin c v xs ys σ' => turn back pin c v xs ys σ') ?_
  intro c D fz' σ' ys vs k h tk mc' u3 x3 hcw hDw hcD hns hD hvs hl q3
  refine ⟨mc', hns, fun h'' hs'' => ?_⟩
  have hk : ∀ b o, b ∉ c :: D :: wr → h.get? b = some o → h''.get? b = some o := fun b o hb e => hs''.extBut b o (fun q => hb (by rw [q]; exact List.mem_cons_self ..)) e
  have x4 : SX C f fz' m σ' (c :: D :: wr) { s₂ with heap := h'', toks := tk } := x3.step (t := tk) hk
  have x5 : SX C f fz' m σ' (D :: wr) { s₂ with heap := h'', toks := tk } := x4.sub fun b hb => List.mem_cons_of_mem _ hb
  have hD' : h''.get? D = some (listOf vs.toArray k) := hs''.extBut _ _ (Ne.symm hcD) hD
  have x6 := x5.ice hDw hD'
  have x7 := W.back _ _ _ _ (fun p hp => List.mem_append_right _ (u3 p hp)) x6 (W.lentF _ _ hl fun b hb o e => hs''.extBut b o (fun q => hcw (q ▸ hb)) e)
  exact ⟨_, _, .lst ys, fun p hp => List.mem_append_right _ (u3 p (u2 p hp)), e2.trans ⟨_, _, rfl⟩, x7, .lst (.inl (List.mem_append_left _ (List.mem_singleton.mpr rfl))) rfl rfl (hvs.up fun p hp => List.mem_append_right _ hp), done _ _ _ q3⟩
/-- a row built from a walk: as a value -/
theorem we_compB {elt iter : Expr} {x : Str} {px : Pos} {ifs : List Expr} {scope : Scope} {cl : List (Str × Addr)} {pos : Pos} {Q : AVal → AHeap → Prop} (Inv : (AHeap → AHeap) → List AVal → List AVal → AHeap → Prop)
    (hclos : closureFor scope f.env = pure cl)
    (h : WI C n f iter m σ fun back xs σ₂ => xs.length ≤ sizeLine ∧ Inv back xs [] σ₂)
    (turn : ∀ back pin c v xs ys σ', Inv back (v :: xs) ys σ' → σ' c = none → WQ C n (f.withComp (some (scope, cl, c)) pin) ifs m (σ'.set c (.ns [(x, v)])) fun b σ₁ => if b = true then WE C n (f.withComp (some (scope, cl, c)) pin) elt m σ₁ fun y σ₂ => (∃ as, σ₂ c = some (.ns as)) ∧ ∃ σ₃ : AHeap, σ₃.le σ₂ ∧ σ₃ c = none ∧ Inv back xs (ys ++ [y]) σ₃ else (∃ as, σ₁ c = some (.ns as)) ∧ ∃ σ₃ : AHeap, σ₃.le σ₁ ∧ σ₃ c = none ∧ Inv back xs ys σ₃)
    (done : ∀ back ys σ', Inv back [] ys σ' → Q (.lst ys) (back σ'))
    (hcf : f.comp = none := by rfl) (hcell : ∀ y ∈ scope.names, y.2 ≠ .cell := by decide) (hkind : scope.kind = .function := by rfl) (hnames : ∀ y ∈ scope.names, y.2 = .local → scope.names.lookup y.1 = some .local := by decide) (hx : scope.names.lookup x = some .local := by rfl)
    (hs : ∀ x, foldedSetIterable iter f.env x = pure x := by intro _; rfl) : WE C n f (.ListComp elt [⟨.Name x px, iter, ifs, 0⟩] scope pos) m σ Q :=
  we_compG (scope' := scope) Inv hclos h turn done (fun c => by have hfe : f.env = f.fenv := by unfold Fm.env; rw [hcf]
                                                                rw [hfe]) hkind hcell hkind hnames hx hs
/-- a row built from a walk, under a name at once -/
theorem w1_assignComp {elt iter : Expr} {x y : Str} {px py : Pos} {ifs : List Expr} {scope : Scope} {cl : List (Str × Addr)} {pos spos : Pos} {Q : AFlow → AEnv → AHeap → Prop} (Inv : List AVal → List AVal → AHeap → Prop)
    (hclos : closureFor scope f.env = pure cl)
    (h : WI C n f iter m σ fun back xs σ₂ => back = id ∧ xs.length ≤ sizeLine ∧ Inv xs [] σ₂)
    (turn : ∀ pin c v xs ys σ', Inv (v :: xs) ys σ' → σ' c = none → WQ C n (f.withComp (some (scope, cl, c)) pin) ifs m (σ'.set c (.ns [(x, v)])) fun b σ₁ => if b = true then WE C n (f.withComp (some (scope, cl, c)) pin) elt m σ₁ fun y σ₂ => (∃ as, σ₂ c = some (.ns as)) ∧ ∃ σ₃ : AHeap, σ₃.le σ₂ ∧ σ₃ c = none ∧ Inv xs (ys ++ [y]) σ₃ else (∃ as, σ₁ c = some (.ns as)) ∧ ∃ σ₃ : AHeap, σ₃.le σ₁ ∧ σ₃ c = none ∧ Inv xs ys σ₃)
    (done : ∀ pin ys σ', Inv [] ys σ' → TS C n (f.withPin pin) y (.lst ys) m σ' fun m' σ'' => Q .next m' σ'')
    (hsw : swapsWith (.ListComp elt [⟨.Name x px, iter, ifs, 0⟩] scope pos) (some (.Name y py)) spos.line f.env = pure true := by rfl)
    (hcf : f.comp = none := by rfl) (hcell : ∀ y ∈ scope.names, y.2 ≠ .cell := by decide) (hkind : scope.kind = .function := by rfl) (hnames : ∀ y ∈ scope.names, y.2 = .local → scope.names.lookup y.1 = some .local := by decide) (hx : scope.names.lookup x = some .local := by rfl)
    (hs : ∀ x, foldedSetIterable iter f.env x = pure x := by intro _; rfl) : W1 C n f (.Assign [.Name y py] (.ListComp elt [⟨.Name x px, iter, ifs, 0⟩] scope pos) spos) m σ Q := fun ok fz s E x0 => by
  rw [exec_Assign_Name_used _ _ _ _ hsw]
  refine wpAny_bind (wpAny_standAt (wpAny_bind ?_))
  show wpAny _ f.A (do let _ ← comprehension (.ListComp elt [⟨.Name x px, iter, ifs, 0⟩] scope pos) scope f.env _ (newList []) false (eval iter f.env) (some (assign (.Name y py) f.env))) _ _ s
  refine wpAny_bind (wpAny_mono (wpAny_comprehension_free (use := some (assign (.Name y py) f.env)) (Q := fun _ s' => PS C f fz s Q .next s') rfl hs hclos hkind hnames
    (wpAny_mono (h ok fz s E x0) (fun v s₁ q1 => wpAny_mono q1 (fun it s₂ ⟨fz₂, σ₂, I, wr, xs, St, Lent, back, ei, u2, e2, x2, W, st, eb, hz, q2⟩ => ?_) fun _ _ x => x) fun _ _ x => x)) (fun _ s' hq => wpAny_pure (wpAny_pure hq)) fun _ _ e => e)
  subst ei
  refine comp_block (RR := fun acc c => compPost (Md C) f.A E (some (assign (.Name y py) f.env)) (fun _ s' => PS C f fz s Q .next s') acc c) Inv ok hcf hcell hkind hx x2 W st hz q2 turn ?_
  intro c D fz' σ' ys vs k h tk mc' u3 x3 hcw hDw hcD hns hD hvs hl q3
  obtain ⟨oc, hoc, hnc⟩ := LCg.ns_obj hns
  have x6 : SX C f ([(D, listOf vs.toArray k)] ++ fz') m σ' (c :: wr) { s₂ with heap := h, toks := tk } := by
    have x5 : SX C f fz' m σ' (D :: c :: wr) { s₂ with heap := h, toks := tk } := x3.sub fun b hb => by
      rcases List.mem_cons.mp hb with rfl | hb
      · exact List.mem_cons_of_mem _ (List.mem_cons_self ..)
      · rcases List.mem_cons.mp hb with rfl | hb
        · exact List.mem_cons_self ..
        · exact List.mem_cons_of_mem _ (List.mem_cons_of_mem _ hb)
    exact x5.ice (fun q => by rcases List.mem_cons.mp q with q | q; exact hcD q.symm; exact hDw q) hD
  have hpin : ∀ p ∈ f.pin, p.1 ∉ [c] := by
    obtain ⟨mc, news, δ, F, N, R, e, h1, h2, h3⟩ := x6
    exact fun p hp q => h1 p (R.sub p (List.mem_append_right _ hp)) (by rw [List.mem_singleton.mp q]; exact List.mem_cons_self ..)
  have hcL : f.L ∉ [c] := by
    obtain ⟨mc, news, δ, F, N, R, e, h1, h2, h3⟩ := x6
    exact fun q => h2 (by rw [List.mem_singleton.mp q]; exact List.mem_cons_self ..)
  have hc0 : ∀ b ∈ [c], f.h₀.get? b = none := by
    obtain ⟨mc, news, δ, F, N, R, e, h1, h2, h3⟩ := x6
    exact fun b q => h3 b (by rw [List.mem_singleton.mp q]; exact List.mem_cons_self ..)
  have x7 : SX C f ([(D, listOf vs.toArray k)] ++ fz') m σ' [c] { s₂ with heap := h, toks := tk } := x6.sub fun b hb => by rw [List.mem_singleton.mp hb]; exact List.mem_cons_self ..
  have x8 := x7.pin
  refine wpAny_assign_Name (wpAny_mono (done (ownP [c] h ++ f.pin) _ _ q3 ok.pin _ _ _ _ x8 (.lst (.inl (List.mem_append_left _ (List.mem_singleton.mpr rfl))) rfl rfl (hvs.up fun p hp => List.mem_append_right _ hp))) (fun _ s₈ hq => PU.el hq fun fz₈ σ₈ m₈ u8 e8 x9 q9 => ?_) fun _ _ x => x)
  have hoc8 : s₈.heap.get? c = some oc := by
    obtain ⟨mc, news, δ, F, N, R, e⟩ := x9
    exact (N _ (R.sub _ (List.mem_append_right _ (List.mem_append_left _ ((mem_ownP (p := (c, oc))).mpr ⟨List.mem_singleton.mpr rfl, hoc⟩))))).1
  have x10 : SX C f fz₈ m₈ σ₈ [c] s₈ := SX.unpin (own := ownP [c] h) (fun b hb => by rw [List.mem_singleton.mp hb]; exact ⟨oc, mem_ownP.mpr ⟨List.mem_singleton.mpr rfl, hoc⟩⟩) hpin hcL hc0 x9
  refine ⟨mc', hnc.ns hoc8, fun h'' hs'' => ?_⟩
  have x11 := x10.step (t := s₈.toks) (h' := h'') fun b o hb e => hs''.extBut b o (fun q => hb (by rw [q]; exact List.mem_singleton.mpr rfl)) e
  exact ⟨fz₈, σ₈, m₈, .next, fun p hp => u8 p (List.mem_append_right _ (u3 p (u2 p hp))), (e2.trans (Same.trans ⟨_, _, rfl⟩ e8)).trans ⟨_, _, rfl⟩, x11.sr, trivial, q9⟩
end
end Mine

open PySem PySem.W PyProof.Rows PySem.Calls
namespace Mine
section
variable {C : Cx} {n : Nat} {f : Fm} {m : AEnv} {σ : AHeap}
theorem HR.addThing {fz pin : Fz} {δ : Addr → Addr} {news : List (Addr × Obj)} {D : Addr} {o : Obj} {ao : AObj} (R : HR C fz pin σ δ news) (hn : ∀ c as, ao ≠ .inst c as) (nn : ∀ q ∈ news, q.1 ≠ D) (hr : ∀ news d, (D, o) ∈ news → OR (At C fz) news d D ao) : HR C fz pin (σ.set D ao) δ ((D, o) :: news) := by
  have keep : ∀ {b c as}, σ.set D ao b = some (.inst c as) → b ≠ D ∧ σ b = some (.inst c as) := fun {b c as} hb => by
    by_cases q : b = D
    · subst q; rw [AHeap.set_same] at hb; exact absurd (Option.some.inj hb) (hn _ _)
    · rw [AHeap.set_ne _ _ q] at hb; exact ⟨q, hb⟩
  have dn : ∀ b c as, σ b = some (.inst c as) → δ b ≠ D := fun b c as hb => by obtain ⟨_, es, n, h, _⟩ := R.ob b _ hb; exact nn _ h
  refine ⟨fun p hp => .tail _ (R.sub p hp), R.apart, fun b bo hb => ?_, fun b bo hb p hp => ?_, fun b c as hb p hp => R.doff b c as (keep hb).2 p hp, fun b c as hb => ?_, R.free, fun b c as b' c' bs h1 h2 => R.dinj b c as b' c' bs (keep h1).2 (keep h2).2⟩
  · by_cases q : b = D
    · subst q; rw [AHeap.set_same] at hb; cases hb; exact hr _ _ (List.mem_cons_self ..)
    · rw [AHeap.set_ne _ _ q] at hb
      exact (R.ob b bo hb).mono (fun _ _ x => x) (fun _ hm => .tail _ hm) fun c as eb _ hm => .tail _ hm
  · by_cases q : b = D
    · subst q; exact nn _ (R.sub p hp)
    · rw [AHeap.set_ne _ _ q] at hb; exact R.off b bo hb p hp
  · rw [AHeap.set_ne _ _ (dn b c as (keep hb).2)]; exact R.dσ b c as (keep hb).2

/-! ## a def of the text, with cells -/
def cellS (cm : Str → Option AVal) : List (Str × Addr) → AHeap → AHeap
  | [], σ => σ
  | (y, c) :: r, σ => (cellS cm r σ).set c (.cell (cm y))
theorem HR.addCells {fz pin : Fz} {δ : Addr → Addr} {news : List (Addr × Obj)} {cm : Str → Option Value} {acm : Str → Option AVal} (R : HR C fz pin σ δ news) :
    ∀ {cs : List (Str × Addr)} {cells : List (Addr × Obj)}, CellsAre cm cs cells → (cs.map (·.2)).Nodup → (∀ p ∈ cs, ∀ q ∈ news, q.1 ≠ p.2) → (∀ p ∈ cs, (cm p.1 = none ∧ acm p.1 = none) ∨ ∃ v a, cm p.1 = some v ∧ acm p.1 = some a ∧ V (At C fz) v a) → HR C fz pin (cellS acm cs σ) δ (cells ++ news)
  | _, _, .nil, _, _, _ => R
  | _, _, .cons (n := y) (c := c) (o := o) (cs := cs) (cells := cells) hd r, hnd, hoff, hval => by
    have hnd' := List.nodup_cons.mp (by simpa using hnd : (c :: cs.map (·.2)).Nodup)
    have ih := R.addCells r hnd'.2 (fun p hp => hoff p (List.mem_cons_of_mem _ hp)) (fun p hp => hval p (List.mem_cons_of_mem _ hp))
    have keys : ∀ {cs : List (Str × Addr)} {cells : List (Addr × Obj)}, CellsAre cm cs cells → ∀ q ∈ cells, q.1 ∈ cs.map (·.2) := by
      intro cs cells h
      induction h with
      | nil => intro q hq; cases hq
      | cons _ _ ih =>
        intro q hq
        rcases List.mem_cons.mp hq with rfl | hq
        · exact List.mem_cons_self ..
        · exact List.mem_cons_of_mem _ (ih q hq)
    refine ih.addThing (ao := .cell (acm y)) (fun _ _ => nofun) (fun q hq e => ?_) fun news d hm => ?_
    · rcases List.mem_append.mp hq with hq | hq
      · exact hnd'.1 (by rw [← e]; exact keys r q hq)
      · exact hoff (y, c) (List.mem_cons_self ..) q hq e
    · rcases hval (y, c) (List.mem_cons_self ..) with ⟨h1, h2⟩ | ⟨v, a, h1, h2, h3⟩
      · have h1' : cm y = none := h1
        have h2' : acm y = none := h2
        rw [h2']; exact ⟨o, hm, by rw [hd, h1']⟩
      · have h1' : cm y = some v := h1
        have h2' : acm y = some a := h2
        rw [h2']; exact ⟨o, v, hm, by rw [hd, h1'], h3⟩
theorem cellsFrom_nd : ∀ (names : List (Str × NameKind)) (k : Nat) (acc : List (Str × Addr)), (acc.map (·.2)).Nodup → (∀ p ∈ acc, p.2 < k) → ((cellsFrom k names acc).map (·.2)).Nodup ∧ ∀ p ∈ cellsFrom k names acc, p ∈ acc ∨ k ≤ p.2
  | [], _, acc, h, _ => ⟨h, fun p hp => .inl hp⟩
  | (y, kd) :: r, k, acc, h, hl => by
    unfold cellsFrom
    by_cases hk : (kd == .cell) = true
    · rw [if_pos hk]
      obtain ⟨h1, h2⟩ := cellsFrom_nd r (k + 1) ((y, k) :: acc) (by
        rw [List.map_cons, List.nodup_cons]
        refine ⟨fun hm => ?_, h⟩
        obtain ⟨p, hp, e⟩ := List.mem_map.mp hm
        have := hl p hp
        have e' : p.2 = k := e
        rw [e'] at this
        exact Nat.lt_irrefl _ this) (fun p hp => by
        rcases List.mem_cons.mp hp with rfl | hp
        · exact Nat.lt_succ_self _
        · exact Nat.lt_succ_of_lt (hl p hp))
      refine ⟨h1, fun p hp => ?_⟩
      rcases h2 p hp with q | q
      · rcases List.mem_cons.mp q with rfl | q
        · exact .inr (Nat.le_refl _)
        · exact .inl q
      · exact .inr (Nat.le_of_succ_le q)
    · rw [if_neg hk]; exact cellsFrom_nd r k acc h hl
theorem bindL_off {kd : Str → Option NameKind} {y : Str} : ∀ {b : List (Str × Value)} {m : Str → Option Value}, y ∉ b.map (·.1) → bindL kd b m y = m y
  | [], _, _ => rfl
  | (z, v) :: r, m, h => by
    unfold bindL
    have h1 : y ≠ z := fun e => h (by rw [e]; exact List.mem_cons_self ..)
    rw [bindL_off fun q => h (List.mem_cons_of_mem _ q)]
    split
    · exact if_neg h1
    · rfl
theorem bindC_off {kd : Str → Option NameKind} {y : Str} : ∀ {b : List (Str × Value)} {m : Str → Option Value}, y ∉ b.map (·.1) → bindC kd b m y = m y
  | [], _, _ => rfl
  | (z, v) :: r, m, h => by
    unfold bindC
    have h1 : y ≠ z := fun e => h (by rw [e]; exact List.mem_cons_self ..)
    rw [bindC_off fun q => h (List.mem_cons_of_mem _ q)]
    split
    · rfl
    · exact if_neg h1
theorem zip_keys {α : Type} : ∀ {ns : List Str} {vs : List α} {y : Str}, y ∈ (ns.zip vs).map (·.1) → y ∈ ns
  | [], _, _, h => by simp at h
  | _ :: _, [], _, h => by simp at h
  | z :: ns, v :: vs, y, h => by
    rcases List.mem_cons.mp (by simpa using h : y ∈ z :: (ns.zip vs).map (·.1)) with rfl | h
    · exact List.mem_cons_self ..
    · exact List.mem_cons_of_mem _ (zip_keys h)
theorem zip_nd {α : Type} : ∀ {ns : List Str} {vs : List α}, ns.Nodup → ((ns.zip vs).map (·.1)).Nodup
  | [], _, _ => by simp
  | _ :: _, [], _ => by simp
  | z :: ns, v :: vs, h => by
    obtain ⟨n1, n2⟩ := List.nodup_cons.mp h
    rw [List.zip_cons_cons, List.map_cons, List.nodup_cons]
    exact ⟨fun q => n1 (zip_keys q), zip_nd n2⟩
theorem bind_get {P : Addr → Obj → Prop} {kd : Str → Option NameKind} {y : Str} {a : AVal} : ∀ {ns : List Str} {vs : List Value} {as : List AVal} {m : Str → Option Value}, Vs P vs as → ns.Nodup → getA y (ns.zip as) = some a → ∃ v, V P v a ∧ (kd y = some .local → bindL kd (ns.zip vs) m y = some v) ∧ (kd y ≠ some .local → bindC kd (ns.zip vs) m y = some v)
  | [], _, _, _, _, _, h => by simp [getA] at h
  | _ :: _, _, _, _, .nil, _, h => by simp [getA] at h
  | z :: ns, v :: vs, x :: as, m, .cons h1 h2, nd, h => by
    obtain ⟨n1, n2⟩ := List.nodup_cons.mp nd
    rw [List.zip_cons_cons] at h
    unfold getA at h
    by_cases q : (z == y) = true
    · rw [if_pos q] at h; cases h
      have q' : z = y := by simpa using q
      subst q'
      refine ⟨v, h1, fun hk => ?_, fun hk => ?_⟩
      · rw [List.zip_cons_cons]; unfold bindL
        rw [bindL_off fun q => n1 (zip_keys q), if_pos hk]; exact if_pos rfl
      · rw [List.zip_cons_cons]; unfold bindC
        rw [bindC_off fun q => n1 (zip_keys q), if_neg hk]; exact if_pos rfl
    · rw [if_neg q] at h
      obtain ⟨u, g1, g2, g3⟩ := bind_get (m := if kd z = some .local then fun y => if y = z then some v else m y else m) h2 n2 h
      obtain ⟨u', g1', g2', g3'⟩ := bind_get (kd := kd) (m := if kd z = some .local then m else fun y => if y = z then some v else m y) h2 n2 h
      by_cases hk : kd y = some .local
      · exact ⟨u, g1, fun _ => by rw [List.zip_cons_cons]; exact g2 hk, fun e => absurd hk e⟩
      · exact ⟨u', g1', fun e => absurd e hk, fun _ => by rw [List.zip_cons_cons]; exact g3' hk⟩
theorem getA_none {y : Str} : ∀ {l : List (Str × AVal)}, getA y l = none → y ∉ l.map (·.1)
  | [], _, h => by simp at h
  | (z, a) :: r, e, h => by
    unfold getA at e
    by_cases q : (z == y) = true
    · rw [if_pos q] at e; cases e
    · rw [if_neg q] at e
      rcases List.mem_cons.mp (by simpa using h : y ∈ z :: r.map (·.1)) with rfl | h
      · simp at q
      · exact getA_none e h
theorem zip_keys' {α β : Type} : ∀ {ns : List Str} {vs : List α} {ws : List β}, vs.length = ws.length → (ns.zip vs).map (·.1) = (ns.zip ws).map (·.1)
  | [], _, _, _ => by simp
  | _ :: _, [], [], _ => by simp
  | _ :: ns, _ :: vs, _ :: ws, h => by simp [zip_keys' (ns := ns) (vs := vs) (ws := ws) (by simpa using h)]
theorem getA_filter {q : Str × AVal → Bool} {y : Str} {a : AVal} : ∀ {l : List (Str × AVal)}, (l.map (·.1)).Nodup → getA y (l.filter q) = some a → getA y l = some a ∧ ∃ a', q (y, a') = true
  | [], _, h => by simp [getA] at h
  | (z, b) :: r, nd, h => by
    obtain ⟨n1, n2⟩ := List.nodup_cons.mp (by simpa using nd : (z :: r.map (·.1)).Nodup)
    by_cases hq : q (z, b) = true
    · rw [List.filter_cons_of_pos hq] at h
      unfold getA at h ⊢
      by_cases e : (z == y) = true
      · rw [if_pos e] at h; rw [if_pos e]
        have : z = y := by simpa using e
        subst this
        exact ⟨h, b, hq⟩
      · rw [if_neg e] at h; rw [if_neg e]; exact getA_filter n2 h
    · rw [List.filter_cons_of_neg hq] at h
      obtain ⟨h1, h2⟩ := getA_filter n2 h
      refine ⟨?_, h2⟩
      unfold getA
      by_cases e : (z == y) = true
      · have : z = y := by simpa using e
        subst this
        have hm : z ∈ r.map (·.1) := by
          refine Classical.byContradiction fun hn => ?_
          have : getA z r = none := by
            clear h h1 h2 nd n2
            induction r with
            | nil => rfl
            | cons p r ih =>
              obtain ⟨w, c⟩ := p
              simp only [List.map_cons, List.mem_cons, not_or] at hn
              unfold getA
              have : ¬ (w == z) = true := by simpa using fun e : w = z => hn.1 e.symm
              rw [if_neg this]
              exact ih (by simpa using hn.2) hn.2
          rw [this] at h1; cases h1
        exact absurd hm n1
      · rw [if_neg e]; exact h1
theorem fn_cells {fa : Addr} {name qual : Str} {params : Arguments} {body : List Stmt} {scope : Scope} {dV kV doc pm cdv ct oc : Value} {an od : Option Addr} {osl : Array (Option Value)} {as da : List AVal} {ns : List Str} {dv : List Value} {Q : AVal → AHeap → Prop}
    (ho : C.K.lookup fa = some ⟨oc, od, .func (fnOf name qual params body scope dV kV doc pm an cdv ct), osl⟩) (hcd : codeIn C.K cdv qual = true)
    (hbind : ∀ S vs, vs.length = as.length → peek C.K S (bindArgs (fnOf name qual params body scope dV kV doc pm an cdv ct) ⟨vs, []⟩) = some (ns.zip (vs ++ dv)))
    (hd : ∀ P, Vs P dv da) (hnd : ns.Nodup) (hloc : ∀ y ∈ ns, (scope.names.lookup y == some .local || scope.names.lookup y == some .cell) = true)
    (hck : ∀ p ∈ cellsFrom 0 scope.names [], scope.names.lookup p.1 ≠ some .local)
    (h : ∀ A₀ A base h₀ outer L pin, (∀ p ∈ cellsFrom (L + 1) scope.names [], σ p.2 = none) → WS C n ⟨A₀, A, base, h₀, outer, L, fa, qual, scope, cdv, cellsFrom (L + 1) scope.names [], pin, none⟩ body ((ns.zip (as ++ da)).filter fun p => scope.names.lookup p.1 == some .local) (cellS (fun y => getA y (ns.zip (as ++ da))) (cellsFrom (L + 1) scope.names []) σ) fun fl _ σ' => ∃ σ₂ : AHeap, σ₂.le σ' ∧ Q (retOf fl) σ₂)
    (hnc : ((cellsFrom 0 scope.names []).map (·.1)).Nodup := by decide)
    (hco : scope.isCoroutine = false := by rfl) (hgen : scope.isGenerator = false := by rfl) (hk : scope.kind = .function := by rfl) :
    Fn C (n + 1) fa as σ Q := fun f m A ok hn fz s vs x hvs => by
  obtain ⟨mc, news, δ, F, N, R, e⟩ := x
  have X := ok.kin.keeps F.keep
  have e2 := ok.depth
  have e3 := ok.units
  obtain ⟨n1, n2, n3, n4, n5⟩ := hn
  have hlen := hvs.length
  refine code_defC (env := f.fenv) (binds := ns.zip (vs ++ dv)) ok.below F ok.kin N ok.top (n1.trans ok.stack) rfl ok.kind ho hcd (by omega) (kp_binds X fun S => hbind S vs hlen) (List.all_eq_true.mpr fun y hy => hloc _ (List.of_mem_zip hy).1) hnc (fun g L' h₁ tk cells FG F' N' Y B' KG TG lt => ?_) hco hgen hk
  let f' : Fm := ⟨A, A.deeper (envOfC qual scope L' fa cdv), f.base, g, f.fenv :: f.outer, L', fa, qual, scope, cdv, cellsFrom (L' + 1) scope.names [], f.pin, none⟩
  have hkH : ∀ b o, C.H.get? b = some o → g.get? b = some o := fun b o hb => FG.keep b o (ok.hk b o hb)
  have ok' : f'.Ok C n := ⟨B', KG, TG, hkH, Around.frames_deeper B'.stack, n2.trans ok.handled, n3.trans ok.guards, by show A.depth + 1 + 3 * n < _; omega, by show A.units + 3 + 10 * n + 100 < _; omega, hk, hk⟩
  have hz := hvs.append (hd (At C fz))
  obtain ⟨nd, cl⟩ := cellsFrom_nd scope.names (L' + 1) [] List.nodup_nil (fun p hp => by cases hp)
  have cl' : ∀ p ∈ cellsFrom (L' + 1) scope.names [], L' < p.2 := fun p hp => by
    rcases cl p hp with q | q
    · cases q
    · exact q
  have off : ∀ p ∈ cellsFrom (L' + 1) scope.names [], ∀ q ∈ news, q.1 ≠ p.2 := fun p hp q hq => Nat.ne_of_lt (Nat.lt_trans (lt q hq) (cl' p hp))
  have names : ∀ (names : List (Str × NameKind)) (a b : Nat) (acc acc' : List (Str × Addr)), acc.map (·.1) = acc'.map (·.1) → (cellsFrom a names acc).map (·.1) = (cellsFrom b names acc').map (·.1) := by
    intro names
    induction names with
    | nil => intro a b acc acc' h; exact h
    | cons p r ih =>
      intro a b acc acc' h
      obtain ⟨y, kd⟩ := p
      unfold cellsFrom
      split
      · exact ih _ _ _ _ (by simp [h])
      · exact ih _ _ _ _ h
  have ck : ∀ p ∈ cellsFrom (L' + 1) scope.names [], scope.names.lookup p.1 ≠ some .local := fun p hp => by
    have : p.1 ∈ (cellsFrom 0 scope.names []).map (·.1) := by rw [names scope.names 0 (L' + 1) [] [] rfl]; exact List.mem_map_of_mem hp
    obtain ⟨q, hq, e⟩ := List.mem_map.mp this
    rw [← e]; exact hck q hq
  have R' : HR C fz f.pin (cellS (fun y => getA y (ns.zip (as ++ da))) (cellsFrom (L' + 1) scope.names []) σ) δ (cells ++ news) := R.addCells Y nd off fun p hp => by
    have hkd : (envOfC qual scope L' fa cdv).kindOf p.1 ≠ some .local := ck p hp
    cases q : getA p.1 (ns.zip (as ++ da)) with
    | none => exact .inl ⟨bindC_off (by rw [zip_keys' (ws := as ++ da) (by rw [hz.length])]; exact getA_none q), rfl⟩
    | some a =>
      obtain ⟨v, g1, g2, g3⟩ := bind_get (kd := (envOfC qual scope L' fa cdv).kindOf) (m := fun _ => none) hz hnd q
      exact .inr ⟨v, a, g3 hkd, rfl, g1⟩
  have x' : SR C f' fz ((ns.zip (as ++ da)).filter fun p => scope.names.lookup p.1 == some .local) (cellS (fun y => getA y (ns.zip (as ++ da))) (cellsFrom (L' + 1) scope.names []) σ) { s with heap := h₁, toks := tk } := by
    refine ⟨_, cells ++ news, δ, F', N', R', fun y a hy => ?_⟩
    have nd' : ((ns.zip (as ++ da)).map (·.1)).Nodup := zip_nd hnd
    obtain ⟨g1, a', g2⟩ := getA_filter nd' hy
    obtain ⟨v, g3, g4, _⟩ := bind_get (kd := (envOfC qual scope L' fa cdv).kindOf) (m := fun _ => none) hz hnd g1
    exact ⟨v, g4 (by have : scope.names.lookup y = some .local := by simpa using g2
                     exact this), g3⟩
  refine wpAny_mono (h A _ f.base g (f.fenv :: f.outer) L' f.pin (fun p hp => R.noneAt fun q hq => off p hp q hq) ok' fz _ _ x') (fun fl s' hq => hq.el fun fz' σ' m' a u es x2 va ⟨σ₂, hle, q⟩ => ?_) fun _ _ z => z
  obtain ⟨mc', news', δ', F2, N2, R2, e2⟩ := x2.weaken (fun _ _ h => h) hle
  refine leaveK_ F2 N2 fun FK NK => ⟨_, rfl, fz', σ₂, retOf a, u, ?_, ⟨mc, news', δ', FK, NK, R2, fun y b hy => ?_⟩, ?_, q⟩
  · obtain ⟨hh, tt, ee⟩ := es; exact ⟨hh, tt, ee⟩
  · obtain ⟨v, h1, h2⟩ := e y b hy; exact ⟨v, h1, h2.up u⟩
  · cases fl <;> cases a <;> first | exact va.elim | exact .none | exact va
end
end Mine

open PySem PySem.W PyProof.Rows PySem.Calls
namespace Mine
/-! ## data compared -/
mutual
inductive Rd (σ : AHeap) : AVal → PyData → Prop
  | none : Rd σ .none .none
  | bool (b : Bool) : Rd σ (.bool b) (.bool b)
  | int (i : Int) : Rd σ (.int i) (.int i)
  | str (x : Str) : Rd σ (.str x) (.str x)
  | lst {xs : List AVal} {ds : List PyData} : RdAll σ xs ds → Rd σ (.lst xs) (.list ds)
  | tup {xs : List AVal} {ds : List PyData} : RdAll σ xs ds → Rd σ (.tup xs) (.tuple ds)
  | obj {a : Addr} {xs : List AVal} {ds : List PyData} : σ a = some (.list xs) → RdAll σ xs ds → Rd σ (.obj a) (.list ds)
inductive RdAll (σ : AHeap) : List AVal → List PyData → Prop
  | nil : RdAll σ [] []
  | cons {a : AVal} {d : PyData} {xs : List AVal} {ds : List PyData} : Rd σ a d → RdAll σ xs ds → RdAll σ (a :: xs) (d :: ds)
end
section
variable {C : Cx} {n : Nat} {f : Fm} {m : AEnv} {σ : AHeap}
mutual
theorem Rd.reads {fz : Fz} {s : Shared} (ok : f.Ok C n) (x : SR C f fz m σ s) : ∀ {a : AVal} {d : PyData}, Rd σ a d → ∀ {v : Value}, V (At C fz) v a → ∃ as, Reads s.heap v d as
  | _, _, .none, _, h => by cases h; exact ⟨_, .none⟩
  | _, _, .bool b, _, h => by cases h; exact ⟨_, .bool b⟩
  | _, _, .int i, _, h => by cases h; exact ⟨_, .int i _⟩
  | _, _, .str y, _, h => by cases h; exact ⟨_, .str y _⟩
  | _, _, .lst r, _, h => by
    cases h with
    | lst h1 h2 h3 h4 => obtain ⟨as, q⟩ := RdAll.reads ok x r h4; exact ⟨_, .list (x.at_ ok h1) h2 h3 (by simpa using q)⟩
  | _, _, .tup r, _, h => by
    cases h with
    | tup h1 h2 h3 h4 => obtain ⟨as, q⟩ := RdAll.reads ok x r h4; exact ⟨_, .tuple (x.at_ ok h1) h2 h3 (by simpa using q)⟩
  | _, _, .obj e r, _, h => by
    cases h with
    | obj a =>
      obtain ⟨vs, k, h1, h2⟩ := x.list e
      obtain ⟨as, q⟩ := RdAll.reads ok x r h2
      exact ⟨_, .list h1 rfl rfl (by simpa using q)⟩
theorem RdAll.reads {fz : Fz} {s : Shared} (ok : f.Ok C n) (x : SR C f fz m σ s) : ∀ {xs : List AVal} {ds : List PyData}, RdAll σ xs ds → ∀ {vs : List Value}, Vs (At C fz) vs xs → ∃ as, ReadsAll s.heap vs ds as
  | _, _, .nil, _, h => by cases h; exact ⟨_, .nil⟩
  | _, _, .cons r rs, _, h => by
    cases h with
    | cons h1 h2 =>
      obtain ⟨as, q1⟩ := Rd.reads ok x r h1
      obtain ⟨bs, q2⟩ := RdAll.reads ok x rs h2
      exact ⟨_, .cons q1 q2⟩
end
def Dk (k : Nat) (d : PyData) : Prop := d.canLay0 = true ∧ d.depth ≤ k
theorem Dk.none {k : Nat} : Dk k .none := ⟨rfl, Nat.zero_le _⟩
theorem Dk.str {k : Nat} {x : Str} (h : PyData.strOk x = true) : Dk k (.str x) := ⟨h, Nat.zero_le _⟩
theorem dk_all {k : Nat} : ∀ {ds : List PyData}, (∀ d ∈ ds, Dk k d) → PyData.canLayAll0 ds = true ∧ PyData.depthAll ds ≤ k
  | [], _ => ⟨rfl, Nat.zero_le _⟩
  | d :: ds, h => by
    obtain ⟨a, b⟩ := h d (List.mem_cons_self ..)
    obtain ⟨c, e⟩ := dk_all fun x hx => h x (List.mem_cons_of_mem _ hx)
    exact ⟨by rw [PyData.canLayAll0, a, c]; rfl, by rw [PyData.depthAll]; exact Nat.max_le.mpr ⟨b, e⟩⟩
theorem Dk.list {k : Nat} {ds : List PyData} (h : ∀ d ∈ ds, Dk k d) : Dk (k + 1) (.list ds) := by
  obtain ⟨a, b⟩ := dk_all h
  exact ⟨by rw [PyData.canLay0]; exact a, by rw [PyData.depth]; omega⟩
theorem Dk.shaped {k : Nat} {d : PyData} (h : Dk k d) (hk : k ≤ 64) : PySem.SeqAt.shaped d = true := by
  unfold PySem.SeqAt.shaped
  rw [h.1, Bool.true_and, decide_eq_true_eq]
  exact Nat.le_trans h.2 hk
theorem t2_neD {a b : AVal} {da db : PyData} {k : Nat} {Q : AVal → AHeap → Prop} (ra : Rd σ a da) (rb : Rd σ b db) (ha : Dk k da) (hb : Dk k db) (h : Q (.bool (!PyData.eqv da db)) σ) (hk : k ≤ 64 := by decide) : T2 C n f (compareOp .NotEq) a b m σ Q := fun ok fz s E v w x hv hw => by
  obtain ⟨as, r1⟩ := ra.reads ok x hv
  obtain ⟨bs, r2⟩ := rb.reads ok x hw
  have := ok.units
  exact ne_dataH r1 r2 (ha.shaped hk) (hb.shaped hk) (by omega) (.here x (.bool _) h)
theorem t2_neS {a b : AVal} {d : PyData} {k : Nat} {Q : AVal → AHeap → Prop} (ra : Rd σ a d) (rb : Rd σ b d) (hd : Dk k d) (h : Q (.bool false) σ) (hk : k ≤ 64 := by decide) : T2 C n f (compareOp .NotEq) a b m σ Q :=
  t2_neD ra rb hd hd (by rw [PySem.SeqAt.eqv_refl d hd.1]; exact h) hk
/-! ## attributes -/
theorem SR.ownD {fz : Fz} {s : Shared} (x : SR C f fz m σ s) {a c : Addr} {as : List (Str × AVal)} (h : σ a = some (.inst c as)) :
    ∃ d es k mc rest, s.heap.get? a = some (instObj c d) ∧ s.heap.get? d = some (dictOf es k) ∧ Es (At C fz) es as ∧ Fr f.h₀ f.L s.heap mc ∧ News f.h₀ f.L s.heap ((d, dictOf es k) :: rest) ∧ (∀ p ∈ rest, p.1 ≠ d) ∧ (a, instObj c d) ∈ rest ∧
      ∀ h' t es' k' as', Fr f.h₀ f.L h' mc → News f.h₀ f.L h' ((d, dictOf es' k') :: rest) → Es (At C fz) es' as' → SR C f fz m (σ.set a (.inst c as')) { s with heap := h', toks := t } := by
  obtain ⟨mc, news, δ, F, N, R, e⟩ := x
  obtain ⟨h1, es, k, h2, h3⟩ := R.ob a _ h
  have hne : a ≠ δ a := fun q => by have := R.dσ a c as h; rw [← q, h] at this; cases this
  have keepM : ∀ {p : Addr × Obj}, p ∈ news → p.1 ≠ δ a → p ∈ news.filter (fun p => decide (p.1 ≠ δ a)) := fun h q => List.mem_filter.mpr ⟨h, by simpa using q⟩
  refine ⟨δ a, es, k, mc, news.filter (fun p => decide (p.1 ≠ δ a)), (N _ h1).1, (N _ h2).1, h3, F, fun p hp => ?_, fun p hp => by simpa using (List.mem_filter.mp hp).2, keepM h1 hne, fun h' t es' k' as' F' N' hE => ?_⟩
  · rcases List.mem_cons.mp hp with rfl | hp
    · exact N _ h2
    · exact N _ (List.mem_filter.mp hp).1
  · have σne : ∀ b bo, σ b = some bo → b ≠ δ a := fun b bo hb q => by have := R.dσ a c as h; rw [← q, hb] at this; cases this
    have back : ∀ {b c' bs}, σ.set a (.inst c as') b = some (.inst c' bs) → ∃ bs', σ b = some (.inst c' bs') := fun {b c' bs} hb => by
      by_cases q : b = a
      · subst q; rw [AHeap.set_same] at hb; cases hb; exact ⟨as, h⟩
      · rw [AHeap.set_ne _ _ q] at hb; exact ⟨bs, hb⟩
    refine ⟨mc, _, δ, F', N', ⟨fun p hp => .tail _ (keepM (R.sub p hp) (R.doff a c as h p hp)), R.apart, fun b bo hb => ?_, fun b bo hb p hp => ?_, fun b c' bs hb p hp => ?_, fun b c' bs hb => ?_, R.free, fun b c' bs b' c'' bs' g1 g2 => ?_⟩, e⟩
    · by_cases q : b = a
      · subst q; rw [AHeap.set_same] at hb; cases hb
        exact ⟨.tail _ (keepM h1 hne), es', k', List.mem_cons_self .., hE⟩
      · rw [AHeap.set_ne _ _ q] at hb
        refine (R.ob b bo hb).mono (fun _ _ z => z) (fun _ hm => .tail _ (keepM hm (σne b bo hb))) fun c' bs eb _ hm => .tail _ (keepM hm fun q' => ?_)
        subst eb
        exact q (R.dinj b c' bs a c as hb h q')
    · by_cases q : b = a
      · subst q; exact R.off b _ h p hp
      · rw [AHeap.set_ne _ _ q] at hb; exact R.off b bo hb p hp
    · obtain ⟨bs', hb'⟩ := back hb; exact R.doff b c' bs' hb' p hp
    · obtain ⟨bs', hb'⟩ := back hb
      have hd := R.dσ b c' bs' hb'
      rw [AHeap.set_ne _ _ (fun q => by rw [q, h] at hd; cases hd)]; exact hd
    · obtain ⟨x1, y1⟩ := back g1; obtain ⟨x2, y2⟩ := back g2; exact R.dinj b c' x1 b' c'' x2 y1 y2
/-- an attribute stored, as a tree -/
def TW (C : Cx) (n : Nat) (f : Fm) (o : AVal) (name : Str) (y : AVal) (m : AEnv) (σ : AHeap) (Q : AHeap → Prop) : Prop :=
  f.Ok C n → ∀ fz s E vo vy, SR C f fz m σ s → V (At C fz) vo o → V (At C fz) vy y → wpAny (Md C) f.A (setAttr vo name vy) (fun _ s' => ∃ fz' σ', (∀ p ∈ fz, p ∈ fz') ∧ Same s s' ∧ SR C f fz' m σ' s' ∧ Q σ') E s
theorem tw_inst {a c : Addr} {as : List (Str × AVal)} {name : Str} {y : AVal} {Q : AHeap → Prop} (ha : σ a = some (.inst c as)) (hs : findIn C.K (.ref c) "__setattr__" = some (some (.builtin "object.__setattr__"))) (hp : plainOver C.K c = true) (ht : takerIn C.K c name = some none) (hh : hasDictIn C.K c = true)
    (hl : (setA name y as).length ≤ 1000) (h : Q (σ.set a (.inst c (setA name y as)))) : TW C n f (.obj a) name y m σ Q := fun ok fz s E vo vy x ho hy => by
  cases ho
  obtain ⟨d, es, k, mc, rest, h1, h2, h3, F, N, off, hm, back⟩ := x.ownD ha
  have hE := h3.put (x := name) (hh := PyData.keyHash C.w.params name) (t := s.toks + 1) hy
  refine set_dict (dx := d) F ok.kin N ⟨h1, rfl, rfl, h2⟩ rfl hs hp ht hh h3.isSome rfl (.head off) (by rw [hE.length]; exact hl) fun h' F' N' => ?_
  exact ⟨fz, _, sub_refl, ⟨h', s.toks + 2, rfl⟩, back h' (s.toks + 2) _ _ _ F' N' hE, h⟩
theorem w1_setAttr {o e : Expr} {name : Str} {tp pos : Pos} {Q : AFlow → AEnv → AHeap → Prop} (h : WE C n f e m σ fun y σ₁ => WE C n f o m σ₁ fun ov σ₂ => TW C n f ov name y m σ₂ fun σ₃ => Q .next m σ₃)
    (hs : swapsWith e (some (.Attribute o name tp)) pos.line f.env = pure false := by rfl) : W1 C n f (.Assign [.Attribute o name tp] e pos) m σ Q := fun ok fz s E x => by
  refine plainObj_wpAny_Assign_Attribute (wpAny_mono (h ok fz s E x) (fun v s₁ hq => hq.el fun fz₁ σ₁ a u1 e1 x1 va q1 => wpAny_mono (q1 ok fz₁ s₁ E x1) (fun ov s₂ hq => hq.el fun fz₂ σ₂ b u2 e2 x2 vb q2 => ?_) fun _ _ x => x) fun _ _ x => x) hs
  exact wpAny_mono (q2 ok fz₂ s₂ E ov v x2 vb (va.up u2)) (fun _ s₃ hq => PH.el hq fun fz₃ σ₃ u3 e3 x3 q3 => ⟨fz₃, σ₃, m, .next, fun p hp => u3 p (u2 p (u1 p hp)), (e1.trans e2).trans e3, x3, trivial, q3⟩) fun _ _ x => x
theorem we_attr {o : Expr} {name : Str} {pos : Pos} {Q : AVal → AHeap → Prop} (h : WE C n f o m σ fun ov σ₁ => T1 C n f (fun v => getAttr v name true) ov m σ₁ Q)
    (he : eval (.Attribute o name pos) f.env = (do
      let v ← eval o f.env
      standAt pos.atName
      let r ← holding [v] (getAttr v name true)
      letTemporaryGo o v r
      pure r) := by rfl) : WE C n f (.Attribute o name pos) m σ Q := fun ok fz s E x =>
  Attribute_any_ (wpAny_mono (h ok fz s E x) (fun v s₁ hq => hq.el fun fz₁ σ₁ a u1 e1 x1 va q1 => wpAny_mono (q1 ok fz₁ s₁ E v x1 va) (fun r s₂ p => .up u1 e1 p) fun _ _ x => x) fun _ _ x => x) he
def handedA : AVal → Bool
  | .raw v => handedIn v
  | _ => true
theorem V.handed {P : Addr → Obj → Prop} {v : Value} {a : AVal} (h : V P v a) (e : handedA a = true) : handedIn v = true := by
  cases h <;> first | rfl | exact e
theorem t1_attr {a c : Addr} {as : List (Str × AVal)} {name : Str} {y : AVal} {attr : Option Value} {Q : AVal → AHeap → Prop} (ha : σ a = some (.inst c as)) (hy : getA name as = some y) (hg : plainGet C.K c name = true) (hh : hasDictIn C.K c = true) (hf : findIn C.K (.ref c) name = some attr) (hn : noGet C.K attr = true) (hv : handedA y = true) (h : Q y σ) :
    T1 C n f (fun v => getAttr v name true) (.obj a) m σ Q := fun ok fz s E vo x ho => by
  cases ho
  obtain ⟨d, es, k, h1, h2, h3⟩ := x.inst ha
  obtain ⟨v, g1, g2⟩ := h3.get_some hy
  have x' := x
  obtain ⟨mc, news, δ, F, N, R, e⟩ := x
  exact get_own F ok.kin ⟨h1, rfl, rfl, h2⟩ hg hh hf hn g1 (g2.handed hv) (.tok x' g2 h)
end
end Mine

open PySem PySem.W PyProof.Rows PySem.Calls
namespace Mine
def Has (m : AEnv) : List (Str × AVal) → Prop
  | [] => True
  | p :: r => m.get p.1 = some p.2 ∧ Has m r
theorem Has.sub {m : AEnv} : ∀ {l : AEnv}, Has m l → ∀ y a, AEnv.get l y = some a → m.get y = some a
  | [], _, _, _, e => by cases e
  | (z, b) :: r, h, y, a, e => by
    unfold AEnv.get getA at e
    by_cases q : (z == y) = true
    · rw [if_pos q] at e; cases e
      have : z = y := by simpa using q
      subst this; exact h.1
    · rw [if_neg q] at e; exact h.2.sub y a e
theorem AHeap.le_refl (σ : AHeap) : σ.le σ := fun _ _ h => h
theorem AHeap.le_trans {σ σ' σ'' : AHeap} (h : σ.le σ') (h' : σ'.le σ'') : σ.le σ'' := fun a o e => h' a o (h a o e)
theorem AHeap.le_set {σ : AHeap} {l : Addr} {o : AObj} (h : σ l = none) : σ.le (σ.set l o) := fun a b e => by rw [AHeap.set_ne]; exact e; intro q; rw [q, h] at e; cases e
theorem hp_ne {σ : AHeap} {a c : Addr} {o : AObj} (h1 : σ a = some o) (h2 : σ c = none) : a ≠ c := fun q => by rw [q, h2] at h1; cases h1
theorem items_obj {σ : AHeap} {a : Addr} {xs : List AVal} (h : σ a = some (.list xs)) : items σ (.obj a) = some xs := by show (match σ a with | some (.list xs) => some xs | _ => none) = some xs; rw [h]
theorem ret_le {σ : AHeap} {a : AVal} {Q : AVal → AHeap → Prop} (h : Q a σ) : ∃ σ₂ : AHeap, σ₂.le σ ∧ Q (retOf (.ret a)) σ₂ := ⟨σ, AHeap.le_refl σ, h⟩
theorem ret_le' {σ₂ σ : AHeap} {a : AVal} {Q : AVal → AHeap → Prop} (hl : σ₂.le σ) (h : Q a σ₂) : ∃ σ₂ : AHeap, σ₂.le σ ∧ Q (retOf (.ret a)) σ₂ := ⟨σ₂, hl, h⟩
theorem fmod_pos (x : Int) {y : Int} (h : 0 ≤ y) : x.fmod y = x % y := Int.fmod_eq_emod_of_nonneg x h
theorem fmod_range (x : Int) {y : Int} (h : 0 < y) : 0 ≤ x.fmod y ∧ x.fmod y < y := by
  rw [fmod_pos x (Int.le_of_lt h)]; exact ⟨Int.emod_nonneg x (Int.ne_of_gt h), Int.emod_lt_of_pos x h⟩
theorem rng_small1 {a b : Int} (ha : -(2 ^ 62) ≤ a ∧ a < 2 ^ 62) (hb : -(2 ^ 62) ≤ b ∧ b < 2 ^ 62) : Builtin.Range.small a b 1 = true := small_one ha.1 ha.2 hb.1 hb.2
theorem rng_size1' {k : Nat} : Builtin.Range.rangeSize 0 k 1 = (k : Int) := by rw [rangeSize_nat]; congr 1
theorem rngL_length {a c : Int} {k : Nat} : (rngL a c k).length = k := by simp [rngL]
theorem rngL_cons {a c : Int} {k j : Nat} {v : AVal} {r : List AVal} (h : v :: r = (rngL a c k).drop j) : j < k ∧ v = .int (a + (j : Int) * c) ∧ r = (rngL a c k).drop (j + 1) := by
  have hj : j < (rngL a c k).length := by
    rcases Nat.lt_or_ge j (rngL a c k).length with q | q
    · exact q
    · rw [List.drop_of_length_le q] at h; cases h
  rw [List.drop_eq_getElem_cons hj] at h
  obtain ⟨h1, h2⟩ := List.cons.inj h
  refine ⟨by rwa [rngL_length] at hj, ?_, h2⟩
  rw [h1]; simp [rngL]
theorem rngL_nil {a c : Int} {k j : Nat} (h : [] = (rngL a c k).drop j) : k ≤ j := by
  rcases Nat.lt_or_ge j (rngL a c k).length with q | q
  · rw [List.drop_eq_getElem_cons q] at h; cases h
  · rwa [rngL_length] at q
theorem fn_cellsX {C : Cx} {n : Nat} {σ : AHeap} {fa : Addr} {name qual : Str} {params : Arguments} {body : List Stmt} {scope : Scope} {dV kV doc pm cdv ct oc : Value} {an od : Option Addr} {osl : Array (Option Value)} {as da : List AVal} {ns : List Str} {dv : List Value} {Q : AVal → AHeap → Prop} {ml : AEnv} {σ₁ : Addr → AHeap}
    (cs : Addr → List (Str × Addr))
    (ho : C.K.lookup fa = some ⟨oc, od, .func (fnOf name qual params body scope dV kV doc pm an cdv ct), osl⟩) (hcd : codeIn C.K cdv qual = true)
    (hbind : ∀ S vs, vs.length = as.length → peek C.K S (bindArgs (fnOf name qual params body scope dV kV doc pm an cdv ct) ⟨vs, []⟩) = some (ns.zip (vs ++ dv)))
    (hd : ∀ P, Vs P dv da) (hnd : ns.Nodup) (hloc : ∀ y ∈ ns, (scope.names.lookup y == some .local || scope.names.lookup y == some .cell) = true)
    (hck : ∀ p ∈ cellsFrom 0 scope.names [], scope.names.lookup p.1 ≠ some .local)
    (hcs : ∀ L, cellsFrom (L + 1) scope.names [] = cs L) (hml : ((ns.zip (as ++ da)).filter fun p => scope.names.lookup p.1 == some .local) = ml) (hσ : ∀ L, cellS (fun y => getA y (ns.zip (as ++ da))) (cs L) σ = σ₁ L)
    (h : ∀ A₀ A base h₀ outer L pin, (∀ p ∈ cs L, σ p.2 = none) → WS C n ⟨A₀, A, base, h₀, outer, L, fa, qual, scope, cdv, cs L, pin, none⟩ body ml (σ₁ L) fun fl _ σ' => ∃ σ₂ : AHeap, σ₂.le σ' ∧ Q (retOf fl) σ₂)
    (hnc : ((cellsFrom 0 scope.names []).map (·.1)).Nodup := by decide)
    (hco : scope.isCoroutine = false := by rfl) (hgen : scope.isGenerator = false := by rfl) (hk : scope.kind = .function := by rfl) :
    Fn C (n + 1) fa as σ Q := fn_cells ho hcd hbind hd hnd hloc hck (fun A₀ A base h₀ outer L pin hc => by
      rw [hcs L] at hc ⊢
      rw [hml, hσ L]
      exact h A₀ A base h₀ outer L pin hc) hnc hco hgen hk
end Mine

open PySem PySem.W PyProof.Rows PySem.Calls
namespace Mine
end Mine

open PySem PySem.W PyProof.Rows PySem.Calls
namespace Mine
section
variable {C : Cx} {n : Nat} {f : Fm} {m : AEnv} {σ : AHeap}
theorem ints_vs {P : Addr → Obj → Prop} : ∀ {vs : List Value} {ns : List Int}, Vs P vs (ns.map .int) → IntsAre vs ns
  | _, [], h => by cases h; exact .nil
  | _, i :: ns, h => by
    cases h with
    | cons h1 h2 => cases h1; exact .cons _ _ (ints_vs h2)
theorem AHeap.set_set (σ : AHeap) (a : Addr) (x y : AObj) : (σ.set a x).set a y = σ.set a y := by
  funext b; unfold AHeap.set; split <;> rfl
theorem AHeap.set_comm (σ : AHeap) {a b : Addr} (x y : AObj) (h : a ≠ b) : (σ.set a x).set b y = (σ.set b y).set a x := by
  funext c; unfold AHeap.set
  by_cases h1 : c = b
  · subst h1
    have : ¬ c = a := fun e => h e.symm
    simp [this]
  · simp [h1]
/-- the five things of a source, as attributes -/
def srcA (s p e b c : AVal) : List (Str × AVal) := [(Str.ofString "_InputSource__system_id", s), (Str.ofString "_InputSource__public_id", p), (Str.ofString "_InputSource__encoding", e), (Str.ofString "_InputSource__bytefile", b), (Str.ofString "_InputSource__charfile", c)]
end
end Mine

open PySem PySem.W PyProof.Rows PySem.Calls
namespace Mine
/-! ## pieces of a def of the text -/
def blkOf : Stmt → Nat → List Stmt
  | .For _ _ b _ _, 0 => b
  | .For _ _ _ o _, _ => o
  | .If _ b _ _, 0 => b
  | .If _ _ o _, _ => o
  | .FunctionDef _ _ b _ _ _ _ _ _ _, _ => b
  | _, _ => []
def subs : List Stmt → List (Nat × Nat) → List Stmt
  | ss, [] => ss
  | ss, (i, j) :: r => match ss[i]? with
    | some st => subs (blkOf st j) r
    | none => []
def segOf (p : Program) (i : Nat) (path : List (Nat × Nat)) (k : Nat) : Option (Scope × List Stmt) :=
  match p.main.body[i]? with
  | some (.FunctionDef _ _ b _ _ _ sc _ _ _) => some (sc, (subs b path).drop k)
  | _ => none
def Seg (p : Program) (i : Nat) (path : List (Nat × Nat)) (k : Nat) (P : Scope → List Stmt → Prop) : Prop :=
  match segOf p i path k with
  | some (sc, ss) => P sc ss
  | none => True
theorem seg_intro {p : Program} {i : Nat} {path : List (Nat × Nat)} {k : Nat} {P : Scope → List Stmt → Prop} {kind : ScopeKind} {names : List (Str × NameKind)} {g c : Bool} {more : List (Str × Const)} {st : Stmt} {ss : List Stmt}
    (ho : segOf p i path k = some (⟨kind, names, g, c, more⟩, st :: ss)) (h : P ⟨kind, names, g, c, more⟩ (st :: ss)) : Seg p i path k P := by
  unfold Seg; rw [ho]; exact h
theorem tc_cat1 {C : Cx} {n : Nat} {f : Fm} {m : AEnv} {σ : AHeap} {fv a : AVal} {as : List AVal} {Q : AVal → AHeap → Prop} (h : TC C n f fv (a :: as) m σ Q) : TC C n f fv ([a] ++ as) m σ Q := h
/-- one statement -/
def Seg1 (p : Program) (i : Nat) (path : List (Nat × Nat)) (k : Nat) (P : Scope → Stmt → Prop) : Prop :=
  match segOf p i path k with
  | some (sc, st :: _) => P sc st
  | _ => True
end Mine

open PySem PySem.W PyProof.Rows PySem.Calls
namespace Mine
def AHeap.del (σ : AHeap) (a : Addr) : AHeap := fun b => if b = a then none else σ b
theorem AHeap.del_same (σ : AHeap) (a : Addr) : σ.del a a = none := if_pos rfl
theorem AHeap.del_ne (σ : AHeap) {a b : Addr} (h : b ≠ a) : σ.del a b = σ b := if_neg h
theorem AHeap.del_le (σ : AHeap) (a : Addr) : (σ.del a).le σ := fun b o e => by
  by_cases q : b = a
  · rw [q, AHeap.del_same] at e; cases e
  · rwa [AHeap.del_ne _ q] at e
theorem seg_elim {p : Program} {i : Nat} {path : List (Nat × Nat)} {k : Nat} {P : Scope → List Stmt → Prop} {sc : Scope} {ss : List Stmt} (h : Seg p i path k P) (ho : segOf p i path k = some (sc, ss)) : P sc ss := by
  unfold Seg at h; rw [ho] at h; exact h
section
variable {C : Cx} {n : Nat} {f : Fm} {m : AEnv} {σ : AHeap}
end
end Mine

open PySem PySem.W PyProof.Rows PySem.Calls
namespace Mine
/-! ## an attribute that is not there; a try in a called def -/
section
variable {prog : Program} {w : World} {A : Around} {E : Value → Shared → Prop} {s : Shared} {K : Frag} {x c L : Addr} {h₀ : Heap} {m : Str → Option Value} {ox : Obj} {es : List DictEntry} {n : Nat} {name : Str}
end

/-- a call out of the law's own frame -/
def Fn1 (C : Cx) (n : Nat) (fa : Addr) (as : List AVal) (σ : AHeap) (Q : AVal → AHeap → Prop) : Prop :=
  ∀ f m A, f.outer = [] → f.Ok C n → Near f A → ∀ fz s vs, SR C f fz m σ s → Vs (At C fz) vs as → codeAny (Md C) A (.call (.ref fa) ⟨vs, []⟩) (RV C f m fz s Q) s
/-- statements that raise, the state as it was -/
def XS (C : Cx) (n : Nat) (f : Fm) (ss : List Stmt) (m : AEnv) (σ : AHeap) (X : String) : Prop :=
  f.Ok C n → ∀ fz s E, SR C f fz m σ s → (∀ s₁ h' tk e fz', (∀ p ∈ fz, p ∈ fz') → Same s s₁ → SR C f fz' m σ s₁ → Heap.NewExcOf s₁.heap h' e X → E (.ref e) { s₁ with heap := h', toks := tk }) → wpAny (Md C) f.A (execs ss f.env) (fun _ _ => False) E s
section
variable {C : Cx} {n : Nat} {f : Fm} {m : AEnv} {σ : AHeap}
end
end Mine

open PySem PySem.W PyProof.Rows PySem.Calls
namespace Mine
/-! ## dicts with whole numbers as keys -/
def valA (es : List (Int × AVal)) (k : Int) : Option AVal := (es.find? fun kv => kv.1 = k).map (·.2)
def storeA (es : List (Int × AVal)) (k : Int) (v : AVal) : List (Int × AVal) := if es.any (fun kv => kv.1 = k) then es.map (fun kv => if kv.1 = k then (kv.1, v) else kv) else es ++ [(k, v)]
section
variable {C : Cx} {n : Nat} {f : Fm} {m : AEnv} {σ : AHeap}
end
end Mine

open PySem PySem.W PyProof.Rows PySem.Calls
set_option linter.unusedSectionVars false
namespace Mine
section
variable {C : Cx} {n : Nat} {f : Fm} {m : AEnv} {σ : AHeap}
theorem Vs.rep {P : Addr → Obj → Prop} {vs : List Value} {xs : List AVal} (h : Vs P vs xs) : ∀ k : Nat, Vs P (List.replicate k vs).flatten (List.replicate k xs).flatten
  | 0 => by simp; exact .nil
  | k + 1 => by simp only [List.replicate_succ, List.flatten_cons]; exact h.append (h.rep k)
theorem rep_flat {α : Type} (items : Array α) (k : Nat) : List.foldl (fun x1 x2 => x1 ++ x2) #[] (List.replicate (if items.isEmpty = true then 0 else k) items) = (List.replicate k items.toList).flatten.toArray := by
  have key : ∀ (k : Nat) (acc : Array α), List.foldl (fun x1 x2 => x1 ++ x2) acc (List.replicate k items) = (acc.toList ++ (List.replicate k items.toList).flatten).toArray := by
    intro k
    induction k with
    | zero => intro acc; simp
    | succ k ih => intro acc; simp [List.replicate_succ, ih, List.append_assoc]
  split
  · rename_i h
    have : items = #[] := by simpa using h
    subst this
    simp
  · rw [key]; simp
theorem t2_mulObjM {a : Addr} {xs : List AVal} {x : Int} {Q : AVal → AHeap → Prop} (ha : σ a = some (.list xs)) (h0 : 0 ≤ x) (hx : x < 2 ^ 63) (hz : xs.length * x.toNat ≤ 2 ^ 24) (h : ∀ b, σ b = none → Q (.obj b) (σ.set b (.list (List.replicate x.toNat xs).flatten))) : T2 C n f (binaryOp .Mult) (.obj a) (.int x) m σ Q := fun ok fz s E v w x' hv hw => by
  cases hv; cases hw
  obtain ⟨us, k, ho, hv⟩ := x'.list ha
  obtain ⟨mc, news, F, N, hno, kk⟩ := x'.newL
  refine mul_list (k := k) F N ho (by omega) hx (by rw [List.size_toArray, hv.length]; exact hz) fun h' F' N' => ?_
  rw [rep_flat] at N'
  exact ⟨fz, _, .obj s.heap.objs.size, sub_refl, .mk, kk h' s.toks (List.replicate x.toNat us).flatten 0 _ F' N' (hv.rep _), .obj _, h _ hno⟩
def zipA : List AVal → List AVal → List (List AVal)
  | x :: xs, y :: ys => [x, y] :: zipA xs ys
  | _, _ => []
theorem zipA_length : ∀ {xs ys : List AVal}, (zipA xs ys).length = min xs.length ys.length
  | [], _ => by simp [zipA]
  | _ :: _, [] => by simp [zipA]
  | _ :: xs, _ :: ys => by simp [zipA, zipA_length (xs := xs) (ys := ys), Nat.succ_min_succ]
theorem zipA_get : ∀ {xs ys : List AVal} {i : Nat} {r : List AVal}, (zipA xs ys)[i]? = some r → ∃ x y, xs[i]? = some x ∧ ys[i]? = some y ∧ r = [x, y]
  | [], _, _, _, h => by simp [zipA] at h
  | _ :: _, [], _, _, h => by simp [zipA] at h
  | x :: xs, y :: ys, 0, r, h => by simp [zipA] at h; exact ⟨x, y, rfl, rfl, h.symm⟩
  | x :: xs, y :: ys, i + 1, r, h => by
    simp [zipA] at h
    obtain ⟨a, b, h1, h2, h3⟩ := zipA_get h
    exact ⟨a, b, by simpa using h1, by simpa using h2, h3⟩
/-- two frozen lists are walked side by side -/
theorem wit_zip {g : Str} {gp : Pos} {e₁ e₂ : Expr} {cp : Pos} {Q : (AHeap → AHeap) → List (List AVal) → AHeap → Prop}
    (h : WE C n f (.Name g gp) m σ fun fv σ₁ => fv = .raw (.type "zip") ∧ WL C n f [e₁, e₂] cp m σ₁ fun as σ₂ => ∃ xs ys, as = [.lst xs, .lst ys] ∧ Q id (zipA xs ys) σ₂)
    (hplain : (backTo cp (starEach [e₁, e₂] f.env)).any (·.1) = false := by rfl) : WIT C n f (.Call (.Name g gp) [e₁, e₂] [] cp) m σ Q := fun ok fz s E x => by
  refine wpAny_Call_ofName (wpAny_mono (h ok fz s E x) (fun v s₁ hq => hq.el fun fz₁ σ₁ a u1 e1 x1 va ⟨ea, q1⟩ => ?_) fun _ _ x => x)
  subst ea; cases va
  refine cw (wpAny_mono (q1 ok fz₁ s₁ E x1) (fun vs s₂ hq => hq.el fun fz₂ σ₂ as u2 e2 x2 hvs ⟨xs, ys, es, q2⟩ => ?_) fun _ _ x => x) hplain
  subst es
  obtain _ | ⟨h1, hvs⟩ := hvs; obtain _ | ⟨h2, hvs⟩ := hvs; cases hvs
  refine ⟨keep_type, ?_⟩
  obtain ⟨l, o, k, us, rfl, p1, p2, p3, p4⟩ := h1.lstD
  obtain ⟨l', o', k', ws, rfl, p1', p2', p3', p4'⟩ := h2.lstD
  have ho := x2.at_ ok p1
  have ho' := x2.at_ ok p1'
  have hl : s₂.heap.IsList l us.toArray := ⟨_, ho, p2, _, p3⟩
  have hl' : s₂.heap.IsList l' ws.toArray := ⟨_, ho', p2', _, p3'⟩
  have hll : l < s₂.heap.objs.size := Heap.lt_size ho
  have hll' : l' < s₂.heap.objs.size := Heap.lt_size ho'
  refine call_zip_2 hl hl' fun h' hz hTI hTO hi1 hi2 hsz kk => ?_
  have D : ZipApart (s₂.heap.objs.size + 4) (s₂.heap.objs.size + 2) (s₂.heap.objs.size + 3) s₂.heap.objs.size (s₂.heap.objs.size + 1) l l' := by
    have dl : ∀ k, l ≠ s₂.heap.objs.size + k := fun k => Nat.ne_of_lt (Nat.lt_of_lt_of_le hll (Nat.le_add_right _ _))
    have dl' : ∀ k, l' ≠ s₂.heap.objs.size + k := fun k => Nat.ne_of_lt (Nat.lt_of_lt_of_le hll' (Nat.le_add_right _ _))
    constructor <;> first | exact dl _ | exact dl' _ | exact dl 0 | exact dl' 0 | exact Nat.ne_of_lt (by omega) | exact Nat.ne_of_gt (by omega)
  have W := (WalksT.zip2 (prog := C.prog) (w := C.w) ok.handled _ _ _ _ _ _ _ D us.toArray ws.toArray)
  have st0 : IsZip h' (s₂.heap.objs.size + 4) (s₂.heap.objs.size + 2) (s₂.heap.objs.size + 3) .none ∧ IsPair h' (s₂.heap.objs.size + 2) (.ref s₂.heap.objs.size) (.ref (s₂.heap.objs.size + 1)) ∧ (∃ a b, IsPair h' (s₂.heap.objs.size + 3) a b) ∧ h'.IsListIter s₂.heap.objs.size l 0 ∧ h'.IsListIter (s₂.heap.objs.size + 1) l' 0 ∧ h'.IsList l us.toArray ∧ h'.IsList l' ws.toArray :=
    ⟨hz, hTI, ⟨_, _, hTO⟩, hi1, hi2, hl.at fun o e => kk _ o e, hl'.at fun o e => kk _ o e⟩
  refine W.self 0 _ _ _ st0 ⟨fz₂, σ₂, s₂.heap.objs.size + 4, [s₂.heap.objs.size + 4, s₂.heap.objs.size + 3, s₂.heap.objs.size, s₂.heap.objs.size + 1, s₂.heap.objs.size + 2], zipA xs ys, (fun i h => IsZip h (s₂.heap.objs.size + 4) (s₂.heap.objs.size + 2) (s₂.heap.objs.size + 3) .none ∧ IsPair h (s₂.heap.objs.size + 2) (.ref s₂.heap.objs.size) (.ref (s₂.heap.objs.size + 1)) ∧ (∃ a b, IsPair h (s₂.heap.objs.size + 3) a b) ∧ h.IsListIter s₂.heap.objs.size l i ∧ h.IsListIter (s₂.heap.objs.size + 1) l' i ∧ h.IsList l us.toArray ∧ h.IsList l' ws.toArray), fun _ => True, id, rfl, fun p hp => u2 p (u1 p hp), (e1.trans e2).trans ⟨h', s₂.toks, rfl⟩, SX.ofFresh (t := s₂.toks) x2 kk ?_, ⟨?_, ?_, ?_, ?_, fun _ _ _ => trivial, fun _ _ _ _ _ x _ => x.sr⟩, st0, q2⟩
  · intro b hb
    simp at hb
    rcases hb with rfl | rfl | rfl | rfl | rfl <;> omega
  · intro i s Q E y hy hs hQ
    obtain ⟨z, z', hz1, hz2, rfl⟩ := zipA_get hy
    have hi : i < us.toArray.size := by rw [List.size_toArray, p4.length]; exact (List.getElem?_eq_some_iff.mp hz1).1
    have hi' : i < ws.toArray.size := by rw [List.size_toArray, p4'.length]; exact (List.getElem?_eq_some_iff.mp hz2).1
    refine W.item i s Q E (by omega) hs fun T vals h' tk hP hTs hT hm hk => ?_
    obtain ⟨u, u', hu, hu', rfl⟩ := hP
    obtain ⟨w1, g1, g2⟩ := p4.get hz1
    obtain ⟨w2, g3, g4⟩ := p4'.get hz2
    have e1 : w1 = u := by have : us[i]? = some u := by simpa using hu
                           rw [g1] at this; exact Option.some.inj this
    have e2 : w2 = u' := by have : ws[i]? = some u' := by simpa using hu'
                            rw [g3] at this; exact Option.some.inj this
    subst e1; subst e2
    have hap := W.apart i T h' hm
    have hTI' : T ≠ s₂.heap.objs.size + 2 := fun q => by
      have := Heap.lt_size hs.2.1
      rw [← q] at this
      exact absurd this (Nat.not_lt.mpr hTs)
    refine hQ T [w1, w2] h' tk (.cons g2 (.cons g4 .nil)) hT (fun q => ?_) (fun b o hb e => hk b o (fun q => hb ?_) e) fun ts k pos s₃ Q₂ E₂ e3 hQ2 => ?_
    · simp only [List.mem_cons, List.not_mem_nil, or_false] at q hap
      rcases q with q | q | q | q | q
      · exact hap (.inl q)
      · exact hap (.inr (.inl q))
      · exact hap (.inr (.inr (.inl q)))
      · exact hap (.inr (.inr (.inr q)))
      · exact hTI' q
    · simp only [List.mem_cons, List.not_mem_nil, or_false] at q ⊢
      rcases q with q | q | q | q
      · exact .inl q
      · exact .inr (.inl q)
      · exact .inr (.inr (.inl q))
      · exact .inr (.inr (.inr (.inl q)))
    · subst e3
      refine W.go ts k pos i T s₃ Q₂ E₂ hm fun h₂ st k => hQ2 h₂ st fun b o hb e => k b o (fun q => hb ?_) e
      simp only [List.mem_cons, List.not_mem_nil, or_false] at q ⊢
      rcases q with q | q | q | q
      · exact .inl q
      · exact .inr (.inl q)
      · exact .inr (.inr (.inl q))
      · exact .inr (.inr (.inr (.inl q)))
  · intro s Q E hs hQ
    have hz : min us.toArray.size ws.toArray.size = (zipA xs ys).length := by rw [List.size_toArray, List.size_toArray, p4.length, p4'.length, zipA_length]
    refine W.done s Q E (by rw [hz]; exact hs) fun h' tk k => hQ h' tk (fun b o hb e => k b o (fun q => hb ?_) e) trivial
    simp only [List.mem_cons, List.not_mem_nil, or_false] at q ⊢
    rcases q with q | q | q | q
    · exact .inl q
    · exact .inr (.inl q)
    · exact .inr (.inr (.inl q))
    · exact .inr (.inr (.inr (.inl q)))
  · intro i h hs b hb
    obtain ⟨a1, a2, ⟨a, b', a3⟩, ⟨o4, a4, _⟩, ⟨o5, a5, _⟩, a6, a7⟩ := hs
    simp only [List.mem_cons, List.not_mem_nil, or_false] at hb
    rcases hb with q | q | q | q | q
    · rw [q]; exact ⟨_, a1⟩
    · rw [q]; exact ⟨_, a3⟩
    · rw [q]; exact ⟨_, a4⟩
    · rw [q]; exact ⟨_, a5⟩
    · rw [q]; exact ⟨_, a2⟩
  · intro i h h' hs hw hp
    obtain ⟨a1, a2, ⟨a, b', a3⟩, a4, a5, a6, a7⟩ := hs
    exact ⟨hw _ (by simp) _ a1, hw _ (by simp) _ a2, ⟨a, b', hw _ (by simp) _ a3⟩, a4.at fun o e => hw _ (by simp) o e, a5.at fun o e => hw _ (by simp) o e, ⟨_, hp _ _ (.inl p1), p2, _, p3⟩, ⟨_, hp _ _ (.inl p1'), p2', _, p3'⟩⟩
end
/-! ## a state by its parts -/
def up {I α : Type} [DecidableEq I] (f : I → α) (x : I) (v : α) : I → α := fun y => if y = x then v else f y
theorem up_same {I α : Type} [DecidableEq I] (f : I → α) (x : I) (v : α) : up f x v x = v := if_pos rfl
theorem up_ne {I α : Type} [DecidableEq I] (f : I → α) {x y : I} (v : α) (h : y ≠ x) : up f x v y = f y := if_neg h
def NeQ {I : Type} (ad : I → Addr) (L : I → Prop) : Prop := ∀ x y, L x → L y → x ≠ y → ad x ≠ ad y
structure Hx {I : Type} (σ : AHeap) (ad : I → Addr) (L : I → Prop) (o : I → AObj) : Prop where
  at_ : ∀ y, L y → σ (ad y) = some (o y)
  ne : NeQ ad L
section
variable {I : Type} [DecidableEq I] {σ : AHeap} {ad : I → Addr} {L : I → Prop} {o : I → AObj}
theorem Hx.set {x : I} {v : AObj} (h : Hx σ ad L o) (hx : L x) : Hx (σ.set (ad x) v) ad L (up o x v) := ⟨fun y hy => by
  by_cases e : y = x
  · subst e; rw [AHeap.set_same, up_same]
  · rw [AHeap.set_ne _ _ (h.ne y x hy hx e), up_ne _ _ e]; exact h.at_ y hy, h.ne⟩
theorem Hx.new {x : I} {v : AObj} {a : Addr} (h : Hx σ ad L o) (ha : σ a = none) (hx : ¬ L x) : Hx (σ.set a v) (up ad x a) (fun y => L y ∨ y = x) (up o x v) := by
  have na : ∀ y, L y → ad y ≠ a := fun y hy => hp_ne (h.at_ y hy) ha
  refine ⟨fun y hy => ?_, fun y z hy hz hyz => ?_⟩
  · by_cases e : y = x
    · subst e; rw [up_same, up_same, AHeap.set_same]
    · have hy' : L y := hy.resolve_right e
      rw [up_ne _ _ e, up_ne _ _ e, AHeap.set_ne _ _ (na y hy')]; exact h.at_ y hy'
  · by_cases e : y = x
    · by_cases e' : z = x
      · exact absurd (e.trans e'.symm) hyz
      · subst e; rw [up_same, up_ne _ _ e']; exact fun q => na z (hz.resolve_right e') q.symm
    · by_cases e' : z = x
      · subst e'; rw [up_same, up_ne _ _ e]; exact na y (hy.resolve_right e)
      · rw [up_ne _ _ e, up_ne _ _ e']; exact h.ne y z (hy.resolve_right e) (hz.resolve_right e') hyz
theorem Hx.off {v : AObj} {a : Addr} (h : Hx σ ad L o) (ha : σ a = none) : Hx (σ.set a v) ad L o := ⟨fun y hy => (AHeap.set_ne _ _ (hp_ne (h.at_ y hy) ha)).trans (h.at_ y hy), h.ne⟩
theorem Hx.sub {L' : I → Prop} (h : Hx σ ad L o) (hl : ∀ y, L' y → L y) : Hx σ ad L' o := ⟨fun y hy => h.at_ y (hl y hy), fun x y hx hy => h.ne x y (hl x hx) (hl y hy)⟩
theorem Hx.obj {o' : I → AObj} (h : Hx σ ad L o) (ho : ∀ y, L y → o y = o' y) : Hx σ ad L o' := ⟨fun y hy => by rw [← ho y hy]; exact h.at_ y hy, h.ne⟩
theorem Hx.addr {ad' : I → Addr} (h : Hx σ ad L o) (ho : ∀ y, L y → ad y = ad' y) : Hx σ ad' L o := ⟨fun y hy => by rw [← ho y hy]; exact h.at_ y hy, fun x y hx hy => by rw [← ho x hx, ← ho y hy]; exact h.ne x y hx hy⟩
end
/-- the five things of a source -/
def srcV (v : Nat → AVal) : List (Str × AVal) := srcA (v 0) (v 1) (v 2) (v 3) (v 4)
end Mine

open PySem PySem.W PyProof.Rows PySem.Calls
namespace Mine
theorem Hx.newL {I : Type} [DecidableEq I] {σ : AHeap} {ad : I → Addr} {xs : List I} {o : I → AObj} {a : Addr} (h : Hx σ ad (· ∈ xs) o) (x : I) (v : AObj) (ha : σ a = none) (hx : x ∉ xs) : Hx (σ.set a v) (up ad x a) (· ∈ x :: xs) (up o x v) :=
  (Hx.new h ha hx).sub fun y hy => (List.mem_cons.mp hy).elim .inr .inl
end Mine

open PySem PySem.W PyProof.Rows PySem.Calls
namespace Mine
section
variable {C : Cx} {n : Nat} {f : Fm} {m : AEnv} {σ : AHeap}
theorem Vs.carried {P : Addr → Obj → Prop} : ∀ {vs : List Value} {xs : List AVal}, Vs P vs xs → xs.all scalar = true → ∃ ds, CarriedAll vs ds
  | _, _, .nil, _ => ⟨_, .nil⟩
  | _, _, .cons a b, h => by
    rw [List.all_cons, Bool.and_eq_true] at h
    obtain ⟨ds, hd⟩ := b.carried h.2
    have h1 := h.1
    cases a with
    | none => exact ⟨_, .cons .none hd⟩
    | bool x => exact ⟨_, .cons (.bool x) hd⟩
    | int i t => exact ⟨_, .cons (.int i t) hd⟩
    | str x t => exact ⟨_, .cons (.str x t) hd⟩
    | _ => cases h1
/-- a frozen list of plain things taken k times -/
theorem t2_mulLst {xs : List AVal} {x : Int} {Q : AVal → AHeap → Prop} (hs : xs.all scalar = true) (h0 : 0 ≤ x) (hx : x < 2 ^ 63) (hz : xs.length * x.toNat ≤ 2 ^ 24) (h : Q (.lst (List.replicate x.toNat xs).flatten) σ) : T2 C n f (binaryOp .Mult) (.lst xs) (.int x) m σ Q := fun ok fz s E v w x' hv hw => by
  cases hw
  obtain ⟨l, us, rfl, hl, hv⟩ := hv.list_ ok x'
  obtain ⟨ds, hd⟩ := hv.carried hs
  obtain ⟨mc, news, F, N, kk⟩ := x'.newFz
  refine mul_list_is F N hl hd (by omega) hx (by rw [hv.length]; exact hz) fun h' F' N' hno hI hc => ?_
  obtain ⟨o, ho, hcl, k', hdt⟩ := hI
  have N2 : News f.h₀ f.L h' ((s.heap.objs.size, o) :: news) := fun p hp => by
    rcases List.mem_cons.mp hp with rfl | hp
    · exact ⟨ho, (Nat.ne_of_gt F.ns.lt), hno⟩
    · exact N' p hp
  exact ⟨_, σ, .lst (List.replicate x.toNat xs).flatten, fun p hp => List.mem_append_right _ hp, .mk, kk h' s.toks _ F' N2, .lst (vs := (List.replicate x.toNat us).flatten) (.inl (List.mem_append_left _ (List.mem_singleton.mpr rfl))) hcl hdt ((hv.rep _).up fun p hp => List.mem_append_right _ hp), h⟩
end
end Mine

open PySem PySem.W PyProof.Rows PySem.Calls
namespace Mine
/-! ## defs inside defs -/
def lookT (pos : Pos) : List (Pos × Str) → Option Str
  | [] => none
  | (p, q) :: r => if ((p.line : Int) == pos.line && (p.col : Int) == pos.col) = true then some q else lookT pos r
def tabWith (pos : Pos) (q : Str) (es : List (Pos × Str)) : Option (List (Pos × Str)) := match lookT pos es with
  | some q' => if q' = q then some es else none
  | none => some (es ++ [(pos, q)])
theorem Tb.triples {P : Addr → Obj → Prop} : ∀ {ps : List Value} {es : List (Pos × Str)}, Tb P ps es → TriplesOk ps
  | _, _, .nil => trivial
  | _, _, .cons _ _ _ d => d.triples
theorem Tb.none_ {P : Addr → Obj → Prop} {pos : Pos} : ∀ {ps : List Value} {es : List (Pos × Str)}, Tb P ps es → lookT pos es = none → codeAmong pos ps = none
  | _, _, .nil, _ => rfl
  | _, _, .cons (pos := p) _ _ _ d, h => by
    unfold lookT at h
    split at h
    · cases h
    · rename_i q
      show (if ((p.line : Int) == pos.line && (p.col : Int) == pos.col) = true then _ else _) = _
      rw [if_neg q]; exact d.none_ h
theorem Tb.some_ {P : Addr → Obj → Prop} {pos : Pos} {q : Str} : ∀ {ps : List Value} {es : List (Pos × Str)}, Tb P ps es → lookT pos es = some q → ∃ c oc vs t, codeAmong pos ps = some (.ref c) ∧ P c oc ∧ oc.data = .fields vs ∧ vs[1]? = some (.str q t)
  | _, _, .nil, h => by cases h
  | _, _, .cons (pos := p) (c := c) a b e d, h => by
    unfold lookT at h
    split at h
    · rename_i hq
      cases h
      refine ⟨c, _, _, _, ?_, a, b, e⟩
      show (if ((p.line : Int) == pos.line && (p.col : Int) == pos.col) = true then _ else _) = _
      rw [if_pos hq]
    · rename_i hq
      obtain ⟨c, oc, vs, t, h1, h2⟩ := d.some_ h
      refine ⟨c, oc, vs, t, ?_, h2⟩
      show (if ((p.line : Int) == pos.line && (p.col : Int) == pos.col) = true then _ else _) = _
      rw [if_neg hq]; exact h1
theorem Tb.snoc {P : Addr → Obj → Prop} {pos : Pos} {q : Str} {c : Addr} {oc : Obj} {vs : Array Value} {t : Tok} (a : P c oc) (b : oc.data = .fields vs) (e : vs[1]? = some (.str q t)) : ∀ {ps : List Value} {es : List (Pos × Str)}, Tb P ps es → Tb P (ps ++ [rawInt pos.line, rawInt pos.col, .ref c]) (es ++ [(pos, q)])
  | _, _, .nil => .cons a b e .nil
  | _, _, .cons a' b' e' d => .cons a' b' e' (d.snoc a b e)
section
variable {C : Cx} {n : Nat} {f : Fm} {m : AEnv} {σ : AHeap}
theorem HR.change {fz pin : Fz} {δ : Addr → Addr} {news : List (Addr × Obj)} {a : Addr} {ao ao' : AObj} {o' : Obj} (R : HR C fz pin σ δ news) (h : σ a = some ao) (hn : ∀ c as, ao ≠ .inst c as) (hn' : ∀ c as, ao' ≠ .inst c as)
    (hr : ∀ news d, (a, o') ∈ news → OR (At C fz) news d a ao') : HR C fz pin (σ.set a ao') δ (upd news a o') := by
  have da : ∀ b c as, σ b = some (.inst c as) → δ b ≠ a := fun b c as hb e => by have := R.dσ b c as hb; rw [e, h] at this; cases this
  have keep : ∀ {b c as}, σ.set a ao' b = some (.inst c as) → b ≠ a ∧ σ b = some (.inst c as) := fun {b c as} hb => by
    by_cases q : b = a
    · subst q; rw [AHeap.set_same] at hb; exact absurd (Option.some.inj hb) (hn' _ _)
    · rw [AHeap.set_ne _ _ q] at hb; exact ⟨q, hb⟩
  refine ⟨fun p hp => mem_upd (R.sub p hp) (R.off a _ h p hp), R.apart, fun b bo hb => ?_, fun b bo hb p hp => ?_, fun b c as hb p hp => R.doff b c as (keep hb).2 p hp, fun b c as hb => ?_, R.free, fun b c as b' c' bs h1 h2 => R.dinj b c as b' c' bs (keep h1).2 (keep h2).2⟩
  · by_cases q : b = a
    · subst q; rw [AHeap.set_same] at hb; cases hb
      exact hr _ _ (List.mem_cons_self ..)
    · rw [AHeap.set_ne _ _ q] at hb
      exact (R.ob b bo hb).mono (fun _ _ x => x) (fun _ hm => mem_upd hm q) fun c as eb _ hm => mem_upd hm (da b c as (eb ▸ hb))
  · by_cases q : b = a
    · subst q; exact R.off b _ h p hp
    · rw [AHeap.set_ne _ _ q] at hb; exact R.off b bo hb p hp
  · obtain ⟨q, hb⟩ := keep hb
    rw [AHeap.set_ne _ _ (da b c as hb)]; exact R.dσ b c as hb
/-- a table grows, new frozen things come -/
theorem SR.tabGrow {fz : Fz} {s : Shared} (x : SR C f fz m σ s) {P : Addr} {es es' : List (Pos × Str)} {h' : Heap} {t : Nat} {ps' : Array Value} (h : σ P = some (.tab es)) (hx : Heap.ExtBut P s.heap h') (hP : h'.get? P = some (tabObj ps')) (new : Fz)
    (hn : ∀ p ∈ new, s.heap.objs.size ≤ p.1 ∧ h'.get? p.1 = some p.2) (ht : Tb (At C (new ++ fz)) ps'.toList es') : SR C f (new ++ fz) m (σ.set P (.tab es')) { s with heap := h', toks := t } := by
  obtain ⟨mc, news, δ, F, N, R, e⟩ := x
  obtain ⟨o, ho⟩ := (R.ob P _ h).key
  have lt : ∀ q ∈ news, q.1 < s.heap.objs.size := fun q hq => Heap.lt_size (N q hq).1
  have R1 := (R.addFz new fun p hp q hq e => absurd (lt q hq) (Nat.not_lt.mpr (e ▸ (hn p hp).1))).change h (fun _ _ e => by cases e) (ao' := .tab es') (fun _ _ e => by cases e) (o' := tabObj ps') fun _ _ hm => ⟨_, hm, ht⟩
  have hPn := N _ ho
  refine ⟨mc, _, δ, ⟨F.ns.extBut hx hPn.2.1.symm, fun b o e => hx b o (fun q => by rw [q, hPn.2.2] at e; cases e) (F.keep b o e), F.above⟩, fun p hp => ?_, R1, e.up fun p hp => List.mem_append_right _ hp⟩
  rcases List.mem_cons.mp hp with rfl | hp
  · exact ⟨hP, hPn.2⟩
  · have hne : p.1 ≠ P := by simpa using (List.mem_filter.mp hp).2
    rcases List.mem_append.mp (List.mem_filter.mp hp).1 with hp | hp
    · obtain ⟨h1, h2⟩ := hn p hp
      exact ⟨h2, Nat.ne_of_gt (Nat.lt_of_lt_of_le F.ns.lt h1), Heap.get?_none_of_le (Nat.le_trans F.above (Nat.le_trans (Nat.le_of_lt F.ns.lt) h1))⟩
    · exact ⟨hx _ _ hne (N p hp).1, (N p hp).2⟩
/-- a def, a lambda made in a frame -/
theorem make_clo {d : Clo} {cs : List Addr} {xs : List AVal} {pos : Pos} {fl : Nat} {c P : Addr} {es es' : List (Pos × Str)} {fz : Fz} {s : Shared} {E : Value → Shared → Prop} {Q : AVal → AHeap → Prop} (ok : f.Ok C n) (x : SR C f fz m σ s) (hcm : f.comp = none)
    (hcd : f.ccd = .ref c) (hC : CodeHd C.H c P) (hP : σ P = some (.tab es)) (hes : tabWith pos d.qual es = some es') (hcl : closureFor d.scope f.env = pure (d.free.zip cs)) (hxs : Cs (At C fz) cs xs) (h : Q (.clos d xs) (σ.set P (.tab es'))) :
    wpAny (Md C) f.A (makeFunction d.name d.qual d.params d.body d.scope f.env [] [] [] pos fl) (PV C f m fz s Q) E s := by
  have x0 := x
  obtain ⟨mc, news, δ, F, N, R, e⟩ := x
  obtain ⟨ps, hm0, hT⟩ := R.ob P _ hP
  have hm := N _ hm0
  have T := ok.top
  have hgs := T.g.keeps F.keep
  obtain ⟨bm, ob, b1, b2, b3, b4, b5, b6⟩ := T.bmain
  have hgP : mainGlobals ≠ P := fun q => by
    obtain ⟨o, es, ep, e, hd, _⟩ := hgs
    rw [q, hm.1] at e; cases e; cases hd
  have hbP : bm ≠ P := fun q => by
    have e := F.keep _ _ b3
    rw [q, hm.1] at e; cases e; cases b4
  have hbG : bm ≠ mainGlobals := fun q => by
    obtain ⟨o, es, ep, e, hd, _⟩ := T.g
    rw [q, e] at b3; cases b3; rw [hd] at b6; cases b6
  have he : f.env = f.fenv := by unfold Fm.env; rw [hcm]
  have hC' : CodeHd s.heap c P := hC.keeps fun b o e => F.keep _ _ (ok.hk _ _ e)
  have hge0 : f.env.globals = mainGlobals := by rw [he]
  have hcode : f.env.code = .ref c := by rw [he]; exact hcd
  have hbb : s.heap.BuiltinsAt C.mg P := ⟨bm, ob, b1, b2, hbG, hbP, F.keep _ _ b3, b4, b5, b6⟩
  have hit : ∀ {cv : Addr} {doc ctv : Value} {h' : Heap} {tk : Tok} {oc : Obj} {vs : Array Value} {t : Tok}, At C fz cv oc → oc.data = .fields vs → vs[1]? = some (.str d.qual t) → es' = es → (∀ b o, s.heap.get? b = some o → h'.get? b = some o) → s.heap.objs.size ≤ h'.objs.size →
      PV C f m fz s Q (.ref h'.objs.size) { s with heap := h'.push (cloObj d cs doc ((C.mg "__name__").getD .none) cv ctv), toks := tk } := by
    intro cv doc ctv h' tk oc vs t hat hd hv hee hk hsz
    subst hee
    have hsame : σ.le (σ.set P (.tab es')) := fun b o hb => by
      by_cases q : b = P
      · subst q; rw [AHeap.set_same]; rw [hP] at hb; exact hb
      · rw [AHeap.set_ne _ _ q]; exact hb
    have hsame' : (σ.set P (.tab es')).le σ := fun b o hb => by
      by_cases q : b = P
      · subst q; rw [AHeap.set_same] at hb; rw [hP]; exact hb
      · rw [AHeap.set_ne _ _ q] at hb; exact hb
    refine (PV.new (σ := σ.set P (.tab es')) (a := .clos d xs) (x0.weaken (fun _ _ h => h) hsame') (fun b o e => Heap.get?_push_of_some _ (hk b o e)) hsz (Heap.get?_push_size _ rfl) (fun fz' hq up => .clos (.inl hq) (hat.mono up) hd hv (hxs.mono fun _ _ => At.mono up)) h)
  have miss : ∀ {c' : Addr} {doc ctv : Value} {h' : Heap} {tk : Tok}, es' = es ++ [(pos, d.qual)] → Heap.ExtBut P s.heap h' → s.heap.objs.size ≤ c' → c' < h'.objs.size → h'.CodeRec (.ref c') d.qual → h'.get? P = some (tabObj (ps ++ #[rawInt pos.line, rawInt pos.col, .ref c'])) →
      PV C f m fz s Q (.ref h'.objs.size) { s with heap := h'.push (cloObj d cs doc ((C.mg "__name__").getD .none) c' ctv), toks := tk } := by
    intro c' doc ctv h' tk hee hx hge hlt hrec htb
    subst hee
    obtain ⟨c₂, oc, vs, t, e2, hoc, hd, hv⟩ := hrec
    cases e2
    have up : ∀ p ∈ fz, p ∈ [(h'.objs.size, cloObj d cs doc ((C.mg "__name__").getD .none) c' ctv), (c', oc)] ++ fz := fun p hp => List.mem_append_right _ hp
    refine ⟨[(h'.objs.size, cloObj d cs doc ((C.mg "__name__").getD .none) c' ctv), (c', oc)] ++ fz, _, .clos d xs, up, ⟨_, _, rfl⟩, x0.tabGrow (t := tk) hP (ps' := ps ++ #[rawInt pos.line, rawInt pos.col, .ref c']) (fun b o hb e => Heap.get?_push_of_some _ (hx b o hb e)) (Heap.get?_push_of_some _ htb) _ (fun p hp => ?_) ?_, .clos (.inl (.head _)) (.inl (.tail _ (.head _))) hd hv (hxs.mono fun _ _ => At.mono up), h⟩
    · rcases List.mem_cons.mp hp with rfl | hp
      · exact ⟨Nat.le_of_lt (Nat.lt_of_le_of_lt hge hlt), Heap.get?_push_size _ rfl⟩
      · rw [List.mem_singleton.mp hp]; exact ⟨hge, Heap.get?_push_of_some _ hoc⟩
    · have := (hT.mono fun _ _ => At.mono up).snoc (pos := pos) (q := d.qual) (c := c') (.inl (.tail _ (.head _))) hd hv
      simpa using this
  unfold tabWith at hes
  obtain ⟨dn, dq, dp, db, ds, df⟩ := d
  dsimp only at hes hit miss hcl ⊢
  split at hes
  · rename_i q' hq
    split at hes
    · rename_i hqq
      cases hes
      subst hqq
      obtain ⟨cv, oc, vs, t, h1, h2, h3, h4⟩ := hT.some_ hq
      cases db with
      | stmts b => exact makeFunction_hit (mg := C.mg) hcl hge0 hgs hcode hC' hm.1 hT.triples h1 hbb fun ctv doc h' tk hk hsz => hit h2 h3 h4 rfl hk hsz
      | expr b => exact kla_makeFunctionHit (mg := C.mg) hcl hge0 hgs hcode hC' hm.1 hT.triples h1 hbb fun ctv h' tk hk hsz => hit h2 h3 h4 rfl hk hsz
    · cases hes
  · rename_i hq
    cases hes
    have h1 := hT.none_ hq
    cases db with
    | stmts b => exact makeFunction_K (mg := C.mg) hcl hge0 hgs hcode hC' hm.1 hT.triples h1 hgP hbb fun c' ctv doc h' tk hx hge hlt hrec htb => miss rfl hx hge hlt hrec htb
    | expr b => exact kla_makeFunction (mg := C.mg) hcl hge0 hgs hcode hC' hm.1 hT.triples h1 hgP hbb fun c' ctv h' tk hx hge hlt hrec htb => miss rfl hx hge hlt hrec htb
end
end Mine

open PySem PySem.W PyProof.Rows PySem.Calls
namespace Mine
section
variable {C : Cx} {n : Nat} {f : Fm} {m : AEnv} {σ : AHeap}
/-- a thing of the state is kept apart -/
theorem SR.lendAny {fz : Fz} {s : Shared} (x : SR C f fz m σ s) {a : Addr} {ao : AObj} (h : σ a = some ao) : SX C f fz m (σ.del a) [a] s := by
  obtain ⟨mc, news, δ, F, N, R, e⟩ := x
  obtain ⟨o, ho⟩ := (R.ob a _ h).key
  have keepM : ∀ {p : Addr × Obj}, p ∈ news → p.1 ≠ a → p ∈ news.filter (fun p => decide (p.1 ≠ a)) := fun h q => List.mem_filter.mpr ⟨h, by simpa using q⟩
  have old : ∀ {b bo}, σ.del a b = some bo → b ≠ a ∧ σ b = some bo := fun {b bo} hb => by
    by_cases q : b = a
    · rw [q, AHeap.del_same] at hb; cases hb
    · rw [AHeap.del_ne _ q] at hb; exact ⟨q, hb⟩
  refine ⟨mc, news.filter (fun p => decide (p.1 ≠ a)), δ, F, fun p hp => N p (List.mem_filter.mp hp).1, ⟨fun p hp => keepM (R.sub p hp) (R.off a _ h p hp), R.apart, fun b bo hb => ?_, fun b bo hb => R.off b bo (old hb).2, fun b c as hb => R.doff b c as (old hb).2, fun b c as hb => ?_, R.free, fun b c as b' c' bs h1 h2 => R.dinj b c as b' c' bs (old h1).2 (old h2).2⟩, e, fun p hp q => ?_, fun q => ?_, fun b hb => ?_⟩
  · refine (R.ob b bo (old hb).2).mono (fun _ _ z => z) (fun _ hm => keepM hm (old hb).1) fun c as eb _ hm => keepM hm fun q => ?_
    have := R.dσ b c as (eb ▸ (old hb).2)
    rw [show δ b = a from q, h] at this; cases this
  · have := R.dσ b c as (old hb).2
    by_cases q : δ b = a
    · rw [q]; exact AHeap.del_same ..
    · rw [AHeap.del_ne _ q]; exact this
  · have := (List.mem_filter.mp hp).2
    exact absurd (List.mem_singleton.mp q) (by simpa using this)
  · exact absurd (List.mem_singleton.mp q).symm (N _ ho).2.1
  · rw [List.mem_singleton.mp hb]; exact (N _ ho).2.2
/-- a cell that changes no more -/
theorem SR.iceCell {fz : Fz} {s : Shared} (x : SR C f fz m σ s) {a : Addr} {v : AVal} (h : σ a = some (.cell (some v))) : ∃ o u, SR C f ([(a, o)] ++ fz) m (σ.del a) s ∧ o.data = .cell (some u) ∧ V (At C fz) u v := by
  obtain ⟨o, u, h1, h2, h3⟩ := x.cell h
  exact ⟨o, u, ((x.lendAny h).ice (D := a) (wr := []) (by simp) h1).sr, h2, h3⟩
def CellsOf : AHeap → List Addr → List AVal → AHeap → Prop
  | σ, [], [], σ' => σ' = σ
  | σ, c :: cs, x :: xs, σ' => σ c = some (.cell (some x)) ∧ CellsOf (σ.del c) cs xs σ'
  | _, _, _, _ => False
theorem SR.iceCells {s : Shared} : ∀ {cs : List Addr} {xs : List AVal} {σ σ' : AHeap} {fz : Fz}, SR C f fz m σ s → CellsOf σ cs xs σ' → ∃ fz', (∀ p ∈ fz, p ∈ fz') ∧ SR C f fz' m σ' s ∧ Cs (At C fz') cs xs
  | [], [], σ, σ', fz, x, h => by cases h; exact ⟨fz, sub_refl, x, .nil⟩
  | c :: cs, y :: xs, σ, σ', fz, x, ⟨h1, h2⟩ => by
    obtain ⟨o, u, x1, hd, hv⟩ := x.iceCell h1
    obtain ⟨fz', up, x2, hc⟩ := SR.iceCells x1 h2
    exact ⟨fz', fun p hp => up _ (List.mem_append_right _ hp), x2, .cons (.inl (up _ (.head _))) hd (hv.up fun p hp => up _ (List.mem_append_right _ hp)) hc⟩
  | [], _ :: _, _, _, _, _, h => h.elim
  | _ :: _, [], _, _, _, _, h => h.elim
theorem TS.up {y : Str} {a : AVal} {Q : AEnv → AHeap → Prop} (h : TS C n f y a m σ Q) (ok : f.Ok C n) {fz fz₁ : Fz} {s s₁ : Shared} {E : Value → Shared → Prop} {v : Value} (u : ∀ p ∈ fz, p ∈ fz₁) (e : Same s s₁) (x : SR C f fz₁ m σ s₁) (hv : V (At C fz₁) v a) :
    wpAny (Md C) f.A (storeName f.env y v) (fun _ s' => PU C f fz s Q s') E s₁ :=
  wpAny_mono (h ok fz₁ s₁ E v x hv) (fun _ s' hq => PU.el hq fun fz₂ σ₂ m₂ u2 e2 x2 q2 => ⟨fz₂, σ₂, m₂, fun p hp => u2 p (u p hp), e.trans e2, x2, q2⟩) fun _ _ x => x
/-- a def in a def: its cells change no more -/
theorem w1_def {name : Str} {params : Arguments} {body : List Stmt} {scope : Scope} {pos : Pos} {d : Clo} {cs : List Addr} {xs : List AVal} {σ₁ : AHeap} {c P : Addr} {es es' : List (Pos × Str)} {Q : AFlow → AEnv → AHeap → Prop}
    (hd : d = ⟨name, qualnameIn f.env name name, params, .stmts body, scope, d.free⟩) (hcd : f.ccd = .ref c) (hC : CodeHd C.H c P) (hcl : closureFor scope f.env = pure (d.free.zip cs)) (hx : CellsOf σ cs xs σ₁) (hP : σ₁ P = some (.tab es)) (hes : tabWith pos d.qual es = some es')
    (h : TS C n f name (.clos d xs) m (σ₁.set P (.tab es')) fun m' σ' => Q .next m' σ')
    (hd0 : params.defaults = [] := by rfl) (hk0 : params.kw_defaults = [] := by rfl) (ha : annTrees params none f.env = [] := by rfl) (hcm : f.comp = none := by rfl) : W1 C n f (.FunctionDef name params body [] none [] scope none name pos) m σ Q := fun ok fz s E x => by
  obtain ⟨fz₁, u, x1, hxs⟩ := x.iceCells hx
  refine nestDef_K hd0 hk0 ha ?_
  have hm := make_clo (d := d) (cs := cs) (pos := pos) (fl := pos.line) (E := E) (Q := fun a σ' => a = .clos d xs ∧ σ' = σ₁.set P (.tab es')) ok x1 hcm hcd hC hP hes (by rw [hd]; exact hcl) hxs ⟨rfl, rfl⟩
  rw [hd] at hm
  refine wpAny_mono hm (fun v s' hq => hq.el fun fz₂ σ₂ a u2 e2 x2 va q2 => ?_) fun _ _ z => z
  obtain ⟨rfl, rfl⟩ := q2
  rw [← hd] at va
  refine wpAny_mono (h.up ok (fz := fz) (s := s) (fun p hp => u2 p (u p hp)) e2 x2 va) (fun _ s₂ hq => PU.el hq fun fz₃ σ₃ m₃ u3 e3 x3 q3 => ⟨fz₃, σ₃, m₃, .next, u3, e3, x3, trivial, q3⟩) fun _ _ z => z
/-- a free name -/
theorem we_free {y : Str} {pos : Pos} {c : Addr} {a : AVal} {Q : AVal → AHeap → Prop} (hl : f.env.kindOf y = some .free) (hc : f.env.cells.lookup y = some c) (hv : (c, a) ∈ C.fr) (h : Q a σ) (hd : (y == ("__debug__" : Str)) = false := by decide) (hn : (y == ("__classdict__" : Str)) = false := by decide) : WE C n f (.Name y pos) m σ Q := fun ok fz s E x => by
  have x' := x
  obtain ⟨mc, news, δ, F, N, R, e⟩ := x
  obtain ⟨o, v, h1, h2, h3⟩ := R.free _ hv
  exact wpAny_Name (wpAny_loadName_free ok.ckind hl hc ⟨o, x'.at_ ok h1, h2⟩ (PV.here x' h3 h) hn) hd
theorem Cs.get {P : Addr → Obj → Prop} : ∀ {cs : List Addr} {xs : List AVal}, Cs P cs xs → ∀ p ∈ cs.zip xs, ∃ o v, P p.1 o ∧ o.data = .cell (some v) ∧ V P v p.2
  | _, _, .nil, p, hp => nomatch hp
  | _, _, .cons a b c d, p, hp => by
    rcases List.mem_cons.mp hp with rfl | hp
    · exact ⟨_, _, a, b, c⟩
    · exact d.get p hp
theorem Cs.length {P : Addr → Obj → Prop} : ∀ {cs : List Addr} {xs : List AVal}, Cs P cs xs → cs.length = xs.length
  | _, _, .nil => rfl
  | _, _, .cons _ _ _ d => by simp [d.length]
@[reducible] def Cx.withFr (C : Cx) (l : List (Addr × AVal)) : Cx := { C with fr := l ++ C.fr }
/-- a call of a def that was made in a def -/
theorem tc_clos {d : Clo} {xs as : List AVal} {ns : List Str} {body : List Stmt} {Q : AVal → AHeap → Prop} (hb : d.body = .stmts body)
    (hbind : ∀ cl doc pm c ctv vs, vs.length = as.length → bindArgs (fnX d.name d.qual d.params body d.scope cl .none .none doc pm none (.ref c) ctv) ⟨vs, []⟩ = pure (ns.zip vs)) (hnd : ns.Nodup) (hloc : ∀ y ∈ ns, d.scope.names.lookup y = some .local)
    (h : ∀ A₀ A base h₀ outer L fa cdv cs pin, cs.length = xs.length → WS (C.withFr (cs.zip xs)) n ⟨A₀, A, base, h₀, outer, L, fa, d.qual, d.scope, cdv, d.free.zip cs, pin, none⟩ body (ns.zip as) σ fun fl _ σ' => ∃ σ₂ : AHeap, σ₂.le σ' ∧ Q (retOf fl) σ₂)
    (hcell : ∀ x ∈ d.scope.names, x.2 ≠ .cell := by decide) (hco : d.scope.isCoroutine = false := by rfl) (hgen : d.scope.isGenerator = false := by rfl) (hk : d.scope.kind = .function := by rfl) : TC C (n + 1) f (.clos d xs) as m σ Q := fun ok fz s E v vs x hv hvs => by
  cases hv with
  | clos h1 h2 h3 h4 h5 =>
  rename_i a c oc cv t cs doc pm ctv
  have g1 := x.at_ ok h1
  have g2 := x.at_ ok h2
  refine ⟨keeps_F _ ⟨_, _, _, _, g1⟩, wpAny_call ?_⟩
  obtain ⟨mc, news, δ, F, N, R, e⟩ := x
  have e2 := ok.depth
  have e3 := ok.units
  have hlen := hvs.length
  obtain ⟨dn, dq, dp, db, ds, df⟩ := d
  dsimp only at hb
  subst hb
  refine callX_plain (cl := df.zip cs) (binds := ns.zip vs) ok.below F N ok.top.nolimit ok.stack rfl ok.kind g1 rfl ⟨c, oc, cv, t, rfl, g2, h3, h4⟩ (by omega) (BindsTo.of_eq (hbind _ _ _ _ _ vs hlen)) (fun y hy => hloc _ (List.of_mem_zip hy).1) (fun g L' h₁ FG F' N' B' st _ => ?_) hcell hco hgen hk
  let C' : Cx := C.withFr (cs.zip xs)
  let f' : Fm := ⟨f.A, f.A.deeper (envX dq ds L' a (.ref c) (df.zip cs)), f.base, g, f.fenv :: f.outer, L', a, dq, ds, .ref c, df.zip cs, f.pin, none⟩
  have hkH : ∀ b o, C.H.get? b = some o → g.get? b = some o := fun b o hb => FG.keep b o (ok.hk b o hb)
  have ok' : f'.Ok C' n := ⟨B', ok.kin.keeps st, ok.top.keeps st, hkH, Around.frames_deeper B'.stack, ok.handled, ok.guards, by show f.A.depth + 1 + 3 * n < _; omega, by show f.A.units + 3 + 10 * n + 100 < _; omega, hk, hk⟩
  have R' : HR C' fz f.pin σ δ news := ⟨R.sub, R.apart, R.ob, R.off, R.doff, R.dσ, fun p hp => by
    rcases List.mem_append.mp hp with hp | hp
    · exact h5.get p hp
    · exact R.free p hp, R.dinj⟩
  have x' : SR C' f' fz (ns.zip as) σ { s with heap := h₁, toks := s.toks + (ns.zip vs).length } :=
    ⟨_, news, δ, F', N', R', fun y a hy => lookup_zip hvs hnd hy⟩
  refine wpAny_mono (h f.A _ f.base g (f.fenv :: f.outer) L' a (.ref c) cs f.pin h5.length ok' fz _ _ x') (fun fl s' hq => hq.el fun fz' σ' m' b u es x2 va ⟨σ₂, hle, q⟩ => ?_) fun _ _ z => z
  obtain ⟨mc', news', δ', F2, N2, R2, e2⟩ := x2.weaken (fun _ _ h => h) hle
  have R3 : HR C fz' f.pin σ₂ δ' news' := ⟨R2.sub, R2.apart, R2.ob, R2.off, R2.doff, R2.dσ, fun p hp => R2.free p (List.mem_append_right _ hp), R2.dinj⟩
  refine leaveK_ F2 N2 fun FK NK => ⟨fz', σ₂, retOf b, u, ?_, ⟨mc, news', δ', FK, NK, R3, fun y b hy => ?_⟩, ?_, q⟩
  · obtain ⟨hh, tt, ee⟩ := es; exact ⟨hh, tt, ee⟩
  · obtain ⟨v, h1, h2⟩ := e y b hy; exact ⟨v, h1, h2.up u⟩
  · cases fl <;> cases b <;> first | exact va.elim | exact .none | exact va
end
end Mine

open PySem PySem.W PyProof.Rows PySem.Calls
namespace Mine
theorem HR.nil {C : Cx} (h : C.fr = []) : HR C [] [] (fun _ => none) id [] := ⟨fun p hp => (nomatch hp), fun p hp => (nomatch hp), fun a ao e => (nomatch e), fun a ao e => (nomatch e), fun a c as e => (nomatch e), fun a c as e => (nomatch e), (fun p hp => by rw [h] at hp; cases hp), fun a c as b c' bs e => (nomatch e)⟩
theorem HR.tab0 {C : Cx} (h : C.fr = []) (P : Addr) : HR C [] [] (AHeap.set (fun _ => none) P (.tab [])) id [(P, tabObj #[])] :=
  (HR.nil h).addThing (o := tabObj #[]) (fun _ _ e => by cases e) (fun q hq => nomatch hq) fun _ _ hm => ⟨_, hm, .nil⟩
theorem SR.grownAt {C : Cx} {f : Fm} {fz : Fz} {m : AEnv} {σ : AHeap} {s : Shared} (x : SR C f fz m σ s) {P : Addr} {es : List (Pos × Str)} (h : σ P = some (.tab es)) : GrownAt P s.heap := by
  obtain ⟨mc, news, δ, F, N, R, e⟩ := x
  obtain ⟨ps, h1, h2⟩ := R.ob P _ h
  exact ⟨ps, (N _ h1).1⟩
/-- the law's own frame, with cells, a table laid aside -/
theorem enterTC {prog : Program} {w : World} {K : Frag} {vp : Program} {loose : List Str} {mean : ExcName → Option Value} {mg mb : Str → Option Value} {H : Heap} {L fa a P : Addr} {vs : List Value} {ns : List Int} {qual : Str} {scope : Scope} {cdv : Value} {body : List Stmt} {s : Shared} {Q : Flow → Shared → Prop} {E : Value → Shared → Prop} {cells : List (Addr × Obj)} (cs : Nat → List (Str × Addr)) (ml : AVal → AEnv)
    (B : Below callerA H [] H) (X : K.In H) (T : Top vp loose mean mg mb H) (hL : H.IsList a vs.toArray) (hI : IntsAre vs ns)
    (F : Fr H L s.heap (bindL (envOfC qual scope L fa cdv).kindOf [(Str.ofString "script", Value.ref a)] fun _ => none)) (N : News H L s.heap (cells ++ [(P, tabObj #[])])) (hPL : P < L)
    (Y : CellsAre (bindC (envOfC qual scope L fa cdv).kindOf [(Str.ofString "script", Value.ref a)] fun _ => none) (cellsFrom (L + 1) scope.names []) cells) (hk : scope.kind = .function) (hn : ns.length ≤ 63)
    (hcs : ∀ L : Nat, cellsFrom (L + 1) scope.names [] = cs L) (hck : ∀ p ∈ cellsFrom 0 scope.names [], scope.names.lookup p.1 ≠ some .local) (hml : ∀ v, ([(Str.ofString "script", v)].filter fun p : Str × AVal => scope.names.lookup p.1 == some .local) = ml v)
    (h : ∀ A₀ A base h₀ outer (L : Nat) (ns : List Int), P < L → ns.length ≤ 63 → WS ⟨prog, w, K, vp, loose, mean, mg, mb, H, []⟩ 20 ⟨A₀, A, base, h₀, outer, L, fa, qual, scope, cdv, cs L, [], none⟩ body (ml (.lst (ns.map .int))) (cellS (fun y => getA y [(Str.ofString "script", .lst (ns.map .int))]) (cs L) (AHeap.set (fun _ => none) P (.tab []))) fun fl _ σ' => fl = .ret (.bool true) ∧ ∃ es, σ' P = some (.tab es))
    (hQ : ∀ h' tk mc', Fr H L h' mc' → GrownAt P h' → Q (.ret (.bool true)) { s with heap := h', toks := tk }) :
    wpAny (model prog w) (callerA.deeper (envOfC qual scope L fa cdv)) (execs body (envOfC qual scope L fa cdv)) Q E s := by
  have names : ∀ (names : List (Str × NameKind)) (a b : Nat) (acc acc' : List (Str × Addr)), acc.map (·.1) = acc'.map (·.1) → (cellsFrom a names acc).map (·.1) = (cellsFrom b names acc').map (·.1) := by
    intro names
    induction names with
    | nil => intro a b acc acc' h; exact h
    | cons p r ih =>
      intro a b acc acc' h
      obtain ⟨y, kd⟩ := p
      unfold cellsFrom
      split
      · exact ih _ _ _ _ (by simp [h])
      · exact ih _ _ _ _ h
  have ck : ∀ p ∈ cellsFrom (L + 1) scope.names [], scope.names.lookup p.1 ≠ some .local := fun p hp => by
    have : p.1 ∈ (cellsFrom 0 scope.names []).map (·.1) := by rw [names scope.names 0 (L + 1) [] [] rfl]; exact List.mem_map_of_mem hp
    obtain ⟨q, hq, e⟩ := List.mem_map.mp this
    rw [← e]; exact hck q hq
  have ok : Fm.Ok ⟨prog, w, K, vp, loose, mean, mg, mb, H, []⟩ 20 ⟨callerA, callerA.deeper (envOfC qual scope L fa cdv), H, H, [], L, fa, qual, scope, cdv, cellsFrom (L + 1) scope.names [], [], none⟩ :=
    ⟨B, X, T, fun _ _ h => h, rfl, rfl, rfl, (show 1 + claimMargin + 1 + 3 * 20 < recursionLimit by decide), (show 4 + 3 + 10 * 20 + 100 < cLine by decide), hk, hk⟩
  obtain ⟨nd, cl⟩ := cellsFrom_nd scope.names (L + 1) [] List.nodup_nil (fun p hp => by cases hp)
  have hz : Vs (At ⟨prog, w, K, vp, loose, mean, mg, mb, H, []⟩ []) [Value.ref a] [.lst (ns.map .int)] := by
    obtain ⟨o, h1, h2, k, h3⟩ := hL
    exact .cons (.lst (.inr h1) h2 h3 (vs_ints hI)) .nil
  have nds : [Str.ofString "script"].Nodup := by simp
  have R : HR ⟨prog, w, K, vp, loose, mean, mg, mb, H, []⟩ [] [] (cellS (fun y => getA y [(Str.ofString "script", .lst (ns.map .int))]) (cellsFrom (L + 1) scope.names []) (AHeap.set (fun _ => none) P (.tab []))) id (cells ++ [(P, tabObj #[])]) := (HR.tab0 rfl P).addCells Y nd (fun p hp q hq => by
      rw [List.mem_singleton.mp hq]
      rcases cl p hp with hp | hp
      · cases hp
      · exact Nat.ne_of_lt (Nat.lt_of_lt_of_le (Nat.lt_succ_of_lt hPL) hp)) fun p hp => by
    have hkd : (envOfC qual scope L fa cdv).kindOf p.1 ≠ some .local := ck p hp
    cases q : getA p.1 [(Str.ofString "script", .lst (ns.map .int))] with
    | none => exact .inl ⟨bindC_off (b := [(Str.ofString "script", Value.ref a)]) (by have := getA_none q; simpa using this), rfl⟩
    | some b =>
      obtain ⟨v, g1, g2, g3⟩ := bind_get (ns := [Str.ofString "script"]) (kd := (envOfC qual scope L fa cdv).kindOf) (m := fun _ => none) hz nds q
      exact .inr ⟨v, b, g3 hkd, rfl, g1⟩
  have x : SR ⟨prog, w, K, vp, loose, mean, mg, mb, H, []⟩ ⟨callerA, callerA.deeper (envOfC qual scope L fa cdv), H, H, [], L, fa, qual, scope, cdv, cellsFrom (L + 1) scope.names [], [], none⟩ [] ([(Str.ofString "script", .lst (ns.map .int))].filter fun p : Str × AVal => scope.names.lookup p.1 == some .local) (cellS (fun y => getA y [(Str.ofString "script", .lst (ns.map .int))]) (cellsFrom (L + 1) scope.names []) (AHeap.set (fun _ => none) P (.tab []))) s := by
    refine ⟨_, _, id, F, N, R, fun y b hy => ?_⟩
    obtain ⟨g1, a', g2⟩ := getA_filter (by simp) hy
    obtain ⟨v, g3, g4, _⟩ := bind_get (ns := [Str.ofString "script"]) (kd := (envOfC qual scope L fa cdv).kindOf) (m := fun _ => none) hz nds g1
    exact ⟨v, g4 (by have : scope.names.lookup y = some .local := by simpa using g2
                     exact this), g3⟩
  have hh := h callerA (callerA.deeper (envOfC qual scope L fa cdv)) H H [] L ns hPL hn
  rw [← hcs, ← hml] at hh
  refine wpAny_mono (hh ok [] s E x) (fun fl s' hq => hq.el fun fz' σ' m' a u es x2 va ⟨q, es', hes⟩ => ?_) fun _ _ z => z
  subst q
  cases fl with
  | ret v =>
    cases va
    obtain ⟨h', tk, rfl⟩ := es
    have g := x2.grownAt hes
    obtain ⟨mc', news, δ, F', N', R, e⟩ := x2
    exact hQ h' tk mc' F' g
  | _ => exact va.elim
/-! ## own functions of a thing, bound methods, functions of a class -/
section
open Builtin Builtin.ObjectAttr
variable {prog : Program} {w : World} {A : Around} {E : Value → Shared → Prop} {s : Shared} {K : Frag} {x C L f : Addr} {h₀ : Heap} {m : Str → Option Value} {ox : Obj} {od : Obj} {es : List DictEntry} {n : Nat} {name : Str} {v : Value} {pl : Sem Bool}
end
section
variable {C : Cx} {n : Nat} {f : Fm} {m : AEnv} {σ : AHeap}
end
end Mine

open PySem PySem.W PyProof.Rows PySem.Calls

open PySem PySem.W PyProof.Rows PySem.Calls
namespace Mine
section
variable {C : Cx} {n : Nat} {f : Fm} {m : AEnv} {σ : AHeap}
/-- something that was kept apart becomes a thing of the state -/
theorem SX.thing {fz : Fz} {wr : List Addr} {s : Shared} {D : Addr} {o : Obj} {ao : AObj} (x : SX C f fz m σ (D :: wr) s) (hD : D ∉ wr) (ho : s.heap.get? D = some o) (hn : ∀ c as, ao ≠ .inst c as) (hr : ∀ news d, (D, o) ∈ news → OR (At C fz) news d D ao) : σ D = none ∧ SX C f fz m (σ.set D ao) wr s := by
  obtain ⟨mc, news, δ, F, N, R, e, h1, h2, h3⟩ := x
  have nn : ∀ q ∈ news, q.1 ≠ D := fun q hq e => h1 q hq (by rw [e]; exact List.mem_cons_self ..)
  have hno : σ D = none := R.noneAt nn
  refine ⟨hno, mc, (D, o) :: news, δ, F, fun p hp => ?_, R.addThing hn nn hr, e, fun p hp q => ?_, fun q => h2 (List.mem_cons_of_mem _ q), fun b hb => h3 b (List.mem_cons_of_mem _ hb)⟩
  · rcases List.mem_cons.mp hp with rfl | hp
    · exact ⟨ho, fun q => h2 (by rw [← q]; exact List.mem_cons_self ..), h3 D (List.mem_cons_self ..)⟩
    · exact N p hp
  · rcases List.mem_cons.mp hp with rfl | hp
    · exact hD q
    · exact h1 p hp (List.mem_cons_of_mem _ q)
theorem SX.lendAny {fz : Fz} {wr : List Addr} {s : Shared} (x : SX C f fz m σ wr s) {a : Addr} {ao : AObj} (h : σ a = some ao) : SX C f fz m (σ.del a) (a :: wr) s := by
  obtain ⟨mc, news, δ, F, N, R, e, g1, g2, g3⟩ := x
  obtain ⟨o, ho⟩ := (R.ob a _ h).key
  have keepM : ∀ {p : Addr × Obj}, p ∈ news → p.1 ≠ a → p ∈ news.filter (fun p => decide (p.1 ≠ a)) := fun h q => List.mem_filter.mpr ⟨h, by simpa using q⟩
  have old : ∀ {b bo}, σ.del a b = some bo → b ≠ a ∧ σ b = some bo := fun {b bo} hb => by
    by_cases q : b = a
    · rw [q, AHeap.del_same] at hb; cases hb
    · rw [AHeap.del_ne _ q] at hb; exact ⟨q, hb⟩
  refine ⟨mc, news.filter (fun p => decide (p.1 ≠ a)), δ, F, fun p hp => N p (List.mem_filter.mp hp).1, ⟨fun p hp => keepM (R.sub p hp) (R.off a _ h p hp), R.apart, fun b bo hb => ?_, fun b bo hb => R.off b bo (old hb).2, fun b c as hb => R.doff b c as (old hb).2, fun b c as hb => ?_, R.free, fun b c as b' c' bs h1 h2 => R.dinj b c as b' c' bs (old h1).2 (old h2).2⟩, e, fun p hp q => ?_, fun q => ?_, fun b hb => ?_⟩
  · refine (R.ob b bo (old hb).2).mono (fun _ _ z => z) (fun _ hm => keepM hm (old hb).1) fun c as eb _ hm => keepM hm fun q => ?_
    have := R.dσ b c as (eb ▸ (old hb).2)
    rw [show δ b = a from q, h] at this; cases this
  · have := R.dσ b c as (old hb).2
    by_cases q : δ b = a
    · rw [q]; exact AHeap.del_same ..
    · rw [AHeap.del_ne _ q]; exact this
  · obtain ⟨q1, q2⟩ := List.mem_filter.mp hp
    rcases List.mem_cons.mp q with q | q
    · exact absurd q (by simpa using q2)
    · exact g1 p q1 q
  · rcases List.mem_cons.mp q with q | q
    · exact absurd q.symm (N _ ho).2.1
    · exact g2 q
  · rcases List.mem_cons.mp hb with rfl | hb
    · exact (N _ ho).2.2
    · exact g3 b hb
theorem SX.weaken {fz : Fz} {wr : List Addr} {s : Shared} {σ' : AHeap} (x : SX C f fz m σ wr s) (hσ : σ'.le σ) : SX C f fz m σ' wr s := by
  obtain ⟨mc, news, δ, F, N, R, e, h1, h2, h3⟩ := x
  refine ⟨mc, news, δ, F, N, ⟨R.sub, R.apart, fun a o h => R.ob a o (hσ _ _ h), fun a o h => R.off a o (hσ _ _ h), fun a c as h => R.doff a c as (hσ _ _ h), fun a c as h => ?_, R.free, fun a c as b c' bs h1 h2 => R.dinj a c as b c' bs (hσ _ _ h1) (hσ _ _ h2)⟩, e, h1, h2, h3⟩
  cases q : σ' (δ a) with
  | none => rfl
  | some o => have := hσ _ _ q; rw [R.dσ a c as (hσ _ _ h)] at this; cases this
theorem SR.cell_ {fz : Fz} {s : Shared} (x : SR C f fz m σ s) {a : Addr} {v : Option AVal} (h : σ a = some (.cell v)) : ∃ o u, s.heap.get? a = some o ∧ o.data = .cell u := by
  obtain ⟨mc, news, δ, F, N, R, e⟩ := x
  cases v with
  | none => obtain ⟨o, h1, h2⟩ := R.ob a _ h; exact ⟨o, _, (N _ h1).1, h2⟩
  | some v => obtain ⟨o, u, h1, h2, _⟩ := R.ob a _ h; exact ⟨o, _, (N _ h1).1, h2⟩
theorem newEnv_cell {M : Model} {A : Around} {E : Value → Shared → Prop} {s : Shared} {scope : Scope} {globals : Addr} {cl : List (Str × Addr)} {qual x : Str} {outer : Env} {Q : Env → Shared → Prop} (hcell : ∀ k : Nat, cellsFrom k scope.names cl = (x, k) :: cl) (hpush : ∀ h : Heap, pushCells h scope.names = h.push { cls := .type "cell", data := .cell none })
    (h : Q { scope, locals := s.heap.objs.size, globals, cells := (x, s.heap.objs.size + 1) :: cl, qual, func := none, code := outer.code, frame := outer.frame, builtins := outer.builtins } { s with heap := (s.heap.push { cls := .type "dict", data := .dict #[] }).push { cls := .type "cell", data := .cell none } }) :
    wpAny M A (newFunctionEnv scope globals cl [] qual none .none (some outer)) Q E s := by
  simp only [newFunctionEnv, Option.isSome_some, if_true]
  refine wpAny_bind (wpAny_alloc ?_)
  refine wpAny_bind (wpAny_layCells _ (fun name kind cells => by cases hkc : kind == NameKind.cell <;> simp [hkc]) _ _ _ _ ?_)
  rw [show ({ s with heap := s.heap.push { cls := .type "dict", data := .dict #[] } } : Shared).heap.objs.size = s.heap.objs.size + 1 from Heap.size_push ..]
  rw [hcell, hpush]
  refine wpAny_bind ?_
  rw [List.forIn_nil]
  exact wpAny_pure (wpAny_pure h)
theorem comp_blockC {elt iter : Expr} {x : Str} {px : Pos} {ifs : List Expr} {scope : Scope} {cl : List (Str × Addr)} {pos : Pos} {fz₂ : Fz} {σ₂ : AHeap} {I : Addr} {wr : List Addr} {xs : List AVal} {St : Nat → Heap → Prop} {Lent : Heap → Prop} {back : AHeap → AHeap} {s₂ : Shared} {E : Value → Shared → Prop} {RR : Value → Addr → Result → Shared → Prop}
    (Inv : List AVal → List AVal → AHeap → Prop) (ok : f.Ok C n) (hcf : f.comp = none) (hcell : ∀ k : Nat, cellsFrom k scope.names cl = (x, k) :: cl) (hpush : ∀ h : Heap, pushCells h scope.names = h.push { cls := .type "cell", data := .cell none }) (hkind : scope.kind = .function) (hx : ∀ cl c, (compEnvC scope cl c f.env).kindOf x = some .cell)
    (x2 : SX C f fz₂ m σ₂ wr s₂) (W : Wk C f fz₂ I wr xs St Lent back) (st : St 0 s₂.heap) (hz : xs.length ≤ sizeLine) (q2 : Inv xs [] σ₂)
    (turn : ∀ pin c cx v xs ys σ', Inv (v :: xs) ys σ' → σ' c = none → σ' cx = none → c ≠ cx → WQ C n (f.withComp (some (scope, (x, cx) :: cl, c)) pin) ifs m ((σ'.set cx (.cell (some v))).set c (.ns [])) fun b σ₁ => if b = true then WE C n (f.withComp (some (scope, (x, cx) :: cl, c)) pin) elt m σ₁ fun y σ₂ => (∃ as, σ₂ c = some (.ns as)) ∧ (∃ w, σ₂ cx = some (.cell w)) ∧ ∃ σ₃ : AHeap, σ₃.le σ₂ ∧ σ₃ c = none ∧ σ₃ cx = none ∧ Inv xs (ys ++ [y]) σ₃ else (∃ as, σ₁ c = some (.ns as)) ∧ (∃ w, σ₁ cx = some (.cell w)) ∧ ∃ σ₃ : AHeap, σ₃.le σ₁ ∧ σ₃ c = none ∧ σ₃ cx = none ∧ Inv xs ys σ₃)
    (done : ∀ c D fz' σ' ys vs k h tk mc', (∀ p ∈ fz₂, p ∈ fz') → SX C f fz' m σ' (c :: D :: wr) { s₂ with heap := h, toks := tk } → c ∉ wr → D ∉ wr → c ≠ D → h.Ns c mc' → h.get? D = some (listOf vs.toArray k) → Vs (At C fz') vs ys → Lent h → Inv [] ys σ' → RR (.ref D) c (.ok .next) { s₂ with heap := h, toks := tk }) :
    wpAny (Md C) f.A (newList []) (fun acc s₃ => wpAny (Md C) f.A (newFunctionEnv scope f.env.globals cl [] f.env.qual none .none (some f.env)) (fun cenv s₄ =>
      codeAny (Md C) f.A (.compStart (.ListComp elt [⟨.Name x px, iter, ifs, 0⟩] scope pos) 0 (.ref I) acc { cenv with scope := relabel scope f.env }) (RR acc cenv.locals) s₄) E s₃) E s₂ := by
  have hfe : f.env = f.fenv := by unfold Fm.env; rw [hcf]
  refine wpAny_newObj_type (newEnv_cell hcell hpush ?_)
  dsimp only
  generalize hH2 : s₂.heap.push { cls := .type "list", dict := none, data := .seq ([] : List Value).toArray } = H2
  have hC : H2.objs.size = s₂.heap.objs.size + 1 := by rw [← hH2, Heap.size_push]
  have old : ∀ b o, s₂.heap.get? b = some o → ((H2.push { cls := .type "dict", data := .dict #[] }).push { cls := .type "cell", data := .cell none }).get? b = some o := fun b o e => Heap.get?_push_of_some _ (Heap.get?_push_of_some _ (hH2 ▸ Heap.get?_push_of_some _ e))
  have hacc : ((H2.push { cls := .type "dict", data := .dict #[] }).push { cls := .type "cell", data := .cell none }).get? s₂.heap.objs.size = some (listOf ([] : List Value).toArray 0) := Heap.get?_push_of_some _ (Heap.get?_push_of_some _ (hH2 ▸ Heap.get?_push_size _ rfl))
  have hns₁ : ((H2.push { cls := .type "dict", data := .dict #[] }).push { cls := .type "cell", data := .cell none }).Ns H2.objs.size (fun _ => none) := (Heap.Ns.new H2 (.type "dict")).keeps fun b o e => Heap.get?_push_of_some _ e
  have hcx₁ : ((H2.push { cls := .type "dict", data := .dict #[] }).push { cls := .type "cell", data := .cell none }).get? (H2.objs.size + 1) = some { cls := .type "cell", data := .cell none } := by
    have := Heap.get?_push_size (H2.push { cls := .type "dict", data := .dict #[] }) (o := { cls := .type "cell", data := .cell none }) rfl
    rwa [Heap.size_push] at this
  generalize (H2.push { cls := .type "dict", data := .dict #[] }).push { cls := .type "cell", data := .cell none } = h₁ at old hacc hns₁ hcx₁ ⊢
  have hDC : s₂.heap.objs.size ≠ H2.objs.size := by rw [hC]; exact Nat.ne_of_lt (Nat.lt_succ_self _)
  generalize hcxe : H2.objs.size + 1 = cx at *
  have hCX : H2.objs.size ≠ cx := by rw [← hcxe]; exact Nat.ne_of_lt (Nat.lt_succ_self _)
  have hDX : s₂.heap.objs.size ≠ cx := by rw [← hcxe, hC]; exact Nat.ne_of_lt (Nat.lt_succ_of_lt (Nat.lt_succ_self _))
  have gx : s₂.heap.objs.size ≤ cx := by rw [← hcxe, hC]; exact Nat.le_succ_of_le (Nat.le_succ _)
  have gc : s₂.heap.objs.size ≤ H2.objs.size := by rw [hC]; exact Nat.le_succ _
  generalize hD : s₂.heap.objs.size = D at *
  generalize hCc : H2.objs.size = c at *
  have wlt : ∀ b ∈ wr, b < D := fun b hb => by obtain ⟨o, ho⟩ := W.live _ _ st b hb; rw [← hD]; exact Heap.lt_size ho
  have hDw : D ∉ wr := fun q => Nat.lt_irrefl _ (wlt _ q)
  have hcw : c ∉ wr := fun q => absurd (wlt _ q) (Nat.not_lt.mpr gc)
  have hxw : cx ∉ wr := fun q => absurd (wlt _ q) (Nat.not_lt.mpr gx)
  have hst₁ : St 0 h₁ := W.frame _ _ _ st (fun b _ o e => old b o e) fun b o q => by
    rcases q with q | q
    · exact old _ _ (x2.sr.at_ ok q)
    · obtain ⟨mc, news, δ, F, N, R, e, _⟩ := x2
      exact old _ _ (N _ (R.sub _ (List.mem_append_right _ q))).1
  have x3 : SX C f fz₂ m σ₂ (cx :: c :: D :: wr) { s₂ with heap := h₁ } := x2.wide (t := s₂.toks) [cx, c, D] old (fun b hb => by
    rcases List.mem_cons.mp hb with rfl | hb
    · rw [hD]; exact gx
    · rcases List.mem_cons.mp hb with rfl | hb
      · rw [hD]; exact gc
      · rw [List.mem_singleton.mp hb, hD]; exact Nat.le_refl _)
  have hpin : ∀ p ∈ f.pin, p.1 ∉ D :: wr := by
    obtain ⟨mc, news, δ, F, N, R, e, h1, h2, h3⟩ := x3
    exact fun p hp q => h1 p (R.sub p (List.mem_append_right _ hp)) (List.mem_cons_of_mem _ (List.mem_cons_of_mem _ q))
  have hL : f.L ∉ D :: wr := by obtain ⟨mc, news, δ, F, N, R, e, h1, h2, h3⟩ := x3; exact fun q => h2 (List.mem_cons_of_mem _ (List.mem_cons_of_mem _ q))
  have h0 : ∀ b ∈ D :: wr, f.h₀.get? b = none := by obtain ⟨mc, news, δ, F, N, R, e, h1, h2, h3⟩ := x3; exact fun b hb => h3 b (List.mem_cons_of_mem _ (List.mem_cons_of_mem _ hb))
  have hcD : c ∉ D :: wr := fun q => by
    rcases List.mem_cons.mp q with q | q
    · exact hDC q.symm
    · exact hcw q
  have hxcD : cx ∉ c :: D :: wr := fun q => by
    rcases List.mem_cons.mp q with q | q
    · exact hCX q.symm
    · rcases List.mem_cons.mp q with q | q
      · exact hDX q.symm
      · exact hxw q
  have loop : ∀ s₃ : Shared, s₃ = { s₂ with heap := h₁ } →
      codeAny (Md C) f.A (.compLoop (.ListComp elt [⟨.Name x px, iter, ifs, 0⟩] scope pos) 0 (.ref I) (.ref D) (compEnvC scope ((x, cx) :: cl) c f.env)) (RR (.ref D) c) s₃ := by
    rintro s₃ rfl
    refine codeAny_compLoop_tests (fun k s' => ∃ fz' σ' i h tk ys vs kk mc' ocx ucx, s' = { s₂ with heap := h, toks := tk } ∧ (∀ p ∈ fz₂, p ∈ fz') ∧ SX C f fz' m σ' (cx :: c :: D :: wr) s' ∧ h.Ns c mc' ∧ (h.get? cx = some ocx ∧ ocx.data = .cell ucx) ∧ h.get? D = some (listOf vs.toArray kk) ∧ Vs (At C fz') vs ys ∧ ys.length ≤ i ∧ St i h ∧ Inv (xs.drop i) ys σ' ∧ i ≤ xs.length ∧ k = xs.length - i) ?_ xs.length
      ⟨fz₂, σ₂, 0, h₁, s₂.toks, [], [], 0, _, _, _, rfl, sub_refl, x3, hns₁, ⟨hcx₁, rfl⟩, hacc, .nil, Nat.le_refl _, hst₁, q2, Nat.zero_le _, rfl⟩
    rintro k s' ⟨fz', σ', i, h, tk, ys, vs, kk, mc', ocx, ucx, rfl, u3, x4, hns, ⟨hcx, hcd⟩, hD4, hvs, hyl, st4, q4, hi, rfl⟩
    cases hxi : xs[i]? with
    | none =>
      have hlen : i = xs.length := by have := List.getElem?_eq_none_iff.mp hxi; omega
      subst hlen
      refine W.done _ _ _ st4 fun h' tk' kp hl => ?_
      rw [List.drop_length] at q4
      exact done c D fz' σ' ys vs kk h' tk' mc' u3 ((x4.step (t := tk') fun b o hb e => kp b o (fun q => hb (List.mem_cons_of_mem _ (List.mem_cons_of_mem _ (List.mem_cons_of_mem _ q)))) e).sub fun b hb => List.mem_cons_of_mem _ hb) hcw hDw (Ne.symm hDC) (hns.at' fun o e => kp _ o hcw e) (kp _ _ hDw hD4) hvs hl q4
    | some b =>
      obtain ⟨hlt, hb⟩ := List.getElem?_eq_some_iff.mp hxi
      have hd : xs.drop i = b :: xs.drop (i + 1) := by rw [List.drop_eq_getElem_cons hlt, hb]
      rw [hd] at q4
      refine W.go i _ _ _ b hxi st4 fun v h₂ tk₂ hv st5 kp => ?_
      refine wpAny_assign_Name (wpAny_storeName_cell (by simp [compEnvC, relabel, hkind]) (hx _ _) (by simp [compEnvC]) ⟨ocx, kp _ _ hxw hcx, hcd⟩ fun h₃ hv₃ hs₃ => ?_)
      obtain ⟨o₃, ho₃, hd₃⟩ := hv₃
      have x5 : SX C f fz' m σ' (cx :: c :: D :: wr) { s₂ with heap := h₃, toks := tk₂ } := x4.step (t := tk₂) fun b o hb e => hs₃.extBut b o (fun q => hb (by rw [q]; exact List.mem_cons_self ..)) (kp b o (fun q => hb (List.mem_cons_of_mem _ (List.mem_cons_of_mem _ (List.mem_cons_of_mem _ q)))) e)
      have hns₃ : h₃.Ns c mc' := (hns.at' fun o e => kp _ o hcw e).at' fun o e => hs₃.extBut _ _ hCX e
      have hD5 : h₃.get? D = some (listOf vs.toArray kk) := hs₃.extBut _ _ hDX (kp _ _ hDw hD4)
      have st6 : St (i + 1) h₃ := by
        refine W.frame _ _ _ st5 (fun b hb o e => hs₃.extBut b o (fun q => hxw (by have q' : b = cx := q; rw [← q']; exact hb)) e) fun b o q => ?_
        rcases q with q | q
        · exact x5.sr.at_ ok (q.mono u3)
        · obtain ⟨mc, news, δ, F, N, R, e, _⟩ := x5
          exact (N _ (R.sub _ (List.mem_append_right _ q))).1
      obtain ⟨hxn, x5'⟩ := x5.thing (ao := .cell (some b)) hxcD ho₃ (fun _ _ e => by cases e) fun _ _ hm => ⟨_, _, hm, hd₃, hv.up u3⟩
      have he : ER (At C fz') [] mc' := fun y a hy => by cases hy
      obtain ⟨hcn, x6⟩ := SX.names (k := some (scope, (x, cx) :: cl, c)) x5' hcD hns₃ he
      have hcn' : σ' c = none := by rwa [AHeap.set_ne _ _ hCX] at hcn
      have hee : compEnvC scope ((x, cx) :: cl) c f.env = (f.withComp (some (scope, (x, cx) :: cl, c)) (ownP (D :: wr) h₃ ++ f.pin)).env := by rw [hfe]
      have live : ∀ b ∈ D :: wr, ∃ o, (b, o) ∈ ownP (D :: wr) h₃ := fun b hb => by
        rcases List.mem_cons.mp hb with rfl | hb'
        · exact ⟨_, mem_ownP.mpr ⟨hb, hD5⟩⟩
        · obtain ⟨o, ho⟩ := W.live _ _ st6 b hb'; exact ⟨o, mem_ownP.mpr ⟨hb, ho⟩⟩
      have after : ∀ {fz₇ σ₇ s₇}, (∀ p ∈ fz', p ∈ fz₇) → SR C (f.withComp (some (scope, (x, cx) :: cl, c)) (ownP (D :: wr) h₃ ++ f.pin)) fz₇ m σ₇ s₇ → St (i + 1) s₇.heap ∧ s₇.heap.get? D = some (listOf vs.toArray kk) := by
        intro fz₇ σ₇ s₇ u7 x7
        have pinned : ∀ {b o}, (b, o) ∈ ownP (D :: wr) h₃ ++ f.pin → s₇.heap.get? b = some o := fun {b o} hm => by
          obtain ⟨mc, news, δ, F, N, R, e⟩ := x7
          exact (N _ (R.sub _ (List.mem_append_right _ hm))).1
        refine ⟨W.frame _ _ _ st6 (fun b hb o ho => pinned (List.mem_append_left _ (mem_ownP.mpr ⟨List.mem_cons_of_mem _ hb, ho⟩))) fun b o q => ?_, pinned (List.mem_append_left _ (mem_ownP.mpr ⟨List.mem_cons_self .., hD5⟩))⟩
        rcases q with q | q
        · exact x7.at_ (ok.comp hkind) ((q.mono u3).mono u7)
        · exact pinned (List.mem_append_right _ q)
      have back_ : ∀ {fz₇ σ₇ s₇} {σ₃ : AHeap}, SR C (f.withComp (some (scope, (x, cx) :: cl, c)) (ownP (D :: wr) h₃ ++ f.pin)) fz₇ m σ₇ s₇ → (∃ as, σ₇ c = some (.ns as)) → (∃ w, σ₇ cx = some (.cell w)) → σ₃.le σ₇ → σ₃ c = none → σ₃ cx = none →
          SX C f fz₇ m σ₃ (cx :: c :: D :: wr) s₇ ∧ (∃ mc', s₇.heap.Ns c mc') ∧ ∃ o u, s₇.heap.get? cx = some o ∧ o.data = .cell u := by
        rintro fz₇ σ₇ s₇ σ₃ x7 ⟨as, has⟩ ⟨w, hw⟩ hle hσc hσx
        obtain ⟨x8, mc8, hn8⟩ := SX.unname (σ' := σ₇.del c) live hpin hL h0 x7 has (AHeap.del_le _ _) (AHeap.del_same ..)
        have hw' : (σ₇.del c) cx = some (.cell w) := (AHeap.del_ne _ (Ne.symm hCX)).trans hw
        refine ⟨(x8.lendAny hw').weaken fun a o ha => ?_, ⟨mc8, hn8⟩, x7.cell_ hw⟩
        have h1 : a ≠ cx := fun q => by rw [q, hσx] at ha; cases ha
        have h2 : a ≠ c := fun q => by rw [q, hσc] at ha; cases ha
        rw [AHeap.del_ne _ h1, AHeap.del_ne _ h2]; exact hle _ _ ha
      rw [hee]
      refine wpAny_mono (turn (ownP (D :: wr) h₃ ++ f.pin) c cx b _ ys σ' q4 hcn' hxn hCX (ok.comp hkind) fz' _ _ x6) (fun bb s₇ hq => hq.el fun fz₇ σ₇ u7 e7 x7 q7 => ?_) fun _ _ x => x
      cases bb with
      | false =>
        rw [if_neg (by decide)] at q7 ⊢
        obtain ⟨has, hws, σ₃, hle, hσc, hσx, q7⟩ := q7
        obtain ⟨x8, ⟨mc8, hn8⟩, ocx8, ucx8, hx8, hd8⟩ := back_ x7 has hws hle hσc hσx
        obtain ⟨st8, hD8⟩ := after u7 x7
        obtain ⟨hh, tt, ee⟩ := e7
        subst ee
        exact ⟨xs.length - (i + 1), by omega, fz₇, σ₃, i + 1, hh, tt, ys, vs, kk, mc8, ocx8, ucx8, rfl, fun p hp => u7 p (u3 p hp), x8, hn8, ⟨hx8, hd8⟩, hD8, hvs.up u7, by omega, st8, q7, hlt, rfl⟩
      | true =>
        rw [if_pos rfl] at q7 ⊢
        refine wpAny_mono (q7 (ok.comp hkind) fz₇ s₇ _ x7) (fun y s₈ hq => hq.el fun fz₈ σ₈ ya u8 e8 x8 vy q8 => ?_) fun _ _ x => x
        obtain ⟨has, hws, σ₃, hle, hσc, hσx, q8⟩ := q8
        obtain ⟨x9, ⟨mc9, hn9⟩, ocx9, ucx9, hx9, hd9⟩ := back_ x8 has hws hle hσc hσx
        obtain ⟨st9, hD9⟩ := after (fun p hp => u8 p (u7 p hp)) x8
        obtain ⟨hh, tt, ee⟩ := e7.trans e8
        subst ee
        refine append_at (hsz := by rw [List.size_toArray, hvs.length]; omega) hD9 fun h₅ hs₅ hD₅ => ?_
        refine ⟨xs.length - (i + 1), by omega, fz₈, σ₃, i + 1, h₅, tt, ys ++ [ya], vs ++ [y], kk + 1, mc9, ocx9, ucx9, rfl, fun p hp => u8 p (u7 p (u3 p hp)), x9.step (t := tt) fun b o hb e => hs₅.extBut b o (fun q => hb (by rw [q]; exact List.mem_cons_of_mem _ (List.mem_cons_of_mem _ (List.mem_cons_self ..)))) e, hn9.sameBut hs₅ (Ne.symm hDC), ⟨hs₅.extBut _ _ (Ne.symm hDX) hx9, hd9⟩, by simpa using hD₅, ((hvs.up u7).up u8).append (.cons vy .nil), by simp; omega, ?_, q8, hlt, rfl⟩
        refine W.frame _ _ _ st9 (fun b hb o e => hs₅.extBut b o (fun q => hDw (q ▸ hb)) e) fun b o q => ?_
        have ne : b ≠ D := fun e => by
          rcases q with q | q
          · rcases q with q | q
            · obtain ⟨mc, news, δ, F, N, R, e', g1, g2, g3⟩ := x3
              exact g1 _ (R.sub _ (List.mem_append_left _ q)) (by rw [e]; exact List.mem_cons_of_mem _ (List.mem_cons_of_mem _ (List.mem_cons_self ..)))
            · have := ok.hk _ _ q; rw [e, h0 D (List.mem_cons_self ..)] at this; cases this
          · exact hpin _ q (by rw [e]; exact List.mem_cons_self ..)
        have : hh.get? b = some o := by
          rcases q with q | q
          · exact x8.at_ (ok.comp hkind) (((q.mono u3).mono u7).mono u8)
          · obtain ⟨mc, news, δ, F, N, R, e⟩ := x8
            exact (N _ (R.sub _ (List.mem_append_right _ (List.mem_append_right _ q)))).1
        exact hs₅.extBut b o ne this
  exact codeAny_compStart_list (loop _ rfl) (W.self 0 _ _ _ hst₁ (loop _ rfl))
/-- a row built under a name at once, whose own name is a cell -/
theorem w1_assignCompC {elt iter : Expr} {x y : Str} {px py : Pos} {ifs : List Expr} {scope : Scope} {cl : List (Str × Addr)} {pos spos : Pos} {Q : AFlow → AEnv → AHeap → Prop} (Inv : List AVal → List AVal → AHeap → Prop)
    (hclos : closureFor scope f.env = pure cl)
    (h : WI C n f iter m σ fun back xs σ₂ => back = id ∧ xs.length ≤ sizeLine ∧ Inv xs [] σ₂)
    (turn : ∀ pin c cx v xs ys σ', Inv (v :: xs) ys σ' → σ' c = none → σ' cx = none → c ≠ cx → WQ C n (f.withComp (some (scope, (x, cx) :: cl, c)) pin) ifs m ((σ'.set cx (.cell (some v))).set c (.ns [])) fun b σ₁ => if b = true then WE C n (f.withComp (some (scope, (x, cx) :: cl, c)) pin) elt m σ₁ fun y σ₂ => (∃ as, σ₂ c = some (.ns as)) ∧ (∃ w, σ₂ cx = some (.cell w)) ∧ ∃ σ₃ : AHeap, σ₃.le σ₂ ∧ σ₃ c = none ∧ σ₃ cx = none ∧ Inv xs (ys ++ [y]) σ₃ else (∃ as, σ₁ c = some (.ns as)) ∧ (∃ w, σ₁ cx = some (.cell w)) ∧ ∃ σ₃ : AHeap, σ₃.le σ₁ ∧ σ₃ c = none ∧ σ₃ cx = none ∧ Inv xs ys σ₃)
    (done : ∀ pin ys σ', Inv [] ys σ' → TS C n (f.withPin pin) y (.lst ys) m σ' fun m' σ'' => Q .next m' σ'')
    (hsw : swapsWith (.ListComp elt [⟨.Name x px, iter, ifs, 0⟩] scope pos) (some (.Name y py)) spos.line f.env = pure true := by rfl)
    (hcf : f.comp = none := by rfl) (hcell : ∀ k : Nat, cellsFrom k scope.names cl = (x, k) :: cl := by intro _; rfl) (hpush : ∀ h : Heap, pushCells h scope.names = h.push { cls := .type "cell", data := .cell none } := by intro _; rfl) (hkind : scope.kind = .function := by rfl) (hnames : ∀ y ∈ scope.names, y.2 = .local → scope.names.lookup y.1 = some .local := by decide) (hx : ∀ cl c, (compEnvC scope cl c f.env).kindOf x = some .cell := by intro _ _; rfl)
    (hs : ∀ x, foldedSetIterable iter f.env x = pure x := by intro _; rfl) : W1 C n f (.Assign [.Name y py] (.ListComp elt [⟨.Name x px, iter, ifs, 0⟩] scope pos) spos) m σ Q := fun ok fz s E x0 => by
  rw [exec_Assign_Name_used _ _ _ _ hsw]
  refine wpAny_bind (wpAny_standAt (wpAny_bind ?_))
  show wpAny _ f.A (do let _ ← comprehension (.ListComp elt [⟨.Name x px, iter, ifs, 0⟩] scope pos) scope f.env _ (newList []) false (eval iter f.env) (some (assign (.Name y py) f.env))) _ _ s
  refine wpAny_bind (wpAny_mono (wpAny_comprehension_free (use := some (assign (.Name y py) f.env)) (Q := fun _ s' => PS C f fz s Q .next s') rfl hs hclos hkind hnames
    (wpAny_mono (h ok fz s E x0) (fun v s₁ q1 => wpAny_mono q1 (fun it s₂ ⟨fz₂, σ₂, I, wr, xs, St, Lent, back, ei, u2, e2, x2, W, st, eb, hz, q2⟩ => ?_) fun _ _ x => x) fun _ _ x => x)) (fun _ s' hq => wpAny_pure (wpAny_pure hq)) fun _ _ e => e)
  subst ei
  refine comp_blockC (RR := fun acc c => compPost (Md C) f.A E (some (assign (.Name y py) f.env)) (fun _ s' => PS C f fz s Q .next s') acc c) Inv ok hcf hcell hpush hkind hx x2 W st hz q2 turn ?_
  intro c D fz' σ' ys vs k h tk mc' u3 x3 hcw hDw hcD hns hD hvs hl q3
  obtain ⟨oc, hoc, hnc⟩ := LCg.ns_obj hns
  have x6 : SX C f ([(D, listOf vs.toArray k)] ++ fz') m σ' (c :: wr) { s₂ with heap := h, toks := tk } := by
    have x5 : SX C f fz' m σ' (D :: c :: wr) { s₂ with heap := h, toks := tk } := x3.sub fun b hb => by
      rcases List.mem_cons.mp hb with rfl | hb
      · exact List.mem_cons_of_mem _ (List.mem_cons_self ..)
      · rcases List.mem_cons.mp hb with rfl | hb
        · exact List.mem_cons_self ..
        · exact List.mem_cons_of_mem _ (List.mem_cons_of_mem _ hb)
    exact x5.ice (fun q => by rcases List.mem_cons.mp q with q | q; exact hcD q.symm; exact hDw q) hD
  have hpin : ∀ p ∈ f.pin, p.1 ∉ [c] := by
    obtain ⟨mc, news, δ, F, N, R, e, h1, h2, h3⟩ := x6
    exact fun p hp q => h1 p (R.sub p (List.mem_append_right _ hp)) (by rw [List.mem_singleton.mp q]; exact List.mem_cons_self ..)
  have hcL : f.L ∉ [c] := by
    obtain ⟨mc, news, δ, F, N, R, e, h1, h2, h3⟩ := x6
    exact fun q => h2 (by rw [List.mem_singleton.mp q]; exact List.mem_cons_self ..)
  have hc0 : ∀ b ∈ [c], f.h₀.get? b = none := by
    obtain ⟨mc, news, δ, F, N, R, e, h1, h2, h3⟩ := x6
    exact fun b q => h3 b (by rw [List.mem_singleton.mp q]; exact List.mem_cons_self ..)
  have x7 : SX C f ([(D, listOf vs.toArray k)] ++ fz') m σ' [c] { s₂ with heap := h, toks := tk } := x6.sub fun b hb => by rw [List.mem_singleton.mp hb]; exact List.mem_cons_self ..
  have x8 := x7.pin
  refine wpAny_assign_Name (wpAny_mono (done (ownP [c] h ++ f.pin) _ _ q3 ok.pin _ _ _ _ x8 (.lst (.inl (List.mem_append_left _ (List.mem_singleton.mpr rfl))) rfl rfl (hvs.up fun p hp => List.mem_append_right _ hp))) (fun _ s₈ hq => PU.el hq fun fz₈ σ₈ m₈ u8 e8 x9 q9 => ?_) fun _ _ x => x)
  have hoc8 : s₈.heap.get? c = some oc := by
    obtain ⟨mc, news, δ, F, N, R, e⟩ := x9
    exact (N _ (R.sub _ (List.mem_append_right _ (List.mem_append_left _ ((mem_ownP (p := (c, oc))).mpr ⟨List.mem_singleton.mpr rfl, hoc⟩))))).1
  have x10 : SX C f fz₈ m₈ σ₈ [c] s₈ := SX.unpin (own := ownP [c] h) (fun b hb => by rw [List.mem_singleton.mp hb]; exact ⟨oc, mem_ownP.mpr ⟨List.mem_singleton.mpr rfl, hoc⟩⟩) hpin hcL hc0 x9
  refine ⟨mc', hnc.ns hoc8, fun h'' hs'' => ?_⟩
  have x11 := x10.step (t := s₈.toks) (h' := h'') fun b o hb e => hs''.extBut b o (fun q => hb (by rw [q]; exact List.mem_singleton.mpr rfl)) e
  exact ⟨fz₈, σ₈, m₈, .next, fun p hp => u8 p (List.mem_append_right _ (u3 p (u2 p hp))), (e2.trans (Same.trans ⟨_, _, rfl⟩ e8)).trans ⟨_, _, rfl⟩, x11.sr, trivial, q9⟩
end
end Mine

open PySem PySem.W PyProof.Rows PySem.Calls
namespace Mine
section
variable {C : Cx} {n : Nat} {f : Fm} {m : AEnv} {σ : AHeap}
/-! ## bytes -/
theorem we_bytes {b : List UInt8} {k : Nat} {pos : Pos} {Q : AVal → AHeap → Prop} (h : Q (.bytes b.toArray) σ) : WE C n f (.Constant (.bytes b) k pos) m σ Q := fun ok fz s E x => by
  exact (fun _ _ _ => PV.tok x (.bytes _ _) h : wpAny (Md C) f.A (mkTextBytes b.toArray) (PV C f m fz s Q) E s)
theorem tc_bytes {a : AVal} {ns : List Int} {Q : AVal → AHeap → Prop} (ha : items σ a = some (ns.map .int)) (hr : ∀ n ∈ ns, 0 ≤ n ∧ n < 256) (hz : ns.length ≤ sizeLine) (h : Q (.bytes (byteArr ns)) σ) : TC C n f (.raw (.type "bytes")) [a] m σ Q := fun ok fz s E v vs x hv hvs => by
  cases hv; obtain _ | ⟨h1, h2⟩ := hvs; cases h2
  obtain ⟨l, us, rfl, hlv, hus⟩ := h1.items ok x ha
  refine ⟨keep_type, call_bytes_ints hlv (ints_vs hus) hr (by rw [hus.length]; simpa using hz) ok.handled fun h' t k hk => ?_⟩
  exact PV.grow x hk (.bytes _ _) h
theorem tc_lenB {b : Array UInt8} {Q : AVal → AHeap → Prop} (hl : b.size ≤ 1099511627776) (h : Q (.int b.size) σ) : TC C n f (.raw (.builtin "len")) [.bytes b] m σ Q := fun ok fz s E v vs x hv hvs => by
  cases hv; obtain _ | ⟨h1, h2⟩ := hvs; cases h2
  cases h1
  exact ⟨keep_builtin, KBw.len_K rfl (by rw [KBw.ints_length]; exact hl) (by rw [KBw.ints_length]; exact .tok x (.int _ _) h)⟩
theorem t2_addB {b c : Array UInt8} {Q : AVal → AHeap → Prop} (hl : b.size + c.size ≤ 16777216) (h : Q (.bytes (b ++ c)) σ) : T2 C n f (binaryOp .Add) (.bytes b) (.bytes c) m σ Q := fun ok fz s E v w x hv hw => by
  cases hv; cases hw
  exact KBy.add_bytes hl fun t' k => .tok x (.bytes _ _) h
theorem we_sliceB {value : Expr} {lower upper : Option Expr} {p pos : Pos} {Q : AVal → AHeap → Prop}
    (h : WE C n f value m σ fun a σ₁ => WO C n f lower m σ₁ fun l σ₂ => WO C n f upper m σ₂ fun u σ₃ => ∃ b lo hi, a = .bytes b ∧ part l = some lo ∧ part u = some hi ∧ b.size ≤ sizeLine ∧ Q (.bytes (KBy.picked b lo hi)) σ₃)
    (ht : ∀ b t r, letTemporaryGo value (.bytes b t) r = pure () := by intro _ _ _; rfl) : WE C n f (.Subscript value (.Slice lower upper none p) pos) m σ Q := fun ok fz s E x => by
  refine Subscript_ (wpAny_mono (h ok fz s E x) (fun v s₁ hq => hq.el fun fz₁ σ₁ a u1 e1 x1 va q1 => wpAny_Slice (wpAny_mono (q1 ok fz₁ s₁ E x1) (fun l s₂ hq => hq.el fun fz₂ σ₂ al u2 e2 x2 vl q2 => wpAny_mono (q2 ok fz₂ s₂ E x2) (fun u s₃ hq => hq.el fun fz₃ σ₃ au u3 e3 x3 vu q3 => ?_) fun _ _ x => x) fun _ _ x => x)) fun _ _ x => x)
  obtain ⟨b, lo, hi, rfl, hlo, hhi, hz, k⟩ := q3
  refine wpAny_pure ?_
  cases va
  refine tail_of_ItemOn ⟨"bytes", _, FB.slot_bytes_getitem.lookup, typeIs_bytes _ _ _, getItem_meets (typeIs_bytes _ _ _) (by decide) FB.slot_bytes_getitem FB.entry_bytes_getitem (FB.args_bytes_getitem_2 _ _) (KBc.meets_slice2 b _ _ ((vl.up u3).part hlo) (vu.part hhi))
    ⟨Heap.IsSliceOf.new _ _ _ _, Nat.le_trans (KBc.size_picked_le b lo hi) hz, fun t' k' => ?_⟩⟩ (by rfl) (ht _ _)
  exact PV.up (fun p hp => u3 p (u2 p (u1 p hp))) ((e1.trans e2).trans e3) (PV.grow x3 (fun b o e => Heap.get?_push_of_some _ e) (.bytes _ _) k)
theorem eqBool_bytes {M : Program} {w : World} {A : Around} {E : Value → Shared → Prop} {s : Shared} {b : Array UInt8} {t u : Tok} {Q : Bool → Shared → Prop} (h : Q true s) : wpAny (model M w) A (eqBool (.bytes b t) (.bytes b u)) Q E s := by
  unfold eqBool
  show wpAny _ _ (if (Value.bytes b t == Value.bytes b u) = true then _ else _) Q E s
  by_cases hab : (Value.bytes b t == Value.bytes b u) = true
  · rw [if_pos hab]
    exact wpAny_bind (wpAny_rule (wpAny_pure h))
  · rw [if_neg hab]
    refine wpAny_bind (richCompare_gives (op := .Eq) (T := "bytes") rfl rfl FB.slot_bytes_eq FB.entry_bytes_eq (FB.args_bytes_eq_2 _ _) (gives_bytes_eq b b t u) (fun x => nomatch x) (wpAny_truthy_bool ?_))
    simpa using h
theorem Vs.bytes_get {P : Addr → Obj → Prop} : ∀ {vs : List Value} {bs : List (Array UInt8)}, Vs P vs (bs.map .bytes) → ∀ (i : Nat) (b : Array UInt8), bs[i]? = some b → ∃ t : Tok, vs[i]? = some (Value.bytes b t)
  | _, [], h, i, b, e => by cases e
  | _, c :: r, .cons hv h, 0, b, e => by cases e; cases hv; exact ⟨_, rfl⟩
  | _, c :: r, .cons hv h, i + 1, b, e => by obtain ⟨t, q⟩ := h.bytes_get i b e; exact ⟨t, q⟩
/-- two lists of the same bytes -/
theorem t2_neBs {a b : AVal} {bs : List (Array UInt8)} {Q : AVal → AHeap → Prop} (ha : items σ a = some (bs.map .bytes)) (hb : items σ b = some (bs.map .bytes)) (h : Q (.bool false) σ) : T2 C n f (compareOp .NotEq) a b m σ Q := fun ok fz s E v w x hv hw => by
  obtain ⟨l, vs, rfl, hl, hvs⟩ := hv.items ok x ha
  obtain ⟨l', ws, rfl, hl', hws⟩ := hw.items ok x hb
  have e1 := hvs.length
  have e2 := hws.length
  rw [List.length_map] at e1 e2
  have hu : f.A.units < cLine := by have := ok.units; omega
  refine SeqAt.RcNeAt.lists hl hl' (e := fun _ => true) (by rw [List.size_toArray, List.size_toArray, e1, e2]) hu (fun j h1 h2 => ?_) C.prog C.w E _ ?_
  · intro prog w E Q hq
    rw [List.size_toArray] at h1 h2
    have hj : j < bs.length := by omega
    obtain ⟨t, ht⟩ := hvs.bytes_get j bs[j] (List.getElem?_eq_getElem hj)
    obtain ⟨u, hu⟩ := hws.bytes_get j bs[j] (List.getElem?_eq_getElem hj)
    have g1 : vs.toArray[j] = .bytes bs[j] t := by
      have := List.getElem?_eq_some_iff.mp ht
      obtain ⟨_, q⟩ := this
      simpa using q
    have g2 : ws.toArray[j] = .bytes bs[j] u := by
      have := List.getElem?_eq_some_iff.mp hu
      obtain ⟨_, q⟩ := this
      simpa using q
    rw [g1, g2]
    exact eqBool_bytes hq
  · rw [show (!(List.range vs.toArray.size).all fun _ => true) = false by simp]
    exact .here x (.bool _) h
end
end Mine

open PySem PySem.W PyProof.Rows
set_option maxHeartbeats 8000000
namespace Mine
open_top hd12 for PySem.Challenge.rw_dn0301_12
end Mine

open PySem PySem.W PyProof.Rows PySem.Calls
open Mine
local macro_rules | `(tactic| walk_at "hp") => `(tactic| first
  | assumption
  | exact AHeap.set_same ..
  | (refine (AHeap.set_ne _ _ ?_).trans ?_; first | (first | assumption | exact Ne.symm (by assumption) | exact hp_ne (by assumption) (by assumption) | exact Ne.symm (hp_ne (by assumption) (by assumption)) | walk_at "hne"); walk_at "hp"))
local macro_rules | `(tactic| walk_at "we") => `(tactic| first
  | with_reducible refine we_int ?_
  | ((with_reducible refine' we_local ?h1 ?h2 ?_ ?h3 ?h4); (case h1 => rfl); (case h2 => rfl); (case h3 => decide); (case h4 => rfl))
  | ((with_reducible refine' we_cell ?h1 ?h2 ?h4 ?_ ?h3); (case h1 => rfl); (case h2 => rfl); (case h4 => walk_at "hp"); (case h3 => decide))
  | ((with_reducible refine' we_clocal ?h1 ?h2 ?h4 ?h5 ?_ ?h3); (case h1 => rfl); (case h2 => rfl); (case h4 => walk_at "hp"); (case h5 => rfl); (case h3 => decide))
  | with_reducible refine we_binop ?_
  | with_reducible refine we_str ?_
  | with_reducible refine we_none ?_
  | with_reducible refine we_bool ?_
  | with_reducible refine we_unary ?_
  | with_reducible refine we_ifexp ?_
  | with_reducible refine we_andN ?_
  | with_reducible refine we_orN ?_
  | with_reducible refine we_one ?_
  | ((with_reducible refine we_compare ?_ ?h1); (case h1 => rfl))
  | ((with_reducible refine' we_global ?h1 ?h2 ?_ ?h3); (case h1 => rfl); (case h2 => assumption); (case h3 => decide))
  | ((with_reducible refine' we_builtin ?h1 ?h2 ?h4 ?_ ?h5 ?h3); (case h1 => rfl); (case h2 => assumption); (case h4 => boot_by_name); (case h5 => decide); (case h3 => decide))
  | ((with_reducible refine we_call ?_ ?h1); (case h1 => rfl))
  | (refine we_method ?_)
  | ((with_reducible refine we_attr ?_ ?h1); (case h1 => rfl))
  | with_reducible refine we_tup ?_
  | with_reducible refine we_lst ?_
  | with_reducible refine we_sub (slice := .Name _ _) ?_
  | with_reducible refine we_sub (slice := .Constant _ _ _) ?_
  | with_reducible refine we_sub (slice := .BinOp _ _ _ _) ?_
  | with_reducible refine we_sub (slice := .UnaryOp _ _ _) ?_
  | with_reducible refine we_sub (slice := .Call _ _ _ _) ?_
  | with_reducible refine we_sub (slice := .Subscript _ _ _) ?_)
local macro_rules | `(tactic| walk_at "t2") => `(tactic| first
  | with_reducible refine t2_add ?_
  | with_reducible refine t2_sub ?_
  | with_reducible refine t2_eq ?_
  | with_reducible refine t2_ne ?_
  | with_reducible refine t2_lt ?_
  | with_reducible refine t2_gt ?_
  | ((with_reducible refine t2_div ?h1 ?h2 ?_); (case h1 => decide); (case h2 => decide))
  | ((with_reducible refine t2_mod ?h1 ?h2 ?_); (case h1 => decide); (case h2 => decide))
  | with_reducible refine t2_isNone ?_
  | with_reducible refine t2_isNotNone ?_)
local macro_rules | `(tactic| walk_at "tc") => `(tactic| first
  | with_reducible refine tc_cat1 ?_
  | walk_at "tcx"
  | ((with_reducible refine' tc_len ?h1 ?h2 ?_); (case h1 => first | rfl | exact items_obj (by walk_at "hp")); (case h2 => first | decide | (simp <;> omega)))
  | with_reducible refine tc_max ?_
  | with_reducible refine tc_min ?_)
local macro_rules | `(tactic| walk_at "fw") => `(tactic| first
  | ((with_reducible show WE _ _ _ _ _ _ _); walk_at "we")
  | ((with_reducible show WL _ _ _ _ _ _ _ _); (first | ((with_reducible refine wl_cons ?_ ?h1); (case h1 => rfl)) | with_reducible refine wl_nil ?_))
  | ((with_reducible show T2 _ _ _ _ _ _ _ _ _); walk_at "t2")
  | ((with_reducible show T1 _ _ _ _ _ _ _ _); first | with_reducible refine t1_neg ?_ | ((refine' t1_attr ?h1 ?h2 ?h3 ?h4 ?h5 ?h6 ?h7 ?_); (case h1 => walk_at "hp"); (case h2 => rfl); (case h3 => apply_assumption); (case h4 => assumption); (case h5 => assumption); (case h6 => rfl); (case h7 => first | assumption | rfl)))
  | ((with_reducible show TW _ _ _ _ _ _ _ _ _); ((refine' tw_inst ?h1 ?h2 ?h3 ?h4 ?h5 ?h6 ?_); (case h1 => walk_at "hp"); (case h2 => assumption); (case h3 => assumption); (case h4 => assumption); (case h5 => assumption); (case h6 => exact Nat.le_of_ble_eq_true (by rfl))))
  | ((with_reducible show TB _ _ _ _ _ _ _ _); with_reducible refine tb_bool ?_)
  | ((with_reducible show TG _ _ _ _ _ _ _ _); first | ((with_reducible refine' tg_fin ?h1 ?h2 ?h3 ?_); (case h1 => apply_assumption); (case h2 => assumption); (case h3 => assumption)) | ((with_reducible refine' tg_inst ?h1 ?h2 ?h3 ?h4 ?h5 ?_); (case h1 => walk_at "hp"); (case h2 => rfl); (case h3 => apply_assumption); (case h4 => assumption); (case h5 => assumption)))
  | ((with_reducible show List.length _ ≤ sizeLine ∧ _); refine And.intro (by first | decide | (simp [sizeLine_eq])) ?_)
  | ((with_reducible show (if true = true then _ else _)); rw [if_pos rfl])
  | ((with_reducible show (if false = true then _ else _)); rw [if_neg Bool.false_ne_true])
  | ((with_reducible show TC _ _ _ _ _ _ _ _); walk_at "tc")
  | ((with_reducible show WT _ _ _ _ _ _ _); first | ((with_reducible refine wt_compare ?_ ?h1); (case h1 => rfl)) | (with_reducible refine wt_bool ?_) | (with_reducible refine wt_not ?_))
  | ((with_reducible show WA _ _ _ _ _ _ _ _); first | (with_reducible refine wa_or ?_) | (with_reducible refine wa_or_nil ?_) | (with_reducible refine wa_and ?_) | (with_reducible refine wa_and_nil ?_))
  | ((with_reducible show WO _ _ _ _ _ _ _); first | (with_reducible refine wo_none ?_) | (with_reducible refine wo_some ?_))
  | ((with_reducible show WQ _ _ _ _ _ _ _); first | (with_reducible refine wq_nil ?_) | (with_reducible refine wq_one ?_))
  | ((with_reducible show WS _ _ _ _ _ _ _); (first | with_reducible refine ws_cons ?_ | with_reducible refine ws_nil ?_))
  | ((with_reducible show W1 _ _ _ _ _ _ _); (first | with_reducible refine w1_return ?_ | with_reducible refine w1_if ?_ | ((with_reducible refine w1_assign ?_ ?h1); (case h1 => rfl)) | ((with_reducible refine w1_assignT ?_ ?h1 ?h2); (case h1 => rfl); (case h2 => rfl)) | ((with_reducible refine w1_setItem ?_ ?h1); (case h1 => rfl)) | ((with_reducible refine w1_setAttr ?_ ?h1); (case h1 => rfl)) | ((with_reducible refine w1_expr ?_ ?h1 ?h2); (case h1 => rfl); (case h2 => rfl))))
  | ((with_reducible show TA _ _ _ _ _ _ _ _); (first | (refine ta_tup ?_) | (refine ta_name (ts_local (by rfl) ?_ (by rfl))) | (refine ta_name (ts_cell (by rfl) (by rfl) (by walk_at "hp") ?_)) | (with_reducible refine ta_sub ?_)))
  | ((with_reducible show TS _ _ _ _ _ _ _ _); first | (refine ts_local (by rfl) ?_ (by rfl)) | (refine ts_cell (by rfl) (by rfl) (by walk_at "hp") ?_))
  | ((with_reducible show TAs _ _ _ _ _ _ _ _); (first | (refine tas_cons ?_) | (refine tas_nil ?_)))
  | ((with_reducible show (_ = true → _) ∧ (_ = false → _)); (first | exact And.intro (fun hk => absurd hk (by decide)) (fun hk => absurd hk (by decide)) | refine And.intro (fun _ => ?_) (fun hk => absurd hk (by decide)) | refine And.intro (fun hk => absurd hk (by decide)) (fun _ => ?_) | refine And.intro (fun hk => ?_) (fun hk => ?_))))
local macro_rules | `(tactic| walk_at "fe") => `(tactic| ((fail_if_success (with_reducible show WS _ _ _ _ _ _ _)); walk_at "fw"))
namespace Mine
/-- what the text's top has -/
structure K12 (C : Cx) : Prop where
  hK : C.K = hd12.heap_39 C.w.params
  g_InputSource : nsIn C.K mainGlobals (Str.ofString "InputSource") = some (some (.ref 102))
  g__law_stream : nsIn C.K mainGlobals (Str.ofString "_law_stream") = some (some (.ref 113))
  g__law_set : nsIn C.K mainGlobals (Str.ofString "_law_set") = some (some (.ref 120))
  g__law_told : nsIn C.K mainGlobals (Str.ofString "_law_told") = some (some (.ref 127))
  g__law_washed : nsIn C.K mainGlobals (Str.ofString "_law_washed") = some (some (.ref 132))
  k_102 : keepIn C.K (.ref 102) = true
  k_113 : keepIn C.K (.ref 113) = true
  k_120 : keepIn C.K (.ref 120) = true
  k_127 : keepIn C.K (.ref 127) = true
  k_132 : keepIn C.K (.ref 132) = true
  b_bytes : nsIn C.K mainGlobals (Str.ofString "bytes") = some none
  b_range : nsIn C.K mainGlobals (Str.ofString "range") = some none
  b_min : nsIn C.K mainGlobals (Str.ofString "min") = some none
  b_len : nsIn C.K mainGlobals (Str.ofString "len") = some none
  b_zip : nsIn C.K mainGlobals (Str.ofString "zip") = some none
  mk_102 : makesIn C.K 102 = true
  pg_102 : ∀ name, plainGet C.K 102 name = true
  f_102_29 : findIn C.K (.ref 102) (Str.ofString "__init__") = some (some (.ref 29))
  i_102_29 : isFn C.K (.ref 29) = true
  k_102_29 : keepIn C.K (.ref 29) = true
  f_102_36 : findIn C.K (.ref 102) (Str.ofString "setPublicId") = some (some (.ref 36))
  i_102_36 : isFn C.K (.ref 36) = true
  k_102_36 : keepIn C.K (.ref 36) = true
  f_102_43 : findIn C.K (.ref 102) (Str.ofString "getPublicId") = some (some (.ref 43))
  i_102_43 : isFn C.K (.ref 43) = true
  k_102_43 : keepIn C.K (.ref 43) = true
  f_102_50 : findIn C.K (.ref 102) (Str.ofString "setSystemId") = some (some (.ref 50))
  i_102_50 : isFn C.K (.ref 50) = true
  k_102_50 : keepIn C.K (.ref 50) = true
  f_102_57 : findIn C.K (.ref 102) (Str.ofString "getSystemId") = some (some (.ref 57))
  i_102_57 : isFn C.K (.ref 57) = true
  k_102_57 : keepIn C.K (.ref 57) = true
  f_102_64 : findIn C.K (.ref 102) (Str.ofString "setEncoding") = some (some (.ref 64))
  i_102_64 : isFn C.K (.ref 64) = true
  k_102_64 : keepIn C.K (.ref 64) = true
  f_102_71 : findIn C.K (.ref 102) (Str.ofString "getEncoding") = some (some (.ref 71))
  i_102_71 : isFn C.K (.ref 71) = true
  k_102_71 : keepIn C.K (.ref 71) = true
  f_102_78 : findIn C.K (.ref 102) (Str.ofString "setByteStream") = some (some (.ref 78))
  i_102_78 : isFn C.K (.ref 78) = true
  k_102_78 : keepIn C.K (.ref 78) = true
  f_102_85 : findIn C.K (.ref 102) (Str.ofString "getByteStream") = some (some (.ref 85))
  i_102_85 : isFn C.K (.ref 85) = true
  k_102_85 : keepIn C.K (.ref 85) = true
  f_102_92 : findIn C.K (.ref 102) (Str.ofString "setCharacterStream") = some (some (.ref 92))
  i_102_92 : isFn C.K (.ref 92) = true
  k_102_92 : keepIn C.K (.ref 92) = true
  f_102_99 : findIn C.K (.ref 102) (Str.ofString "getCharacterStream") = some (some (.ref 99))
  i_102_99 : isFn C.K (.ref 99) = true
  k_102_99 : keepIn C.K (.ref 99) = true
  sa_102 : findIn C.K (.ref 102) "__setattr__" = some (some (.builtin "object.__setattr__"))
  po_102 : plainOver C.K 102 = true
  hd_102 : hasDictIn C.K 102 = true
  fa_102__InputSource__system_id : findIn C.K (.ref 102) (Str.ofString "_InputSource__system_id") = some none
  tk_102__InputSource__system_id : takerIn C.K 102 (Str.ofString "_InputSource__system_id") = some none
  fa_102__InputSource__public_id : findIn C.K (.ref 102) (Str.ofString "_InputSource__public_id") = some none
  tk_102__InputSource__public_id : takerIn C.K 102 (Str.ofString "_InputSource__public_id") = some none
  fa_102__InputSource__encoding : findIn C.K (.ref 102) (Str.ofString "_InputSource__encoding") = some none
  tk_102__InputSource__encoding : takerIn C.K 102 (Str.ofString "_InputSource__encoding") = some none
  fa_102__InputSource__bytefile : findIn C.K (.ref 102) (Str.ofString "_InputSource__bytefile") = some none
  tk_102__InputSource__bytefile : takerIn C.K 102 (Str.ofString "_InputSource__bytefile") = some none
  fa_102__InputSource__charfile : findIn C.K (.ref 102) (Str.ofString "_InputSource__charfile") = some none
  tk_102__InputSource__charfile : takerIn C.K 102 (Str.ofString "_InputSource__charfile") = some none
theorem k12 {C : Cx} (hK : C.K = hd12.heap_39 C.w.params) : K12 C := by
  obtain ⟨prog, w, K, vp, loose, mean, mg, mb, H⟩ := C
  dsimp only at hK
  subst hK
  constructor <;> first | kernel_rfl | rfl | (intro name; kernel_rfl)
section
variable {C : Cx} {n : Nat} {σ : AHeap} {Q : AVal → AHeap → Prop} {a : Addr} {s p e b c : AVal}
set_option maxHeartbeats 1000000 in
theorem srcInit (K : K12 C) (ha : σ a = some (.inst 102 [])) (h : Q .none (σ.set a (.inst 102 (srcA s .none .none .none .none)))) : Fn C (n + 1) 29 [.obj a, s] σ Q := by
  refine fn_plain (ns := [Str.ofString "self", Str.ofString "system_id"]) (dv := []) (da := []) (ho := by rw [K.hK]; rfl) (hcd := by rw [K.hK]; kernel_rfl) (hbind := ?_) (hd := fun _ => by first | exact .nil | exact .cons .none .nil) (hnd := by decide) (hloc := by decide) (h := ?_)
  · intro S vs hv
    match vs, hv with
    | [v1, v2], _ => first | rfl | (rw [K.hK]; rfl) | (rw [K.hK]; kernel_rfl)
  · intro A₀ A base h₀ outer L pin
    have K' := K
    cases K'
    repeat walk_at "fw"
    simp only [AHeap.set_set]
    exact ⟨_, AHeap.le_refl _, h⟩
set_option maxHeartbeats 1000000 in
theorem srcInit0 (K : K12 C) (ha : σ a = some (.inst 102 [])) (h : Q .none (σ.set a (.inst 102 (srcA .none .none .none .none .none)))) : Fn C (n + 1) 29 [.obj a] σ Q := by
  refine fn_plain (ns := [Str.ofString "self", Str.ofString "system_id"]) (dv := [.none]) (da := [.none]) (ho := by rw [K.hK]; rfl) (hcd := by rw [K.hK]; kernel_rfl) (hbind := ?_) (hd := fun _ => by first | exact .nil | exact .cons .none .nil) (hnd := by decide) (hloc := by decide) (h := ?_)
  · intro S vs hv
    match vs, hv with
    | [v1], _ => first | rfl | (rw [K.hK]; rfl) | (rw [K.hK]; kernel_rfl)
  · intro A₀ A base h₀ outer L pin
    have K' := K
    cases K'
    repeat walk_at "fw"
    simp only [AHeap.set_set]
    exact ⟨_, AHeap.le_refl _, h⟩
theorem src_setPublicId (K : K12 C) {x : AVal} (ha : σ a = some (.inst 102 (srcA s p e b c))) (h : Q .none (σ.set a (.inst 102 (srcA s x e b c)))) : Fn C (n + 1) 36 [.obj a, x] σ Q := by
  refine fn_plain (ns := [Str.ofString "self", Str.ofString "public_id"]) (dv := []) (da := []) (ho := by rw [K.hK]; rfl) (hcd := by rw [K.hK]; kernel_rfl) (hbind := ?_) (hd := fun _ => .nil) (hnd := by decide) (hloc := by decide) (h := ?_)
  · intro S vs hv
    match vs, hv with
    | [v1, v2], _ => rfl
  · intro A₀ A base h₀ outer L pin
    have K' := K
    cases K'
    repeat walk_at "fw"
    exact ⟨_, AHeap.le_refl _, h⟩
theorem src_getPublicId (K : K12 C) (ha : σ a = some (.inst 102 (srcA s p e b c))) (hh : handedA p = true) (h : Q p σ) : Fn C (n + 1) 43 [.obj a] σ Q := by
  refine fn_plain (ns := [Str.ofString "self"]) (dv := []) (da := []) (ho := by rw [K.hK]; rfl) (hcd := by rw [K.hK]; kernel_rfl) (hbind := ?_) (hd := fun _ => .nil) (hnd := by decide) (hloc := by decide) (h := ?_)
  · intro S vs hv
    match vs, hv with
    | [v], _ => rfl
  · intro A₀ A base h₀ outer L pin
    have K' := K
    cases K'
    repeat walk_at "fw"
    exact ret_le h
theorem src_setSystemId (K : K12 C) {x : AVal} (ha : σ a = some (.inst 102 (srcA s p e b c))) (h : Q .none (σ.set a (.inst 102 (srcA x p e b c)))) : Fn C (n + 1) 50 [.obj a, x] σ Q := by
  refine fn_plain (ns := [Str.ofString "self", Str.ofString "system_id"]) (dv := []) (da := []) (ho := by rw [K.hK]; rfl) (hcd := by rw [K.hK]; kernel_rfl) (hbind := ?_) (hd := fun _ => .nil) (hnd := by decide) (hloc := by decide) (h := ?_)
  · intro S vs hv
    match vs, hv with
    | [v1, v2], _ => rfl
  · intro A₀ A base h₀ outer L pin
    have K' := K
    cases K'
    repeat walk_at "fw"
    exact ⟨_, AHeap.le_refl _, h⟩
theorem src_getSystemId (K : K12 C) (ha : σ a = some (.inst 102 (srcA s p e b c))) (hh : handedA s = true) (h : Q s σ) : Fn C (n + 1) 57 [.obj a] σ Q := by
  refine fn_plain (ns := [Str.ofString "self"]) (dv := []) (da := []) (ho := by rw [K.hK]; rfl) (hcd := by rw [K.hK]; kernel_rfl) (hbind := ?_) (hd := fun _ => .nil) (hnd := by decide) (hloc := by decide) (h := ?_)
  · intro S vs hv
    match vs, hv with
    | [v], _ => rfl
  · intro A₀ A base h₀ outer L pin
    have K' := K
    cases K'
    repeat walk_at "fw"
    exact ret_le h
theorem src_setEncoding (K : K12 C) {x : AVal} (ha : σ a = some (.inst 102 (srcA s p e b c))) (h : Q .none (σ.set a (.inst 102 (srcA s p x b c)))) : Fn C (n + 1) 64 [.obj a, x] σ Q := by
  refine fn_plain (ns := [Str.ofString "self", Str.ofString "encoding"]) (dv := []) (da := []) (ho := by rw [K.hK]; rfl) (hcd := by rw [K.hK]; kernel_rfl) (hbind := ?_) (hd := fun _ => .nil) (hnd := by decide) (hloc := by decide) (h := ?_)
  · intro S vs hv
    match vs, hv with
    | [v1, v2], _ => rfl
  · intro A₀ A base h₀ outer L pin
    have K' := K
    cases K'
    repeat walk_at "fw"
    exact ⟨_, AHeap.le_refl _, h⟩
theorem src_getEncoding (K : K12 C) (ha : σ a = some (.inst 102 (srcA s p e b c))) (hh : handedA e = true) (h : Q e σ) : Fn C (n + 1) 71 [.obj a] σ Q := by
  refine fn_plain (ns := [Str.ofString "self"]) (dv := []) (da := []) (ho := by rw [K.hK]; rfl) (hcd := by rw [K.hK]; kernel_rfl) (hbind := ?_) (hd := fun _ => .nil) (hnd := by decide) (hloc := by decide) (h := ?_)
  · intro S vs hv
    match vs, hv with
    | [v], _ => rfl
  · intro A₀ A base h₀ outer L pin
    have K' := K
    cases K'
    repeat walk_at "fw"
    exact ret_le h
theorem src_setByteStream (K : K12 C) {x : AVal} (ha : σ a = some (.inst 102 (srcA s p e b c))) (h : Q .none (σ.set a (.inst 102 (srcA s p e x c)))) : Fn C (n + 1) 78 [.obj a, x] σ Q := by
  refine fn_plain (ns := [Str.ofString "self", Str.ofString "bytefile"]) (dv := []) (da := []) (ho := by rw [K.hK]; rfl) (hcd := by rw [K.hK]; kernel_rfl) (hbind := ?_) (hd := fun _ => .nil) (hnd := by decide) (hloc := by decide) (h := ?_)
  · intro S vs hv
    match vs, hv with
    | [v1, v2], _ => rfl
  · intro A₀ A base h₀ outer L pin
    have K' := K
    cases K'
    repeat walk_at "fw"
    exact ⟨_, AHeap.le_refl _, h⟩
theorem src_getByteStream (K : K12 C) (ha : σ a = some (.inst 102 (srcA s p e b c))) (hh : handedA b = true) (h : Q b σ) : Fn C (n + 1) 85 [.obj a] σ Q := by
  refine fn_plain (ns := [Str.ofString "self"]) (dv := []) (da := []) (ho := by rw [K.hK]; rfl) (hcd := by rw [K.hK]; kernel_rfl) (hbind := ?_) (hd := fun _ => .nil) (hnd := by decide) (hloc := by decide) (h := ?_)
  · intro S vs hv
    match vs, hv with
    | [v], _ => rfl
  · intro A₀ A base h₀ outer L pin
    have K' := K
    cases K'
    repeat walk_at "fw"
    exact ret_le h
theorem src_setCharacterStream (K : K12 C) {x : AVal} (ha : σ a = some (.inst 102 (srcA s p e b c))) (h : Q .none (σ.set a (.inst 102 (srcA s p e b x)))) : Fn C (n + 1) 92 [.obj a, x] σ Q := by
  refine fn_plain (ns := [Str.ofString "self", Str.ofString "charfile"]) (dv := []) (da := []) (ho := by rw [K.hK]; rfl) (hcd := by rw [K.hK]; kernel_rfl) (hbind := ?_) (hd := fun _ => .nil) (hnd := by decide) (hloc := by decide) (h := ?_)
  · intro S vs hv
    match vs, hv with
    | [v1, v2], _ => rfl
  · intro A₀ A base h₀ outer L pin
    have K' := K
    cases K'
    repeat walk_at "fw"
    exact ⟨_, AHeap.le_refl _, h⟩
theorem src_getCharacterStream (K : K12 C) (ha : σ a = some (.inst 102 (srcA s p e b c))) (hh : handedA c = true) (h : Q c σ) : Fn C (n + 1) 99 [.obj a] σ Q := by
  refine fn_plain (ns := [Str.ofString "self"]) (dv := []) (da := []) (ho := by rw [K.hK]; rfl) (hcd := by rw [K.hK]; kernel_rfl) (hbind := ?_) (hd := fun _ => .nil) (hnd := by decide) (hloc := by decide) (h := ?_)
  · intro S vs hv
    match vs, hv with
    | [v], _ => rfl
  · intro A₀ A base h₀ outer L pin
    have K' := K
    cases K'
    repeat walk_at "fw"
    exact ret_le h
end
end Mine

open PySem PySem.W PyProof.Rows PySem.Calls
local macro_rules | `(tactic| walk_at "tcx") => `(tactic| first
  | ((with_reducible refine' tc_fn ?h1 (src_getPublicId ?h2 ?h3 ?h4 ?_)); (case h1 => assumption); (case h2 => assumption); (case h3 => walk_at "hp"); (case h4 => first | rfl | assumption))
  | ((with_reducible refine' tc_fn ?h1 (src_getSystemId ?h2 ?h3 ?h4 ?_)); (case h1 => assumption); (case h2 => assumption); (case h3 => walk_at "hp"); (case h4 => first | rfl | assumption))
  | ((with_reducible refine' tc_fn ?h1 (src_getEncoding ?h2 ?h3 ?h4 ?_)); (case h1 => assumption); (case h2 => assumption); (case h3 => walk_at "hp"); (case h4 => first | rfl | assumption))
  | ((with_reducible refine' tc_fn ?h1 (src_getByteStream ?h2 ?h3 ?h4 ?_)); (case h1 => assumption); (case h2 => assumption); (case h3 => walk_at "hp"); (case h4 => first | rfl | assumption))
  | ((with_reducible refine' tc_fn ?h1 (src_getCharacterStream ?h2 ?h3 ?h4 ?_)); (case h1 => assumption); (case h2 => assumption); (case h3 => walk_at "hp"); (case h4 => first | rfl | assumption))
  | ((with_reducible refine' tc_fn ?h1 (src_setPublicId ?h2 ?h3 ?_)); (case h1 => assumption); (case h2 => assumption); (case h3 => walk_at "hp"))
  | ((with_reducible refine' tc_fn ?h1 (src_setSystemId ?h2 ?h3 ?_)); (case h1 => assumption); (case h2 => assumption); (case h3 => walk_at "hp"))
  | ((with_reducible refine' tc_fn ?h1 (src_setEncoding ?h2 ?h3 ?_)); (case h1 => assumption); (case h2 => assumption); (case h3 => walk_at "hp"))
  | ((with_reducible refine' tc_fn ?h1 (src_setByteStream ?h2 ?h3 ?_)); (case h1 => assumption); (case h2 => assumption); (case h3 => walk_at "hp"))
  | ((with_reducible refine' tc_fn ?h1 (src_setCharacterStream ?h2 ?h3 ?_)); (case h1 => assumption); (case h2 => assumption); (case h3 => walk_at "hp")))
namespace Mine

def cloOf (p : Program) (i : Nat) (path : List (Nat × Nat)) (k : Nat) (qual : Str) (free : List Str) : Clo :=
  match segOf p i path k with
  | some (_, .FunctionDef name params body _ _ _ scope _ _ _ :: _) => ⟨name, qual, params, .stmts body, scope, free⟩
  | _ => ⟨qual, qual, default, .stmts [], default, free⟩
def posOf (p : Program) (i : Nat) (path : List (Nat × Nat)) (k : Nat) : Pos :=
  match segOf p i path k with
  | some (_, .FunctionDef _ _ _ _ _ _ _ _ _ pos :: _) => pos
  | _ => default
theorem clo_intro {d : Clo} {P : Clo → Prop} {name qual : Str} {params : Arguments} {body : List Stmt} {kind : ScopeKind} {names : List (Str × NameKind)} {g c : Bool} {more : List (Str × Const)} {free : List Str} (e : d = ⟨name, qual, params, .stmts body, ⟨kind, names, g, c, more⟩, free⟩) (k : P ⟨name, qual, params, .stmts body, ⟨kind, names, g, c, more⟩, free⟩) : P d := e ▸ k
def read12 : Clo := cloOf PySem.Challenge.pw_dn0301_12 3 [] 1 (Str.ofString "_law_stream.<locals>._law_read") [Str.ofString "place", Str.ofString "octets"]
def pos12 : Pos := posOf PySem.Challenge.pw_dn0301_12 3 [] 1
/-- the table of codes, before and behind the first function made -/
def tb12 (es : List (Pos × Str)) : Prop := es = [] ∨ es = [(pos12, read12.qual)]
section
variable {C : Cx} {n : Nat} {σ : AHeap} {Q : AVal → AHeap → Prop}
set_option maxHeartbeats 4000000 in
theorem stream12 (K : K12 C) (hC : CodeHd C.H 112 108) {b : Array UInt8} {es : List (Pos × Str)} (hT : σ 108 = some (.tab es)) (hes : tb12 es) (h : ∀ p, σ p = none → Q (.clos read12 [.obj p, .bytes b]) ((σ.set p (.list [.int 0])).set 108 (.tab [(pos12, read12.qual)]))) : Fn C (n + 1) 113 [.bytes b] σ Q := by
  refine fn_cellsX (ns := [Str.ofString "octets"]) (dv := []) (da := []) (cs := fun L => [(Str.ofString "place", L + 2), (Str.ofString "octets", L + 1)]) (ho := by rw [K.hK]; rfl) (hcd := by rw [K.hK]; kernel_rfl) (hbind := ?_) (hd := fun _ => .nil) (hnd := by decide) (hloc := by decide) (hck := by decide) (hcs := fun _ => rfl) (hml := rfl) (hσ := fun _ => rfl) (h := ?_)
  · intro S vs hv
    match vs, hv with
    | [v1], _ => rfl
  · intro A₀ A base h₀ outer L pin hc
    have hc1 : σ (L + 1) = none := hc (Str.ofString "octets", L + 1) (.tail _ (.head _))
    have hc2 : σ (L + 2) = none := hc (Str.ofString "place", L + 2) (.head _)
    have hne : 108 ≠ L + 1 := hp_ne hT hc1
    have hne2 : 108 ≠ L + 2 := hp_ne hT hc2
    dsimp only [cellS]
    change WS C n _ _ [] ((σ.set (L + 1) (.cell (some (.bytes b)))).set (L + 2) (.cell none)) _
    have e12 : L + 1 ≠ L + 2 := Nat.ne_of_lt (Nat.lt_succ_self _)
    have K' := K
    cases K'
    refine ws_cons ?_
    refine w1_assign ?_ rfl
    refine we_listM ?_
    repeat walk_at "fw"
    intro p hp
    have p2 : p ≠ L + 2 := fun q => by rw [q, AHeap.set_same] at hp; cases hp
    have hp' := (AHeap.set_ne _ _ p2).symm.trans hp
    have p1 : p ≠ L + 1 := fun q => by rw [q, AHeap.set_same] at hp'; cases hp'
    have hp0 := (AHeap.set_ne _ _ p1).symm.trans hp'
    repeat walk_at "fw"
    have hdel : ((((((σ.set (L + 1) (.cell (some (.bytes b)))).set (L + 2) (.cell none)).set p (.list [.int 0])).set (L + 2) (.cell (some (.obj p)))).del (L + 2)).del (L + 1)) = σ.set p (.list [.int 0]) := by
      funext x
      by_cases q1 : x = L + 1
      · subst q1; rw [AHeap.del_same, AHeap.set_ne _ _ (Ne.symm p1), hc1]
      · rw [AHeap.del_ne _ q1]
        by_cases q2 : x = L + 2
        · subst q2; rw [AHeap.del_same, AHeap.set_ne _ _ (Ne.symm p2), hc2]
        · rw [AHeap.del_ne _ q2, AHeap.set_ne _ _ q2]
          by_cases q : x = p
          · subst q; rw [AHeap.set_same, AHeap.set_same]
          · rw [AHeap.set_ne _ _ q, AHeap.set_ne _ _ q2, AHeap.set_ne _ _ q1, AHeap.set_ne _ _ q]
    refine w1_def (d := read12) (cs := [L + 2, L + 1]) (xs := [.obj p, .bytes b]) (c := 112) (P := 108) (σ₁ := σ.set p (.list [.int 0])) (es := es) (es' := [(pos12, read12.qual)]) ?hd ?hcd hC ?hcl ?_ ?_ ?_ ?_
    case hd => kernel_rfl
    case hcd => rfl
    case hcl => kernel_rfl
    · refine ⟨AHeap.set_same .., ?_, hdel.symm⟩
      rw [AHeap.del_ne _ e12, AHeap.set_ne _ _ e12, AHeap.set_ne _ _ (Ne.symm p1), AHeap.set_ne _ _ e12]; exact AHeap.set_same ..
    · rw [AHeap.set_ne _ _ (hp_ne hT hp0)]; exact hT
    · rcases hes with rfl | rfl <;> rfl
    · repeat walk_at "fw"
      exact ret_le (h p hp0)
def subB (b : Array UInt8) (i j : Nat) : Array UInt8 := ((b.toList.drop i).take (j - i)).toArray
theorem picked_sub {b : Array UInt8} {i j : Nat} (hi : i ≤ b.size) (hj : j ≤ b.size) : KBy.picked b (some (i : Int)) (some (j : Int)) = subB b i j := by
  rw [KBc.picked_eq]
  show ((b.toList.drop (clipAt b.size (i : Int))).take (clipAt b.size (j : Int) - clipAt b.size (i : Int))).toArray = _
  rw [clipAt_nat, clipAt_nat, Nat.min_eq_left hi, Nat.min_eq_left hj]
  rfl
set_option maxHeartbeats 4000000 in
theorem read_call (K : K12 C) {f : Fm} {m : AEnv} {p : Addr} {b : Array UInt8} {k z : Nat} (hp : σ p = some (.list [.int k])) (hk : k ≤ b.size) (hb : b.size ≤ 100) (hz : z ≤ 1000) (h : Q (.bytes (subB b k (min (k + z) b.size))) (σ.set p (.list [.int (min (k + z) b.size : Nat)]))) : TC C (n + 1) f (.clos read12 [.obj p, .bytes b]) [.int z] m σ Q := by
  refine clo_intro (d := read12) (P := fun d => TC C (n + 1) f (.clos d [.obj p, .bytes b]) [.int z] m σ Q) (by rfl) ?_
  refine tc_clos (ns := [Str.ofString "size"]) rfl ?_ (by decide) (by decide) ?_
  · intro cl doc pm c ctv vs hv
    match vs, hv with
    | [v], _ => rfl
  · intro A₀ A base h₀ outer L fa cdv cs pin hcs
    match cs, hcs with
    | [c1, c2], _ =>
    have m1 : (c1, AVal.obj p) ∈ (C.withFr ([c1, c2].zip [.obj p, .bytes b])).fr := .head _
    have m2 : (c2, AVal.bytes b) ∈ (C.withFr ([c1, c2].zip [.obj p, .bytes b])).fr := .tail _ (.head _)
    have K1 : K12 (C.withFr ([c1, c2].zip [.obj p, .bytes b])) := k12 K.hK
    have K' := K1
    cases K'
    have mn : ((if (b.size : Int) < (k : Int) + (z : Int) then (b.size : Int) else (k : Int) + (z : Int))) = ((min (k + z) b.size : Nat) : Int) := by
      split <;> omega
    repeat walk_at "fw"
    refine we_free (c := c1) rfl rfl m1 ?_
    repeat walk_at "fw"
    refine t2_item (y := .int k) (items_obj hp) (by decide) (by decide) rfl ?_
    repeat walk_at "fw"
    refine we_free (c := c2) rfl rfl m2 ?_
    repeat walk_at "fw"
    refine tc_lenB (by omega) ?_
    repeat walk_at "fw"
    rw [mn]
    refine we_free (c := c1) rfl rfl m1 ?_
    repeat walk_at "fw"
    refine tu_list hp (by decide) (by simp) (by decide) ?_
    repeat walk_at "fw"
    refine we_sliceB ?_
    refine we_free (c := c2) rfl rfl m2 ?_
    repeat walk_at "fw"
    refine we_free (c := c1) rfl rfl m1 ?_
    repeat walk_at "fw"
    refine t2_item (y := .int (min (k + z) b.size : Nat)) (items_obj (AHeap.set_same ..)) (by decide) (by decide) rfl ?_
    refine ⟨b, some (k : Int), some ((min (k + z) b.size : Nat) : Int), rfl, rfl, rfl, by rw [sizeLine_eq]; omega, ?_⟩
    rw [picked_sub hk (by omega)]
    exact ret_le h
end
end Mine

open PySem PySem.W PyProof.Rows PySem.Calls
namespace Mine

def fi12 (q : Nat) : Nat := [0, 1, 2, 4].getD q 4
def row4 (v : Nat → AVal) : List AVal := [v 0, v 1, v 2, v 4]
section
variable {C : Cx} {n : Nat} {σ : AHeap} {Q : AVal → AHeap → Prop}
set_option maxHeartbeats 4000000 in
theorem told12 (K : K12 C) {a : Addr} {v : Nat → AVal} (ha : σ a = some (.inst 102 (srcV v))) (hv : ∀ f, f < 5 → handedA (v f) = true) (h : Q (.lst (row4 v)) σ) : Fn C (n + 2) 127 [.obj a] σ Q := by
  refine fn_plain (ns := [Str.ofString "source"]) (dv := []) (da := []) (ho := by rw [K.hK]; rfl) (hcd := by rw [K.hK]; kernel_rfl) (hbind := ?_) (hd := fun _ => .nil) (hnd := by decide) (hloc := by decide) (h := ?_)
  · intro S vs hv
    match vs, hv with
    | [v1], _ => rfl
  · intro A₀ A base h₀ outer L pin
    have K' := K
    cases K'
    unfold srcV at ha
    have h0 := hv 0 (by omega)
    have h1 := hv 1 (by omega)
    have h2 := hv 2 (by omega)
    have h4 := hv 4 (by omega)
    repeat walk_at "fw"
    exact ret_le h
set_option maxHeartbeats 4000000 in
theorem set12 (K : K12 C) {a : Addr} {q : Nat} {x : AVal} {v : Nat → AVal} (hq : q < 4) (ha : σ a = some (.inst 102 (srcV v))) (h : Q .none (σ.set a (.inst 102 (srcV (up v (fi12 q) x))))) : Fn C (n + 2) 120 [.obj a, .int q, x] σ Q := by
  refine fn_plain (ns := [Str.ofString "source", Str.ofString "field", Str.ofString "value"]) (dv := []) (da := []) (ho := by rw [K.hK]; rfl) (hcd := by rw [K.hK]; kernel_rfl) (hbind := ?_) (hd := fun _ => .nil) (hnd := by decide) (hloc := by decide) (h := ?_)
  · intro S vs hv
    match vs, hv with
    | [v1, v2, v3], _ => rfl
  · intro A₀ A base h₀ outer L pin
    have K' := K
    cases K'
    unfold srcV at ha
    obtain rfl | rfl | rfl | rfl : q = 0 ∨ q = 1 ∨ q = 2 ∨ q = 3 := by omega
    all_goals
      repeat walk_at "fw"
      exact ret_le h
set_option maxHeartbeats 8000000 in
theorem washed12 (K : K12 C) {a : Addr} {v : Nat → AVal} (ha : σ a = some (.inst 102 (srcV v))) (h : Q (.bool true) (σ.set a (.inst 102 (srcV fun _ => .none)))) : Fn C (n + 3) 132 [.obj a] σ Q := by
  refine fn_cellsX (ns := [Str.ofString "source"]) (dv := []) (da := []) (cs := fun L => [(Str.ofString "value", L + 2), (Str.ofString "source", L + 1)]) (ho := by rw [K.hK]; rfl) (hcd := by rw [K.hK]; kernel_rfl) (hbind := ?_) (hd := fun _ => .nil) (hnd := by decide) (hloc := by decide) (hck := by decide) (hcs := fun _ => rfl) (hml := rfl) (hσ := fun _ => rfl) (h := ?_)
  · intro S vs hv
    match vs, hv with
    | [v1], _ => rfl
  · intro A₀ A base h₀ outer L pin hc
    have hc1 : σ (L + 1) = none := hc (Str.ofString "source", L + 1) (.tail _ (.head _))
    have hc2 : σ (L + 2) = none := hc (Str.ofString "value", L + 2) (.head _)
    have a1 : a ≠ L + 1 := hp_ne ha hc1
    have a2 : a ≠ L + 2 := hp_ne ha hc2
    have e12 : L + 1 ≠ L + 2 := Nat.ne_of_lt (Nat.lt_succ_self _)
    dsimp only [cellS]
    change WS C (n + 2) _ _ [] ((σ.set (L + 1) (.cell (some (.obj a)))).set (L + 2) (.cell none)) _
    have K' := K
    cases K'
    with_reducible refine ws_cons ?_
    with_reducible refine w1_for (fun rest m' σ' => (∃ w u, σ' = ((σ.set (L + 1) (.cell (some (.obj a)))).set (L + 2) (.cell u)).set a (.inst 102 (srcV w)) ∧ (rest = [] → w = fun _ => .none)) ∧ (∃ j, rest = ([.str (Str.ofString "x"), .str (Str.ofString ""), .none] : List AVal).drop j ∧ j ≤ 3) ∧ m' = []) ?_ ?_ ?_ ?hs
    case hs => intro _; rfl
    · refine wi ?_
      repeat walk_at "fw"
      refine ti_lst ⟨rfl, ⟨v, none, ?_, fun e => by cases e⟩, ⟨0, rfl, by omega⟩, rfl⟩
      funext b
      by_cases q : b = a
      · subst q; rw [AHeap.set_same, AHeap.set_ne _ _ a2, AHeap.set_ne _ _ a1, ha]
      · rw [AHeap.set_ne _ _ q]
    · rintro pin x xs m' σ' ⟨⟨w, u, rfl, _⟩, ⟨j, hj, hj3⟩, rfl⟩
      have key : ∃ d, (∀ σ', Rd σ' x d) ∧ Dk 0 d ∧ scalar x = true ∧ handedA x = true ∧ (xs = [] → x = .none) ∧ xs = ([.str (Str.ofString "x"), .str (Str.ofString ""), .none] : List AVal).drop (j + 1) ∧ j < 3 := by
        obtain rfl | rfl | rfl | rfl : j = 0 ∨ j = 1 ∨ j = 2 ∨ j = 3 := by omega
        · cases hj; exact ⟨_, fun _ => .str _, Dk.str (by decide +kernel), rfl, rfl, (fun e => by cases e), rfl, by omega⟩
        · cases hj; exact ⟨_, fun _ => .str _, Dk.str (by decide +kernel), rfl, rfl, (fun e => by cases e), rfl, by omega⟩
        · cases hj; exact ⟨_, fun _ => .none, Dk.none, rfl, rfl, (fun _ => rfl), rfl, by omega⟩
        · cases hj
      obtain ⟨d, rd, dk, hsc, hx, hlast, rfl, hj2⟩ := key
      have g1 : (((σ.set (L + 1) (.cell (some (.obj a)))).set (L + 2) (.cell u)).set a (.inst 102 (srcV w))) (L + 2) = some (.cell u) := by
        rw [AHeap.set_ne _ _ (Ne.symm a2)]; exact AHeap.set_same ..
      refine ts_cell (c := L + 2) (v₀ := u) rfl rfl g1 ?_
      have eqh : ((((σ.set (L + 1) (.cell (some (.obj a)))).set (L + 2) (.cell u)).set a (.inst 102 (srcV w))).set (L + 2) (.cell (some x))) = ((σ.set (L + 1) (.cell (some (.obj a)))).set (L + 2) (.cell (some x))).set a (.inst 102 (srcV w)) := by
        rw [AHeap.set_comm _ _ _ a2, AHeap.set_set]
      rw [eqh]
      have s1 : ∀ w : Nat → AVal, (((σ.set (L + 1) (.cell (some (.obj a)))).set (L + 2) (.cell (some x))).set a (.inst 102 (srcV w))) (L + 1) = some (.cell (some (.obj a))) := fun w => by
        rw [AHeap.set_ne _ _ (Ne.symm a1), AHeap.set_ne _ _ e12]; exact AHeap.set_same ..
      have s2 : ∀ w : Nat → AVal, (((σ.set (L + 1) (.cell (some (.obj a)))).set (L + 2) (.cell (some x))).set a (.inst 102 (srcV w))) (L + 2) = some (.cell (some x)) := fun w => by
        rw [AHeap.set_ne _ _ (Ne.symm a2)]; exact AHeap.set_same ..
      generalize hσ1 : (σ.set (L + 1) (.cell (some (.obj a)))).set (L + 2) (.cell (some x)) = σ1 at s1 s2 ⊢
      dsimp only [Fm.withPin]
      have sa : (σ1.set a (.inst 102 (srcV w))) a = some (.inst 102 (srcA (w 0) (w 1) (w 2) (w 3) (w 4))) := AHeap.set_same ..
      have t1 := s1 w
      have t2 := s2 w
      repeat walk_at "fw"
      rw [AHeap.set_set]
      rw [show srcA (w 0) (w 1) (w 2) x (w 4) = srcV (up w 3 x) from rfl]
      refine we_compB (cl := [(Str.ofString "value", L + 2), (Str.ofString "source", L + 1)]) (fun back rest ys σ' => back = id ∧ ∃ j w', rest = (rngL 0 1 4).drop j ∧ j ≤ 4 ∧ ys = List.replicate j .none ∧ σ' = σ1.set a (.inst 102 (srcV w')) ∧ w' 3 = x ∧ ∀ q, q < j → w' (fi12 q) = x) rfl ?_ ?_ ?_
      · refine wi ?_
        repeat walk_at "fw"
        refine tc_range1 ?_
        exact ti_rng (k := 4) (rng_small1 (by omega) (by omega)) (rng_size1' (k := 4)) ⟨by rw [rngL_length, sizeLine_eq]; decide, rfl, 0, _, by simp, by omega, rfl, rfl, rfl, fun q hq => absurd hq (by omega)⟩
      · rintro back pin2 c y xs ys σ' ⟨rfl, i, w', hr, hi4, rfl, rfl, hw3, hq⟩ hcn
        obtain ⟨hi, rfl, rfl⟩ := rngL_cons hr
        have e0 : (0 + (i : Int) * 1) = i := by omega
        rw [e0]
        have r1 := s1 w'
        have r2 := s2 w'
        have ra : (σ1.set a (.inst 102 (srcV w'))) a = some (.inst 102 (srcV w')) := AHeap.set_same ..
        have ca : a ≠ c := hp_ne ra hcn
        refine wq_nil ?_
        rw [if_pos rfl]
        repeat walk_at "fw"
        refine tc_fn (by assumption) (set12 K hi ((AHeap.set_ne _ _ ca).trans ra) ?_)
        refine ⟨⟨_, (AHeap.set_ne _ _ (Ne.symm ca)).trans (AHeap.set_same ..)⟩, σ1.set a (.inst 102 (srcV (up w' (fi12 i) x))), ?_, ?_, rfl, i + 1, _, rfl, by omega, by rw [List.replicate_succ'], rfl, ?_, fun q hq' => ?_⟩
        · intro b o e
          by_cases q : b = a
          · subst q; rw [AHeap.set_same] at e ⊢; exact e
          · rw [AHeap.set_ne _ _ q] at e ⊢
            rw [AHeap.set_ne _ _ (fun q' => by rw [AHeap.set_ne _ _ (Ne.symm ca)] at hcn; rw [q', hcn] at e; cases e), AHeap.set_ne _ _ q]; exact e
        · rw [AHeap.set_ne _ _ (Ne.symm ca)] at hcn ⊢; exact hcn
        · have : (3 : Nat) ≠ fi12 i := by
            obtain rfl | rfl | rfl | rfl : i = 0 ∨ i = 1 ∨ i = 2 ∨ i = 3 := by omega
            all_goals decide
          rw [up_ne _ _ this]; exact hw3
        · by_cases e : q = i
          · subst e; exact up_same ..
          · have : fi12 q ≠ fi12 i := by
              have h1 : q < 4 := by omega
              obtain rfl | rfl | rfl | rfl : q = 0 ∨ q = 1 ∨ q = 2 ∨ q = 3 := by omega
              all_goals obtain rfl | rfl | rfl | rfl : i = 0 ∨ i = 1 ∨ i = 2 ∨ i = 3 := by omega
              all_goals first | decide | exact absurd rfl e
            rw [up_ne _ _ this]; exact hq q (by omega)
      rintro back ys σ' ⟨rfl, i, w', hr, hi4, rfl, rfl, hw3, hq⟩
      have hi := rngL_nil hr
      obtain rfl : i = 4 := by omega
      have ew : srcV w' = srcV fun _ => x := by
        unfold srcV
        rw [show w' 0 = x from hq 0 (by omega), show w' 1 = x from hq 1 (by omega), show w' 2 = x from hq 2 (by omega), hw3, show w' 4 = x from hq 3 (by omega)]
      rw [ew]
      have r1 := s1 fun _ => x
      have r2 := s2 fun _ => x
      have ra : (σ1.set a (.inst 102 (srcV fun _ => x))) a = some (.inst 102 (srcV fun _ => x)) := AHeap.set_same ..
      have ra' : (σ1.set a (.inst 102 (srcV fun _ => x))) a = some (.inst 102 (srcA x x x x x)) := AHeap.set_same ..
      refine t2_cat rfl rfl (by simp [sizeLine_eq]) ?_
      repeat walk_at "fw"
      refine t2_mulLst rfl (by omega) (by omega) (by decide) ?_
      refine t2_neS (k := 1) (Rd.lst (.cons .none (.cons .none (.cons .none (.cons .none (.cons .none .nil)))))) (Rd.lst (xs := [.none, .none, .none, .none, .none]) (.cons .none (.cons .none (.cons .none (.cons .none (.cons .none .nil)))))) (Dk.list (k := 0) fun d hd => ?_) ?_
      · simp at hd; rw [hd]; exact Dk.none
      repeat walk_at "fw"
      refine tc_fn (by assumption) (told12 K (v := fun _ => x) ra (fun _ _ => hx) ?_)
      refine t2_cat rfl rfl (by simp [sizeLine_eq, row4]) ?_
      repeat walk_at "fw"
      refine t2_mulLst (by simp [hsc]) (by omega) (by omega) (by show 1 * 5 ≤ 2 ^ 24; decide) ?_
      refine t2_neS (k := 1) (Rd.lst (.cons (rd _) (.cons (rd _) (.cons (rd _) (.cons (rd _) (.cons (rd _) .nil)))))) (Rd.lst (xs := [x, x, x, x, x]) (.cons (rd _) (.cons (rd _) (.cons (rd _) (.cons (rd _) (.cons (rd _) .nil)))))) (Dk.list (k := 0) fun d' hd => ?_) ?_
      · simp at hd; rw [hd]; exact dk
      repeat walk_at "fw"
      refine ⟨[], _, Has.sub trivial, AHeap.le_refl _, ⟨fun _ => x, some x, by rw [← hσ1]; rfl, fun e => ?_⟩, ⟨j + 1, rfl, by omega⟩, rfl⟩
      funext _; exact hlast e
    · rintro m' σ' ⟨⟨w, u, rfl, hl⟩, _, rfl⟩
      repeat walk_at "fw"
      have hl := hl rfl
      subst hl
      refine ret_le' (fun b o e => ?_) h
      by_cases q : b = a
      · subst q; rw [AHeap.set_same] at e ⊢; exact e
      · rw [AHeap.set_ne _ _ q] at e ⊢
        rw [AHeap.set_ne _ _ (fun q => by rw [q, hc2] at e; cases e), AHeap.set_ne _ _ (fun q => by rw [q, hc1] at e; cases e)]; exact e
end
end Mine

open PySem PySem.W PyProof.Rows PySem.Calls
namespace Mine

abbrev Ix := Nat × Nat
structure S12 where
  T : Nat → Nat → AVal
  D : Nat → Option Nat
  k : Nat → Nat
def strV (b : Nat → Array UInt8) (ad : Ix → Addr) (d : Option Nat) : AVal := match d with
  | none => .none
  | some j => .clos read12 [.obj (ad (3, j)), .bytes (b j)]
def dueV (d : Option Nat) : AVal := match d with
  | none => .none
  | some j => .int j
def val12 (b : Nat → Array UInt8) (ad : Ix → Addr) (S : S12) (i : Nat) (f : Nat) : AVal := match f with
  | 0 => S.T i 0
  | 1 => S.T i 1
  | 2 => S.T i 2
  | 3 => strV b ad (S.D i)
  | _ => S.T i 3
def rowA (S : S12) (i : Nat) : List AVal := [S.T i 0, S.T i 1, S.T i 2, S.T i 3, dueV (S.D i)]
def pcsL (b : Nat → Array UInt8) (S : S12) : List AVal := [.bytes (subB (b 0) 0 (S.k 0)), .bytes (subB (b 1) 0 (S.k 1)), .bytes (subB (b 2) 0 (S.k 2))]
def obj12 (b : Nat → Array UInt8) (ad : Ix → Addr) (S : S12) : Ix → AObj
  | (0, _) => .list (pcsL b S)
  | (1, i) => .inst 102 (srcV (val12 b ad S i))
  | (2, i) => .list (rowA S i)
  | (3, j) => .list [.int (S.k j)]
  | _ => .tab [(pos12, read12.qual)]
def Live12 : Ix → Prop
  | (0, i) => i = 0
  | (1, i) => i < 4
  | (2, i) => i < 4
  | (3, j) => j < 3
  | (4, i) => i = 0
  | _ => False
def okS (v : AVal) : Prop := v = .none ∨ ∃ x, v = .str x ∧ PyData.strOk x = true
theorem okS.rd {v : AVal} (h : okS v) : ∃ d, (∀ σ, Rd σ v d) ∧ Dk 0 d := by
  rcases h with rfl | ⟨x, rfl, h⟩
  · exact ⟨_, fun _ => .none, Dk.none⟩
  · exact ⟨_, fun _ => .str _, Dk.str h⟩
theorem okS.handed {v : AVal} (h : okS v) : handedA v = true := by
  rcases h with rfl | ⟨x, rfl, h⟩ <;> rfl
structure G12 (σ : AHeap) (ad : Ix → Addr) (b : Nat → Array UInt8) (S : S12) : Prop where
  H : Hx σ ad Live12 (obj12 b ad S)
  t : ad (4, 0) = 108
  kb : ∀ j, j < 3 → S.k j ≤ (b j).size
  bs : ∀ j, j < 3 → (b j).size ≤ 70
  okT : ∀ i q, i < 4 → q < 4 → okS (S.T i q)
  okD : ∀ i j, i < 4 → S.D i = some j → j < 3
section
variable {σ : AHeap} {ad : Ix → Addr} {b : Nat → Array UInt8} {S : S12}
theorem Hx.two {o o' : Ix → AObj} {L : Ix → Prop} {x y : Ix} {v w : AObj} (h : Hx σ ad L o) (hx : L x) (hy : L y) (ho : ∀ z, L z → up (up o x v) y w z = o' z) : Hx ((σ.set (ad x) v).set (ad y) w) ad L o' :=
  ((h.set hx).set hy).obj ho
theorem live_cases {P : Ix → Prop} (h0 : P (0, 0)) (h1 : ∀ i, i < 4 → P (1, i)) (h2 : ∀ i, i < 4 → P (2, i)) (h3 : ∀ j, j < 3 → P (3, j)) (h4 : P (4, 0)) : ∀ z, Live12 z → P z
  | (0, i), h => by have : i = 0 := h; subst this; exact h0
  | (1, i), h => h1 i h
  | (2, i), h => h2 i h
  | (3, i), h => h3 i h
  | (4, i), h => by have : i = 0 := h; subst this; exact h4
  | (_ + 5, _), h => h.elim
theorem G12.hand (G : G12 σ ad b S) {i : Nat} (hi : i < 4) : ∀ f, f < 5 → handedA (val12 b ad S i f) = true := by
  intro f hf
  obtain rfl | rfl | rfl | rfl | rfl : f = 0 ∨ f = 1 ∨ f = 2 ∨ f = 3 ∨ f = 4 := by omega
  · exact (G.okT i 0 hi (by omega)).handed
  · exact (G.okT i 1 hi (by omega)).handed
  · exact (G.okT i 2 hi (by omega)).handed
  · show handedA (strV b ad (S.D i)) = true
    unfold strV
    cases S.D i <;> rfl
  · exact (G.okT i 3 hi (by omega)).handed
theorem G12.setD (G : G12 σ ad b S) {i : Nat} {d : Option Nat} (hi : i < 4) (hd : ∀ j, d = some j → j < 3) : G12 ((σ.set (ad (2, i)) (.list (rowA { S with D := up S.D i d } i))).set (ad (1, i)) (.inst 102 (srcV (val12 b ad { S with D := up S.D i d } i)))) ad b { S with D := up S.D i d } := by
  refine ⟨G.H.two hi hi (live_cases ?_ ?_ ?_ ?_ ?_), G.t, G.kb, G.bs, G.okT, fun k j hk hj => ?_⟩
  · rw [up_ne _ _ (by simp), up_ne _ _ (by simp)]; rfl
  · intro k hk
    by_cases e : k = i
    · subst e; rw [up_same]; rfl
    · rw [up_ne _ _ (by simpa using e), up_ne _ _ (by simp)]
      show AObj.inst 102 (srcV (val12 b ad S k)) = .inst 102 (srcV (val12 b ad { S with D := up S.D i d } k))
      have : val12 b ad { S with D := up S.D i d } k = val12 b ad S k := by funext f; unfold val12; simp only [up_ne S.D d e]
      rw [this]
  · intro k hk
    by_cases e : k = i
    · subst e; rw [up_ne _ _ (by simp), up_same]; rfl
    · rw [up_ne _ _ (by simp), up_ne _ _ (by simpa using e)]
      show AObj.list (rowA S k) = .list (rowA { S with D := up S.D i d } k)
      unfold rowA; simp only [up_ne S.D d e]
  · intro k hk; rw [up_ne _ _ (by simp), up_ne _ _ (by simp)]; rfl
  · rw [up_ne _ _ (by simp), up_ne _ _ (by simp)]; rfl
  · by_cases e : k = i
    · subst e
      have hj' : up S.D k d k = some j := hj
      rw [up_same] at hj'; exact hd j hj'
    · have hj' : up S.D i d k = some j := hj
      rw [up_ne _ _ e] at hj'; exact G.okD k j hk hj'
def upT (T : Nat → Nat → AVal) (i q : Nat) (x : AVal) : Nat → Nat → AVal := up T i (up (T i) q x)
theorem upT_ne {T : Nat → Nat → AVal} {i q k : Nat} {x : AVal} (h : k ≠ i) : upT T i q x k = T k := up_ne _ _ h
theorem upT_same {T : Nat → Nat → AVal} {i q : Nat} {x : AVal} : upT T i q x i = up (T i) q x := up_same ..
theorem val12_upT {i q : Nat} {x : AVal} (hq : q < 4) : srcV (up (val12 b ad S i) (fi12 q) x) = srcV (val12 b ad { S with T := upT S.T i q x } i) := by
  unfold srcV val12
  simp only [upT_same]
  obtain rfl | rfl | rfl | rfl : q = 0 ∨ q = 1 ∨ q = 2 ∨ q = 3 := by omega
  all_goals rfl
theorem rowA_upT {i q : Nat} {x : AVal} (hq : q < 4) : (rowA S i).set ((q : Nat) : Int).toNat x = rowA { S with T := upT S.T i q x } i := by
  unfold rowA
  simp only [upT_same]
  obtain rfl | rfl | rfl | rfl : q = 0 ∨ q = 1 ∨ q = 2 ∨ q = 3 := by omega
  all_goals rfl
theorem G12.setT (G : G12 σ ad b S) {i q : Nat} {x : AVal} (hi : i < 4) (hq : q < 4) (hx : okS x) : G12 ((σ.set (ad (2, i)) (.list (rowA { S with T := upT S.T i q x } i))).set (ad (1, i)) (.inst 102 (srcV (val12 b ad { S with T := upT S.T i q x } i)))) ad b { S with T := upT S.T i q x } := by
  refine ⟨G.H.two hi hi (live_cases ?_ ?_ ?_ ?_ ?_), G.t, G.kb, G.bs, fun k p hk hp => ?_, G.okD⟩
  · rw [up_ne _ _ (by simp), up_ne _ _ (by simp)]; rfl
  · intro k hk
    by_cases e : k = i
    · subst e; rw [up_same]; rfl
    · rw [up_ne _ _ (by simpa using e), up_ne _ _ (by simp)]
      show AObj.inst 102 (srcV (val12 b ad S k)) = .inst 102 (srcV (val12 b ad { S with T := upT S.T i q x } k))
      have : val12 b ad { S with T := upT S.T i q x } k = val12 b ad S k := by funext f; unfold val12; simp only [upT_ne (T := S.T) e]
      rw [this]
  · intro k hk
    by_cases e : k = i
    · subst e; rw [up_ne _ _ (by simp), up_same]; rfl
    · rw [up_ne _ _ (by simp), up_ne _ _ (by simpa using e)]
      show AObj.list (rowA S k) = .list (rowA { S with T := upT S.T i q x } k)
      unfold rowA; simp only [upT_ne (T := S.T) e]
  · intro k hk; rw [up_ne _ _ (by simp), up_ne _ _ (by simp)]; rfl
  · rw [up_ne _ _ (by simp), up_ne _ _ (by simp)]; rfl
  · show okS (upT S.T i q x k p)
    by_cases e : k = i
    · subst e; rw [upT_same]
      by_cases e' : p = q
      · subst e'; rw [up_same]; exact hx
      · rw [up_ne _ _ e']; exact G.okT k p hk hp
    · rw [upT_ne e]; exact G.okT k p hk hp
theorem subB_cat {b : Array UInt8} {i j : Nat} (h : i ≤ j) (hj : j ≤ b.size) : subB b 0 i ++ subB b i j = subB b 0 j := by
  unfold subB
  apply Array.ext'
  simp only [Array.toList_append, List.drop_zero, Nat.sub_zero]
  have : j = i + (j - i) := by omega
  conv => rhs; rw [this, List.take_add]
theorem subB_size {b : Array UInt8} {i j : Nat} (hj : j ≤ b.size) : (subB b i j).size = j - i := by
  unfold subB
  simp only [List.size_toArray, List.length_take, List.length_drop, Array.length_toList]
  omega
theorem subB_all {b : Array UInt8} : subB b 0 b.size = b := by
  unfold subB
  apply Array.ext'
  simp only [List.drop_zero, Nat.sub_zero]
  exact List.take_of_length_le (by simp)
theorem pcsL_set {j n : Nat} (hj : j < 3) : (pcsL b S).set ((j : Nat) : Int).toNat (.bytes (subB (b j) 0 n)) = pcsL b { S with k := up S.k j n } := by
  obtain rfl | rfl | rfl : j = 0 ∨ j = 1 ∨ j = 2 := by omega
  all_goals rfl
theorem pcsL_get {j : Nat} (hj : j < 3) : (pcsL b S)[((j : Nat) : Int).toNat]? = some (.bytes (subB (b j) 0 (S.k j))) := by
  obtain rfl | rfl | rfl : j = 0 ∨ j = 1 ∨ j = 2 := by omega
  all_goals rfl
theorem G12.read (G : G12 σ ad b S) {j n : Nat} (hj : j < 3) (hn : n ≤ (b j).size) : G12 ((σ.set (ad (3, j)) (.list [.int n])).set (ad (0, 0)) (.list (pcsL b { S with k := up S.k j n }))) ad b { S with k := up S.k j n } := by
  refine ⟨G.H.two hj rfl (live_cases ?_ ?_ ?_ ?_ ?_), G.t, fun i hi => ?_, G.bs, G.okT, G.okD⟩
  · rw [up_same]; rfl
  · intro k hk; rw [up_ne _ _ (by simp), up_ne _ _ (by simp)]; rfl
  · intro k hk; rw [up_ne _ _ (by simp), up_ne _ _ (by simp)]; rfl
  · intro k hk
    by_cases e : k = j
    · subst e; rw [up_ne _ _ (by simp), up_same]
      show AObj.list [.int n] = .list [.int ((up S.k k n k : Nat) : Int)]
      rw [up_same]
    · rw [up_ne _ _ (by simp), up_ne _ _ (by simpa using e)]
      show AObj.list [.int (S.k k)] = .list [.int ((up S.k j n k : Nat) : Int)]
      rw [up_ne _ _ e]
  · rw [up_ne _ _ (by simp), up_ne _ _ (by simp)]; rfl
  · show up S.k j n i ≤ _
    by_cases e : i = j
    · subst e; rw [up_same]; exact hn
    · rw [up_ne _ _ e]; exact G.kb i hi
end
end Mine

open PySem PySem.W PyProof.Rows PySem.Calls
namespace Mine

def octL (b : Nat → Array UInt8) : AVal := .lst [.bytes (b 0), .bytes (b 1), .bytes (b 2)]
def strL (b : Nat → Array UInt8) (ad : Ix → Addr) : AVal := .lst [strV b ad (some 0), strV b ad (some 1), strV b ad (some 2)]
def fourL (ad : Ix → Addr) (k : Nat) : AVal := .lst [.obj (ad (k, 0)), .obj (ad (k, 1)), .obj (ad (k, 2)), .obj (ad (k, 3))]
theorem octL_get {b : Nat → Array UInt8} {j : Nat} (h : j < 3) : ([.bytes (b 0), .bytes (b 1), .bytes (b 2)] : List AVal)[((j : Nat) : Int).toNat]? = some (.bytes (b j)) := by
  obtain rfl | rfl | rfl : j = 0 ∨ j = 1 ∨ j = 2 := by omega
  all_goals rfl
theorem strL_get {b : Nat → Array UInt8} {ad : Ix → Addr} {j : Nat} (h : j < 3) : ([strV b ad (some 0), strV b ad (some 1), strV b ad (some 2)] : List AVal)[((j : Nat) : Int).toNat]? = some (strV b ad (some j)) := by
  obtain rfl | rfl | rfl : j = 0 ∨ j = 1 ∨ j = 2 := by omega
  all_goals rfl
theorem fourL_get {ad : Ix → Addr} {k i : Nat} (h : i < 4) : ([.obj (ad (k, 0)), .obj (ad (k, 1)), .obj (ad (k, 2)), .obj (ad (k, 3))] : List AVal)[((i : Nat) : Int).toNat]? = some (.obj (ad (k, i))) := by
  obtain rfl | rfl | rfl | rfl : i = 0 ∨ i = 1 ∨ i = 2 ∨ i = 3 := by omega
  all_goals rfl
theorem pickD {i : Int} (h0 : 0 ≤ i) (h1 : i < 4) : ∃ d : Option Nat, (∀ j, d = some j → j < 3) ∧ ([.int 0, .int 1, .int 2, .none] : List AVal)[i.toNat]? = some (dueV d) := by
  obtain rfl | rfl | rfl | rfl : i = 0 ∨ i = 1 ∨ i = 2 ∨ i = 3 := by omega
  · exact ⟨some 0, fun j e => by cases e; decide, rfl⟩
  · exact ⟨some 1, fun j e => by cases e; decide, rfl⟩
  · exact ⟨some 2, fun j e => by cases e; decide, rfl⟩
  · exact ⟨none, (fun j e => by cases e), rfl⟩
theorem pickT {i : Int} (h0 : 0 ≤ i) (h1 : i < 4) : ∃ x, okS x ∧ ([.none, .str (Str.ofString ""), .str (Str.ofString "a"), .str (Str.ofString "Latin-1")] : List AVal)[i.toNat]? = some x := by
  obtain rfl | rfl | rfl | rfl : i = 0 ∨ i = 1 ∨ i = 2 ∨ i = 3 := by omega
  · exact ⟨_, .inl rfl, rfl⟩
  · exact ⟨_, .inr ⟨_, rfl, by decide +kernel⟩, rfl⟩
  · exact ⟨_, .inr ⟨_, rfl, by decide +kernel⟩, rfl⟩
  · exact ⟨_, .inr ⟨_, rfl, by decide +kernel⟩, rfl⟩
theorem rowA_D {S : S12} {i : Nat} {d : Option Nat} : (rowA S i).set (4 : Int).toNat (dueV d) = rowA { S with D := up S.D i d } i := by
  show [S.T i 0, S.T i 1, S.T i 2, S.T i 3, dueV d] = [S.T i 0, S.T i 1, S.T i 2, S.T i 3, dueV (up S.D i d i)]
  rw [up_same]
def E12 (b : Nat → Array UInt8) (ad : Ix → Addr) : AEnv := [(Str.ofString "octets", octL b), (Str.ofString "streams", strL b ad), (Str.ofString "pieces", .obj (ad (0, 0))), (Str.ofString "sources", fourL ad 1), (Str.ofString "record", fourL ad 2)]
section
variable {C : Cx}
set_option maxHeartbeats 8000000 in
theorem step12 (K : K12 C) {u : Int} {b : Nat → Array UInt8} {ad : Ix → Addr} {S : S12} {σ : AHeap} (G : G12 σ ad b S) :
    Seg PySem.Challenge.pw_dn0301_12 7 [(6, 0)] 0 fun scope ss => ∀ A₀ A base h₀ outer L fa cdv cl pin, WS C 20 ⟨A₀, A, base, h₀, outer, L, fa, Str.ofString "law", scope, cdv, cl, pin, none⟩ ss
      [(Str.ofString "octets", octL b), (Str.ofString "streams", strL b ad), (Str.ofString "pieces", .obj (ad (0, 0))), (Str.ofString "sources", fourL ad 1), (Str.ofString "record", fourL ad 2), (Str.ofString "x", .int u)] σ
      fun fl m' σ₁ => fl = .next ∧ (∃ S', G12 σ₁ ad b S') ∧ Has m' (E12 b ad) := by
  refine seg_intro (by rfl) ?_
  intro A₀ A base h₀ outer L fa cdv cl pin
  have K' := K
  cases K'
  obtain ⟨hi0, hi1⟩ := fmod_range (u.fdiv 4) (y := 4) (by decide)
  obtain ⟨hq0, hq1⟩ := fmod_range (u.fdiv 16) (y := 4) (by decide)
  obtain ⟨hz0, hz1⟩ := fmod_range (u.fdiv 16) (y := 6) (by decide)
  obtain ⟨ht0, ht1⟩ := fmod_range ((u.fdiv 16).fdiv 4) (y := 4) (by decide)
  generalize hie : (u.fdiv 4).fmod 4 = i at hi0 hi1
  obtain ⟨i, rfl⟩ : ∃ i' : Nat, i = i' := ⟨i.toNat, by omega⟩
  have hi : i < 4 := by omega
  with_reducible refine ws_cons ?_
  with_reducible refine w1_assignS (names := [Str.ofString "place", Str.ofString "more"]) ?_ ?hw ?hs
  case hw => rfl
  case hs => rfl
  repeat walk_at "fw"
  rw [hie]
  refine ⟨_, rfl, rfl, tss_cons (ts_local rfl (tss_cons (ts_local rfl (tss_nil ?_))))⟩
  with_reducible show WS _ _ _ _ _ _ _
  with_reducible refine ws_cons ?_
  with_reducible refine w1_assignS (names := [Str.ofString "source", Str.ofString "due"]) ?_ ?hw ?hs
  case hw => rfl
  case hs => rfl
  repeat walk_at "fw"
  refine t2_item (y := .obj (ad (1, i))) rfl (by omega) (by omega) (fourL_get hi) ?_
  repeat walk_at "fw"
  refine t2_item (y := .obj (ad (2, i))) rfl (by omega) (by omega) (fourL_get hi) ?_
  repeat walk_at "fw"
  refine ⟨_, rfl, rfl, tss_cons (ts_local rfl (tss_cons (ts_local rfl (tss_nil ?_))))⟩
  with_reducible show WS _ _ _ _ _ _ _
  with_reducible refine WS.weaken (m' := [(Str.ofString "octets", octL b), (Str.ofString "streams", strL b ad), (Str.ofString "pieces", .obj (ad (0, 0))), (Str.ofString "sources", fourL ad 1), (Str.ofString "record", fourL ad 2), (Str.ofString "x", .int u), (Str.ofString "more", .int (u.fdiv 16)), (Str.ofString "source", .obj (ad (1, i))), (Str.ofString "due", .obj (ad (2, i)))]) ?h1 (AHeap.le_refl _) ?_
  case h1 => exact Has.sub ⟨rfl, rfl, rfl, rfl, rfl, rfl, rfl, rfl, rfl, trivial⟩
  have sS : σ (ad (1, i)) = some (.inst 102 (srcA (S.T i 0) (S.T i 1) (S.T i 2) (strV b ad (S.D i)) (S.T i 3))) := G.H.at_ (1, i) hi
  have sR : σ (ad (2, i)) = some (.list (rowA S i)) := G.H.at_ (2, i) hi
  have sP : σ (ad (0, 0)) = some (.list (pcsL b S)) := G.H.at_ (0, 0) rfl
  have n12 : ad (1, i) ≠ ad (2, i) := G.H.ne (1, i) (2, i) hi hi (by simp)
  repeat walk_at "fw"
  · refine tc_fn (by assumption) (told12 K (v := val12 b ad S i) (G.H.at_ (1, i) hi) (G.hand hi) ?_)
    refine we_slice ?_
    repeat walk_at "fw"
    refine ⟨rowA S i, none, some 4, none, items_obj sR, rfl, rfl, rfl, by decide, by rw [sizeLine_eq]; show 5 ≤ _; decide, ?_⟩
    rw [show pickA (rowA S i) none (some 4) none = [S.T i 0, S.T i 1, S.T i 2, S.T i 3] by rw [pickA_plain]; rfl]
    obtain ⟨d0, r0, k0⟩ := (G.okT i 0 hi (by omega)).rd
    obtain ⟨d1, r1, k1⟩ := (G.okT i 1 hi (by omega)).rd
    obtain ⟨d2, r2, k2⟩ := (G.okT i 2 hi (by omega)).rd
    obtain ⟨d3, r3, k3⟩ := (G.okT i 3 hi (by omega)).rd
    refine t2_neS (d := .list [d0, d1, d2, d3]) (Rd.lst (.cons (r0 _) (.cons (r1 _) (.cons (r2 _) (.cons (r3 _) .nil))))) (Rd.lst (.cons (r0 _) (.cons (r1 _) (.cons (r2 _) (.cons (r3 _) .nil))))) (k := 1) (Dk.list (k := 0) fun d hd => ?_) ?_
    · simp at hd
      rcases hd with rfl | rfl | rfl | rfl <;> assumption
    repeat walk_at "fw"
    obtain ⟨x, hx, hxe⟩ := pickT ht0 ht1
    refine t2_item (y := x) rfl (by omega) (by omega) hxe ?_
    repeat walk_at "fw"
    generalize hqe : (u.fdiv 16).fmod 4 = q at hq0 hq1
    obtain ⟨q, rfl⟩ : ∃ i' : Nat, q = i' := ⟨q.toNat, by omega⟩
    have hq : q < 4 := by omega
    refine tu_list sR (by omega) (by show (q : Int) < 5; omega) (by omega) ?_
    rw [rowA_upT hq]
    have sR' : (σ.set (ad (2, i)) (.list (rowA { S with T := upT S.T i q x } i))) (ad (2, i)) = some (.list (rowA { S with T := upT S.T i q x } i)) := AHeap.set_same ..
    have sS' : (σ.set (ad (2, i)) (.list (rowA { S with T := upT S.T i q x } i))) (ad (1, i)) = some (.inst 102 (srcV (val12 b ad S i))) := (AHeap.set_ne _ _ n12).trans (G.H.at_ (1, i) hi)
    repeat walk_at "fw"
    rw [hqe]
    refine t2_item (y := x) (items_obj sR') (by omega) (by omega) (by
      show (rowA { S with T := upT S.T i q x } i)[((q : Nat) : Int).toNat]? = some x
      rw [← rowA_upT hq]
      have : ((q : Nat) : Int).toNat = q := by omega
      rw [this, List.getElem?_set_self (by show q < 5; omega)]) ?_
    repeat walk_at "fw"
    refine tc_fn (by assumption) (set12 K hq sS' ?_)
    repeat walk_at "fw"
    refine t2_isNotNone (b := true) rfl ?_
    repeat walk_at "fw"
    refine ⟨rfl, ⟨{ S with T := upT S.T i q x }, ?_⟩, rfl, rfl, rfl, rfl, rfl, trivial⟩
    rw [val12_upT hq]
    exact G.setT hi hq hx
  · with_reducible refine w1_assignS (names := [Str.ofString "told", Str.ofString "j", Str.ofString "size"]) ?_ ?hw ?hs
    case hw => rfl
    case hs => rfl
    have hsv : handedA (strV b ad (S.D i)) = true := by unfold strV; cases S.D i <;> rfl
    repeat walk_at "fw"
    refine t2_item (y := dueV (S.D i)) (items_obj sR) (by decide) (by decide) rfl ?_
    repeat walk_at "fw"
    generalize hze : (u.fdiv 16).fmod 6 = z at hz0 hz1
    obtain ⟨z, rfl⟩ : ∃ i' : Nat, z = i' := ⟨z.toNat, by omega⟩
    refine ⟨_, rfl, rfl, tss_cons (ts_local rfl (tss_cons (ts_local rfl (tss_cons (ts_local rfl (tss_nil ?_))))))⟩
    with_reducible show WS _ _ _ _ _ _ _
    with_reducible refine WS.weaken (m' := [(Str.ofString "octets", octL b), (Str.ofString "streams", strL b ad), (Str.ofString "pieces", .obj (ad (0, 0))), (Str.ofString "sources", fourL ad 1), (Str.ofString "record", fourL ad 2), (Str.ofString "told", strV b ad (S.D i)), (Str.ofString "j", dueV (S.D i)), (Str.ofString "size", .int z)]) ?h1 (AHeap.le_refl _) ?_
    case h1 => exact Has.sub ⟨rfl, rfl, rfl, rfl, rfl, rfl, rfl, rfl, trivial⟩
    have hD := G.okD i
    generalize S.D i = dd at hD ⊢
    cases dd with
    | none =>
      repeat walk_at "fw"
      refine t2_isNone (b := true) rfl ?_
      repeat walk_at "fw"
      refine t2_isNotNone (b := true) rfl ?_
      repeat walk_at "fw"
      exact ⟨rfl, ⟨S, G⟩, rfl, rfl, rfl, rfl, rfl, trivial⟩
    | some j =>
      have hj : j < 3 := hD j hi rfl
      have sQ : σ (ad (3, j)) = some (.list [.int (S.k j)]) := G.H.at_ (3, j) hj
      have n03 : ad (0, 0) ≠ ad (3, j) := G.H.ne (0, 0) (3, j) rfl hj (by simp)
      have hkb := G.kb j hj
      have hbs := G.bs j hj
      have s2 := subB_size (b := b j) (i := S.k j) (j := min (S.k j + z) (b j).size) (by omega)
      have s1 := subB_size (b := b j) (i := 0) (j := S.k j) hkb
      repeat walk_at "fw"
      refine t2_isNone (b := false) rfl ?_
      repeat walk_at "fw"
      show TC C 20 _ (.clos read12 [.obj (ad (3, j)), .bytes (b j)]) _ _ _ _
      refine read_call K sQ hkb (by omega) (by omega) ?_
      have sP' : (σ.set (ad (3, j)) (.list [.int (min (S.k j + z) (b j).size : Nat)])) (ad (0, 0)) = some (.list (pcsL b S)) := (AHeap.set_ne _ _ n03).trans sP
      repeat walk_at "fw"
      refine tc_lenB (by omega) ?_
      repeat walk_at "fw"
      refine t2_item (y := .bytes (b j)) rfl (by omega) (by omega) (octL_get hj) ?_
      repeat walk_at "fw"
      refine tc_lenB (by omega) ?_
      repeat walk_at "fw"
      refine t2_item (y := .bytes (subB (b j) 0 (S.k j))) (items_obj sP') (by omega) (by omega) (pcsL_get hj) ?_
      repeat walk_at "fw"
      refine tc_lenB (by omega) ?_
      repeat walk_at "fw"
      · rename_i hk
        exfalso
        rw [s2, s1] at hk
        simp only [bne_iff_ne, ne_eq] at hk
        apply hk
        split <;> omega
      · refine t2_item (y := .bytes (subB (b j) 0 (S.k j))) (items_obj sP') (by omega) (by omega) (pcsL_get hj) ?_
        repeat walk_at "fw"
        refine t2_addB (by omega) ?_
        rw [subB_cat (by omega) (by omega)]
        repeat walk_at "fw"
        refine tu_list sP' (by omega) (by show (j : Int) < 3; omega) (by omega) ?_
        rw [pcsL_set hj]
        repeat walk_at "fw"
        exact ⟨rfl, ⟨{ S with k := up S.k j (min (S.k j + z) (b j).size) }, G.read hj (by omega)⟩, rfl, rfl, rfl, rfl, rfl, trivial⟩
  · obtain ⟨d, hd, hde⟩ := pickD hq0 hq1
    refine t2_item (y := dueV d) rfl (by omega) (by omega) hde ?_
    repeat walk_at "fw"
    refine tu_list sR (by decide) (by show (4 : Int) < 5; decide) (by decide) ?_
    rw [rowA_D]
    have sR' : (σ.set (ad (2, i)) (.list (rowA { S with D := up S.D i d } i))) (ad (2, i)) = some (.list (rowA { S with D := up S.D i d } i)) := AHeap.set_same ..
    have g4 : (rowA { S with D := up S.D i d } i)[(4 : Int).toNat]? = some (dueV d) := by
      show some (dueV (up S.D i d i)) = _
      rw [up_same]
    have fin : G12 ((σ.set (ad (2, i)) (.list (rowA { S with D := up S.D i d } i))).set (ad (1, i)) (.inst 102 (srcA (S.T i 0) (S.T i 1) (S.T i 2) (strV b ad d) (S.T i 3)))) ad b { S with D := up S.D i d } := by
      have := G.setD hi hd
      rwa [show srcV (val12 b ad { S with D := up S.D i d } i) = srcA (S.T i 0) (S.T i 1) (S.T i 2) (strV b ad d) (S.T i 3) by
        show srcA (S.T i 0) (S.T i 1) (S.T i 2) (strV b ad (up S.D i d i)) (S.T i 3) = _
        rw [up_same]] at this
    repeat walk_at "fw"
    refine t2_item (y := dueV d) (items_obj sR') (by decide) (by decide) g4 ?_
    repeat walk_at "fw"
    cases d with
    | none =>
      refine t2_isNone (b := true) rfl ?_
      repeat walk_at "fw"
      refine t2_isNotNone (b := true) rfl ?_
      repeat walk_at "fw"
      exact ⟨rfl, ⟨_, fin⟩, rfl, rfl, rfl, rfl, rfl, trivial⟩
    | some j =>
      have hj : j < 3 := hd j rfl
      refine t2_isNone (b := false) rfl ?_
      repeat walk_at "fw"
      refine t2_item (y := dueV (some j)) (items_obj sR') (by decide) (by decide) g4 ?_
      refine t2_item (y := strV b ad (some j)) rfl (by omega) (by omega) (strL_get hj) ?_
      repeat walk_at "fw"
      refine t2_isNotNone (b := true) rfl ?_
      repeat walk_at "fw"
      exact ⟨rfl, ⟨_, fin⟩, rfl, rfl, rfl, rfl, rfl, trivial⟩
end
end Mine

open PySem PySem.W PyProof.Rows PySem.Calls
namespace Mine

theorem G12.off {σ : AHeap} {ad : Ix → Addr} {b : Nat → Array UInt8} {S : S12} (G : G12 σ ad b S) {a : Addr} {v : AObj} (ha : σ a = none) : G12 (σ.set a v) ad b S := ⟨G.H.off ha, G.t, G.kb, G.bs, G.okT, G.okD⟩
theorem G12.last {σ : AHeap} {ad : Ix → Addr} {b : Nat → Array UInt8} {S : S12} (G : G12 σ ad b S) : ∃ es, σ 108 = some (.tab es) := by
  have := G.H.at_ (4, 0) rfl
  rw [G.t] at this
  exact ⟨_, this⟩
section
variable {C : Cx}
set_option maxHeartbeats 8000000 in
theorem end12 (K : K12 C) {b : Nat → Array UInt8} {ad : Ix → Addr} {S : S12} {σ : AHeap} (G : G12 σ ad b S) :
    Seg PySem.Challenge.pw_dn0301_12 7 [] 7 fun scope ss => ∀ A₀ A base h₀ outer L fa cdv cl pin, WS C 20 ⟨A₀, A, base, h₀, outer, L, fa, Str.ofString "law", scope, cdv, cl, pin, none⟩ ss
      [(Str.ofString "octets", octL b), (Str.ofString "streams", strL b ad), (Str.ofString "pieces", .obj (ad (0, 0))), (Str.ofString "sources", fourL ad 1), (Str.ofString "record", fourL ad 2)] σ
      fun fl m' σ₁ => fl = .ret (.bool true) ∧ ∃ es, σ₁ 108 = some (.tab es) := by
  refine seg_intro (by rfl) ?_
  intro A₀ A base h₀ outer L fa cdv cl pin
  have K' := K
  cases K'
  with_reducible refine ws_cons ?_
  with_reducible refine w1_for (fun rest m' σ' => (∃ j S, rest = (rngL 0 1 3).drop j ∧ j ≤ 3 ∧ G12 σ' ad b S ∧ ∀ i, i < j → S.k i = (b i).size) ∧ m' = [(Str.ofString "octets", octL b), (Str.ofString "streams", strL b ad), (Str.ofString "pieces", .obj (ad (0, 0))), (Str.ofString "sources", fourL ad 1), (Str.ofString "record", fourL ad 2)]) ?_ ?_ ?_ ?hs
  case hs => intro _; rfl
  · refine wi ?_
    repeat walk_at "fw"
    refine tc_range1 ?_
    exact ti_rng (k := 3) (rng_small1 (by omega) (by omega)) (rng_size1' (k := 3)) ⟨rfl, ⟨0, S, by simp, by omega, G, fun i hi => absurd hi (by omega)⟩, rfl⟩
  · rintro pin x xs m' σ' ⟨⟨j, S, h1, hj3, G, hall⟩, rfl⟩
    obtain ⟨hj, rfl, rfl⟩ := rngL_cons h1
    have e0 : (0 + (j : Int) * 1) = j := by omega
    rw [e0]
    walk_at "fw"
    dsimp only [Fm.withPin]
    repeat walk_at "fw"
    refine tc_inst (c := 102) (by assumption) (by assumption) (by assumption) (by assumption) fun a ha => srcInit0 K (AHeap.set_same ..) ⟨rfl, ?_⟩
    rw [AHeap.set_set]
    have G1 := G.off ha (v := .inst 102 (srcA .none .none .none .none .none))
    have sa : (σ'.set a (.inst 102 (srcA .none .none .none .none .none))) a = some (.inst 102 (srcA .none .none .none .none .none)) := AHeap.set_same ..
    repeat walk_at "fw"
    refine t2_item (y := strV b ad (some j)) rfl (by omega) (by omega) (strL_get hj) ?_
    repeat walk_at "fw"
    rw [AHeap.set_set]
    have G2 := G.off ha (v := .inst 102 (srcA .none .none .none (strV b ad (some j)) .none))
    have sb : (σ'.set a (.inst 102 (srcA .none .none .none (strV b ad (some j)) .none))) a = some (.inst 102 (srcA .none .none .none (strV b ad (some j)) .none)) := AHeap.set_same ..
    clear G1 sa
    generalize σ'.set a (.inst 102 (srcA .none .none .none (strV b ad (some j)) .none)) = σ2 at G2 sb ⊢
    have sP : σ2 (ad (0, 0)) = some (.list (pcsL b S)) := G2.H.at_ (0, 0) rfl
    have sQ : σ2 (ad (3, j)) = some (.list [.int (S.k j)]) := G2.H.at_ (3, j) hj
    have n03 : ad (0, 0) ≠ ad (3, j) := G2.H.ne (0, 0) (3, j) rfl hj (by simp)
    have hkb := G2.kb j hj
    have hbs := G2.bs j hj
    have s1 := subB_size (b := b j) (i := 0) (j := S.k j) hkb
    have s2 := subB_size (b := b j) (i := S.k j) (j := (b j).size) (by omega)
    repeat walk_at "fw"
    refine t2_item (y := .bytes (subB (b j) 0 (S.k j))) (items_obj sP) (by omega) (by omega) (pcsL_get hj) ?_
    refine we_callE ?_
    have hsv : handedA (strV b ad (some j)) = true := rfl
    repeat walk_at "fw"
    refine t2_item (y := .bytes (b j)) rfl (by omega) (by omega) (octL_get hj) ?_
    repeat walk_at "fw"
    refine tc_lenB (by omega) ?_
    repeat walk_at "fw"
    show TC C 20 _ (.clos read12 [.obj (ad (3, j)), .bytes (b j)]) _ _ _ _
    refine read_call K sQ hkb (by omega) (by omega) ?_
    rw [show min (S.k j + (b j).size) (b j).size = (b j).size by omega]
    refine t2_addB (by omega) ?_
    rw [subB_cat (by omega) (by omega)]
    repeat walk_at "fw"
    refine tu_list ((AHeap.set_ne _ _ n03).trans sP) (by omega) (by show (j : Int) < 3; omega) (by omega) ?_
    rw [pcsL_set hj]
    repeat walk_at "fw"
    refine ⟨[(Str.ofString "octets", octL b), (Str.ofString "streams", strL b ad), (Str.ofString "pieces", .obj (ad (0, 0))), (Str.ofString "sources", fourL ad 1), (Str.ofString "record", fourL ad 2)], _, Has.sub ⟨rfl, rfl, rfl, rfl, rfl, trivial⟩, AHeap.le_refl _, ⟨j + 1, { S with k := up S.k j (b j).size }, rfl, by omega, G2.read hj (Nat.le_refl _), fun i hi => ?_⟩, rfl⟩
    show up S.k j (b j).size i = _
    by_cases e : i = j
    · subst e; exact up_same ..
    · rw [up_ne _ _ e]; exact hall i (by omega)
  · rintro m' σ' ⟨⟨j, S, h1, hj3, G, hall⟩, rfl⟩
    have hj := rngL_nil h1
    obtain rfl : j = 3 := by omega
    have sP : σ' (ad (0, 0)) = some (.list (([b 0, b 1, b 2] : List (Array UInt8)).map .bytes)) := by
      have : σ' (ad (0, 0)) = some (.list (pcsL b S)) := G.H.at_ (0, 0) rfl
      rw [this]
      unfold pcsL
      rw [hall 0 (by omega), hall 1 (by omega), hall 2 (by omega), subB_all, subB_all, subB_all]
      rfl
    repeat walk_at "fw"
    refine t2_neBs (bs := [b 0, b 1, b 2]) (items_obj sP) rfl ?_
    iterate 4 walk_at "fw"
    with_reducible refine w1_forT (fun rest m' σ'' => m' = [(Str.ofString "octets", octL b), (Str.ofString "streams", strL b ad), (Str.ofString "pieces", .obj (ad (0, 0))), (Str.ofString "sources", fourL ad 1), (Str.ofString "record", fourL ad 2)] ∧ G12 σ'' ad b S ∧ ∀ r ∈ rest, ∃ i, i < 4 ∧ r = [.obj (ad (1, i)), .obj (ad (2, i))]) ?_ ?_ ?_ ?hst ?hs
    case hst => rfl
    case hs => intro _; rfl
    · refine wit_zip ?_
      walk_at "fw"
      refine ⟨rfl, ?_⟩
      repeat walk_at "fw"
      refine t2_cat rfl rfl (by simp [sizeLine_eq]) ?_
      repeat walk_at "fw"
      refine t2_cat rfl rfl (by simp [sizeLine_eq]) ?_
      repeat walk_at "fw"
      refine ⟨_, _, rfl, rfl, rfl, G, fun r hr => ?_⟩
      have hr' : r = [.obj (ad (1, 0)), .obj (ad (2, 0))] ∨ r = [.obj (ad (1, 1)), .obj (ad (2, 1))] ∨ r = [.obj (ad (1, 2)), .obj (ad (2, 2))] ∨ r = [.obj (ad (1, 3)), .obj (ad (2, 3))] := by
        have : r ∈ [[AVal.obj (ad (1, 0)), .obj (ad (2, 0))], [.obj (ad (1, 1)), .obj (ad (2, 1))], [.obj (ad (1, 2)), .obj (ad (2, 2))], [.obj (ad (1, 3)), .obj (ad (2, 3))], [.obj (ad (1, 0)), .obj (ad (2, 0))], [.obj (ad (1, 1)), .obj (ad (2, 1))], [.obj (ad (1, 2)), .obj (ad (2, 2))], [.obj (ad (1, 3)), .obj (ad (2, 3))]] := hr
        simp only [List.mem_cons, List.not_mem_nil, or_false] at this
        rcases this with h | h | h | h | h | h | h | h <;> simp [h]
      rcases hr' with rfl | rfl | rfl | rfl
      · exact ⟨0, by omega, rfl⟩
      · exact ⟨1, by omega, rfl⟩
      · exact ⟨2, by omega, rfl⟩
      · exact ⟨3, by omega, rfl⟩
    · rintro pin r rest m' σ' ⟨rfl, G, h4⟩
      obtain ⟨i, hi, rfl⟩ := h4 r (.head _)
      have sR : σ' (ad (2, i)) = some (.list (rowA S i)) := G.H.at_ (2, i) hi
      refine ⟨rfl, ?_⟩
      repeat walk_at "fw"
      refine tc_fn (by assumption) (told12 K (v := val12 b ad S i) (G.H.at_ (1, i) hi) (G.hand hi) ?_)
      refine we_slice ?_
      repeat walk_at "fw"
      refine ⟨rowA S i, none, some 4, none, items_obj sR, rfl, rfl, rfl, by decide, by rw [sizeLine_eq]; show 5 ≤ _; decide, ?_⟩
      rw [show pickA (rowA S i) none (some 4) none = [S.T i 0, S.T i 1, S.T i 2, S.T i 3] by rw [pickA_plain]; rfl]
      obtain ⟨d0, r0, k0⟩ := (G.okT i 0 hi (by omega)).rd
      obtain ⟨d1, r1, k1⟩ := (G.okT i 1 hi (by omega)).rd
      obtain ⟨d2, r2, k2⟩ := (G.okT i 2 hi (by omega)).rd
      obtain ⟨d3, r3, k3⟩ := (G.okT i 3 hi (by omega)).rd
      refine t2_neS (d := .list [d0, d1, d2, d3]) (Rd.lst (.cons (r0 _) (.cons (r1 _) (.cons (r2 _) (.cons (r3 _) .nil))))) (Rd.lst (.cons (r0 _) (.cons (r1 _) (.cons (r2 _) (.cons (r3 _) .nil))))) (k := 1) (Dk.list (k := 0) fun d hd => ?_) ?_
      · simp at hd
        rcases hd with rfl | rfl | rfl | rfl <;> assumption
      repeat walk_at "fw"
      exact ⟨[(Str.ofString "octets", octL b), (Str.ofString "streams", strL b ad), (Str.ofString "pieces", .obj (ad (0, 0))), (Str.ofString "sources", fourL ad 1), (Str.ofString "record", fourL ad 2)], σ', Has.sub ⟨rfl, rfl, rfl, rfl, rfl, trivial⟩, AHeap.le_refl _, rfl, G, fun r hr => h4 r (.tail _ hr)⟩
    · rintro m' σ' ⟨rfl, G, h4⟩
      repeat walk_at "fw"
      exact ⟨rfl, G.last⟩
end
end Mine

open PySem PySem.W PyProof.Rows PySem.Calls
namespace Mine

def Inv12 (b : Nat → Array UInt8) (ad : Ix → Addr) (xs : List AVal) (m : AEnv) (σ : AHeap) : Prop :=
  ∃ (ns : List Int) (S : S12), xs = ns.map .int ∧ G12 σ ad b S ∧ m = [(Str.ofString "octets", octL b), (Str.ofString "streams", strL b ad), (Str.ofString "pieces", .obj (ad (0, 0))), (Str.ofString "sources", fourL ad 1), (Str.ofString "record", fourL ad 2)]
def ad12 (pc : Addr) (s r p : Nat → Addr) : Ix → Addr
  | (0, _) => pc
  | (1, i) => s i
  | (2, i) => r i
  | (3, j) => p j
  | _ => 108
def T12 (i q : Nat) : AVal := match q with
  | 0 => [AVal.str (Str.ofString "b"), .str (Str.ofString ""), .none, .str (Str.ofString "c")].getD i .none
  | _ => .none
def S12i : S12 := ⟨T12, fun _ => none, fun _ => 0⟩
theorem T12_ok : ∀ i q, i < 4 → q < 4 → okS (T12 i q) := by
  intro i q hi hq
  match q with
  | 0 =>
    obtain rfl | rfl | rfl | rfl : i = 0 ∨ i = 1 ∨ i = 2 ∨ i = 3 := by omega
    · exact .inr ⟨_, rfl, by decide +kernel⟩
    · exact .inr ⟨_, rfl, by decide +kernel⟩
    · exact .inl rfl
    · exact .inr ⟨_, rfl, by decide +kernel⟩
  | _ + 1 => exact .inl rfl
section
variable {C : Cx}
set_option maxHeartbeats 8000000 in
theorem loop12 (K : K12 C) {ns : List Int} (hns : ns.length ≤ 63) {b : Nat → Array UInt8} {ad : Ix → Addr} {S : S12} {σ : AHeap} {L : Nat} (G : G12 σ ad b S) (hc : σ (L + 1) = some (.cell (some (.lst (ns.map .int))))) :
    Seg PySem.Challenge.pw_dn0301_12 7 [] 6 fun scope ss => ∀ A₀ A base h₀ outer fa cdv pin, WS C 20 ⟨A₀, A, base, h₀, outer, L, fa, Str.ofString "law", scope, cdv, [(Str.ofString "script", L + 1)], pin, none⟩ ss
      [(Str.ofString "octets", octL b), (Str.ofString "streams", strL b ad), (Str.ofString "pieces", .obj (ad (0, 0))), (Str.ofString "sources", fourL ad 1), (Str.ofString "record", fourL ad 2)] σ
      fun fl m' σ₁ => fl = .ret (.bool true) ∧ ∃ es, σ₁ 108 = some (.tab es) := by
  with_reducible refine' seg_intro ?hseg ?hrest
  case hseg => rfl
  intro A₀ A base h₀ outer fa cdv pin
  have K' := K
  cases K'
  with_reducible refine ws_cons ?_
  with_reducible refine w1_for (Inv12 b ad) ?_ ?_ ?_ ?hs
  case hs => intro _; rfl
  · with_reducible refine wi ?_
    repeat walk_at "fw"
    refine t2_cat rfl rfl (by simp [sizeLine_eq]; omega) ?_
    repeat walk_at "fw"
    refine t2_cat rfl rfl (by simp [sizeLine_eq]; omega) ?_
    exact ti_lst ⟨rfl, [0, 20, 8, 17, 41, 66, 146, 226, 114, 17, 16] ++ ns ++ [17, 21, 25, 29], S, by simp, G, rfl⟩
  · rintro pin x xs m' σ' ⟨us, S', he, G, rfl⟩
    cases us with
    | nil => cases he
    | cons u us =>
      cases he
      walk_at "fw"
      dsimp only [Fm.withPin]
      with_reducible show WS _ _ _ _ _ _ _
      with_reducible refine WS.mono (Q := fun fl m' σ₁ => fl = .next ∧ (∃ S', G12 σ₁ ad b S') ∧ Has m' (E12 b ad)) ?h1 ?_
      case h1 => exact seg_elim (step12 K G) rfl _ _ _ _ _ _ _ _ _ _
      rintro fl m' σ₁ ⟨rfl, ⟨S'', G⟩, hm⟩
      exact ⟨_, _, Has.sub hm, AHeap.le_refl _, us, S'', rfl, G, rfl⟩
  · rintro m' σ' ⟨us, S', he, G, rfl⟩
    exact seg_elim (end12 K G) rfl _ _ _ _ _ _ _ _ _ _
end
end Mine

open PySem PySem.W PyProof.Rows PySem.Calls
namespace Mine

section
variable {C : Cx}
set_option maxHeartbeats 8000000 in
theorem mid12 (K : K12 C) {ns : List Int} (hns : ns.length ≤ 63) {b : Nat → Array UInt8} {pa : Nat → Addr} {σ : AHeap} {L : Nat} (hc : σ (L + 1) = some (.cell (some (.lst (ns.map .int))))) (hp : ∀ j, j < 3 → σ (pa j) = some (.list [.int 0])) (hpi : ∀ i j, i < 3 → j < 3 → pa i = pa j → i = j) (ht : σ 108 = some (.tab [(pos12, read12.qual)])) (hb : ∀ j, j < 3 → (b j).size ≤ 70) :
    Seg PySem.Challenge.pw_dn0301_12 7 [] 2 fun scope ss => ∀ A₀ A base h₀ outer fa cdv pin, WS C 20 ⟨A₀, A, base, h₀, outer, L, fa, Str.ofString "law", scope, cdv, [(Str.ofString "script", L + 1)], pin, none⟩ ss
      [(Str.ofString "octets", octL b), (Str.ofString "streams", .lst [.clos read12 [.obj (pa 0), .bytes (b 0)], .clos read12 [.obj (pa 1), .bytes (b 1)], .clos read12 [.obj (pa 2), .bytes (b 2)]])] σ
      fun fl m' σ₁ => fl = .ret (.bool true) ∧ ∃ es, σ₁ 108 = some (.tab es) := by
  with_reducible refine' seg_intro ?hseg ?hrest
  case hseg => rfl
  intro A₀ A base h₀ outer fa cdv pin
  have K' := K
  cases K'
  with_reducible refine ws_cons ?_
  iterate 1 walk_at "fw"
  refine we_listM ?_
  iterate 1 walk_at "fw"
  refine we_bytes ?_
  iterate 1 walk_at "fw"
  refine we_bytes ?_
  iterate 1 walk_at "fw"
  refine we_bytes ?_
  repeat walk_at "fw"
  intro pc p0
  repeat walk_at "fw"
  refine tc_inst (c := 102) (by assumption) (by assumption) (by assumption) (by assumption) fun s0 p1 => srcInit K (AHeap.set_same ..) ⟨rfl, ?_⟩
  rw [AHeap.set_set]
  repeat walk_at "fw"
  refine tc_inst (c := 102) (by assumption) (by assumption) (by assumption) (by assumption) fun s1 p2 => srcInit K (AHeap.set_same ..) ⟨rfl, ?_⟩
  rw [AHeap.set_set]
  repeat walk_at "fw"
  refine tc_inst (c := 102) (by assumption) (by assumption) (by assumption) (by assumption) fun s2 p3 => srcInit0 K (AHeap.set_same ..) ⟨rfl, ?_⟩
  rw [AHeap.set_set]
  repeat walk_at "fw"
  refine tc_inst (c := 102) (by assumption) (by assumption) (by assumption) (by assumption) fun s3 p4 => srcInit K (AHeap.set_same ..) ⟨rfl, ?_⟩
  rw [AHeap.set_set]
  repeat walk_at "fw"
  refine t2_mulLst rfl (by decide) (by decide) (by decide) ?_
  refine t2_catM rfl rfl (by decide) fun r0 p5 => ?_
  repeat walk_at "fw"
  refine t2_mulLst rfl (by decide) (by decide) (by decide) ?_
  refine t2_catM rfl rfl (by decide) fun r1 p6 => ?_
  iterate 2 walk_at "fw"
  refine we_listM ?_
  repeat walk_at "fw"
  intro g p7
  repeat walk_at "fw"
  refine t2_mulObjM (xs := [.none]) (AHeap.set_same ..) (by decide) (by decide) (by decide) fun r2 p8 => ?_
  repeat walk_at "fw"
  refine t2_mulLst rfl (by decide) (by decide) (by decide) ?_
  refine t2_catM rfl rfl (by decide) fun r3 p9 => ?_
  iterate 6 walk_at "fw"
  have X0 : Hx σ (ad12 0 (fun _ => 0) (fun _ => 0) pa) (· ∈ [(3, 0), (3, 1), (3, 2), (4, 0)]) (obj12 b (fun _ => 0) S12i) := by
    refine ⟨fun y hy => ?_, fun x y hx hy hxy => ?_⟩
    · simp only [List.mem_cons, List.not_mem_nil, or_false] at hy
      rcases hy with rfl | rfl | rfl | rfl
      · exact hp 0 (by omega)
      · exact hp 1 (by omega)
      · exact hp 2 (by omega)
      · exact ht
    · have key : ∀ j, j < 3 → pa j ≠ 108 := fun j hj q => by have := hp j hj; rw [q, ht] at this; cases this
      simp only [List.mem_cons, List.not_mem_nil, or_false] at hx hy
      rcases hx with rfl | rfl | rfl | rfl <;> rcases hy with rfl | rfl | rfl | rfl
      all_goals first
        | exact absurd rfl hxy
        | exact key _ (by decide)
        | exact Ne.symm (key _ (by decide))
        | exact fun q => absurd (hpi _ _ (by decide) (by decide) q) (by decide)
  have X1 := X0.newL (0, 0) (.list [.bytes #[], .bytes #[], .bytes #[]]) p0 (by decide)
  have X2 := X1.newL (1, 0) (.inst 102 (srcA (.str (Str.ofString "b")) .none .none .none .none)) p1 (by decide)
  have X3 := X2.newL (1, 1) (.inst 102 (srcA (.str (Str.ofString "")) .none .none .none .none)) p2 (by decide)
  have X4 := X3.newL (1, 2) (.inst 102 (srcA .none .none .none .none .none)) p3 (by decide)
  have X5 := X4.newL (1, 3) (.inst 102 (srcA (.str (Str.ofString "c")) .none .none .none .none)) p4 (by decide)
  have X6 := X5.newL (2, 0) (.list [.str (Str.ofString "b"), .none, .none, .none, .none]) p5 (by decide)
  have X7 := X6.newL (2, 1) (.list [.str (Str.ofString ""), .none, .none, .none, .none]) p6 (by decide)
  have X8 := X7.off (v := .list [.none]) p7
  have X9 := X8.newL (2, 2) (.list [.none, .none, .none, .none, .none]) p8 (by decide)
  have X10 := X9.newL (2, 3) (.list [.str (Str.ofString "c"), .none, .none, .none, .none]) p9 (by decide)
  have hc' : ((((((((((σ.set pc (.list [.bytes #[], .bytes #[], .bytes #[]])).set s0 (.inst 102 (srcA (.str (Str.ofString "b")) .none .none .none .none))).set s1 (.inst 102 (srcA (.str (Str.ofString "")) .none .none .none .none))).set s2 (.inst 102 (srcA .none .none .none .none .none))).set s3 (.inst 102 (srcA (.str (Str.ofString "c")) .none .none .none .none))).set r0 (.list [.str (Str.ofString "b"), .none, .none, .none, .none])).set r1 (.list [.str (Str.ofString ""), .none, .none, .none, .none])).set g (.list [.none])).set r2 (.list [.none, .none, .none, .none, .none])).set r3 (.list [.str (Str.ofString "c"), .none, .none, .none, .none])) (L + 1) = some (.cell (some (.lst (ns.map .int)))) :=
    AHeap.le_set p9 _ _ (AHeap.le_set p8 _ _ (AHeap.le_set p7 _ _ (AHeap.le_set p6 _ _ (AHeap.le_set p5 _ _ (AHeap.le_set p4 _ _ (AHeap.le_set p3 _ _ (AHeap.le_set p2 _ _ (AHeap.le_set p1 _ _ (AHeap.le_set p0 _ _ hc)))))))))
  change WA C 20 _ _ _ _ ((((((((((σ.set pc (.list [.bytes #[], .bytes #[], .bytes #[]])).set s0 (.inst 102 (srcA (.str (Str.ofString "b")) .none .none .none .none))).set s1 (.inst 102 (srcA (.str (Str.ofString "")) .none .none .none .none))).set s2 (.inst 102 (srcA .none .none .none .none .none))).set s3 (.inst 102 (srcA (.str (Str.ofString "c")) .none .none .none .none))).set r0 (.list [.str (Str.ofString "b"), .none, .none, .none, .none])).set r1 (.list [.str (Str.ofString ""), .none, .none, .none, .none])).set g (.list [.none])).set r2 (.list [.none, .none, .none, .none, .none])).set r3 (.list [.str (Str.ofString "c"), .none, .none, .none, .none])) _
  generalize ((((((((((σ.set pc (.list [.bytes #[], .bytes #[], .bytes #[]])).set s0 (.inst 102 (srcA (.str (Str.ofString "b")) .none .none .none .none))).set s1 (.inst 102 (srcA (.str (Str.ofString "")) .none .none .none .none))).set s2 (.inst 102 (srcA .none .none .none .none .none))).set s3 (.inst 102 (srcA (.str (Str.ofString "c")) .none .none .none .none))).set r0 (.list [.str (Str.ofString "b"), .none, .none, .none, .none])).set r1 (.list [.str (Str.ofString ""), .none, .none, .none, .none])).set g (.list [.none])).set r2 (.list [.none, .none, .none, .none, .none])).set r3 (.list [.str (Str.ofString "c"), .none, .none, .none, .none])) = σf at X10 hc' ⊢
  clear X0 X1 X2 X3 X4 X5 X6 X7 X8 X9 p0 p1 p2 p3 p4 p5 p6 p7 p8 p9 hp hc ht
  have H : Hx σf (ad12 pc (fun i => [s0, s1, s2, s3].getD i 0) (fun i => [r0, r1, r2, r3].getD i 0) pa) Live12 (obj12 b (ad12 pc (fun i => [s0, s1, s2, s3].getD i 0) (fun i => [r0, r1, r2, r3].getD i 0) pa) S12i) := by
    refine ((X10.sub (L' := Live12) ?_).addr ?_).obj ?_
    · refine live_cases (by decide) ?_ ?_ ?_ (by decide)
      · intro i hi
        obtain rfl | rfl | rfl | rfl : i = 0 ∨ i = 1 ∨ i = 2 ∨ i = 3 := by omega
        all_goals decide
      · intro i hi
        obtain rfl | rfl | rfl | rfl : i = 0 ∨ i = 1 ∨ i = 2 ∨ i = 3 := by omega
        all_goals decide
      · intro i hi
        obtain rfl | rfl | rfl : i = 0 ∨ i = 1 ∨ i = 2 := by omega
        all_goals decide
    · refine live_cases rfl ?_ ?_ ?_ rfl
      · intro i hi
        obtain rfl | rfl | rfl | rfl : i = 0 ∨ i = 1 ∨ i = 2 ∨ i = 3 := by omega
        all_goals rfl
      · intro i hi
        obtain rfl | rfl | rfl | rfl : i = 0 ∨ i = 1 ∨ i = 2 ∨ i = 3 := by omega
        all_goals rfl
      · intro i hi
        obtain rfl | rfl | rfl : i = 0 ∨ i = 1 ∨ i = 2 := by omega
        all_goals rfl
    · refine live_cases rfl ?_ ?_ ?_ rfl
      · intro i hi
        obtain rfl | rfl | rfl | rfl : i = 0 ∨ i = 1 ∨ i = 2 ∨ i = 3 := by omega
        all_goals rfl
      · intro i hi
        obtain rfl | rfl | rfl | rfl : i = 0 ∨ i = 1 ∨ i = 2 ∨ i = 3 := by omega
        all_goals rfl
      · intro i hi
        obtain rfl | rfl | rfl : i = 0 ∨ i = 1 ∨ i = 2 := by omega
        all_goals rfl
  clear X10
  have sS : σf s2 = some (.inst 102 (srcV fun _ => .none)) := H.at_ (1, 2) (show (2 : Nat) < 4 by decide)
  have hcS : L + 1 ≠ s2 := fun q => by rw [q, sS] at hc'; cases hc'
  have H' : Hx (σf.set s2 (.inst 102 (srcV fun _ => .none))) (ad12 pc (fun i => [s0, s1, s2, s3].getD i 0) (fun i => [r0, r1, r2, r3].getD i 0) pa) Live12 (obj12 b (ad12 pc (fun i => [s0, s1, s2, s3].getD i 0) (fun i => [r0, r1, r2, r3].getD i 0) pa) S12i) := by
    refine (H.set (x := (1, 2)) (v := .inst 102 (srcV fun _ => .none)) (show (2 : Nat) < 4 by decide)).obj fun y hy => ?_
    by_cases e : y = (1, 2)
    · subst e; rw [up_same]; rfl
    · rw [up_ne _ _ e]
  have G : G12 (σf.set s2 (.inst 102 (srcV fun _ => .none))) (ad12 pc (fun i => [s0, s1, s2, s3].getD i 0) (fun i => [r0, r1, r2, r3].getD i 0) pa) b S12i := ⟨H', rfl, fun j hj => Nat.zero_le _, hb, T12_ok, fun i j hi hj => by cases hj⟩
  repeat walk_at "fw"
  refine t2_item (y := .obj s2) rfl (by decide) (by decide) rfl ?_
  repeat walk_at "fw"
  refine tc_fn (by assumption) (told12 K (v := fun _ => .none) sS (fun _ _ => rfl) ?_)
  repeat walk_at "fw"
  refine t2_mulLst rfl (by decide) (by decide) (by decide) ?_
  refine t2_neS (k := 1) (Rd.lst (xs := [.none, .none, .none, .none]) (.cons .none (.cons .none (.cons .none (.cons .none .nil))))) (Rd.lst (xs := [.none, .none, .none, .none]) (.cons .none (.cons .none (.cons .none (.cons .none .nil))))) (Dk.list (k := 0) fun d hd => ?_) ?_
  · simp at hd; rw [hd]; exact Dk.none
  repeat walk_at "fw"
  with_reducible refine wt_value ?_ ?hwv
  case hwv => intro _; rfl
  repeat walk_at "fw"
  refine t2_item (y := .obj s2) rfl (by decide) (by decide) rfl ?_
  repeat walk_at "fw"
  refine tc_fn (by assumption) (washed12 K sS ?_)
  repeat walk_at "fe"
  with_reducible refine ws_nil ?_
  with_reducible show WS _ _ _ _ _ _ _
  with_reducible refine WS.weaken (m' := [(Str.ofString "octets", octL b), (Str.ofString "streams", strL b (ad12 pc (fun i => [s0, s1, s2, s3].getD i 0) (fun i => [r0, r1, r2, r3].getD i 0) pa)), (Str.ofString "pieces", .obj (ad12 pc (fun i => [s0, s1, s2, s3].getD i 0) (fun i => [r0, r1, r2, r3].getD i 0) pa (0, 0))), (Str.ofString "sources", fourL (ad12 pc (fun i => [s0, s1, s2, s3].getD i 0) (fun i => [r0, r1, r2, r3].getD i 0) pa) 1), (Str.ofString "record", fourL (ad12 pc (fun i => [s0, s1, s2, s3].getD i 0) (fun i => [r0, r1, r2, r3].getD i 0) pa) 2)]) ?h1 (AHeap.le_refl _) ?_
  case h1 => exact Has.sub ⟨rfl, rfl, rfl, rfl, rfl, trivial⟩
  have hcx := (AHeap.set_ne _ (.inst 102 (srcV fun _ => .none)) hcS).trans hc'
  with_reducible refine' seg_elim (loop12 K hns G hcx) ?ho _ _ _ _ _ _ _ _
  case ho => rfl
end
end Mine

open PySem PySem.W PyProof.Rows PySem.Calls
namespace Mine

theorem drop3 {x y z v : AVal} {j : Nat} {xs : List AVal} (h : v :: xs = ([x, y, z] : List AVal).drop j) : j < 3 ∧ v = ([x, y, z] : List AVal).getD j .none ∧ xs = ([x, y, z] : List AVal).drop (j + 1) := by
  match j with
  | 0 => cases h; exact ⟨by omega, rfl, rfl⟩
  | 1 => cases h; exact ⟨by omega, rfl, rfl⟩
  | 2 => cases h; exact ⟨by omega, rfl, rfl⟩
  | n + 3 => simp at h
section
variable {C : Cx}
set_option maxHeartbeats 8000000 in
theorem streams12 (K : K12 C) (hC : CodeHd C.H 112 108) {ns : List Int} (hns : ns.length ≤ 63) {b : Nat → Array UInt8} {σ : AHeap} {L : Nat} (hc : σ (L + 1) = some (.cell (some (.lst (ns.map .int))))) (ht : σ 108 = some (.tab [])) (hb : ∀ j, j < 3 → (b j).size ≤ 70) :
    Seg PySem.Challenge.pw_dn0301_12 7 [] 1 fun scope ss => ∀ A₀ A base h₀ outer fa cdv pin, WS C 20 ⟨A₀, A, base, h₀, outer, L, fa, Str.ofString "law", scope, cdv, [(Str.ofString "script", L + 1)], pin, none⟩ ss
      [(Str.ofString "octets", octL b)] σ
      fun fl m' σ₁ => fl = .ret (.bool true) ∧ ∃ es, σ₁ 108 = some (.tab es) := by
  with_reducible refine' seg_intro ?hseg ?hrest
  case hseg => rfl
  intro A₀ A base h₀ outer fa cdv pin
  have K' := K
  cases K'
  with_reducible refine ws_cons ?_
  refine w1_assignComp (cl := []) (fun rest ys σ' => ∃ (j : Nat) (pa : Nat → Addr), j ≤ 3 ∧ rest = ([.bytes (b 0), .bytes (b 1), .bytes (b 2)] : List AVal).drop j ∧ ys = (List.range j).map (fun i => AVal.clos read12 [.obj (pa i), .bytes (b i)]) ∧ σ' (L + 1) = some (.cell (some (.lst (ns.map .int)))) ∧ (∃ es, σ' 108 = some (.tab es) ∧ tb12 es ∧ (0 < j → es = [(pos12, read12.qual)])) ∧ (∀ i, i < j → σ' (pa i) = some (.list [.int 0])) ∧ (∀ i k, i < j → k < j → pa i = pa k → i = k)) rfl ?_ ?_ ?_
  · with_reducible refine wi ?_
    repeat walk_at "fw"
    exact ti_lst ⟨rfl, by rw [sizeLine_eq]; show 3 ≤ _; decide, 0, fun _ => 0, by omega, rfl, rfl, hc, ⟨[], ht, .inl rfl, fun h => absurd h (by omega)⟩, fun i hi => absurd hi (by omega), fun i k hi => absurd hi (by omega)⟩
  · rintro pin c v xs ys σ' ⟨j, pa, hj3, hr, rfl, g1, ⟨es, g2, g3, g4⟩, g5, g6⟩ hcn
    obtain ⟨hj, hv, rfl⟩ := drop3 hr
    have hv' : v = .bytes (b j) := by
      rw [hv]
      obtain rfl | rfl | rfl : j = 0 ∨ j = 1 ∨ j = 2 := by omega
      all_goals rfl
    subst hv'
    refine wq_nil ?_
    rw [if_pos rfl]
    repeat walk_at "fw"
    have n8 : (108 : Addr) ≠ c := hp_ne g2 hcn
    refine tc_fn (by assumption) (stream12 K hC ((AHeap.set_ne _ _ n8).trans g2) g3 fun p hp => ?_)
    have pc : c ≠ p := hp_ne (AHeap.set_same ..) hp
    have hp' : σ' p = none := (AHeap.set_ne _ _ (Ne.symm pc)).symm.trans hp
    have n8p : (108 : Addr) ≠ p := hp_ne g2 hp'
    have keep : ∀ x o, σ' x = some o → x ≠ 108 → (((σ'.set c (.ns [(Str.ofString "row", .bytes (b j))])).set p (.list [.int 0])).set 108 (.tab [(pos12, read12.qual)])).del c x = some o := fun x o hx h8 => by
      have xc : x ≠ c := hp_ne hx hcn
      rw [AHeap.del_ne _ xc, AHeap.set_ne _ _ h8, AHeap.set_ne _ _ (hp_ne hx hp'), AHeap.set_ne _ _ xc]; exact hx
    have f108 : ∀ x o, σ' x = some o → (∀ t, o ≠ .tab t) → x ≠ 108 := fun x o hx hn q => by rw [q, g2] at hx; cases hx; exact hn _ rfl
    have hpp : (((σ'.set c (.ns [(Str.ofString "row", .bytes (b j))])).set p (.list [.int 0])).set 108 (.tab [(pos12, read12.qual)])).del c p = some (.list [.int 0]) := by
      rw [AHeap.del_ne _ (Ne.symm pc), AHeap.set_ne _ _ (Ne.symm n8p)]; exact AHeap.set_same ..
    refine ⟨⟨_, (AHeap.set_ne _ _ (Ne.symm n8)).trans ((AHeap.set_ne _ _ pc).trans (AHeap.set_same ..))⟩, _, AHeap.del_le _ c, AHeap.del_same _ c, j + 1, up pa j p, by omega, rfl, ?_, keep _ _ g1 (f108 _ _ g1 (by intro t e; cases e)), ⟨_, (AHeap.del_ne _ n8).trans (AHeap.set_same ..), .inr rfl, fun _ => rfl⟩, fun i hi => ?_, fun i k hi hk e => ?_⟩
    · rw [List.range_succ, List.map_append, List.map_singleton, up_same]
      congr 1
      refine List.map_congr_left fun i hi => ?_
      have : i ≠ j := by have := List.mem_range.mp hi; omega
      rw [up_ne _ _ this]
    · by_cases e : i = j
      · subst e; rw [up_same]; exact hpp
      · rw [up_ne _ _ e]
        have := g5 i (by omega)
        exact keep _ _ this (f108 _ _ this (by intro t e; cases e))
    · have old : ∀ i, i < j → pa i ≠ p := fun i hi => hp_ne (g5 i hi) hp'
      by_cases ei : i = j
      · by_cases ek : k = j
        · omega
        · subst ei; rw [up_same, up_ne _ _ ek] at e; exact absurd e.symm (old k (by omega))
      · by_cases ek : k = j
        · subst ek; rw [up_same, up_ne _ _ ei] at e; exact absurd e (old i (by omega))
        · rw [up_ne _ _ ei, up_ne _ _ ek] at e; exact g6 i k (by omega) (by omega) e
  · rintro pin ys σ' ⟨j, pa, hj3, hr, rfl, g1, ⟨es, g2, g3, g4⟩, g5, g6⟩
    have hj : j = 3 := by
      match j, hj3, hr with
      | 0, _, hr => cases hr
      | 1, _, hr => cases hr
      | 2, _, hr => cases hr
      | 3, _, _ => rfl
    subst hj
    rw [g4 (by omega)] at g2
    refine ts_local rfl ?_
    dsimp only [Fm.withPin]
    with_reducible show WS _ _ _ _ _ _ _
    with_reducible refine WS.weaken (m' := [(Str.ofString "octets", octL b), (Str.ofString "streams", .lst [.clos read12 [.obj (pa 0), .bytes (b 0)], .clos read12 [.obj (pa 1), .bytes (b 1)], .clos read12 [.obj (pa 2), .bytes (b 2)]])]) ?h1 (AHeap.le_refl _) ?_
    case h1 => exact Has.sub ⟨rfl, rfl, trivial⟩
    with_reducible refine' seg_elim (mid12 K hns g1 g5 g6 g2 hb) ?ho _ _ _ _ _ _ _ _
    case ho => rfl
end
end Mine

open PySem PySem.W PyProof.Rows PySem.Calls
namespace Mine

def byteL (L : List Int) (j : Nat) : List Int := L.map fun (x : Int) => (x.fdiv ((3 : Int) ^ j) + (j : Int)).fmod 256
def oct12 (ns : List Int) (j : Nat) : Array UInt8 := byteArr (byteL ([0, 101, 202] ++ ns) j)
section
variable {C : Cx}
set_option maxHeartbeats 8000000 in
theorem start12 (K : K12 C) (hC : CodeHd C.H 112 108) {ns : List Int} (hns : ns.length ≤ 63) {σ : AHeap} {L : Nat} (hc : σ (L + 1) = some (.cell (some (.lst (ns.map .int))))) (ht : σ 108 = some (.tab [])) :
    Seg PySem.Challenge.pw_dn0301_12 7 [] 0 fun scope ss => ∀ A₀ A base h₀ outer fa cdv pin, WS C 20 ⟨A₀, A, base, h₀, outer, L, fa, Str.ofString "law", scope, cdv, [(Str.ofString "script", L + 1)], pin, none⟩ ss
      [] σ
      fun fl m' σ₁ => fl = .ret (.bool true) ∧ ∃ es, σ₁ 108 = some (.tab es) := by
  with_reducible refine' seg_intro ?hseg ?hrest
  case hseg => rfl
  intro A₀ A base h₀ outer fa cdv pin
  have K' := K
  cases K'
  with_reducible refine ws_cons ?_
  refine w1_assignCompC (cl := [(Str.ofString "script", L + 1)]) (fun rest ys σ' => ∃ j : Nat, j ≤ 3 ∧ rest = (rngL 0 1 3).drop j ∧ ys = (List.range j).map (fun i => AVal.bytes (oct12 ns i)) ∧ σ' = σ) rfl ?_ ?_ ?_
  · with_reducible refine wi ?_
    repeat walk_at "fw"
    refine tc_range1 ?_
    exact ti_rng (k := 3) (rng_small1 (by omega) (by omega)) (rng_size1' (k := 3)) ⟨rfl, by rw [rngL_length, sizeLine_eq]; decide, 0, by omega, rfl, rfl, rfl⟩
  · rintro pin c cx v xs ys σ' ⟨j, hj3, hr, rfl, rfl⟩ hcn hxn hne
    obtain ⟨hj, rfl, rfl⟩ := rngL_cons hr
    have e0 : (0 + (j : Int) * 1) = j := by omega
    rw [e0]
    have n1 : L + 1 ≠ cx := hp_ne hc hxn
    have n2 : L + 1 ≠ c := hp_ne hc hcn
    have s1 : ((σ'.set cx (.cell (some (.int j)))).set c (.ns [])) (L + 1) = some (.cell (some (.lst (ns.map .int)))) := by
      rw [AHeap.set_ne _ _ n2, AHeap.set_ne _ _ n1]; exact hc
    have s2 : ((σ'.set cx (.cell (some (.int j)))).set c (.ns [])) cx = some (.cell (some (.int j))) := by
      rw [AHeap.set_ne _ _ (Ne.symm hne)]; exact AHeap.set_same ..
    have s3 : ((σ'.set cx (.cell (some (.int j)))).set c (.ns [])) c = some (.ns []) := AHeap.set_same ..
    have s4 : σ'.le ((σ'.set cx (.cell (some (.int j)))).set c (.ns [])) := AHeap.le_trans (AHeap.le_set hxn) (AHeap.le_set (by rw [AHeap.set_ne _ _ hne]; exact hcn))
    generalize (σ'.set cx (.cell (some (.int j)))).set c (.ns []) = σ1 at s1 s2 s3 s4 ⊢
    refine wq_nil ?_
    rw [if_pos rfl]
    repeat walk_at "fw"
    refine we_compG (scope' := ⟨.function, [(Str.ofString ".0", .local), (Str.ofString "x", .local), (Str.ofString "j", .cell)], false, false, []⟩) (cl := [(Str.ofString "j", cx)]) (fun back rest ys' σ'' => back = id ∧ ∃ us : List Int, rest = us.map .int ∧ ∃ ws : List Int, ws ++ us = [0, 101, 202] ++ ns ∧ ys' = (byteL ws j).map .int ∧ σ'' = σ1) rfl ?_ ?_ ?_
    · with_reducible refine wi ?_
      repeat walk_at "fw"
      refine t2_cat rfl rfl (by simp [sizeLine_eq]; omega) ?_
      exact ti_lst ⟨by simp [sizeLine_eq]; omega, rfl, [0, 101, 202] ++ ns, by simp, [], rfl, rfl, rfl⟩
    · rintro back pin' c' v' xs' ys' σ'' ⟨rfl, us, hus, ws, hws, rfl, rfl⟩ hcn'
      cases us with
      | nil => cases hus
      | cons u us =>
        cases hus
        refine wq_nil ?_
        rw [if_pos rfl]
        have p0 : (3 : Int) ^ j ≠ 0 ∧ ((3 : Int) ^ j).natAbs < 1073741824 := by
          obtain rfl | rfl | rfl : j = 0 ∨ j = 1 ∨ j = 2 := by omega
          all_goals decide
        repeat walk_at "fw"
        refine t2_pow (by omega) (by omega) (by decide) ?_
        rw [show ((j : Int)).toNat = j by omega]
        refine t2_div p0.1 p0.2 ?_
        repeat walk_at "fw"
        refine ⟨⟨_, AHeap.set_same ..⟩, σ'', AHeap.le_set hcn', hcn', rfl, us, rfl, ws ++ [u], by rw [List.append_assoc]; exact hws, ?_, rfl⟩
        simp [byteL]
    · rintro back ys' σ'' ⟨rfl, us, hus, ws, hws, rfl, rfl⟩
      obtain rfl : us = [] := by cases us with
        | nil => rfl
        | cons u us => cases hus
      rw [List.append_nil] at hws
      subst hws
      repeat walk_at "fw"
      refine tc_bytes rfl (fun z hz => ?_) (by simp [byteL, sizeLine_eq]; omega) ?_
      · obtain ⟨x, _, rfl⟩ := List.mem_map.mp hz
        exact fmod_range _ (by decide)
      refine ⟨⟨_, s3⟩, ⟨_, s2⟩, σ', s4, hcn, hxn, j + 1, by omega, rfl, ?_, rfl⟩
      rw [List.range_succ, List.map_append]
      rfl
  · rintro pin ys σ' ⟨j, hj3, hr, rfl, rfl⟩
    have hj := rngL_nil hr
    obtain rfl : j = 3 := by omega
    refine ts_local rfl ?_
    dsimp only [Fm.withPin]
    with_reducible show WS _ _ _ _ _ _ _
    with_reducible refine WS.weaken (m' := [(Str.ofString "octets", octL (oct12 ns))]) ?h1 (AHeap.le_refl _) ?_
    case h1 => exact Has.sub ⟨rfl, trivial⟩
    have hb : ∀ j, j < 3 → (oct12 ns j).size ≤ 70 := fun j hj => by
      unfold oct12
      rw [byteArr_size]
      simp [byteL]; omega
    with_reducible refine' seg_elim (streams12 K hC hns hc ht hb) ?ho _ _ _ _ _ _ _ _
    case ho => rfl
end
end Mine
set_option maxHeartbeats 8000000 in
theorem PySem.Challenge.cw_dn0301_12_holds : PySem.Challenge.rw_dn0301_12.Holds :=
  Mine.hd12 (by
  w_strict (k_go0
            refine' Mine.enterTC (P := 108) ?cs ?ml ?B ?X ?T ?hL ?hI ?F ?N ?hPL ?Y ?hk ?hn ?hcs ?hck ?hml ?h ?hQ
            case B => assumption
            case X => assumption
            case T => assumption
            case hL => assumption
            case hI => assumption
            case F => assumption
            case Y => assumption
            case hPL => assumption
            case hk => rfl
            case hn => omega
            case hck => decide +kernel
            case cs => exact (fun L => [(Str.ofString "script", L + 1)])
            case ml => exact (fun v => [])
            case hcs => intro L; kernel_rfl
            case hml => intro v; kernel_rfl
            case N => assumption
            case hQ =>
              intro h' tk mc' F' G'
              refine ⟨?_, G', trivial⟩
              wrow_close
            case h =>
              intro A₀ A base h₀ outer L ns hPL hns
              generalize hC' : Mine.Cx.mk _ _ _ _ _ _ _ _ _ _ = C
              have K : Mine.K12 C := by subst hC'; exact Mine.k12 rfl
              have hC : PySem.W.CodeHd C.H 112 108 := by subst hC'; exact codeHd
              clear hC'
              have hne : (108 : PySem.Addr) ≠ L + 1 := Nat.ne_of_lt (Nat.lt_succ_of_lt hPL)
              have key := Mine.start12 K hC hns (σ := Mine.AHeap.set (Mine.AHeap.set (fun _ => none) 108 (.tab [])) (L + 1) (.cell (some (.lst (ns.map .int))))) (L := L) (Mine.AHeap.set_same ..) ((Mine.AHeap.set_ne _ _ hne).trans (Mine.AHeap.set_same ..))
              exact Mine.seg_elim key rfl _ _ _ _ _ _ _ _))

