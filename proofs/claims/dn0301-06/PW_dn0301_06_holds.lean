import PyProof.Rows.All
import Wide.All
import OpenK.AllK
import Wide.FinOn
import Lean
import PySem.Challenge.RW_dn0301_06
set_option compiler.extract_closed false
open PySem PySem.W PyProof.Rows PySem.Calls
set_option Elab.async false
set_option maxRecDepth 100000
set_option linter.unusedVariables false
namespace Mine

/-! ## abstract values, objects, contexts -/
/-- a def inside a def, as the text has it -/
structure Clo where
  name : Str
  qual : Str
  params : Arguments
  body : FuncBody
  scope : Scope
  free : List Str
inductive AVal where
  | none
  | bool (b : Bool)
  | int (i : Int)
  | str (s : Str)
  | bytes (b : Array UInt8)
  | raw (v : Value)
  | obj (a : Addr)
  | fin (C : Addr)
  | lst (xs : List AVal)
  | tup (xs : List AVal)
  | rng (a b c : Int)
  | clos (d : Clo) (xs : List AVal)
  | meth (g : Addr) (x : AVal)

inductive AObj where
  | inst (C : Addr) (as : List (Str × AVal))
  | list (xs : List AVal)
  | dict (es : List (Int × AVal))
  | cell (v : Option AVal)
  | ns (as : List (Str × AVal))
  | tab (es : List (Pos × Str))

structure Cx where
  prog : Program
  w : World
  K : Frag
  vp : Program
  loose : List Str
  mean : ExcName → Option Value
  mg : Str → Option Value
  mb : Str → Option Value
  H : Heap
  fr : List (Addr × AVal)

abbrev Fz := List (Addr × Obj)
def At (C : Cx) (fz : Fz) (a : Addr) (o : Obj) : Prop := (a, o) ∈ fz ∨ C.H.get? a = some o
theorem At.mono {C : Cx} {fz fz' : Fz} (h : ∀ p ∈ fz, p ∈ fz') {a : Addr} {o : Obj} (x : At C fz a o) : At C fz' a o := x.imp (h _) id

abbrev cloObj (d : Clo) (cs : List Addr) (doc pm : Value) (c : Addr) (ctv : Value) : Obj :=
  { cls := .type "function", data := .func { name := d.name, qualname := d.qual, params := d.params, body := d.body, scope := d.scope, globals := mainGlobals, closure := d.free.zip cs, defaults := .none, kwdefaults := .none, doc, pyModule := pm, annotations := none, code := .ref c, closureTuple := ctv, builtins := builtinsNs } }
abbrev tupOf (vs : List Value) : Obj := { cls := .type "tuple", data := .seq vs.toArray }

mutual
inductive V (P : Addr → Obj → Prop) : Value → AVal → Prop
  | none : V P .none .none
  | bool (b : Bool) : V P (.bool b) (.bool b)
  | int (i : Int) (t : Tok) : V P (.int i t) (.int i)
  | str (x : Str) (t : Tok) : V P (.str x t) (.str x)
  | bytes (b : Array UInt8) (t : Tok) : V P (.bytes b t) (.bytes b)
  | raw (v : Value) : V P v (.raw v)
  | obj (a : Addr) : V P (.ref a) (.obj a)
  | fin {a d C : Addr} : P a (instObj C d) → P d (dictOf [] 0) → V P (.ref a) (.fin C)
  | lst {a : Addr} {o : Obj} {n : Nat} {vs : List Value} {xs : List AVal} : P a o → o.cls = .type "list" → o.data = .seq vs.toArray n → Vs P vs xs → V P (.ref a) (.lst xs)
  | tup {a : Addr} {o : Obj} {n : Nat} {vs : List Value} {xs : List AVal} : P a o → o.cls = .type "tuple" → o.data = .seq vs.toArray n → Vs P vs xs → V P (.ref a) (.tup xs)
  | rng {r : Addr} {a b c : Int} {t u v : Tok} : P r { cls := .type "range", dict := none, data := .fields #[.int a t, .int b u, .int c v], slots := #[] } → V P (.ref r) (.rng a b c)
  | clos {a c : Addr} {oc : Obj} {vs : Array Value} {t : Tok} {d : Clo} {cs : List Addr} {doc pm ctv : Value} {xs : List AVal} : P a (cloObj d cs doc pm c ctv) → P c oc → oc.data = .fields vs → vs[1]? = some (.str d.qual t) → Cs P cs xs → V P (.ref a) (.clos d xs)
  | meth {a g : Addr} {v : Value} {x : AVal} : P a (methodObj (.ref g) v) → V P v x → V P (.ref a) (.meth g x)
inductive Vs (P : Addr → Obj → Prop) : List Value → List AVal → Prop
  | nil : Vs P [] []
  | cons {v : Value} {av : AVal} {vs : List Value} {xs : List AVal} : V P v av → Vs P vs xs → Vs P (v :: vs) (av :: xs)
inductive Cs (P : Addr → Obj → Prop) : List Addr → List AVal → Prop
  | nil : Cs P [] []
  | cons {c : Addr} {o : Obj} {v : Value} {x : AVal} {cs : List Addr} {xs : List AVal} : P c o → o.data = .cell (some v) → V P v x → Cs P cs xs → Cs P (c :: cs) (x :: xs)
end

mutual
theorem V.mono {P P' : Addr → Obj → Prop} (k : ∀ a o, P a o → P' a o) : ∀ {v : Value} {x : AVal}, V P v x → V P' v x
  | _, _, .none => .none
  | _, _, .bool b => .bool b
  | _, _, .int i t => .int i t
  | _, _, .str x t => .str x t
  | _, _, .bytes b t => .bytes b t
  | _, _, .raw v => .raw v
  | _, _, .obj a => .obj a
  | _, _, .fin h1 h2 => .fin (k _ _ h1) (k _ _ h2)
  | _, _, .lst h1 h2 h3 h4 => .lst (k _ _ h1) h2 h3 (Vs.mono k h4)
  | _, _, .tup h1 h2 h3 h4 => .tup (k _ _ h1) h2 h3 (Vs.mono k h4)
  | _, _, .rng h1 => .rng (k _ _ h1)
  | _, _, .clos h1 h2 h3 h4 h5 => .clos (k _ _ h1) (k _ _ h2) h3 h4 (Cs.mono k h5)
  | _, _, .meth h1 h2 => .meth (k _ _ h1) (V.mono k h2)
theorem Vs.mono {P P' : Addr → Obj → Prop} (k : ∀ a o, P a o → P' a o) : ∀ {vs : List Value} {xs : List AVal}, Vs P vs xs → Vs P' vs xs
  | _, _, .nil => .nil
  | _, _, .cons h1 h2 => .cons (V.mono k h1) (Vs.mono k h2)
theorem Cs.mono {P P' : Addr → Obj → Prop} (k : ∀ a o, P a o → P' a o) : ∀ {vs : List Addr} {xs : List AVal}, Cs P vs xs → Cs P' vs xs
  | _, _, .nil => .nil
  | _, _, .cons h1 h2 h3 h4 => .cons (k _ _ h1) h2 (V.mono k h3) (Cs.mono k h4)
end
theorem V.up {C : Cx} {fz fz' : Fz} (h : ∀ p ∈ fz, p ∈ fz') {v : Value} {x : AVal} (a : V (At C fz) v x) : V (At C fz') v x := a.mono fun _ _ => At.mono h
theorem Vs.up {C : Cx} {fz fz' : Fz} (h : ∀ p ∈ fz, p ∈ fz') {v : List Value} {x : List AVal} (a : Vs (At C fz) v x) : Vs (At C fz') v x := a.mono fun _ _ => At.mono h
theorem Vs.length {P : Addr → Obj → Prop} : ∀ {vs : List Value} {xs : List AVal}, Vs P vs xs → vs.length = xs.length
  | _, _, .nil => rfl
  | _, _, .cons _ h => by simp [h.length]
theorem Vs.append {P : Addr → Obj → Prop} : ∀ {vs : List Value} {xs : List AVal} {ws : List Value} {ys : List AVal}, Vs P vs xs → Vs P ws ys → Vs P (vs ++ ws) (xs ++ ys)
  | _, _, _, _, .nil, h => h
  | _, _, _, _, .cons a b, h => .cons a (b.append h)
theorem Vs.get {P : Addr → Obj → Prop} : ∀ {vs : List Value} {xs : List AVal}, Vs P vs xs → ∀ {i : Nat} {x : AVal}, xs[i]? = some x → ∃ v, vs[i]? = some v ∧ V P v x
  | _, _, .nil, _, _, e => by simp at e
  | _, _, .cons a b, 0, _, e => by simp at e; subst e; exact ⟨_, rfl, a⟩
  | _, _, .cons a b, i + 1, _, e => by simp at e; obtain ⟨v, h1, h2⟩ := b.get e; exact ⟨v, by simpa using h1, h2⟩
theorem Vs.set {P : Addr → Obj → Prop} : ∀ {vs : List Value} {xs : List AVal}, Vs P vs xs → ∀ (i : Nat) {v : Value} {x : AVal}, V P v x → Vs P (vs.set i v) (xs.set i x)
  | _, _, .nil, _, _, _, _ => .nil
  | _, _, .cons a b, 0, _, _, h => .cons h b
  | _, _, .cons a b, i + 1, _, _, h => .cons a (b.set i h)
theorem Vs.reverse {P : Addr → Obj → Prop} : ∀ {vs : List Value} {xs : List AVal}, Vs P vs xs → Vs P vs.reverse xs.reverse
  | _, _, .nil => .nil
  | _, _, .cons a b => by simp only [List.reverse_cons]; exact b.reverse.append (.cons a .nil)

/-! ## attribute dicts -/
inductive Es (P : Addr → Obj → Prop) : List DictEntry → List (Str × AVal) → Prop
  | nil : Es P [] []
  | cons {h : Int} {x : Str} {t : Tok} {v : Value} {av : AVal} {es : List DictEntry} {as : List (Str × AVal)} : V P v av → Es P es as → Es P (⟨h, .str x t, v⟩ :: es) ((x, av) :: as)
def getA (x : Str) : List (Str × AVal) → Option AVal
  | [] => none
  | (y, a) :: r => if y == x then some a else getA x r
def setA (x : Str) (v : AVal) : List (Str × AVal) → List (Str × AVal)
  | [] => [(x, v)]
  | (y, a) :: r => if y == x then (y, v) :: r else (y, a) :: setA x v r
theorem Es.mono {P P' : Addr → Obj → Prop} (k : ∀ a o, P a o → P' a o) : ∀ {es : List DictEntry} {as : List (Str × AVal)}, Es P es as → Es P' es as
  | _, _, .nil => .nil
  | _, _, .cons a b => .cons (a.mono k) (b.mono k)
theorem Es.length {P : Addr → Obj → Prop} : ∀ {es : List DictEntry} {as : List (Str × AVal)}, Es P es as → es.length = as.length
  | _, _, .nil => rfl
  | _, _, .cons _ b => by simp [b.length]
theorem Es.noRef {P : Addr → Obj → Prop} : ∀ {es : List DictEntry} {as : List (Str × AVal)}, Es P es as → es.any (·.refKey) = false
  | _, _, .nil => rfl
  | _, _, .cons _ b => by rw [List.any_cons, b.noRef]; rfl
theorem getL_cons_hit {x : Str} {e : DictEntry} {es : List DictEntry} (h : e.key.isStr x = true) : getL x (e :: es) = some (some e.val) := by
  unfold getL; rw [List.find?_cons, h]
theorem Es.get_some {P : Addr → Obj → Prop} {x : Str} : ∀ {es : List DictEntry} {as : List (Str × AVal)}, Es P es as → ∀ {a : AVal}, getA x as = some a → ∃ v, getL x es = some (some v) ∧ V P v a
  | _, _, .nil, _, e => by cases e
  | _, _, .cons (h := hh) (x := y) (t := t) (v := v) (es := es) (as := as) q b, a, e => by
    unfold getA at e
    by_cases hy : (y == x) = true
    · rw [if_pos hy] at e; cases e
      exact ⟨v, getL_cons_hit hy, q⟩
    · rw [if_neg hy] at e
      obtain ⟨u, h1, h2⟩ := b.get_some e
      refine ⟨u, ?_, h2⟩
      have hy' : Value.isStr (.str y t) x = false := by show (y == x) = false; exact Bool.eq_false_iff.mpr hy
      unfold getL at h1 ⊢
      rw [List.find?_cons]
      simp only [hy']
      revert h1
      cases List.find? (fun x_1 => x_1.key.isStr x) es with
      | none => intro h1; rw [List.any_cons]; revert h1; cases es.any (·.refKey) <;> intro h1 <;> cases h1
      | some e' => exact id
theorem Es.get_none {P : Addr → Obj → Prop} {x : Str} : ∀ {es : List DictEntry} {as : List (Str × AVal)}, Es P es as → getA x as = none → getL x es = some none
  | _, _, .nil, _ => rfl
  | _, _, .cons (h := hh) (x := y) (t := t) (v := v) (es := es) (as := as) q b, e => by
    unfold getA at e
    by_cases hy : (y == x) = true
    · rw [if_pos hy] at e; cases e
    · rw [if_neg hy] at e
      have h1 := b.get_none e
      have hy' : Value.isStr (.str y t) x = false := by show (y == x) = false; exact Bool.eq_false_iff.mpr hy
      unfold getL at h1 ⊢
      rw [List.find?_cons]
      simp only [hy']
      revert h1
      cases List.find? (fun x_1 => x_1.key.isStr x) es with
      | none => rw [List.any_cons, b.noRef]; intro _; rfl
      | some e' => exact id
theorem Es.isSome {P : Addr → Obj → Prop} {x : Str} {es : List DictEntry} {as : List (Str × AVal)} (h : Es P es as) : (getL x es).isSome = true := by
  cases q : getA x as with
  | none => rw [h.get_none q]; rfl
  | some a => obtain ⟨v, e, _⟩ := h.get_some q; rw [e]; rfl
theorem Es.put {P : Addr → Obj → Prop} {x : Str} {hh : Int} {t : Tok} {v : Value} {a : AVal} (hv : V P v a) : ∀ {es : List DictEntry} {as : List (Str × AVal)}, Es P es as → Es P (putL x hh (.str x t) v es) (setA x a as)
  | _, _, .nil => .cons hv .nil
  | _, _, .cons (h := h') (x := y) (t := t') (v := v') (es := es) (as := as) q b => by
    unfold putL setA
    by_cases hy : (y == x) = true
    · have hy' : Value.isStr (.str y t') x = true := hy
      rw [if_pos hy, if_pos hy']; exact .cons hv b
    · have hy' : ¬ Value.isStr (.str y t') x = true := hy
      rw [if_neg hy, if_neg hy']; exact .cons q (b.put hv)

/-! ## abstract heap -/
abbrev AHeap := Addr → Option AObj
def AHeap.set (σ : AHeap) (a : Addr) (o : AObj) : AHeap := fun b => if b = a then some o else σ b
@[simp] theorem AHeap.set_same (σ : AHeap) (a : Addr) (o : AObj) : σ.set a o a = some o := if_pos rfl
theorem AHeap.set_ne (σ : AHeap) {a b : Addr} (o : AObj) (h : b ≠ a) : σ.set a o b = σ b := if_neg h
def AHeap.le (σ σ' : AHeap) : Prop := ∀ a o, σ a = some o → σ' a = some o

/-- what stands under names -/
def ER (P : Addr → Obj → Prop) (m : List (Str × AVal)) (mc : Str → Option Value) : Prop := ∀ x a, getA x m = some a → ∃ v, mc x = some v ∧ V P v a
theorem ER.mono {P P' : Addr → Obj → Prop} (k : ∀ a o, P a o → P' a o) {m : List (Str × AVal)} {mc : Str → Option Value} (h : ER P m mc) : ER P' m mc := fun x a e => by obtain ⟨v, h1, h2⟩ := h x a e; exact ⟨v, h1, h2.mono k⟩
/-- a dict with whole numbers as keys -/
inductive Ks (P : Addr → Obj → Prop) : List (Int × Value) → List (Int × AVal) → Prop
  | nil : Ks P [] []
  | cons {k : Int} {v : Value} {a : AVal} {kvs : List (Int × Value)} {es : List (Int × AVal)} : V P v a → Ks P kvs es → Ks P ((k, v) :: kvs) ((k, a) :: es)
theorem Ks.mono {P P' : Addr → Obj → Prop} (k : ∀ a o, P a o → P' a o) : ∀ {kvs : List (Int × Value)} {es : List (Int × AVal)}, Ks P kvs es → Ks P' kvs es
  | _, _, .nil => .nil
  | _, _, .cons a b => .cons (a.mono k) (b.mono k)
/-- a code's table of the codes made in it -/
inductive Tb (P : Addr → Obj → Prop) : List Value → List (Pos × Str) → Prop
  | nil : Tb P [] []
  | cons {pos : Pos} {qual : Str} {c : Addr} {oc : Obj} {vs : Array Value} {t : Tok} {ps : List Value} {es : List (Pos × Str)} : P c oc → oc.data = .fields vs → vs[1]? = some (.str qual t) → Tb P ps es → Tb P (rawInt pos.line :: rawInt pos.col :: .ref c :: ps) ((pos, qual) :: es)
theorem Tb.mono {P P' : Addr → Obj → Prop} (k : ∀ a o, P a o → P' a o) : ∀ {ps : List Value} {es : List (Pos × Str)}, Tb P ps es → Tb P' ps es
  | _, _, .nil => .nil
  | _, _, .cons a b c d => .cons (k _ _ a) b c (Tb.mono k d)
def OR (P : Addr → Obj → Prop) (news : List (Addr × Obj)) (d a : Addr) : AObj → Prop
  | .inst C as => (a, instObj C d) ∈ news ∧ ∃ es n, (d, dictOf es n) ∈ news ∧ Es P es as
  | .list xs => ∃ vs n, (a, listOf vs.toArray n) ∈ news ∧ Vs P vs xs
  | .dict es => ∃ o kvs, (a, o) ∈ news ∧ (∀ prog w, o.IsDictOf (intKind prog w) kvs) ∧ Ks P kvs es
  | .ns as => ∃ o mc, (a, o) ∈ news ∧ LCg.NsObj o mc ∧ ER P as mc
  | .tab es => ∃ ps, (a, tabObj ps) ∈ news ∧ Tb P ps.toList es
  | .cell none => ∃ o, (a, o) ∈ news ∧ o.data = .cell none
  | .cell (some x) => ∃ o v, (a, o) ∈ news ∧ o.data = .cell (some v) ∧ V P v x

structure HR (C : Cx) (fz pin : Fz) (σ : AHeap) (δ : Addr → Addr) (news : List (Addr × Obj)) : Prop where
  sub : ∀ p ∈ fz ++ pin, p ∈ news
  apart : ∀ p ∈ fz, ∀ q ∈ pin, p.1 ≠ q.1
  ob : ∀ a ao, σ a = some ao → OR (At C fz) news (δ a) a ao
  off : ∀ a ao, σ a = some ao → ∀ p ∈ fz ++ pin, p.1 ≠ a
  doff : ∀ a c as, σ a = some (.inst c as) → ∀ p ∈ fz ++ pin, p.1 ≠ δ a
  dσ : ∀ a c as, σ a = some (.inst c as) → σ (δ a) = none
  free : ∀ p ∈ C.fr, ∃ o v, At C fz p.1 o ∧ o.data = .cell (some v) ∧ V (At C fz) v p.2
  dinj : ∀ a c as b c' bs, σ a = some (.inst c as) → σ b = some (.inst c' bs) → δ a = δ b → a = b

theorem OR.key {P : Addr → Obj → Prop} {news : List (Addr × Obj)} {d a : Addr} {o : AObj} (h : OR P news d a o) : ∃ o', (a, o') ∈ news := by
  cases o with
  | inst C as => exact ⟨_, h.1⟩
  | list xs => obtain ⟨vs, n, h, _⟩ := h; exact ⟨_, h⟩
  | dict es => obtain ⟨o, kvs, h, _⟩ := h; exact ⟨o, h⟩
  | ns as => obtain ⟨o, mc, h, _⟩ := h; exact ⟨o, h⟩
  | tab es => obtain ⟨ps, h, _⟩ := h; exact ⟨_, h⟩
  | cell v => cases v with
    | none => obtain ⟨o, h, _⟩ := h; exact ⟨o, h⟩
    | some v => obtain ⟨o, _, h, _⟩ := h; exact ⟨o, h⟩
theorem OR.mono {P P' : Addr → Obj → Prop} {news news' : List (Addr × Obj)} {d a : Addr} {o : AObj} (k : ∀ a o, P a o → P' a o) (h : OR P news d a o) (hn : ∀ o', (a, o') ∈ news → (a, o') ∈ news') (hd : ∀ c as, o = .inst c as → ∀ o', (d, o') ∈ news → (d, o') ∈ news') : OR P' news' d a o := by
  cases o with
  | inst C as => obtain ⟨h1, es, n, h2, h3⟩ := h; exact ⟨hn _ h1, es, n, hd _ _ rfl _ h2, h3.mono k⟩
  | list xs => obtain ⟨vs, n, h1, h2⟩ := h; exact ⟨vs, n, hn _ h1, h2.mono k⟩
  | dict es => obtain ⟨o, kvs, h1, h2, h3⟩ := h; exact ⟨o, kvs, hn _ h1, h2, h3.mono k⟩
  | ns as => obtain ⟨o, mc, h1, h2, h3⟩ := h; exact ⟨o, mc, hn _ h1, h2, h3.mono k⟩
  | tab es => obtain ⟨ps, h1, h2⟩ := h; exact ⟨ps, hn _ h1, h2.mono k⟩
  | cell v => cases v with
    | none => obtain ⟨o, h1, h2⟩ := h; exact ⟨o, hn _ h1, h2⟩
    | some v => obtain ⟨o, v, h1, h2, h3⟩ := h; exact ⟨o, v, hn _ h1, h2, h3.mono k⟩

/-! ## frames, the state -/
structure Fm where
  A₀ : Around
  A : Around
  base : Heap
  h₀ : Heap
  outer : List Env
  L : Addr
  a : Addr
  cn : Str
  cs : Scope
  ccd : Value
  cl : List (Str × Addr)
  pin : Fz
  comp : Option (Scope × List (Str × Addr) × Addr)
@[reducible] def Fm.withPin (f : Fm) (p : Fz) : Fm := { f with pin := p }
/-- the function's own surroundings -/
@[reducible] def Fm.fenv (f : Fm) : Env := envX f.cn f.cs f.L f.a f.ccd f.cl
/-- those of a row built in it -/
@[reducible] def Fm.envOn (f : Fm) : Option (Scope × List (Str × Addr) × Addr) → Env
  | none => f.fenv
  | some (sc, cl, c) => compEnvC sc cl c f.fenv
@[reducible] def Fm.env (f : Fm) : Env := f.envOn f.comp
@[reducible] def Fm.withComp (f : Fm) (k : Option (Scope × List (Str × Addr) × Addr)) (p : Fz) : Fm := { f with comp := k, pin := p }

structure Fm.Ok (C : Cx) (n : Nat) (f : Fm) : Prop where
  below : Below f.A₀ f.base f.outer f.h₀
  kin : C.K.In f.h₀
  top : Top C.vp C.loose C.mean C.mg C.mb f.h₀
  hk : ∀ b o, C.H.get? b = some o → f.h₀.get? b = some o
  stack : f.A.frames = some (f.fenv :: f.outer)
  handled : f.A.handled = none
  guards : f.A.guards = some []
  depth : f.A.depth + 3 * n < recursionLimit
  units : f.A.units + 10 * n + 100 < cLine
  kind : f.cs.kind = .function
  ckind : f.env.scope.kind = .function

abbrev AEnv := List (Str × AVal)
def AEnv.get (m : AEnv) (x : Str) : Option AVal := getA x m
def AEnv.set (m : AEnv) (x : Str) (v : AVal) : AEnv := setA x v m
theorem getA_setA {x y : Str} {v : AVal} : ∀ {m : List (Str × AVal)}, getA y (setA x v m) = if y = x then some v else getA y m
  | [] => by
    unfold setA getA
    by_cases h : y = x
    · simp [h]
    · have : ¬ (x = y) := fun e => h e.symm
      simp [h, this, getA]
  | (z, a) :: r => by
    unfold setA
    by_cases hz : (z == x) = true
    · rw [if_pos hz]
      have hz' : z = x := by simpa using hz
      subst hz'
      unfold getA
      by_cases h : y = z
      · simp [h]
      · have : ¬ (z = y) := fun e => h e.symm
        simp [h, this]
    · rw [if_neg hz]
      unfold getA
      by_cases h : (z == y) = true
      · rw [if_pos h, if_pos h]
        have hz' : z = y := by simpa using h
        subst hz'
        have : ¬ z = x := by simpa using hz
        rw [if_neg this]
      · rw [if_neg h, if_neg h]; exact getA_setA
def SR (C : Cx) (f : Fm) (fz : Fz) (m : AEnv) (σ : AHeap) (s : Shared) : Prop :=
  ∃ mc news δ, Fr f.h₀ f.L s.heap mc ∧ News f.h₀ f.L s.heap news ∧ HR C fz f.pin σ δ news ∧ ER (At C fz) m mc
def Same (s s' : Shared) : Prop := ∃ h tk, s' = { s with heap := h, toks := tk }
theorem Same.rfl {s : Shared} : Same s s := ⟨s.heap, s.toks, by cases s; exact Eq.refl _⟩
theorem Same.mk {s : Shared} {h : Heap} {tk : Nat} : Same s { s with heap := h, toks := tk } := ⟨h, tk, Eq.refl _⟩
theorem Same.trans {s s₁ s₂ : Shared} (a : Same s s₁) (b : Same s₁ s₂) : Same s s₂ := by
  obtain ⟨h, t, e⟩ := a; obtain ⟨h', t', e'⟩ := b; subst e; subst e'; exact ⟨h', t', Eq.refl _⟩

section
variable {C : Cx} {f : Fm} {fz : Fz} {m : AEnv} {σ : AHeap} {s : Shared}
theorem SR.at_ {n : Nat} (ok : f.Ok C n) (x : SR C f fz m σ s) {a : Addr} {o : Obj} (h : At C fz a o) : s.heap.get? a = some o := by
  obtain ⟨mc, news, δ, F, N, R, _⟩ := x
  rcases h with h | h
  · exact (N _ (R.sub _ (List.mem_append_left _ h))).1
  · exact F.keep _ _ (ok.hk _ _ h)
theorem SR.weaken (x : SR C f fz m σ s) {m' : AEnv} {σ' : AHeap} (hm : ∀ y a, m'.get y = some a → m.get y = some a) (hσ : σ'.le σ) : SR C f fz m' σ' s := by
  obtain ⟨mc, news, δ, F, N, R, e⟩ := x
  refine ⟨mc, news, δ, F, N, ⟨R.sub, R.apart, fun a o h => R.ob a o (hσ _ _ h), fun a o h => R.off a o (hσ _ _ h), fun a c as h => R.doff a c as (hσ _ _ h), fun a c as h => ?_, R.free, fun a c as b c' bs h1 h2 => R.dinj a c as b c' bs (hσ _ _ h1) (hσ _ _ h2)⟩, fun y a h => e y a (hm _ _ h)⟩
  cases q : σ' (δ a) with
  | none => rfl
  | some o => have := hσ _ _ q; rw [R.dσ a c as (hσ _ _ h)] at this; cases this
theorem news_lt {h₀ h : Heap} {L : Addr} {news : List (Addr × Obj)} (N : News h₀ L h news) {p : Addr × Obj} (hp : p ∈ news) : p.1 < h.objs.size := Heap.lt_size (N p hp).1

/-- a heap that only grew -/
theorem SR.grow (x : SR C f fz m σ s) {h' : Heap} {t : Nat} (k : ∀ b o, s.heap.get? b = some o → h'.get? b = some o) : SR C f fz m σ { s with heap := h', toks := t } := by
  obtain ⟨mc, news, δ, F, N, R, e⟩ := x
  exact ⟨mc, news, δ, F.grownK k, fun p hp => ⟨k _ _ (N p hp).1, (N p hp).2⟩, R, e⟩

/-- new objects, frozen from the start -/
theorem SR.freeze (x : SR C f fz m σ s) {h' : Heap} {t : Nat} (k : ∀ b o, s.heap.get? b = some o → h'.get? b = some o) (new : List (Addr × Obj)) (hn : ∀ p ∈ new, s.heap.get? p.1 = none ∧ s.heap.objs.size ≤ p.1 ∧ h'.get? p.1 = some p.2) :
    SR C f (new ++ fz) m σ { s with heap := h', toks := t } := by
  obtain ⟨mc, news, δ, F, N, R, e⟩ := x
  have key : ∀ a ao, σ a = some ao → a < s.heap.objs.size := fun a ao h => by obtain ⟨o, h⟩ := (R.ob a ao h).key; exact news_lt N h
  have dkey : ∀ a c as, σ a = some (.inst c as) → δ a < s.heap.objs.size := fun a c as h => by obtain ⟨_, es, n, h, _⟩ := R.ob a _ h; exact news_lt N h
  have up : ∀ p ∈ fz, p ∈ new ++ fz := fun p hp => List.mem_append_right _ hp
  have split : ∀ p ∈ (new ++ fz) ++ f.pin, p ∈ new ∨ p ∈ fz ++ f.pin := fun p hp => by
    rw [List.append_assoc] at hp; exact List.mem_append.mp hp
  refine ⟨mc, new ++ news, δ, F.grownK k, fun p hp => ?_, ⟨fun p hp => ?_, fun p hp q hq => ?_, fun a ao h => ?_, fun a ao h p hp => ?_, fun a c as h p hp => ?_, R.dσ, fun p hp => let ⟨o, v, a, b, c⟩ := R.free p hp; ⟨o, v, a.mono up, b, c.up up⟩, R.dinj⟩, fun y a h => ?_⟩
  · rcases List.mem_append.mp hp with hp | hp
    · obtain ⟨h1, h2, h3⟩ := hn p hp
      refine ⟨h3, fun q => ?_, ?_⟩
      · obtain ⟨oL, _, _, hL, _⟩ := F.ns; rw [q, hL] at h1; cases h1
      · cases q : f.h₀.get? p.1 with
        | none => rfl
        | some o => rw [F.keep _ _ q] at h1; cases h1
    · exact ⟨k _ _ (N p hp).1, (N p hp).2⟩
  · rcases split p hp with hp | hp
    · exact List.mem_append_left _ hp
    · exact List.mem_append_right _ (R.sub _ hp)
  · rcases List.mem_append.mp hp with hp | hp
    · exact fun e => absurd (news_lt N (R.sub _ (List.mem_append_right _ hq))) (Nat.not_lt.mpr (e ▸ (hn p hp).2.1))
    · exact R.apart p hp q hq
  · exact (R.ob a ao h).mono (fun _ _ => At.mono up) (fun _ q => List.mem_append_right _ q) fun _ _ _ _ q => List.mem_append_right _ q
  · rcases split p hp with hp | hp
    · exact fun q => absurd (key a ao h) (Nat.not_lt.mpr (q ▸ (hn p hp).2.1))
    · exact R.off a ao h p hp
  · rcases split p hp with hp | hp
    · exact fun q => absurd (dkey a c as h) (Nat.not_lt.mpr (q ▸ (hn p hp).2.1))
    · exact R.doff a c as h p hp
  · obtain ⟨v, h1, h2⟩ := e y a h; exact ⟨v, h1, h2.up up⟩
end
end Mine

open PySem PySem.W PyProof.Rows PySem.Calls
namespace Mine
def upd (news : List (Addr × Obj)) (D : Addr) (o : Obj) : List (Addr × Obj) := (D, o) :: news.filter (fun p => decide (p.1 ≠ D))
theorem mem_upd {news : List (Addr × Obj)} {D : Addr} {o : Obj} {p : Addr × Obj} (h : p ∈ news) (hn : p.1 ≠ D) : p ∈ upd news D o :=
  List.mem_cons_of_mem _ (List.mem_filter.mpr ⟨h, by simpa using hn⟩)
theorem news_upd' {h₀ h h' : Heap} {L D : Addr} {news : List (Addr × Obj)} {o o' : Obj} (N : News h₀ L h news) (hD : (D, o) ∈ news) (hs : Heap.SameBut D h h') (ho : h'.get? D = some o') : News h₀ L h' (upd news D o') := by
  intro p hp
  rcases List.mem_cons.mp hp with rfl | hp
  · exact ⟨ho, (N _ hD).2⟩
  · obtain ⟨h1, h2⟩ := List.mem_filter.mp hp
    have h2 : p.1 ≠ D := by simpa using h2
    exact ⟨(hs.2 _ h2).trans (N p h1).1, (N p h1).2⟩

section
variable {C : Cx} {f : Fm} {fz : Fz} {m : AEnv} {σ : AHeap} {s : Shared}

theorem SR.list (x : SR C f fz m σ s) {a : Addr} {xs : List AVal} (h : σ a = some (.list xs)) : ∃ vs n, s.heap.get? a = some (listOf vs.toArray n) ∧ Vs (At C fz) vs xs := by
  obtain ⟨mc, news, δ, F, N, R, e⟩ := x
  obtain ⟨vs, n, h1, h2⟩ := R.ob a _ h
  exact ⟨vs, n, (N _ h1).1, h2⟩
theorem SR.inst (x : SR C f fz m σ s) {a c : Addr} {as : List (Str × AVal)} (h : σ a = some (.inst c as)) : ∃ d es n, s.heap.get? a = some (instObj c d) ∧ s.heap.get? d = some (dictOf es n) ∧ Es (At C fz) es as := by
  obtain ⟨mc, news, δ, F, N, R, e⟩ := x
  obtain ⟨h1, es, n, h2, h3⟩ := R.ob a _ h
  exact ⟨_, es, n, (N _ h1).1, (N _ h2).1, h3⟩
theorem SR.cell (x : SR C f fz m σ s) {a : Addr} {v : AVal} (h : σ a = some (.cell (some v))) : ∃ o u, s.heap.get? a = some o ∧ o.data = .cell (some u) ∧ V (At C fz) u v := by
  obtain ⟨mc, news, δ, F, N, R, e⟩ := x
  obtain ⟨o, u, h1, h2, h3⟩ := R.ob a _ h
  exact ⟨o, u, (N _ h1).1, h2, h3⟩
theorem SR.lt (x : SR C f fz m σ s) {a : Addr} {o : AObj} (h : σ a = some o) : a < s.heap.objs.size := by
  obtain ⟨mc, news, δ, F, N, R, e⟩ := x
  obtain ⟨o, h⟩ := (R.ob a _ h).key; exact news_lt N h
theorem SR.fresh (x : SR C f fz m σ s) {a : Addr} (h : s.heap.objs.size ≤ a) : σ a = none := by
  cases q : σ a with
  | none => rfl
  | some o => exact absurd (x.lt q) (Nat.not_lt.mpr h)

/-- a list's, a cell's object is changed -/
theorem SR.change (x : SR C f fz m σ s) {a : Addr} {ao ao' : AObj} {h' : Heap} {t : Nat} {o' : Obj} (h : σ a = some ao) (hn : ∀ c as, ao ≠ .inst c as) (hn' : ∀ c as, ao' ≠ .inst c as) (hs : Heap.SameBut a s.heap h') (ho : h'.get? a = some o')
    (hr : ∀ news d, (a, o') ∈ news → OR (At C fz) news d a ao') : SR C f fz m (σ.set a ao') { s with heap := h', toks := t } := by
  obtain ⟨mc, news, δ, F, N, R, e⟩ := x
  obtain ⟨o, hm⟩ := (R.ob a _ h).key
  have dn : ∀ b c as, σ b = some (.inst c as) → δ b ≠ a := fun b c as hb q => by have := R.dσ b c as hb; rw [q, h] at this; cases this
  have keep : ∀ {b c as}, σ.set a ao' b = some (.inst c as) → b ≠ a ∧ σ b = some (.inst c as) := fun {b c as} hb => by
    by_cases q : b = a
    · subst q; rw [AHeap.set_same] at hb; exact absurd (Option.some.inj hb) (hn' c as)
    · rw [AHeap.set_ne _ _ q] at hb; exact ⟨q, hb⟩
  refine ⟨mc, upd news a o', δ, F.change hs (N _ hm).2.1 (N _ hm).2.2, news_upd' N hm hs ho, ⟨fun p hp => mem_upd (R.sub p hp) (R.off a _ h p hp), R.apart, fun b bo hb => ?_, fun b bo hb p hp => ?_, fun b c as hb p hp => R.doff b c as (keep hb).2 p hp, fun b c as hb => ?_, R.free, fun b c as b' c' bs h1 h2 => R.dinj b c as b' c' bs (keep h1).2 (keep h2).2⟩, e⟩
  · by_cases q : b = a
    · subst q; rw [AHeap.set_same] at hb; cases hb; exact hr _ _ (List.mem_cons_self ..)
    · rw [AHeap.set_ne _ _ q] at hb
      exact (R.ob b bo hb).mono (fun _ _ x => x) (fun _ hm => mem_upd hm q) fun c as eb _ hm => mem_upd hm (dn b c as (eb ▸ hb))
  · by_cases q : b = a
    · subst q; exact R.off b _ h p hp
    · rw [AHeap.set_ne _ _ q] at hb; exact R.off b bo hb p hp
  · rw [AHeap.set_ne _ _ (dn b c as (keep hb).2)]; exact R.dσ b c as (keep hb).2
theorem SR.setList (x : SR C f fz m σ s) {a : Addr} {xs xs' : List AVal} {h' : Heap} {t n : Nat} {vs' : List Value} (h : σ a = some (.list xs)) (hs : Heap.SameBut a s.heap h') (ho : h'.get? a = some (listOf vs'.toArray n)) (hv : Vs (At C fz) vs' xs') :
    SR C f fz m (σ.set a (.list xs')) { s with heap := h', toks := t } := x.change h (fun _ _ => nofun) (fun _ _ => nofun) hs ho fun _ _ hm => ⟨_, _, hm, hv⟩
/-- new mutable things -/
theorem SR.newThing (x : SR C f fz m σ s) {a : Addr} {ao : AObj} {h' : Heap} {t : Nat} {o : Obj} (hn : ∀ c as, ao ≠ .inst c as) (k : ∀ b o, s.heap.get? b = some o → h'.get? b = some o) (ha : s.heap.objs.size ≤ a) (ho : h'.get? a = some o)
    (hr : ∀ news d, (a, o) ∈ news → OR (At C fz) news d a ao) : SR C f fz m (σ.set a ao) { s with heap := h', toks := t } := by
  have hσ := x.fresh ha
  obtain ⟨mc, news, δ, F, N, R, e⟩ := x
  have hnone : s.heap.get? a = none := by
    cases q : s.heap.get? a with
    | none => rfl
    | some o => exact absurd (Heap.lt_size q) (Nat.not_lt.mpr ha)
  have nn : ∀ p ∈ news, p.1 ≠ a := fun p hp q => absurd (news_lt N hp) (Nat.not_lt.mpr (q ▸ ha))
  have keep : ∀ {b c as}, σ.set a ao b = some (.inst c as) → b ≠ a ∧ σ b = some (.inst c as) := fun {b c as} hb => by
    by_cases q : b = a
    · subst q; rw [AHeap.set_same] at hb; exact absurd (Option.some.inj hb) (hn c as)
    · rw [AHeap.set_ne _ _ q] at hb; exact ⟨q, hb⟩
  have dn : ∀ b c as, σ b = some (.inst c as) → δ b ≠ a := fun b c as hb => by obtain ⟨_, es, n, h, _⟩ := R.ob b _ hb; exact nn _ h
  refine ⟨mc, (a, o) :: news, δ, F.grownK k, fun p hp => ?_, ⟨fun p hp => .tail _ (R.sub p hp), R.apart, fun b bo hb => ?_, fun b bo hb p hp => ?_, fun b c as hb p hp => R.doff b c as (keep hb).2 p hp, fun b c as hb => ?_, R.free, fun b c as b' c' bs h1 h2 => R.dinj b c as b' c' bs (keep h1).2 (keep h2).2⟩, e⟩
  · rcases List.mem_cons.mp hp with rfl | hp
    · refine ⟨ho, fun q => ?_, ?_⟩
      · obtain ⟨oL, _, _, hL, _⟩ := F.ns; dsimp only at q; rw [q, hL] at hnone; cases hnone
      · cases q : f.h₀.get? a with
        | none => rfl
        | some o => rw [F.keep _ _ q] at hnone; cases hnone
    · exact ⟨k _ _ (N p hp).1, (N p hp).2⟩
  · by_cases q : b = a
    · subst q; rw [AHeap.set_same] at hb; cases hb; exact hr _ _ (List.mem_cons_self ..)
    · rw [AHeap.set_ne _ _ q] at hb
      exact (R.ob b bo hb).mono (fun _ _ x => x) (fun _ hm => .tail _ hm) fun c as eb _ hm => .tail _ hm
  · by_cases q : b = a
    · subst q; exact nn _ (R.sub p hp)
    · rw [AHeap.set_ne _ _ q] at hb; exact R.off b bo hb p hp
  · rw [AHeap.set_ne _ _ (dn b c as (keep hb).2)]; exact R.dσ b c as (keep hb).2
theorem SR.newList (x : SR C f fz m σ s) {a : Addr} {xs : List AVal} {h' : Heap} {t n : Nat} {vs : List Value} (k : ∀ b o, s.heap.get? b = some o → h'.get? b = some o) (ha : s.heap.objs.size ≤ a) (ho : h'.get? a = some (listOf vs.toArray n)) (hv : Vs (At C fz) vs xs) :
    SR C f fz m (σ.set a (.list xs)) { s with heap := h', toks := t } := x.newThing (fun _ _ => nofun) k ha ho fun _ _ hm => ⟨_, _, hm, hv⟩
/-- a name of the frame is stored -/
theorem SR.store (x : SR C f fz m σ s) {y : Str} {v : Value} {a : AVal} (hv : V (At C fz) v a) :
    ∃ mc news, Fr f.h₀ f.L s.heap mc ∧ News f.h₀ f.L s.heap news ∧ ∀ h' t, Fr f.h₀ f.L h' (fun z => if z = y then some v else mc z) → News f.h₀ f.L h' news → SR C f fz (m.set y a) σ { s with heap := h', toks := t } := by
  obtain ⟨mc, news, δ, F, N, R, e⟩ := x
  refine ⟨mc, news, F, N, fun h' t F' N' => ⟨_, news, δ, F', N', R, fun z b hz => ?_⟩⟩
  unfold AEnv.get AEnv.set at hz
  rw [getA_setA] at hz
  by_cases q : z = y
  · rw [if_pos q] at hz; cases hz; exact ⟨v, if_pos q, hv⟩
  · rw [if_neg q] at hz; obtain ⟨u, h1, h2⟩ := e z b hz; exact ⟨u, (if_neg q).trans h1, h2⟩
end
end Mine

open PySem PySem.W PyProof.Rows PySem.Calls
namespace Mine
abbrev Md (C : Cx) : Model := model C.prog C.w

def PV (C : Cx) (f : Fm) (m : AEnv) (fz : Fz) (s : Shared) (Q : AVal → AHeap → Prop) (v : Value) (s' : Shared) : Prop :=
  ∃ fz' σ' a, (∀ p ∈ fz, p ∈ fz') ∧ Same s s' ∧ SR C f fz' m σ' s' ∧ V (At C fz') v a ∧ Q a σ'
def PL (C : Cx) (f : Fm) (m : AEnv) (fz : Fz) (s : Shared) (Q : List AVal → AHeap → Prop) (v : List Value) (s' : Shared) : Prop :=
  ∃ fz' σ' a, (∀ p ∈ fz, p ∈ fz') ∧ Same s s' ∧ SR C f fz' m σ' s' ∧ Vs (At C fz') v a ∧ Q a σ'
def PB (C : Cx) (f : Fm) (m : AEnv) (fz : Fz) (s : Shared) (Q : Bool → AHeap → Prop) (b : Bool) (s' : Shared) : Prop :=
  ∃ fz' σ', (∀ p ∈ fz, p ∈ fz') ∧ Same s s' ∧ SR C f fz' m σ' s' ∧ Q b σ'
inductive AFlow where
  | next | brk | cont
  | ret (a : AVal)
def FV (P : Addr → Obj → Prop) : Flow → AFlow → Prop
  | .next, .next => True
  | .brk, .brk => True
  | .cont, .cont => True
  | .ret v, .ret a => V P v a
  | _, _ => False
def PS (C : Cx) (f : Fm) (fz : Fz) (s : Shared) (Q : AFlow → AEnv → AHeap → Prop) (fl : Flow) (s' : Shared) : Prop :=
  ∃ fz' σ' m' a, (∀ p ∈ fz, p ∈ fz') ∧ Same s s' ∧ SR C f fz' m' σ' s' ∧ FV (At C fz') fl a ∧ Q a m' σ'

theorem PV.el {C : Cx} {f : Fm} {m : AEnv} {fz : Fz} {s : Shared} {Q : AVal → AHeap → Prop} {v : Value} {s' : Shared} {P : Prop} (h : PV C f m fz s Q v s') (k : ∀ fz' σ' a, (∀ p ∈ fz, p ∈ fz') → Same s s' → SR C f fz' m σ' s' → V (At C fz') v a → Q a σ' → P) : P := by
  obtain ⟨fz', σ', a, h1, h2, h3, h4, h5⟩ := h; exact k fz' σ' a h1 h2 h3 h4 h5
theorem PL.el {C : Cx} {f : Fm} {m : AEnv} {fz : Fz} {s : Shared} {Q : List AVal → AHeap → Prop} {v : List Value} {s' : Shared} {P : Prop} (h : PL C f m fz s Q v s') (k : ∀ fz' σ' a, (∀ p ∈ fz, p ∈ fz') → Same s s' → SR C f fz' m σ' s' → Vs (At C fz') v a → Q a σ' → P) : P := by
  obtain ⟨fz', σ', a, h1, h2, h3, h4, h5⟩ := h; exact k fz' σ' a h1 h2 h3 h4 h5
theorem PB.el {C : Cx} {f : Fm} {m : AEnv} {fz : Fz} {s : Shared} {Q : Bool → AHeap → Prop} {b : Bool} {s' : Shared} {P : Prop} (h : PB C f m fz s Q b s') (k : ∀ fz' σ', (∀ p ∈ fz, p ∈ fz') → Same s s' → SR C f fz' m σ' s' → Q b σ' → P) : P := by
  obtain ⟨fz', σ', h1, h2, h3, h5⟩ := h; exact k fz' σ' h1 h2 h3 h5
theorem PS.el {C : Cx} {f : Fm} {fz : Fz} {s : Shared} {Q : AFlow → AEnv → AHeap → Prop} {fl : Flow} {s' : Shared} {P : Prop} (h : PS C f fz s Q fl s') (k : ∀ fz' σ' m' a, (∀ p ∈ fz, p ∈ fz') → Same s s' → SR C f fz' m' σ' s' → FV (At C fz') fl a → Q a m' σ' → P) : P := by
  obtain ⟨fz', σ', m', a, h1, h2, h3, h4, h5⟩ := h; exact k fz' σ' m' a h1 h2 h3 h4 h5
theorem PU.el {C : Cx} {f : Fm} {fz : Fz} {s : Shared} {Q : AEnv → AHeap → Prop} {s' : Shared} {P : Prop} (h : ∃ fz' σ' m', (∀ p ∈ fz, p ∈ fz') ∧ Same s s' ∧ SR C f fz' m' σ' s' ∧ Q m' σ') (k : ∀ fz' σ' m', (∀ p ∈ fz, p ∈ fz') → Same s s' → SR C f fz' m' σ' s' → Q m' σ' → P) : P := by
  obtain ⟨fz', σ', m', h1, h2, h3, h5⟩ := h; exact k fz' σ' m' h1 h2 h3 h5
theorem PH.el {C : Cx} {f : Fm} {m : AEnv} {fz : Fz} {s : Shared} {Q : AHeap → Prop} {s' : Shared} {P : Prop} (h : ∃ fz' σ', (∀ p ∈ fz, p ∈ fz') ∧ Same s s' ∧ SR C f fz' m σ' s' ∧ Q σ') (k : ∀ fz' σ', (∀ p ∈ fz, p ∈ fz') → Same s s' → SR C f fz' m σ' s' → Q σ' → P) : P := by
  obtain ⟨fz', σ', h1, h2, h3, h5⟩ := h; exact k fz' σ' h1 h2 h3 h5
def WE (C : Cx) (n : Nat) (f : Fm) (e : Expr) (m : AEnv) (σ : AHeap) (Q : AVal → AHeap → Prop) : Prop :=
  f.Ok C n → ∀ fz s E, SR C f fz m σ s → wpAny (Md C) f.A (eval e f.env) (PV C f m fz s Q) E s
def WL (C : Cx) (n : Nat) (f : Fm) (es : List Expr) (pos : Pos) (m : AEnv) (σ : AHeap) (Q : List AVal → AHeap → Prop) : Prop :=
  f.Ok C n → ∀ fz s E, SR C f fz m σ s → wpAny (Md C) f.A (spliced (backTo pos (starEach es f.env))) (PL C f m fz s Q) E s
def WT (C : Cx) (n : Nat) (f : Fm) (e : Expr) (m : AEnv) (σ : AHeap) (Q : Bool → AHeap → Prop) : Prop :=
  f.Ok C n → ∀ fz s E, SR C f fz m σ s → wpAny (Md C) f.A (isTrue e f.env (eval e f.env)) (PB C f m fz s Q) E s
/-- trees over one, two, many values -/
def T1 (C : Cx) (n : Nat) (f : Fm) (t : Value → Sem Value) (a : AVal) (m : AEnv) (σ : AHeap) (Q : AVal → AHeap → Prop) : Prop :=
  f.Ok C n → ∀ fz s E v, SR C f fz m σ s → V (At C fz) v a → wpAny (Md C) f.A (t v) (PV C f m fz s Q) E s
def T2 (C : Cx) (n : Nat) (f : Fm) (t : Value → Value → Sem Value) (a b : AVal) (m : AEnv) (σ : AHeap) (Q : AVal → AHeap → Prop) : Prop :=
  f.Ok C n → ∀ fz s E v w, SR C f fz m σ s → V (At C fz) v a → V (At C fz) w b → wpAny (Md C) f.A (t v w) (PV C f m fz s Q) E s
def TL (C : Cx) (n : Nat) (f : Fm) (t : List Value → Sem Value) (as : List AVal) (m : AEnv) (σ : AHeap) (Q : AVal → AHeap → Prop) : Prop :=
  f.Ok C n → ∀ fz s E vs, SR C f fz m σ s → Vs (At C fz) vs as → wpAny (Md C) f.A (t vs) (PV C f m fz s Q) E s
def TB (C : Cx) (n : Nat) (f : Fm) (t : Value → Sem Bool) (a : AVal) (m : AEnv) (σ : AHeap) (Q : Bool → AHeap → Prop) : Prop :=
  f.Ok C n → ∀ fz s E v, SR C f fz m σ s → V (At C fz) v a → wpAny (Md C) f.A (t v) (PB C f m fz s Q) E s
def W1 (C : Cx) (n : Nat) (f : Fm) (st : Stmt) (m : AEnv) (σ : AHeap) (Q : AFlow → AEnv → AHeap → Prop) : Prop :=
  f.Ok C n → ∀ fz s E, SR C f fz m σ s → wpAny (Md C) f.A (exec st f.env) (PS C f fz s Q) E s
def WS (C : Cx) (n : Nat) (f : Fm) (ss : List Stmt) (m : AEnv) (σ : AHeap) (Q : AFlow → AEnv → AHeap → Prop) : Prop :=
  f.Ok C n → ∀ fz s E, SR C f fz m σ s → wpAny (Md C) f.A (execs ss f.env) (PS C f fz s Q) E s

section
variable {C : Cx} {n : Nat} {f : Fm} {m : AEnv} {σ : AHeap} {s s₁ s' : Shared} {fz fz₁ : Fz}
theorem sub_refl {fz : Fz} : ∀ p ∈ fz, p ∈ fz := fun _ h => h
theorem PV.up {Q : AVal → AHeap → Prop} {v : Value} (h : ∀ p ∈ fz, p ∈ fz₁) (hs : Same s s₁) (x : PV C f m fz₁ s₁ Q v s') : PV C f m fz s Q v s' := by
  obtain ⟨fz', σ', a, h1, h2, h3, h4, h5⟩ := x
  exact ⟨fz', σ', a, fun p hp => h1 p (h p hp), hs.trans h2, h3, h4, h5⟩
theorem PB.up {Q : Bool → AHeap → Prop} {v : Bool} (h : ∀ p ∈ fz, p ∈ fz₁) (hs : Same s s₁) (x : PB C f m fz₁ s₁ Q v s') : PB C f m fz s Q v s' := by
  obtain ⟨fz', σ', h1, h2, h3, h5⟩ := x
  exact ⟨fz', σ', fun p hp => h1 p (h p hp), hs.trans h2, h3, h5⟩
theorem PS.up {Q : AFlow → AEnv → AHeap → Prop} {v : Flow} (h : ∀ p ∈ fz, p ∈ fz₁) (hs : Same s s₁) (x : PS C f fz₁ s₁ Q v s') : PS C f fz s Q v s' := by
  obtain ⟨fz', σ', m', a, h1, h2, h3, h4, h5⟩ := x
  exact ⟨fz', σ', m', a, fun p hp => h1 p (h p hp), hs.trans h2, h3, h4, h5⟩
theorem PV.here {Q : AVal → AHeap → Prop} {v : Value} {a : AVal} (x : SR C f fz m σ s) (hv : V (At C fz) v a) (q : Q a σ) : PV C f m fz s Q v s := ⟨fz, σ, a, sub_refl, .rfl, x, hv, q⟩
theorem PV.tok {Q : AVal → AHeap → Prop} {v : Value} {a : AVal} {t : Nat} (x : SR C f fz m σ s) (hv : V (At C fz) v a) (q : Q a σ) : PV C f m fz s Q v { s with toks := t } := ⟨fz, σ, a, sub_refl, .mk, x, hv, q⟩

/-! ## consequence -/
theorem WS.mono {ss : List Stmt} {Q Q' : AFlow → AEnv → AHeap → Prop} (h : WS C n f ss m σ Q) (k : ∀ a m σ, Q a m σ → Q' a m σ) : WS C n f ss m σ Q' :=
  fun ok fz s E x => wpAny_mono (h ok fz s E x) (fun v s' hq => hq.el fun fz' σ' m' a h1 h2 h3 h4 h5 => ⟨fz', σ', m', a, h1, h2, h3, h4, k _ _ _ h5⟩) fun _ _ x => x
theorem WS.weaken {ss : List Stmt} {m' : AEnv} {σ' : AHeap} {Q : AFlow → AEnv → AHeap → Prop} (hm : ∀ y a, m'.get y = some a → m.get y = some a) (hσ : σ'.le σ) (h : WS C n f ss m' σ' Q) : WS C n f ss m σ Q :=
  fun ok fz s E x => h ok fz s E (x.weaken hm hσ)

/-! ## expressions -/
theorem we_int {i : Int} {k : Nat} {pos : Pos} {Q : AVal → AHeap → Prop} (h : Q (.int i) σ) : WE C n f (.Constant (.int i) k pos) m σ Q :=
  fun ok fz s E x => wpAny_Constant_int (.tok x (.int _ _) h)
theorem we_str {i : Str} {k : Nat} {pos : Pos} {Q : AVal → AHeap → Prop} (h : Q (.str i) σ) : WE C n f (.Constant (.str i) k pos) m σ Q :=
  fun ok fz s E x => wpAny_Constant_str (.tok x (.str _ _) h)
theorem we_none {k : Nat} {pos : Pos} {Q : AVal → AHeap → Prop} (h : Q .none σ) : WE C n f (.Constant .none k pos) m σ Q :=
  fun ok fz s E x => wpAny_Constant_none (.here x .none h)
theorem we_bool {b : Bool} {k : Nat} {pos : Pos} {Q : AVal → AHeap → Prop} (h : Q (.bool b) σ) : WE C n f (.Constant (.bool b) k pos) m σ Q :=
  fun ok fz s E x => wpAny_Constant_bool (.here x (.bool b) h)
theorem we_local {y : Str} {pos : Pos} {a : AVal} {Q : AVal → AHeap → Prop} (hl : f.fenv.kindOf y = some .local) (hv : m.get y = some a) (h : Q a σ) (hd : (y == ("__debug__" : Str)) = false := by decide) (hcm : f.comp = none := by rfl) : WE C n f (.Name y pos) m σ Q := fun ok fz s E x => by
  have x' := x
  obtain ⟨mc, news, δ, F, N, R, e⟩ := x
  obtain ⟨v, h1, h2⟩ := e y a hv
  have he : f.env = f.fenv := by unfold Fm.env; rw [hcm]
  rw [he]
  exact nameX_L F h1 (.here x' h2 h) ok.kind hl hd
theorem we_global {y : Str} {pos : Pos} {v : Value} {Q : AVal → AHeap → Prop} (hl : f.env.kindOf y = some .globalImplicit) (hv : nsIn C.K mainGlobals y = some (some v)) (h : Q (.raw v) σ) (hd : (y == ("__debug__" : Str)) = false := by decide) : WE C n f (.Name y pos) m σ Q := fun ok fz s E x => by
  have x' := x
  obtain ⟨mc, news, δ, F, N, R, e⟩ := x
  have hg : f.env.globals = mainGlobals := by unfold Fm.env; cases f.comp <;> rfl
  have T := topRead_of ok.top
  exact Name_function_global ok.ckind hl (loadGlobal_global (env := f.env) (by rw [hg]; exact T.g.keeps F.keep) (mg_of ok.kin T.g hv) (.here x' (.raw v) h)) hd
theorem we_builtin {y : Str} {pos : Pos} {v : Value} {Q : AVal → AHeap → Prop} (hl : f.env.kindOf y = some .globalImplicit) (hv : nsIn C.K mainGlobals y = some none) (hb : bootBuiltins y = some v) (h : Q (.raw v) σ) (hn : y ≠ "__name__" := by decide) (hd : (y == ("__debug__" : Str)) = false := by decide) :
    WE C n f (.Name y pos) m σ Q := fun ok fz s E x => by
  have x' := x
  obtain ⟨mc, news, δ, F, N, R, e⟩ := x
  have hg : f.env.globals = mainGlobals := by unfold Fm.env; cases f.comp <;> rfl
  have hbb : f.env.builtins = builtinsNs := by unfold Fm.env; cases f.comp <;> rfl
  have T := topRead_of ok.top
  exact Name_function_global ok.ckind hl (loadGlobal_builtin (env := f.env) (by rw [hg]; exact T.g.keeps F.keep) (mg_none_of ok.kin T.g hv) (by rw [hbb]; exact T.b.keeps F.keep) ((T.builtins y hn).trans hb) (.here x' (.raw v) h)) hd
theorem we_binop {l r : Expr} {op : Operator} {pos : Pos} {Q : AVal → AHeap → Prop} (h : WE C n f l m σ fun a σ₁ => WE C n f r m σ₁ fun b σ₂ => T2 C n f (binaryOp op) a b m σ₂ Q) : WE C n f (.BinOp l op r pos) m σ Q := fun ok fz s E x => by
  refine wpAny_BinOp (wpAny_mono (h ok fz s E x) (fun v s₁ hq => hq.el fun fz₁ σ₁ a u1 e1 x1 va q1 => wpAny_mono (q1 ok fz₁ s₁ E x1) (fun w s₂ hq => hq.el fun fz₂ σ₂ b u2 e2 x2 vb q2 => ?_) fun _ _ x => x) fun _ _ x => x)
  exact wpAny_mono (q2 ok fz₂ s₂ E v w x2 (va.up u2) vb) (fun r s₃ p => .up (fun p hp => u2 p (u1 p hp)) (e1.trans e2) p) fun _ _ x => x
theorem we_compare {l r : Expr} {op : CmpOp} {pos : Pos} {Q : AVal → AHeap → Prop} (h : WE C n f l m σ fun a σ₁ => WE C n f r m σ₁ fun b σ₂ => T2 C n f (compareOp op) a b m σ₂ Q) (hm : behindInMarks op r = false := by rfl) :
    WE C n f (.Compare l [op] [r] pos) m σ Q := fun ok fz s E x => by
  refine wpAny_Compare1 (wpAny_mono (h ok fz s E x) (fun v s₁ hq => hq.el fun fz₁ σ₁ a u1 e1 x1 va q1 => wpAny_mono (q1 ok fz₁ s₁ E x1) (fun w s₂ hq => hq.el fun fz₂ σ₂ b u2 e2 x2 vb q2 => ?_) fun _ _ x => x) fun _ _ x => x) hm
  exact wpAny_mono (q2 ok fz₂ s₂ E v w x2 (va.up u2) vb) (fun r s₃ p => .up (fun p hp => u2 p (u1 p hp)) (e1.trans e2) p) fun _ _ x => x
theorem we_unary {l : Expr} {op : UnaryOp} {pos : Pos} {Q : AVal → AHeap → Prop} (h : WE C n f l m σ fun a σ₁ => T1 C n f (unaryOp op) a m σ₁ Q) : WE C n f (.UnaryOp op l pos) m σ Q := fun ok fz s E x => by
  refine wpAny_UnaryOp (wpAny_mono (h ok fz s E x) (fun v s₁ hq => hq.el fun fz₁ σ₁ a u1 e1 x1 va q1 => ?_) fun _ _ x => x)
  exact wpAny_mono (q1 ok fz₁ s₁ E v x1 va) (fun r s₃ p => .up u1 e1 p) fun _ _ x => x
/-! ## rows of expressions -/
theorem wl_nil {pos : Pos} {Q : List AVal → AHeap → Prop} (h : Q [] σ) : WL C n f [] pos m σ Q := fun ok fz s E x => wpAny_items_nil ⟨fz, σ, [], sub_refl, .rfl, x, .nil, h⟩
theorem wl_cons {e : Expr} {es : List Expr} {pos : Pos} {Q : List AVal → AHeap → Prop} (h : WE C n f e m σ fun a σ₁ => WL C n f es pos m σ₁ fun as σ₂ => Q (a :: as) σ₂)
    (he : starEach (e :: es) f.env = (false, eval e f.env) :: starEach es f.env := by rfl) : WL C n f (e :: es) pos m σ Q := fun ok fz s E x => by
  refine wpAny_items_cons (wpAny_mono (h ok fz s E x) (fun v s₁ hq => hq.el fun fz₁ σ₁ a u1 e1 x1 va q1 => wpAny_mono (q1 ok fz₁ s₁ E x1) (fun w s₂ hq => hq.el fun fz₂ σ₂ b u2 e2 x2 vb q2 => ?_) fun _ _ x => x) fun _ _ x => x) he
  exact ⟨fz₂, σ₂, a :: b, fun p hp => u2 p (u1 p hp), e1.trans e2, x2, .cons (va.up u2) vb, q2⟩
/-- a list display, frozen; and one that may change -/
theorem we_lst {es : List Expr} {pos : Pos} {Q : AVal → AHeap → Prop} (h : WL C n f es pos m σ fun as σ₁ => as.length ≤ sizeLine ∧ Q (.lst as) σ₁) : WE C n f (.List es pos) m σ Q := fun ok fz s E x => by
  refine wpAny_List (wpAny_mono (h ok fz s E x) (fun vs s₁ hq => hq.el fun fz₁ σ₁ as u1 e1 x1 va ⟨q0, q1⟩ => ⟨by rw [va.length]; exact q0, ?_⟩) fun _ _ x => x)
  have hs : s₁.heap.get? s₁.heap.objs.size = none := by
    cases q : s₁.heap.get? s₁.heap.objs.size with
    | none => rfl
    | some o => exact absurd (Heap.lt_size q) (Nat.lt_irrefl _)
  refine ⟨[(s₁.heap.objs.size, listOf vs.toArray 0)] ++ fz₁, σ₁, .lst as, fun p hp => List.mem_append_right _ (u1 p hp), e1.trans ⟨_, _, rfl⟩, x1.freeze (t := s₁.toks) (fun b o e => Heap.get?_push_of_some _ e) _ ?_, .lst (.inl (List.mem_append_left _ (List.mem_singleton.mpr rfl))) rfl rfl (va.up fun p hp => List.mem_append_right _ hp), q1⟩
  intro p hp
  rw [List.mem_singleton.mp hp]
  exact ⟨hs, Nat.le_refl _, Heap.get?_push_size _ rfl⟩
theorem we_tup {es : List Expr} {k : Nat} {pos : Pos} {Q : AVal → AHeap → Prop} (h : WL C n f es pos m σ fun as σ₁ => as.length ≤ sizeLine ∧ Q (.tup as) σ₁) : WE C n f (.Tuple es k pos) m σ Q := fun ok fz s E x => by
  refine wpAny_Tuple (wpAny_mono (h ok fz s E x) (fun vs s₁ hq => hq.el fun fz₁ σ₁ as u1 e1 x1 va ⟨q0, q1⟩ => ⟨by rw [va.length]; exact q0, ?_⟩) fun _ _ x => x)
  have hs : s₁.heap.get? s₁.heap.objs.size = none := by
    cases q : s₁.heap.get? s₁.heap.objs.size with
    | none => rfl
    | some o => exact absurd (Heap.lt_size q) (Nat.lt_irrefl _)
  refine ⟨[(s₁.heap.objs.size, tupOf vs)] ++ fz₁, σ₁, .tup as, fun p hp => List.mem_append_right _ (u1 p hp), e1.trans ⟨_, _, rfl⟩, x1.freeze (t := s₁.toks) (fun b o e => Heap.get?_push_of_some _ e) _ ?_, .tup (.inl (List.mem_append_left _ (List.mem_singleton.mpr rfl))) rfl rfl (va.up fun p hp => List.mem_append_right _ hp), q1⟩
  intro p hp
  rw [List.mem_singleton.mp hp]
  exact ⟨hs, Nat.le_refl _, Heap.get?_push_size _ rfl⟩
theorem we_listM {es : List Expr} {pos : Pos} {Q : AVal → AHeap → Prop} (h : WL C n f es pos m σ fun as σ₁ => as.length ≤ sizeLine ∧ ∀ a, σ₁ a = none → Q (.obj a) (σ₁.set a (.list as))) : WE C n f (.List es pos) m σ Q := fun ok fz s E x => by
  refine wpAny_List (wpAny_mono (h ok fz s E x) (fun vs s₁ hq => hq.el fun fz₁ σ₁ as u1 e1 x1 va ⟨q0, q1⟩ => ⟨by rw [va.length]; exact q0, ?_⟩) fun _ _ x => x)
  exact ⟨fz₁, _, .obj s₁.heap.objs.size, u1, e1.trans ⟨_, _, rfl⟩, x1.newList (t := s₁.toks) (fun b o e => Heap.get?_push_of_some _ e) (Nat.le_refl _) (Heap.get?_push_size _ rfl) va, .obj _, q1 _ (x1.fresh (Nat.le_refl _))⟩

/-! ## tests -/
theorem wt_compare {l r : Expr} {op : CmpOp} {pos : Pos} {Q : Bool → AHeap → Prop} (h : WE C n f l m σ fun a σ₁ => WE C n f r m σ₁ fun b σ₂ => T2 C n f (compareOp op) a b m σ₂ fun c σ₃ => TB C n f truthy c m σ₃ Q) (hm : behindInMarks op r = false := by rfl) :
    WT C n f (.Compare l [op] [r] pos) m σ Q := fun ok fz s E x => by
  refine wpAny_isTrue_Compare1 (wpAny_mono (h ok fz s E x) (fun v s₁ hq => hq.el fun fz₁ σ₁ a u1 e1 x1 va q1 => wpAny_mono (q1 ok fz₁ s₁ E x1) (fun w s₂ hq => hq.el fun fz₂ σ₂ b u2 e2 x2 vb q2 => ?_) fun _ _ x => x) fun _ _ x => x) hm
  refine wpAny_mono (q2 ok fz₂ s₂ E v w x2 (va.up u2) vb) (fun r s₃ hq => hq.el fun fz₃ σ₃ c u3 e3 x3 vc q3 => ?_) fun _ _ x => x
  exact wpAny_mono (q3 ok fz₃ s₃ E r x3 vc) (fun b s₄ p => .up (fun p hp => u3 p (u2 p (u1 p hp))) ((e1.trans e2).trans e3) p) fun _ _ x => x
theorem wt_not {t : Expr} {pos : Pos} {Q : Bool → AHeap → Prop} (h : WT C n f t m σ fun b σ₁ => Q (!b) σ₁) : WT C n f (.UnaryOp .Not t pos) m σ Q := fun ok fz s E x =>
  wpAny_isTrue_Not (wpAny_mono (h ok fz s E x) (fun v s₁ hq => hq.el fun fz₁ σ₁ u1 e1 x1 q1 => ⟨fz₁, σ₁, u1, e1, x1, q1⟩) fun _ _ x => x)
theorem wt_value {e : Expr} {Q : Bool → AHeap → Prop} (h : WE C n f e m σ fun a σ₁ => TB C n f truthy a m σ₁ Q) (he : ∀ whole, isTrue e f.env whole = (do let v ← whole; standAt e.pos; holding [v] (truthy v)) := by intro _; rfl) : WT C n f e m σ Q := fun ok fz s E x => by
  refine wpAny_isTrue_value (wpAny_mono (h ok fz s E x) (fun v s₁ hq => hq.el fun fz₁ σ₁ a u1 e1 x1 va q1 => ?_) fun _ _ x => x) (he _)
  exact wpAny_mono (q1 ok fz₁ s₁ E v x1 va) (fun b s₄ p => .up u1 e1 p) fun _ _ x => x
/-- a chain of tests in a condition -/
def WA (C : Cx) (n : Nat) (f : Fm) (op : BoolOp) (es : List Expr) (m : AEnv) (σ : AHeap) (Q : Bool → AHeap → Prop) : Prop :=
  f.Ok C n → ∀ fz s E, SR C f fz m σ s → wpAny (Md C) f.A (allTrue op es f.env) (PB C f m fz s Q) E s
theorem tb_bool {b : Bool} {Q : Bool → AHeap → Prop} (h : Q b σ) : TB C n f truthy (.bool b) m σ Q := fun ok fz s E v x hv => by
  cases hv; exact wpAny_truthy_bool ⟨fz, σ, sub_refl, .rfl, x, h⟩

/-! ## statements -/
theorem ws_nil {Q : AFlow → AEnv → AHeap → Prop} (h : Q .next m σ) : WS C n f [] m σ Q := fun ok fz s E x => wpAny_execs_nil ⟨fz, σ, m, .next, sub_refl, .rfl, x, trivial, h⟩
theorem ws_cons {st : Stmt} {ss : List Stmt} {Q : AFlow → AEnv → AHeap → Prop} (h : W1 C n f st m σ fun a m' σ' => match a with | .next => WS C n f ss m' σ' Q | a => Q a m' σ') : WS C n f (st :: ss) m σ Q := fun ok fz s E x => by
  refine wpAny_execs_cons (wpAny_mono (h ok fz s E x) (fun fl s₁ hq => hq.el fun fz₁ σ₁ m₁ a u1 e1 x1 va q1 => ?_) fun _ _ x => x)
  cases fl with
  | next =>
    cases a with
    | next => exact wpAny_mono (q1 ok fz₁ s₁ E x1) (fun r s₃ p => .up u1 e1 p) fun _ _ x => x
    | _ => exact va.elim
  | brk => cases a <;> first | exact ⟨fz₁, σ₁, m₁, _, u1, e1, x1, va, q1⟩ | exact va.elim
  | cont => cases a <;> first | exact ⟨fz₁, σ₁, m₁, _, u1, e1, x1, va, q1⟩ | exact va.elim
  | ret v => cases a <;> first | exact ⟨fz₁, σ₁, m₁, _, u1, e1, x1, va, q1⟩ | exact va.elim
theorem w1_return {e : Expr} {pos : Pos} {Q : AFlow → AEnv → AHeap → Prop} (h : WE C n f e m σ fun a σ₁ => Q (.ret a) m σ₁) : W1 C n f (.Return (some e) pos) m σ Q := fun ok fz s E x =>
  wpAny_Return_some (wpAny_mono (h ok fz s E x) (fun v s₁ hq => hq.el fun fz₁ σ₁ a u1 e1 x1 va q1 => ⟨fz₁, σ₁, m, .ret a, u1, e1, x1, va, q1⟩) fun _ _ x => x)
theorem w1_if {t : Expr} {b o : List Stmt} {pos : Pos} {Q : AFlow → AEnv → AHeap → Prop} (h : WT C n f t m σ fun c σ₁ => (c = true → WS C n f b m σ₁ Q) ∧ (c = false → WS C n f o m σ₁ Q)) : W1 C n f (.If t b o pos) m σ Q := fun ok fz s E x => by
  refine wpAny_If (wpAny_mono (h ok fz s E x) (fun c s₁ hq => hq.el fun fz₁ σ₁ u1 e1 x1 q1 => ?_) fun _ _ x => x)
  cases c with
  | true => exact wpAny_mono (q1.1 rfl ok fz₁ s₁ E x1) (fun r s₃ p => .up u1 e1 p) fun _ _ x => x
  | false => exact wpAny_mono (q1.2 rfl ok fz₁ s₁ E x1) (fun r s₃ p => .up u1 e1 p) fun _ _ x => x
/-- storing a value under a name: as a tree -/
def TS (C : Cx) (n : Nat) (f : Fm) (y : Str) (a : AVal) (m : AEnv) (σ : AHeap) (Q : AEnv → AHeap → Prop) : Prop :=
  f.Ok C n → ∀ fz s E v, SR C f fz m σ s → V (At C fz) v a → wpAny (Md C) f.A (storeName f.env y v) (fun _ s' => ∃ fz' σ' m', (∀ p ∈ fz, p ∈ fz') ∧ Same s s' ∧ SR C f fz' m' σ' s' ∧ Q m' σ') E s
theorem ts_local {y : Str} {a : AVal} {Q : AEnv → AHeap → Prop} (hl : f.fenv.kindOf y = some .local) (h : Q (m.set y a) σ) (hcm : f.comp = none := by rfl) : TS C n f y a m σ Q := fun ok fz s E v x hv => by
  have he : f.env = f.fenv := by unfold Fm.env; rw [hcm]
  rw [he]
  obtain ⟨mc, news, F, N, k⟩ := x.store (y := y) hv
  exact storeX_L F N (fun h' F' N' => ⟨fz, σ, _, sub_refl, .mk, k h' _ F' N', h⟩) ok.kind hl
theorem w1_assign {y : Str} {py : Pos} {e : Expr} {pos : Pos} {Q : AFlow → AEnv → AHeap → Prop} (h : WE C n f e m σ fun a σ₁ => TS C n f y a m σ₁ fun m' σ' => Q .next m' σ')
    (hs : swapsWith e (some (.Name y py)) pos.line f.env = pure false := by rfl) : W1 C n f (.Assign [.Name y py] e pos) m σ Q := fun ok fz s E x => by
  refine wpAny_Assign_Name (wpAny_mono (h ok fz s E x) (fun v s₁ hq => hq.el fun fz₁ σ₁ a u1 e1 x1 va q1 => ?_) fun _ _ x => x) hs
  exact wpAny_mono (q1 ok fz₁ s₁ E v x1 va) (fun _ s₂ hq => PU.el hq fun fz₂ σ₂ m₂ u2 e2 x2 q2 => ⟨fz₂, σ₂, m₂, .next, fun p hp => u2 p (u1 p hp), e1.trans e2, x2, trivial, q2⟩) fun _ _ x => x
end
end Mine

open PySem PySem.W PyProof.Rows PySem.Calls
namespace Mine
def Near (f : Fm) (A : Around) : Prop := A.frames = f.A.frames ∧ A.handled = f.A.handled ∧ A.guards = f.A.guards ∧ A.depth ≤ f.A.depth + 2 ∧ A.units ≤ f.A.units + 4
theorem Near.refl {f : Fm} : Near f f.A := ⟨rfl, rfl, rfl, by omega, by omega⟩
def RV (C : Cx) (f : Fm) (m : AEnv) (fz : Fz) (s : Shared) (Q : AVal → AHeap → Prop) (r : Result) (s' : Shared) : Prop := ∃ v, r = .ok (.ret v) ∧ PV C f m fz s Q v s'
/-- what a call of a def of the text does -/
def Fn (C : Cx) (n : Nat) (fa : Addr) (as : List AVal) (σ : AHeap) (Q : AVal → AHeap → Prop) : Prop :=
  ∀ f m A, f.Ok C n → Near f A → ∀ fz s vs, SR C f fz m σ s → Vs (At C fz) vs as → codeAny (Md C) A (.call (.ref fa) ⟨vs, []⟩) (RV C f m fz s Q) s
def Keep (C : Cx) (h : Heap) (v : Value) : Prop := ∃ k, (k = Keeper.frame ∨ k = Keeper.machine ∨ k = Keeper.boundFrame) ∧ Looks (Md C) h (keeperOf v) k
/-- a call -/
def TC (C : Cx) (n : Nat) (f : Fm) (fv : AVal) (as : List AVal) (m : AEnv) (σ : AHeap) (Q : AVal → AHeap → Prop) : Prop :=
  f.Ok C n → ∀ fz s E v vs, SR C f fz m σ s → V (At C fz) v fv → Vs (At C fz) vs as → Keep C s.heap v ∧ wpAny (Md C) f.A (call v vs) (PV C f m fz s Q) E s
/-- a method looked up -/
def TG (C : Cx) (n : Nat) (f : Fm) (name : Str) (ov : AVal) (m : AEnv) (σ : AHeap) (Q : AVal → List AVal → AHeap → Prop) : Prop :=
  f.Ok C n → ∀ fz s E v pl, SR C f fz m σ s → V (At C fz) v ov → wpAny (Md C) f.A (getMethod v name pl) (fun fx s' => ∃ fz' σ' fa as, (∀ p ∈ fz, p ∈ fz') ∧ Same s s' ∧ SR C f fz' m σ' s' ∧ V (At C fz') fx.1 fa ∧ Vs (At C fz') fx.2 as ∧ Q fa as σ') E s

section
variable {C : Cx} {n : Nat} {f : Fm} {m : AEnv} {σ : AHeap}
theorem cw {pos : Pos} {v : Value} {first : List Value} {args : List Expr} {s : Shared} {E : Value → Shared → Prop} {Q : Value → Shared → Prop}
    (h : wpAny (Md C) f.A (spliced (backTo pos (starEach args f.env))) (fun vs s₁ => Keep C s₁.heap v ∧ wpAny (Md C) f.A (call v (first ++ vs)) Q E s₁) E s)
    (hplain : (backTo pos (starEach args f.env)).any (·.1) = false := by rfl) : wpAny (Md C) f.A (callWith pos v first (backTo pos (starEach args f.env)) (backToKw pos (keywordEach [] f.env))) Q E s := by
  show wpAny (Md C) f.A (callWith pos v first (backTo pos (starEach args f.env)) []) Q E s
  revert h hplain
  generalize backTo pos (starEach args f.env) = l
  intro h hplain
  refine callWith_of (P := fun h => Keep C h v) (by rw [hplain]; rfl) (fun h k => k) ?_
  cases l with
  | nil =>
    unfold evalArgs
    show wpAny _ _ (spliced [] >>= _) _ E s
    exact wpAny_bind (wpAny_mono h (fun vs s₁ h₁ => wpAny_bind (wpAny_pure (wpAny_holding (wpAny_bind (wpAny_pure (wpAny_bind (wpAny_pure (wpAny_pure h₁)))))))) fun _ _ x => x)
  | cons p l => 
    obtain ⟨b, x⟩ := p
    cases b with
    | true => cases hplain
    | false => exact evalArgs_plain h
theorem we_call {g : Str} {gp : Pos} {args : List Expr} {pos : Pos} {Q : AVal → AHeap → Prop} (h : WE C n f (.Name g gp) m σ fun fv σ₁ => WL C n f args pos m σ₁ fun as σ₂ => TC C n f fv as m σ₂ Q)
    (hplain : (backTo pos (starEach args f.env)).any (·.1) = false := by rfl) : WE C n f (.Call (.Name g gp) args [] pos) m σ Q := fun ok fz s E x => by
  refine wpAny_Call_ofName (wpAny_mono (h ok fz s E x) (fun v s₁ hq => hq.el fun fz₁ σ₁ a u1 e1 x1 va q1 => cw (wpAny_mono (q1 ok fz₁ s₁ E x1) (fun vs s₂ hq => hq.el fun fz₂ σ₂ as u2 e2 x2 vs' q2 => ?_) fun _ _ x => x) hplain) fun _ _ x => x)
  obtain ⟨k, c⟩ := q2 ok fz₂ s₂ E v vs x2 (va.up u2) vs'
  exact ⟨k, wpAny_mono c (fun r s₃ p => .up (fun p hp => u2 p (u1 p hp)) (e1.trans e2) p) fun _ _ x => x⟩
theorem we_method {o : Expr} {name : Str} {apos pos : Pos} {args : List Expr} {pl : Sem Bool} {Q : AVal → AHeap → Prop}
    (h : WE C n f o m σ fun ov σ₁ => TG C n f name ov m σ₁ fun fv first σ₂ => WL C n f args pos m σ₂ fun as σ₃ => TC C n f fv (first ++ as) m σ₃ Q)
    (he : eval (.Call (.Attribute o name apos) args [] pos) f.env = (do
      let ov ← eval o f.env
      standAt apos.atName
      let (g, first) ← holding [ov] (getMethod ov name pl)
      callWith pos g first (backTo pos (starEach args f.env)) (backToKw pos (keywordEach [] f.env))) := by rfl)
    (hplain : (backTo pos (starEach args f.env)).any (·.1) = false := by rfl) : WE C n f (.Call (.Attribute o name apos) args [] pos) m σ Q := fun ok fz s E x => by
  refine methodCall_KW (pl := pl) (wpAny_mono (h ok fz s E x) (fun v s₁ hq => hq.el fun fz₁ σ₁ a u1 e1 x1 va q1 => wpAny_mono (q1 ok fz₁ s₁ E v pl x1 va) (fun fx s₂ ⟨fz₂, σ₂, fa, fs, u2, e2, x2, vf, vfs, q2⟩ => cw (wpAny_mono (q2 ok fz₂ s₂ E x2) (fun vs s₃ hq => hq.el fun fz₃ σ₃ as u3 e3 x3 vs' q3 => ?_) fun _ _ x => x) hplain) fun _ _ x => x) fun _ _ x => x) he
  obtain ⟨k, c⟩ := q3 ok fz₃ s₃ E fx.1 (fx.2 ++ vs) x3 (vf.up u3) ((vfs.up u3).append vs')
  exact ⟨k, wpAny_mono c (fun r s₄ p => .up (fun p hp => u3 p (u2 p (u1 p hp))) ((e1.trans e2).trans e3) p) fun _ _ x => x⟩

/-! ## methods of own instances -/
theorem tg_inst {a c g : Addr} {as : List (Str × AVal)} {name : Str} {Q : AVal → List AVal → AHeap → Prop} (hσ : σ a = some (.inst c as)) (hn : getA name as = none) (hg : plainGet C.K c name = true)
    (hf : findIn C.K (.ref c) name = some (some (.ref g))) (ht : isFn C.K (.ref g) = true) (h : Q (.raw (.ref g)) [.obj a] σ) : TG C n f name (.obj a) m σ Q := fun ok fz s E v pl x hv => by
  cases hv
  obtain ⟨d, es, k, h1, h2, h3⟩ := x.inst hσ
  have x' := x
  obtain ⟨mc, news, δ, F, N, R, e⟩ := x
  exact method_inst F ok.kin (⟨h1, rfl, rfl, h2⟩ : InstAt s.heap a (instObj c d) c (some (dictOf es k))) hg hf ht (h3.get_none hn) ⟨fz, σ, _, _, sub_refl, .rfl, x', .raw _, .cons (.obj a) .nil, h⟩
theorem keep_K {g : Value} (ok : f.Ok C n) {fz : Fz} {s : Shared} (x : SR C f fz m σ s) (hk : keepIn C.K g = true) : Keep C s.heap g := by
  obtain ⟨mc, news, δ, F, N, R, e⟩ := x
  exact keeps_K hk _ (ok.kin.keeps F.keep)
theorem tc_fn {g : Addr} {as : List AVal} {Q : AVal → AHeap → Prop} (hk : keepIn C.K (.ref g) = true) (h : Fn C n g as σ Q) : TC C n f (.raw (.ref g)) as m σ Q := fun ok fz s E v vs x hv hvs => by
  cases hv
  refine ⟨keep_K ok x hk, wpAny_call (codeAny_mono (h f m f.A ok .refl fz s vs x hvs) fun r s' ⟨v, e, p⟩ => ?_)⟩
  subst e; exact p

/-! ## a def of the text, without cells -/
def retOf : AFlow → AVal
  | .ret a => a
  | _ => .none
theorem lookup_nd {β : Type} : ∀ {l : List (Str × β)}, (l.map (·.1)).Nodup → ∀ {y : Str} {v : β}, (y, v) ∈ l → l.lookup y = some v
  | [], _, _, _, h => nomatch h
  | (z, u) :: l, nd, y, v, h => by
    rw [List.map_cons, List.nodup_cons] at nd
    rcases List.mem_cons.mp h with e | h
    · cases e; simp
    · have : y ≠ z := fun e => nd.1 (List.mem_map.mpr ⟨_, h, e⟩)
      rw [List.lookup_cons]
      have hb : (y == z) = false := by simpa using this
      rw [hb]
      exact lookup_nd nd.2 h
theorem lookup_zip {P : Addr → Obj → Prop} : ∀ {ns : List Str} {vs : List Value} {as : List AVal}, Vs P vs as → ns.Nodup → ∀ {y : Str} {a : AVal}, getA y (ns.zip as) = some a → ∃ v, (ns.zip vs).reverse.lookup y = some v ∧ V P v a := by
  intro ns vs as h
  have key : ∀ {ns : List Str} {vs : List Value} {as : List AVal}, Vs P vs as → ns.Nodup → ∀ {y : Str} {a : AVal}, getA y (ns.zip as) = some a → ∃ v, (y, v) ∈ ns.zip vs ∧ V P v a := by
    intro ns
    induction ns with
    | nil => intro vs as _ _ y a e; cases as <;> cases e
    | cons z ns ih =>
      intro vs as h hd y a e
      cases h with
      | nil => cases e
      | cons hv h =>
        rw [List.zip_cons_cons] at e
        unfold getA at e
        by_cases q : (z == y) = true
        · rw [if_pos q] at e; cases e
          have : z = y := by simpa using q
          subst this
          exact ⟨_, List.mem_cons_self .., hv⟩
        · rw [if_neg q] at e
          obtain ⟨v, h1, h2⟩ := ih h (List.nodup_cons.mp hd).2 e
          exact ⟨v, List.mem_cons_of_mem _ h1, h2⟩
  intro hd y a e
  obtain ⟨v, h1, h2⟩ := key h hd e
  refine ⟨v, ?_, h2⟩
  have nd : ((ns.zip vs).reverse.map (·.1)).Nodup := by
    rw [List.map_reverse]
    refine List.pairwise_reverse.mpr (List.Pairwise.imp (fun h => Ne.symm h) ?_)
    have : (ns.zip vs).map (·.1) = ns.take vs.length := by
      clear h hd e h1 h2 key
      induction ns generalizing vs with
      | nil => simp
      | cons z ns ih => cases vs with
        | nil => simp
        | cons v vs => simp [ih]
    rw [this]
    exact List.Nodup.sublist (List.take_sublist ..) hd
  exact lookup_nd nd (List.mem_reverse.mpr h1)

theorem fn_plain {fa : Addr} {name qual : Str} {params : Arguments} {body : List Stmt} {scope : Scope} {dV kV doc pm cdv ct oc : Value} {an od : Option Addr} {osl : Array (Option Value)} {as da : List AVal} {ns : List Str} {dv : List Value} {Q : AVal → AHeap → Prop}
    (ho : C.K.lookup fa = some ⟨oc, od, .func (fnOf name qual params body scope dV kV doc pm an cdv ct), osl⟩) (hcd : codeIn C.K cdv qual = true)
    (hbind : ∀ S vs, vs.length = as.length → peek C.K S (bindArgs (fnOf name qual params body scope dV kV doc pm an cdv ct) ⟨vs, []⟩) = some (ns.zip (vs ++ dv)))
    (hd : ∀ P, Vs P dv da) (hnd : ns.Nodup) (hloc : ∀ y ∈ ns, scope.names.lookup y = some .local)
    (h : ∀ A₀ A base h₀ outer L pin, WS C n ⟨A₀, A, base, h₀, outer, L, fa, qual, scope, cdv, [], pin, none⟩ body (ns.zip (as ++ da)) σ fun fl _ σ' => ∃ σ₂ : AHeap, σ₂.le σ' ∧ Q (retOf fl) σ₂)
    (hco : scope.isCoroutine = false := by rfl) (hgen : scope.isGenerator = false := by rfl) (hk : scope.kind = .function := by rfl) (hcell : ∀ x ∈ scope.names, x.2 ≠ .cell := by decide) :
    Fn C (n + 1) fa as σ Q := fun f m A ok hn fz s vs x hvs => by
  obtain ⟨mc, news, δ, F, N, R, e⟩ := x
  have X := ok.kin.keeps F.keep
  have e2 := ok.depth
  have e3 := ok.units
  obtain ⟨n1, n2, n3, n4, n5⟩ := hn
  have hlen := hvs.length
  refine code_def (env := f.fenv) (binds := ns.zip (vs ++ dv)) ok.below F ok.kin N ok.top (n1.trans ok.stack) rfl ok.kind ho hcd (by omega) (kp_binds X fun S => hbind S vs hlen) (fun y hy => hloc _ (List.of_mem_zip hy).1) (fun g L' h₁ FG F' N' B' KG TG => ?_) hco hgen hk hcell
  let f' : Fm := ⟨A, A.deeper (envOf qual scope L' fa cdv), f.base, g, f.fenv :: f.outer, L', fa, qual, scope, cdv, [], f.pin, none⟩
  have hkH : ∀ b o, C.H.get? b = some o → g.get? b = some o := fun b o hb => FG.keep b o (ok.hk b o hb)
  have ok' : f'.Ok C n := ⟨B', KG, TG, hkH, Around.frames_deeper B'.stack, n2.trans ok.handled, n3.trans ok.guards, by show A.depth + 1 + 3 * n < _; omega, by show A.units + 3 + 10 * n + 100 < _; omega, hk, hk⟩
  have hz := hvs.append (hd (At C fz))
  have x' : SR C f' fz (ns.zip (as ++ da)) σ { s with heap := h₁, toks := s.toks + (ns.zip (vs ++ dv)).length } :=
    ⟨_, news, δ, F', N', R, fun y a hy => lookup_zip hz hnd hy⟩
  refine wpAny_mono (h A _ f.base g (f.fenv :: f.outer) L' f.pin ok' fz _ _ x') (fun fl s' hq => hq.el fun fz' σ' m' a u es x2 va ⟨σ₂, hle, q⟩ => ?_) fun _ _ z => z
  obtain ⟨mc', news', δ', F2, N2, R2, e2⟩ := x2.weaken (fun _ _ h => h) hle
  refine leaveK_ F2 N2 fun FK NK => ⟨_, rfl, fz', σ₂, retOf a, u, ?_, ⟨mc, news', δ', FK, NK, R2, fun y b hy => ?_⟩, ?_, q⟩
  · obtain ⟨hh, tt, ee⟩ := es; exact ⟨hh, tt, ee⟩
  · obtain ⟨v, h1, h2⟩ := e y b hy; exact ⟨v, h1, h2.up u⟩
  · cases fl <;> cases a <;> first | exact va.elim | exact .none | exact va
end
end Mine

open PySem PySem.W PyProof.Rows PySem.Calls
namespace Mine
/-! ## storing -/
def PU (C : Cx) (f : Fm) (fz : Fz) (s : Shared) (Q : AEnv → AHeap → Prop) (s' : Shared) : Prop := ∃ fz' σ' m', (∀ p ∈ fz, p ∈ fz') ∧ Same s s' ∧ SR C f fz' m' σ' s' ∧ Q m' σ'
def TA (C : Cx) (n : Nat) (f : Fm) (t : Expr) (a : AVal) (m : AEnv) (σ : AHeap) (Q : AEnv → AHeap → Prop) : Prop :=
  f.Ok C n → ∀ fz s E v, SR C f fz m σ s → V (At C fz) v a → wpAny (Md C) f.A (assign t f.env v) (fun _ => PU C f fz s Q) E s
def TAs (C : Cx) (n : Nat) (f : Fm) (ts : List Expr) (as : List AVal) (m : AEnv) (σ : AHeap) (Q : AEnv → AHeap → Prop) : Prop :=
  f.Ok C n → ∀ fz s E vs, SR C f fz m σ s → Vs (At C fz) vs as → wpAny (Md C) f.A (assignInOrder ((assignEach ts f.env).map (·.2)) vs) (fun _ => PU C f fz s Q) E s
def TSs (C : Cx) (n : Nat) (f : Fm) (ys : List Str) (as : List AVal) (m : AEnv) (σ : AHeap) (Q : AEnv → AHeap → Prop) : Prop :=
  f.Ok C n → ∀ fz s E vs, SR C f fz m σ s → Vs (At C fz) vs as → wpAny (Md C) f.A (assignInOrder (ys.map fun y => bindName f.env y) vs) (fun _ => PU C f fz s Q) E s
section
variable {C : Cx} {n : Nat} {f : Fm} {m : AEnv} {σ : AHeap}
theorem PU.up {s s₁ s' : Shared} {fz fz₁ : Fz} {Q : AEnv → AHeap → Prop} (h : ∀ p ∈ fz, p ∈ fz₁) (hs : Same s s₁) (x : PU C f fz₁ s₁ Q s') : PU C f fz s Q s' := by
  obtain ⟨fz', σ', m', h1, h2, h3, h4⟩ := x
  exact ⟨fz', σ', m', fun p hp => h1 p (h p hp), hs.trans h2, h3, h4⟩
theorem ta_name {y : Str} {pos : Pos} {a : AVal} {Q : AEnv → AHeap → Prop} (h : TS C n f y a m σ Q) : TA C n f (.Name y pos) a m σ Q := fun ok fz s E v x hv => assign_Name (h ok fz s E v x hv)
theorem tas_nil {Q : AEnv → AHeap → Prop} (h : Q m σ) : TAs C n f [] [] m σ Q := fun ok fz s E vs x hv => by cases hv; exact wpAny_assignInOrder_none ⟨fz, σ, m, sub_refl, .rfl, x, h⟩
theorem tas_cons {t : Expr} {ts : List Expr} {a : AVal} {as : List AVal} {Q : AEnv → AHeap → Prop} (h : TA C n f t a m σ fun m' σ' => TAs C n f ts as m' σ' Q)
    (he : (assignEach (t :: ts) f.env).map (·.2) = assign t f.env :: (assignEach ts f.env).map (·.2) := by rfl) : TAs C n f (t :: ts) (a :: as) m σ Q := fun ok fz s E vs x hv => by
  cases hv with
  | cons hv hvs =>
    rw [he]
    refine wpAny_assignInOrder_more (wpAny_mono (h ok fz s E _ x hv) (fun _ s₁ hq => PU.el hq fun fz₁ σ₁ m₁ u1 e1 x1 q1 => ?_) fun _ _ x => x)
    exact wpAny_mono (q1 ok fz₁ s₁ E _ x1 (hvs.up u1)) (fun _ s₂ p => .up u1 e1 p) fun _ _ x => x
theorem tss_nil {Q : AEnv → AHeap → Prop} (h : Q m σ) : TSs C n f [] [] m σ Q := fun ok fz s E vs x hv => by cases hv; exact wpAny_assignInOrder_none ⟨fz, σ, m, sub_refl, .rfl, x, h⟩
theorem tss_cons {y : Str} {ys : List Str} {a : AVal} {as : List AVal} {Q : AEnv → AHeap → Prop} (h : TS C n f y a m σ fun m' σ' => TSs C n f ys as m' σ' Q) : TSs C n f (y :: ys) (a :: as) m σ Q := fun ok fz s E vs x hv => by
  cases hv with
  | cons hv hvs =>
    refine wpAny_assignInOrder_more (wpAny_bindName (wpAny_mono (h ok fz s E _ x hv) (fun _ s₁ hq => PU.el hq fun fz₁ σ₁ m₁ u1 e1 x1 q1 => ?_) fun _ _ x => x))
    exact wpAny_mono (q1 ok fz₁ s₁ E _ x1 (hvs.up u1)) (fun _ s₂ p => .up u1 e1 p) fun _ _ x => x
theorem ext_keeps {h h' : Heap} (e : Heap.ExtBut h.objs.size h h') : ∀ b o, h.get? b = some o → h'.get? b = some o := fun b o q => e b o (Nat.ne_of_lt (Heap.lt_size q)) q
theorem V.tuple_ {fz : Fz} {s : Shared} (ok : f.Ok C n) (x : SR C f fz m σ s) {v : Value} {xs : List AVal} (h : V (At C fz) v (.tup xs)) : ∃ t vs, v = .ref t ∧ s.heap.IsTuple t vs.toArray ∧ Vs (At C fz) vs xs := by
  cases h with
  | tup h1 h2 h3 h4 => exact ⟨_, _, rfl, ⟨_, x.at_ ok h1, h2, _, h3⟩, h4⟩
theorem w1_assignS {ts : List Expr} {k : Nat} {tp : Pos} {e : Expr} {pos : Pos} {names : List Str} {Q : AFlow → AEnv → AHeap → Prop} (h : WE C n f e m σ fun a σ₁ => ∃ as, a = .tup as ∧ as.length = names.length ∧ TSs C n f names.reverse as.reverse m σ₁ fun m' σ' => Q .next m' σ')
    (hw : swappedStores [.Tuple ts k tp] e f.env = pure (some names)) (hs : swapsWithSole [.Tuple ts k tp] e pos.line f.env = pure false := by rfl) : W1 C n f (.Assign [.Tuple ts k tp] e pos) m σ Q := fun ok fz s E x => by
  refine Assign_Tuple_swapped (wpAny_mono (h ok fz s E x) (fun v s₁ hq => hq.el fun fz₁ σ₁ a u1 e1 x1 va ⟨as, ea, hl, q1⟩ => ?_) fun _ _ x => x) hs hw
  subst ea
  obtain ⟨t, vs, rfl, ht, hvs⟩ := va.tuple_ ok x1
  have hlen : names.length = vs.toArray.size := by rw [List.size_toArray, hvs.length, hl]
  rw [hlen]
  refine wpAny_unpackItems_tuple ok.handled ht fun h' he => ?_
  exact wpAny_mono (q1 ok fz₁ { s₁ with heap := h' } E vs.reverse (x1.grow (t := s₁.toks) (ext_keeps he)) hvs.reverse) (fun _ s₂ hq => PU.el hq fun fz₂ σ₂ m₂ u2 e2 x2 q2 => ⟨fz₂, σ₂, m₂, .next, fun p hp => u2 p (u1 p hp), (e1.trans ⟨h', s₁.toks, rfl⟩).trans e2, x2, trivial, q2⟩) fun _ _ x => x

/-! ## loops -/
/-- the state, with some addresses kept apart -/
def SX (C : Cx) (f : Fm) (fz : Fz) (m : AEnv) (σ : AHeap) (wr : List Addr) (s : Shared) : Prop :=
  ∃ mc news δ, Fr f.h₀ f.L s.heap mc ∧ News f.h₀ f.L s.heap news ∧ HR C fz f.pin σ δ news ∧ ER (At C fz) m mc ∧ (∀ p ∈ news, p.1 ∉ wr) ∧ f.L ∉ wr ∧ ∀ b ∈ wr, f.h₀.get? b = none
theorem SX.sr {fz : Fz} {wr : List Addr} {s : Shared} (x : SX C f fz m σ wr s) : SR C f fz m σ s := by
  obtain ⟨mc, news, δ, F, N, R, e, _⟩ := x; exact ⟨mc, news, δ, F, N, R, e⟩
theorem SX.step {fz : Fz} {wr : List Addr} {s : Shared} {h' : Heap} {t : Nat} (x : SX C f fz m σ wr s) (k : ∀ b o, b ∉ wr → s.heap.get? b = some o → h'.get? b = some o) : SX C f fz m σ wr { s with heap := h', toks := t } := by
  obtain ⟨mc, news, δ, F, N, R, e, h1, h2, h3⟩ := x
  refine ⟨mc, news, δ, ⟨F.ns.at' fun o q => k _ o h2 q, fun b o q => k b o (fun hb => by rw [h3 b hb] at q; cases q) (F.keep b o q), F.above⟩, fun p hp => ⟨k _ _ (h1 p hp) (N p hp).1, (N p hp).2⟩, R, e, h1, h2, h3⟩
def ownP (wr : List Addr) (h : Heap) : Fz := wr.filterMap fun b => (h.get? b).map fun o => (b, o)
theorem mem_ownP {wr : List Addr} {h : Heap} {p : Addr × Obj} : p ∈ ownP wr h ↔ p.1 ∈ wr ∧ h.get? p.1 = some p.2 := by
  unfold ownP
  rw [List.mem_filterMap]
  constructor
  · rintro ⟨b, hb, e⟩
    obtain ⟨o, ho, rfl⟩ := Option.map_eq_some_iff.mp e
    exact ⟨hb, ho⟩
  · rintro ⟨h1, h2⟩
    exact ⟨p.1, h1, by rw [h2]; rfl⟩
theorem SX.pin {fz : Fz} {wr : List Addr} {s : Shared} (x : SX C f fz m σ wr s) : SR C (f.withPin (ownP wr s.heap ++ f.pin)) fz m σ s := by
  obtain ⟨mc, news, δ, F, N, R, e, h1, h2, h3⟩ := x
  have off : ∀ {p : Addr × Obj}, p ∈ ownP wr s.heap → p.1 ∈ wr := fun hp => (mem_ownP.mp hp).1
  have three : ∀ p ∈ fz ++ (ownP wr s.heap ++ f.pin), p ∈ ownP wr s.heap ∨ p ∈ fz ++ f.pin := fun p hp => by
    rcases List.mem_append.mp hp with hp | hp
    · exact .inr (List.mem_append_left _ hp)
    · rcases List.mem_append.mp hp with hp | hp
      · exact .inl hp
      · exact .inr (List.mem_append_right _ hp)
  refine ⟨mc, ownP wr s.heap ++ news, δ, F, fun p hp => ?_, ⟨fun p hp => ?_, fun p hp q hq => ?_, fun a ao h => (R.ob a ao h).mono (fun _ _ z => z) (fun _ q => List.mem_append_right _ q) fun _ _ _ _ q => List.mem_append_right _ q, fun a ao h p hp => ?_, fun a c as h p hp => ?_, R.dσ, R.free, R.dinj⟩, e⟩
  · rcases List.mem_append.mp hp with hp | hp
    · obtain ⟨a, b⟩ := mem_ownP.mp hp
      exact ⟨b, fun q => h2 (q ▸ a), h3 _ a⟩
    · exact N p hp
  · rcases three p hp with hp | hp
    · exact List.mem_append_left _ hp
    · exact List.mem_append_right _ (R.sub p hp)
  · rcases List.mem_append.mp hq with hq | hq
    · exact fun q' => h1 p (R.sub p (List.mem_append_left _ hp)) (q' ▸ off hq)
    · exact R.apart p hp q hq
  · rcases three p hp with hp | hp
    · obtain ⟨o, ho⟩ := (R.ob a ao h).key
      exact fun q => h1 _ ho (by show a ∈ wr; rw [← q]; exact off hp)
    · exact R.off a ao h p hp
  · rcases three p hp with hp | hp
    · obtain ⟨_, es, k, ho, _⟩ := R.ob a _ h
      exact fun q => h1 _ ho (by show δ a ∈ wr; rw [← q]; exact off hp)
    · exact R.doff a c as h p hp
theorem SX.unpin {fz : Fz} {wr : List Addr} {s : Shared} {own : Fz} (hl : ∀ b ∈ wr, ∃ o, (b, o) ∈ own) (hp : ∀ p ∈ f.pin, p.1 ∉ wr) (h2 : f.L ∉ wr) (h3 : ∀ b ∈ wr, f.h₀.get? b = none) (x : SR C (f.withPin (own ++ f.pin)) fz m σ s) : SX C f fz m σ wr s := by
  obtain ⟨mc, news, δ, F, N, R, e⟩ := x
  have inpin : ∀ {b o}, (b, o) ∈ own → (b, o) ∈ fz ++ (own ++ f.pin) := fun h => List.mem_append_right _ (List.mem_append_left _ h)
  have keepM : ∀ {p : Addr × Obj}, p ∈ news → p.1 ∉ wr → p ∈ news.filter (fun p => decide (p.1 ∉ wr)) := fun h q => List.mem_filter.mpr ⟨h, by simpa using q⟩
  have anw : ∀ a ao, σ a = some ao → a ∉ wr := fun a ao h q => by obtain ⟨o, ho⟩ := hl a q; exact R.off a ao h _ (inpin ho) rfl
  have dnw : ∀ a c as, σ a = some (.inst c as) → δ a ∉ wr := fun a c as h q => by obtain ⟨o, ho⟩ := hl _ q; exact R.doff a c as h _ (inpin ho) rfl
  have up : ∀ p ∈ fz ++ f.pin, p ∈ fz ++ (own ++ f.pin) := fun p hp => (List.mem_append.mp hp).elim (fun h => List.mem_append_left _ h) fun h => List.mem_append_right _ (List.mem_append_right _ h)
  refine ⟨mc, news.filter (fun p => decide (p.1 ∉ wr)), δ, F, fun p hp => N p (List.mem_filter.mp hp).1, ⟨fun p hp' => keepM (R.sub p (up p hp')) ?_, fun p hp q hq => R.apart p hp q (List.mem_append_right _ hq), fun a ao h => (R.ob a ao h).mono (fun _ _ z => z) (fun _ q => keepM q (anw a ao h)) fun c as ea _ q => keepM q (dnw a c as (ea ▸ h)), fun a ao h p hp => R.off a ao h p (up p hp), fun a c as h p hp => R.doff a c as h p (up p hp), R.dσ, R.free, R.dinj⟩, e, fun p hp => by simpa using (List.mem_filter.mp hp).2, h2, h3⟩
  rcases List.mem_append.mp hp' with h | h
  · intro q
    obtain ⟨o, ho⟩ := hl _ q
    exact R.apart p h _ (List.mem_append_left _ ho) rfl
  · exact hp p h
theorem Fm.Ok.pin {n : Nat} {p : Fz} (ok : f.Ok C n) : (f.withPin p).Ok C n := ⟨ok.below, ok.kin, ok.top, ok.hk, ok.stack, ok.handled, ok.guards, ok.depth, ok.units, ok.kind, ok.ckind⟩

/-- what a value yields when it is walked -/
structure Wk (C : Cx) (f : Fm) (fz : Fz) (I : Addr) (wr : List Addr) (xs : List AVal) (St : Nat → Heap → Prop) (Lent : Heap → Prop) (back : AHeap → AHeap) : Prop where
  go : ∀ i (s : Shared) (Q : Option Value → Shared → Prop) (E : Value → Shared → Prop) x, xs[i]? = some x → St i s.heap →
    (∀ v h' tk, V (At C fz) v x → St (i + 1) h' → (∀ b o, b ∉ wr → s.heap.get? b = some o → h'.get? b = some o) → Q (some v) { s with heap := h', toks := tk }) → wpAny (Md C) f.A (pyNext (.ref I)) Q E s
  done : ∀ (s : Shared) (Q : Option Value → Shared → Prop) (E : Value → Shared → Prop), St xs.length s.heap →
    (∀ h' tk, (∀ b o, b ∉ wr → s.heap.get? b = some o → h'.get? b = some o) → Lent h' → Q none { s with heap := h', toks := tk }) → wpAny (Md C) f.A (pyNext (.ref I)) Q E s
  live : ∀ i h, St i h → ∀ b ∈ wr, ∃ o, h.get? b = some o
  frame : ∀ i h h', St i h → (∀ b ∈ wr, ∀ o, h.get? b = some o → h'.get? b = some o) → (∀ b o, At C fz b o ∨ (b, o) ∈ f.pin → h'.get? b = some o) → St i h'
  lent : ∀ i h, St i h → Lent h
  back : ∀ fz' m' σ' s', (∀ p ∈ fz, p ∈ fz') → SX C f fz' m' σ' wr s' → Lent s'.heap → SR C f fz' m' (back σ') s'
  self : ∀ i (s : Shared) (Q : Value → Shared → Prop) (E : Value → Shared → Prop), St i s.heap → Q (.ref I) s → wpAny (Md C) f.A (pyIter (.ref I)) Q E s
  lentF : ∀ (h h' : Heap), Lent h → (∀ b ∈ wr, ∀ o, h.get? b = some o → h'.get? b = some o) → Lent h'
structure WkT (C : Cx) (f : Fm) (fz : Fz) (I : Addr) (wr : List Addr) (xs : List (List AVal)) (St : Nat → Heap → Prop) (Lent : Heap → Prop) (back : AHeap → AHeap) : Prop where
  go : ∀ i (s : Shared) (Q : Option Value → Shared → Prop) (E : Value → Shared → Prop) x, xs[i]? = some x → St i s.heap →
    (∀ T vs h' tk, Vs (At C fz) vs x → h'.IsTuple T vs.toArray → T ∉ wr → (∀ b o, b ∉ wr → s.heap.get? b = some o → h'.get? b = some o) →
      (∀ ts k pos (s₂ : Shared) (Q₂ : Unit → Shared → Prop) (E₂ : Value → Shared → Prop), s₂.heap = h' → (∀ h₂, St (i + 1) h₂ → (∀ b o, b ∉ wr → h'.get? b = some o → h₂.get? b = some o) → Q₂ () { s₂ with heap := h₂ }) → wpAny (Md C) f.A (letOwnedTupleGo (.Tuple ts k pos) (.ref I) (.ref T)) Q₂ E₂ s₂) →
      Q (some (.ref T)) { s with heap := h', toks := tk }) → wpAny (Md C) f.A (pyNext (.ref I)) Q E s
  done : ∀ (s : Shared) (Q : Option Value → Shared → Prop) (E : Value → Shared → Prop), St xs.length s.heap →
    (∀ h' tk, (∀ b o, b ∉ wr → s.heap.get? b = some o → h'.get? b = some o) → Lent h' → Q none { s with heap := h', toks := tk }) → wpAny (Md C) f.A (pyNext (.ref I)) Q E s
  live : ∀ i h, St i h → ∀ b ∈ wr, ∃ o, h.get? b = some o
  frame : ∀ i h h', St i h → (∀ b ∈ wr, ∀ o, h.get? b = some o → h'.get? b = some o) → (∀ b o, At C fz b o ∨ (b, o) ∈ f.pin → h'.get? b = some o) → St i h'
  lent : ∀ i h, St i h → Lent h
  back : ∀ fz' m' σ' s', (∀ p ∈ fz, p ∈ fz') → SX C f fz' m' σ' wr s' → Lent s'.heap → SR C f fz' m' (back σ') s'
/-- the head of a for: the value and its iterator -/
def WI (C : Cx) (n : Nat) (f : Fm) (e : Expr) (m : AEnv) (σ : AHeap) (Q : (AHeap → AHeap) → List AVal → AHeap → Prop) : Prop :=
  f.Ok C n → ∀ fz s E, SR C f fz m σ s → wpAny (Md C) f.A (eval e f.env) (fun v s₁ => wpAny (Md C) f.A (pyIter v) (fun it s' => ∃ fz' σ' I wr xs St Lent back, it = .ref I ∧ (∀ p ∈ fz, p ∈ fz') ∧ Same s s' ∧ SX C f fz' m σ' wr s' ∧ Wk C f fz' I wr xs St Lent back ∧ St 0 s'.heap ∧ Q back xs σ') E s₁) E s
def WIT (C : Cx) (n : Nat) (f : Fm) (e : Expr) (m : AEnv) (σ : AHeap) (Q : (AHeap → AHeap) → List (List AVal) → AHeap → Prop) : Prop :=
  f.Ok C n → ∀ fz s E, SR C f fz m σ s → wpAny (Md C) f.A (eval e f.env) (fun v s₁ => wpAny (Md C) f.A (pyIter v) (fun it s' => ∃ fz' σ' I wr xs St Lent back, it = .ref I ∧ (∀ p ∈ fz, p ∈ fz') ∧ Same s s' ∧ SX C f fz' m σ' wr s' ∧ WkT C f fz' I wr xs St Lent back ∧ St 0 s'.heap ∧ Q back xs σ') E s₁) E s
def TI (C : Cx) (n : Nat) (f : Fm) (a : AVal) (m : AEnv) (σ : AHeap) (Q : (AHeap → AHeap) → List AVal → AHeap → Prop) : Prop :=
  f.Ok C n → ∀ fz s E v, SR C f fz m σ s → V (At C fz) v a → wpAny (Md C) f.A (pyIter v) (fun it s' => ∃ fz' σ' I wr xs St Lent back, it = .ref I ∧ (∀ p ∈ fz, p ∈ fz') ∧ Same s s' ∧ SX C f fz' m σ' wr s' ∧ Wk C f fz' I wr xs St Lent back ∧ St 0 s'.heap ∧ Q back xs σ') E s
theorem wi {e : Expr} {Q : (AHeap → AHeap) → List AVal → AHeap → Prop} (h : WE C n f e m σ fun a σ₁ => TI C n f a m σ₁ Q) : WI C n f e m σ Q := fun ok fz s E x =>
  wpAny_mono (h ok fz s E x) (fun v s₁ hq => hq.el fun fz₁ σ₁ a u1 e1 x1 va q1 => wpAny_mono (q1 ok fz₁ s₁ E v x1 va) (fun it s₂ ⟨fz₂, σ₂, I, wr, xs, St, Lent, back, ei, u2, e2, r⟩ => ⟨fz₂, σ₂, I, wr, xs, St, Lent, back, ei, fun p hp => u2 p (u1 p hp), e1.trans e2, r⟩) fun _ _ x => x) fun _ _ x => x
/-- one turn: what must hold behind the body -/
def Turn (back : AHeap → AHeap) (Inv : AEnv → AHeap → Prop) (Q : AFlow → AEnv → AHeap → Prop) : AFlow → AEnv → AHeap → Prop
  | .next, m, σ => ∃ m' σ', (∀ y a, AEnv.get m' y = some a → AEnv.get m y = some a) ∧ AHeap.le σ' σ ∧ Inv m' σ'
  | .cont, m, σ => ∃ m' σ', (∀ y a, AEnv.get m' y = some a → AEnv.get m y = some a) ∧ AHeap.le σ' σ ∧ Inv m' σ'
  | .brk, m, σ => Q .next m (back σ)
  | .ret a, m, σ => Q (.ret a) m (back σ)
theorem w1_forB {y : Str} {py : Pos} {iter : Expr} {body : List Stmt} {pos : Pos} {Q : AFlow → AEnv → AHeap → Prop} (Inv : (AHeap → AHeap) → List AVal → AEnv → AHeap → Prop)
    (h : WI C n f iter m σ fun back xs σ₂ => Inv back xs m σ₂)
    (turn : ∀ back pin x xs m' σ', Inv back (x :: xs) m' σ' → TS C n (f.withPin pin) y x m' σ' fun m₁ σ₁ => WS C n (f.withPin pin) body m₁ σ₁ (Turn back (Inv back xs) Q))
    (done : ∀ back m' σ', Inv back [] m' σ' → Q .next m' (back σ')) (hs : ∀ x, foldedSetIterable iter f.env x = pure x := by intro _; rfl) : W1 C n f (.For (.Name y py) iter body [] pos) m σ Q := fun ok fz s E x => by
  refine wpAny_For (wpAny_mono (h ok fz s E x) (fun v s₁ q1 => wpAny_mono q1 (fun it s₂ ⟨fz₂, σ₂, I, wr, xs, St, Lent, back, ei, u2, e2, x2, W, st, q2⟩ => ?_) fun _ _ x => x) fun _ _ x => x) hs
  subst ei
  have hpin : ∀ p ∈ f.pin, p.1 ∉ wr := by
    obtain ⟨mc, news, δ, F, N, R, e, h1, h2, h3⟩ := x2
    exact fun p hp => h1 p (R.sub p (List.mem_append_right _ hp))
  have hL : f.L ∉ wr := by obtain ⟨mc, news, δ, F, N, R, e, h1, h2, h3⟩ := x2; exact h2
  have h0 : ∀ b ∈ wr, f.h₀.get? b = none := by obtain ⟨mc, news, δ, F, N, R, e, h1, h2, h3⟩ := x2; exact h3
  refine codeAny_forLoop (fun k s' => ∃ fz' m' σ' i, (∀ p ∈ fz₂, p ∈ fz') ∧ Same s₂ s' ∧ SX C f fz' m' σ' wr s' ∧ St i s'.heap ∧ Inv back (xs.drop i) m' σ' ∧ i ≤ xs.length ∧ k = xs.length - i) ?_ (xs.length) ⟨fz₂, m, σ₂, 0, sub_refl, .rfl, x2, st, q2, Nat.zero_le _, rfl⟩
  rintro k s' ⟨fz', m', σ', i, u3, e3, x3, st3, q3, hi, rfl⟩
  have uu : ∀ p ∈ fz, p ∈ fz' := fun p hp => u3 p (u2 p hp)
  cases hx : xs[i]? with
  | none =>
    have hlen : i = xs.length := by have := List.getElem?_eq_none_iff.mp hx; omega
    subst hlen
    refine W.done _ _ _ st3 fun h' tk k hl => wpAny_execs_nil ?_
    rw [List.drop_length] at q3
    exact ⟨fz', back σ', m', .next, uu, (e2.trans e3).trans ⟨_, _, rfl⟩, W.back _ _ _ _ u3 (x3.step (t := tk) k) hl, trivial, done _ _ _ q3⟩
  | some b =>
    obtain ⟨hlt, hb⟩ := List.getElem?_eq_some_iff.mp hx
    have hd : xs.drop i = b :: xs.drop (i + 1) := by rw [List.drop_eq_getElem_cons hlt, hb]
    rw [hd] at q3
    refine W.go i _ _ _ b hx st3 fun v h' tk hv st' k => ?_
    have x4 := x3.step (t := tk) k
    have x5 := x4.pin
    refine PyProof.Rows.assign_Name (wpAny_mono (turn back (ownP wr h' ++ f.pin) b _ m' σ' q3 ok.pin fz' _ _ v x5 (hv.up u3)) (fun _ s₅ hq => PU.el hq fun fz₅ σ₅ m₅ u5 e5 x6 q5 => ?_) fun _ _ x => x)
    refine wpAny_mono (q5 ok.pin fz₅ s₅ _ x6) (fun fl s₆ hq => hq.el fun fz₆ σ₆ m₆ a₆ u6 e6 x7 va6 q6 => ?_) fun _ _ x => x
    have es : Same s s₆ := ((((e2.trans e3).trans ⟨_, _, rfl⟩).trans e5).trans e6)
    have us : ∀ p ∈ fz, p ∈ fz₆ := fun p hp => u6 p (u5 p (uu p hp))
    have u26 : ∀ p ∈ fz₂, p ∈ fz₆ := fun p hp => u6 p (u5 p (u3 p hp))
    have un : ∀ {m' : AEnv} {σ' : AHeap}, SR C (f.withPin (ownP wr h' ++ f.pin)) fz₆ m' σ' s₆ → SX C f fz₆ m' σ' wr s₆ := fun x => SX.unpin (fun b hb => by obtain ⟨o, ho⟩ := W.live _ _ st' b hb; exact ⟨o, (mem_ownP (p := (b, o))).mpr ⟨hb, ho⟩⟩) hpin hL h0 x
    have st6 : St (i + 1) s₆.heap := by
      refine W.frame _ _ _ st' (fun b hb o ho => ?_) fun b o q => ?_
      · obtain ⟨mc, news, δ, F, N, R, e⟩ := x7
        exact (N _ (R.sub _ (List.mem_append_right _ (List.mem_append_left _ ((mem_ownP (p := (b, o))).mpr ⟨hb, ho⟩))))).1
      · rcases q with q | q
        · exact (x7.at_ ok.pin (q.mono u26))
        · obtain ⟨mc, news, δ, F, N, R, e⟩ := x7
          exact (N _ (R.sub _ (List.mem_append_right _ (List.mem_append_right _ q)))).1
    have bk := W.back _ _ _ _ u26 (un x7) (W.lent _ _ st6)
    have next : Turn back (Inv back (xs.drop (i + 1))) Q .next m₆ σ₆ → ∃ m, m < xs.length - i ∧ ∃ fz' m' σ' i, (∀ p ∈ fz₂, p ∈ fz') ∧ Same s₂ s₆ ∧ SX C f fz' m' σ' wr s₆ ∧ St i s₆.heap ∧ Inv back (xs.drop i) m' σ' ∧ i ≤ xs.length ∧ m = xs.length - i := by
      rintro ⟨m₇, σ₇, hm, hσ, q7⟩
      exact ⟨xs.length - (i + 1), by omega, fz₆, m₇, σ₇, i + 1, u26, ((e3.trans ⟨_, _, rfl⟩).trans e5).trans e6, un (x7.weaken hm hσ), st6, q7, hlt, rfl⟩
    cases fl with
    | next => cases a₆ <;> first | exact next q6 | exact va6.elim
    | cont => cases a₆ <;> first | exact next q6 | exact va6.elim
    | brk => cases a₆ <;> first | exact ⟨fz₆, back σ₆, m₆, .next, us, es, bk, trivial, q6⟩ | exact va6.elim
    | ret r => cases a₆ <;> first | exact ⟨fz₆, back σ₆, m₆, .ret _, us, es, bk, va6, q6⟩ | exact va6.elim
theorem w1_forTB {ts : List Expr} {tk : Nat} {tp : Pos} {iter : Expr} {body : List Stmt} {pos : Pos} {Q : AFlow → AEnv → AHeap → Prop} (Inv : (AHeap → AHeap) → List (List AVal) → AEnv → AHeap → Prop)
    (h : WIT C n f iter m σ fun back xs σ₂ => Inv back xs m σ₂)
    (turn : ∀ back pin x xs m' σ', Inv back (x :: xs) m' σ' → (assignEach ts f.env).length = x.length ∧ TAs C n (f.withPin pin) ts x m' σ' fun m₁ σ₁ => WS C n (f.withPin pin) body m₁ σ₁ (Turn back (Inv back xs) Q))
    (done : ∀ back m' σ', Inv back [] m' σ' → Q .next m' (back σ')) (hstar : (assignEach ts f.env).findIdx? (·.1) = none := by rfl) (hs : ∀ x, foldedSetIterable iter f.env x = pure x := by intro _; rfl) : W1 C n f (.For (.Tuple ts tk tp) iter body [] pos) m σ Q := fun ok fz s E x => by
  refine wpAny_For (wpAny_mono (h ok fz s E x) (fun v s₁ q1 => wpAny_mono q1 (fun it s₂ ⟨fz₂, σ₂, I, wr, xs, St, Lent, back, ei, u2, e2, x2, W, st, q2⟩ => ?_) fun _ _ x => x) fun _ _ x => x) hs
  subst ei
  have hpin : ∀ p ∈ f.pin, p.1 ∉ wr := by
    obtain ⟨mc, news, δ, F, N, R, e, h1, h2, h3⟩ := x2
    exact fun p hp => h1 p (R.sub p (List.mem_append_right _ hp))
  have hL : f.L ∉ wr := by obtain ⟨mc, news, δ, F, N, R, e, h1, h2, h3⟩ := x2; exact h2
  have h0 : ∀ b ∈ wr, f.h₀.get? b = none := by obtain ⟨mc, news, δ, F, N, R, e, h1, h2, h3⟩ := x2; exact h3
  refine codeAny_forLoop_any (fun k s' => ∃ fz' m' σ' i, (∀ p ∈ fz₂, p ∈ fz') ∧ Same s₂ s' ∧ SX C f fz' m' σ' wr s' ∧ St i s'.heap ∧ Inv back (xs.drop i) m' σ' ∧ i ≤ xs.length ∧ k = xs.length - i) ?_ (xs.length) ⟨fz₂, m, σ₂, 0, sub_refl, .rfl, x2, st, q2, Nat.zero_le _, rfl⟩
  rintro k s' ⟨fz', m', σ', i, u3, e3, x3, st3, q3, hi, rfl⟩
  have uu : ∀ p ∈ fz, p ∈ fz' := fun p hp => u3 p (u2 p hp)
  cases hx : xs[i]? with
  | none =>
    have hlen : i = xs.length := by have := List.getElem?_eq_none_iff.mp hx; omega
    subst hlen
    refine W.done _ _ _ st3 fun h' tk k hl => wpAny_execs_nil ?_
    rw [List.drop_length] at q3
    exact ⟨fz', back σ', m', .next, uu, (e2.trans e3).trans ⟨_, _, rfl⟩, W.back _ _ _ _ u3 (x3.step (t := tk) k) hl, trivial, done _ _ _ q3⟩
  | some b =>
    obtain ⟨hlt, hb⟩ := List.getElem?_eq_some_iff.mp hx
    have hd : xs.drop i = b :: xs.drop (i + 1) := by rw [List.drop_eq_getElem_cons hlt, hb]
    rw [hd] at q3
    refine W.go i _ _ _ b hx st3 fun T vs h₁ tk₁ hvs hT hTw k₁ hgo => ?_
    refine hgo _ _ _ _ _ _ rfl fun h' st' k₂ => ?_
    have x4 := (x3.step (t := tk₁) k₁).step (t := tk₁) k₂
    have x5 := x4.pin
    obtain ⟨hn, tn⟩ := turn back (ownP wr h' ++ f.pin) b _ m' σ' q3
    have hT' : h'.IsTuple T vs.toArray := by obtain ⟨o, ho, r⟩ := hT; exact ⟨o, k₂ _ _ hTw ho, r⟩
    refine wpAny_assign_Tuple ok.handled hT' (by rw [hn, List.size_toArray, hvs.length]) hstar fun h'' he => ?_
    have x5' := x5.grow (t := tk₁) (ext_keeps he)
    refine wpAny_mono (tn ok.pin fz' { s' with heap := h'', toks := tk₁ } _ vs x5' (hvs.up u3)) (fun _ s₅ hq => PU.el hq fun fz₅ σ₅ m₅ u5 e5 x6 q5 => ?_) fun _ _ x => x
    refine wpAny_mono (q5 ok.pin fz₅ s₅ _ x6) (fun fl s₆ hq => hq.el fun fz₆ σ₆ m₆ a₆ u6 e6 x7 va6 q6 => ?_) fun _ _ x => x
    have e35 : Same s₂ s₆ := ((e3.trans ⟨h'', tk₁, rfl⟩).trans e5).trans e6
    have us : ∀ p ∈ fz, p ∈ fz₆ := fun p hp => u6 p (u5 p (uu p hp))
    have u26 : ∀ p ∈ fz₂, p ∈ fz₆ := fun p hp => u6 p (u5 p (u3 p hp))
    have un : ∀ {m' : AEnv} {σ' : AHeap}, SR C (f.withPin (ownP wr h' ++ f.pin)) fz₆ m' σ' s₆ → SX C f fz₆ m' σ' wr s₆ := fun x => SX.unpin (fun b hb => by obtain ⟨o, ho⟩ := W.live _ _ st' b hb; exact ⟨o, (mem_ownP (p := (b, o))).mpr ⟨hb, ho⟩⟩) hpin hL h0 x
    have st6 : St (i + 1) s₆.heap := by
      refine W.frame _ _ _ st' (fun b hb o ho => ?_) fun b o q => ?_
      · obtain ⟨mc, news, δ, F, N, R, e⟩ := x7
        exact (N _ (R.sub _ (List.mem_append_right _ (List.mem_append_left _ ((mem_ownP (p := (b, o))).mpr ⟨hb, ho⟩))))).1
      · rcases q with q | q
        · exact (x7.at_ ok.pin (q.mono u26))
        · obtain ⟨mc, news, δ, F, N, R, e⟩ := x7
          exact (N _ (R.sub _ (List.mem_append_right _ (List.mem_append_right _ q)))).1
    have bk := W.back _ _ _ _ u26 (un x7) (W.lent _ _ st6)
    have next : Turn back (Inv back (xs.drop (i + 1))) Q .next m₆ σ₆ → ∃ m, m < xs.length - i ∧ ∃ fz' m' σ' i, (∀ p ∈ fz₂, p ∈ fz') ∧ Same s₂ s₆ ∧ SX C f fz' m' σ' wr s₆ ∧ St i s₆.heap ∧ Inv back (xs.drop i) m' σ' ∧ i ≤ xs.length ∧ m = xs.length - i := by
      rintro ⟨m₇, σ₇, hm, hσ, q7⟩
      exact ⟨xs.length - (i + 1), by omega, fz₆, m₇, σ₇, i + 1, u26, e35, un (x7.weaken hm hσ), st6, q7, hlt, rfl⟩
    cases fl with
    | next => cases a₆ <;> first | exact next q6 | exact va6.elim
    | cont => cases a₆ <;> first | exact next q6 | exact va6.elim
    | brk => cases a₆ <;> first | exact ⟨fz₆, back σ₆, m₆, .next, us, e2.trans e35, bk, trivial, q6⟩ | exact va6.elim
    | ret r => cases a₆ <;> first | exact ⟨fz₆, back σ₆, m₆, .ret _, us, e2.trans e35, bk, va6, q6⟩ | exact va6.elim
end
end Mine

open PySem PySem.W PyProof.Rows PySem.Calls
namespace Mine
section
variable {C : Cx} {n : Nat} {f : Fm} {m : AEnv} {σ : AHeap}
theorem ge_none {h : Heap} {a : Addr} (ha : h.objs.size ≤ a) : h.get? a = none := by
  cases q : h.get? a with
  | none => rfl
  | some o => exact absurd (Heap.lt_size q) (Nat.not_lt.mpr ha)
/-- one new frozen object -/
theorem PV.new {fz : Fz} {s : Shared} {Q : AVal → AHeap → Prop} {a : AVal} {h' : Heap} {t : Nat} {b : Addr} {o : Obj} (x : SR C f fz m σ s) (k : ∀ b o, s.heap.get? b = some o → h'.get? b = some o) (hb : s.heap.objs.size ≤ b) (ho : h'.get? b = some o)
    (hv : ∀ fz', (b, o) ∈ fz' → (∀ p ∈ fz, p ∈ fz') → V (At C fz') (.ref b) a) (q : Q a σ) : PV C f m fz s Q (.ref b) { s with heap := h', toks := t } :=
  ⟨[(b, o)] ++ fz, σ, a, fun p hp => List.mem_append_right _ hp, .mk, x.freeze (t := t) k _ (fun p hp => by rw [List.mem_singleton.mp hp]; exact ⟨ge_none hb, hb, ho⟩), hv _ (List.mem_append_left _ (List.mem_singleton.mpr rfl)) (fun p hp => List.mem_append_right _ hp), q⟩
theorem PV.push {fz : Fz} {s : Shared} {Q : AVal → AHeap → Prop} {a : AVal} {t : Nat} {o : Obj} (x : SR C f fz m σ s) (hf : o.isFreed = false) (hv : ∀ fz', (s.heap.objs.size, o) ∈ fz' → (∀ p ∈ fz, p ∈ fz') → V (At C fz') (.ref s.heap.objs.size) a) (q : Q a σ) :
    PV C f m fz s Q (.ref s.heap.objs.size) { s with heap := s.heap.push o, toks := t } := .new x (fun b o e => Heap.get?_push_of_some _ e) (Nat.le_refl _) (Heap.get?_push_size _ hf) hv q
/-! ## ints -/
section
variable {Q : AVal → AHeap → Prop} {a b : Int}
theorem t2_div (hb : b ≠ 0) (hs : b.natAbs < 1073741824) (h : Q (.int (a.fdiv b)) σ) : T2 C n f (binaryOp .FloorDiv) (.int a) (.int b) m σ Q := fun ok fz s E v w x hv hw => by cases hv; cases hw; exact floordiv_int hb (.tok x (.int _ _) h) (.inl (PyProof.noPylong_small hs))
theorem t2_mod (hb : b ≠ 0) (hs : b.natAbs < 1073741824) (h : Q (.int (a.fmod b)) σ) : T2 C n f (binaryOp .Mod) (.int a) (.int b) m σ Q := fun ok fz s E v w x hv hw => by cases hv; cases hw; exact mod_int' hb (.tok x (.int _ _) h)
theorem t1_neg (h : Q (.int (-a)) σ) : T1 C n f (unaryOp .USub) (.int a) m σ Q := fun ok fz s E v x hv => by cases hv; exact PyProof.Rows.neg_int (.tok x (.int _ _) h)
theorem t2_eq (h : Q (.bool (a == b)) σ) : T2 C n f (compareOp .Eq) (.int a) (.int b) m σ Q := fun ok fz s E v w x hv hw => by cases hv; cases hw; exact PyProof.Rows.eq_int (.here x (.bool _) h)
end

/-! ## None -/
def isNone : AVal → Option Bool
  | .none => some true
  | .raw _ => Option.none
  | _ => some false
theorem isNone_ok {P : Addr → Obj → Prop} {v : Value} {a : AVal} {b : Bool} (h : V P v a) (e : isNone a = some b) : (v == Value.none) = b := by
  cases h <;> simp [isNone] at e <;> subst e <;> rfl
theorem t2_isNotNone {a : AVal} {b : Bool} {Q : AVal → AHeap → Prop} (e : isNone a = some b) (h : Q (.bool (!b)) σ) : T2 C n f (compareOp .IsNot) a .none m σ Q := fun ok fz s E v w x hv hw => by
  have := isNone_ok hv e
  cases hw; exact isNot_none (by rw [this]; exact .here x (.bool _) h)

/-! ## builtins called -/
theorem keep_type {h : Heap} {i : String} : Keep C h (.type i) := ⟨.machine, .inr (.inl rfl), Looks.of_pure rfl⟩
theorem tc_range1 {a : Int} {Q : AVal → AHeap → Prop} (h : Q (.rng 0 a 1) σ) : TC C n f (.raw (.type "range")) [.int a] m σ Q := fun ok fz s E v vs x hv hvs => by
  cases hv; obtain _ | ⟨h1, h2⟩ := hvs; cases h2; cases h1
  exact ⟨keep_type, call_range_1 (.push x rfl (fun fz' h _ => .rng (.inl h)) h)⟩
/-! ## iterators -/
theorem SX.ofPush {fz : Fz} {s : Shared} {o : Obj} {t : Nat} (x : SR C f fz m σ s) : SX C f fz m σ [s.heap.objs.size] { s with heap := s.heap.push o, toks := t } := by
  obtain ⟨mc, news, δ, F, N, R, e⟩ := x
  obtain ⟨oL, a1, a2, hL, a3⟩ := id F.ns
  refine ⟨mc, news, δ, F.push o, fun p hp => ⟨Heap.get?_push_of_some _ (N p hp).1, (N p hp).2⟩, R, e, fun p hp hm => ?_, fun hm => ?_, fun b hb => ?_⟩
  · exact absurd (news_lt N hp) (by rw [List.mem_singleton.mp hm]; exact Nat.lt_irrefl _)
  · exact absurd (Heap.lt_size hL) (by rw [List.mem_singleton.mp hm]; exact Nat.lt_irrefl _)
  · rw [List.mem_singleton.mp hb]
    cases q : f.h₀.get? s.heap.objs.size with
    | none => rfl
    | some o => exact absurd (Heap.lt_size (F.keep _ _ q)) (Nat.lt_irrefl _)
theorem ti_lst {xs : List AVal} {Q : (AHeap → AHeap) → List AVal → AHeap → Prop} (h : Q id xs σ) : TI C n f (.lst xs) m σ Q := fun ok fz s E v x hv => by
  cases hv with
  | lst p1 p2 p3 p4 =>
    rename_i l o k vs
    have ho := x.at_ ok p1
    have hl : s.heap.IsList l vs.toArray := ⟨_, ho, p2, _, p3⟩
    have hne : l ≠ s.heap.objs.size := Nat.ne_of_lt (Heap.lt_size ho)
    refine wpAny_pyIter_list hl ?_
    have W := Walks.list (prog := C.prog) (w := C.w) ok.handled s.heap.objs.size l hne vs.toArray
    refine ⟨fz, σ, s.heap.objs.size, [s.heap.objs.size], xs, fun i h => h.IsListIter s.heap.objs.size l i ∧ h.IsList l vs.toArray, fun _ => True, id, rfl, sub_refl, ⟨_, s.toks, rfl⟩, SX.ofPush (t := s.toks) x, ⟨?_, ?_, ?_, ?_, fun _ _ _ => trivial, fun _ _ _ _ _ x _ => x.sr, fun i s Q E h q => W.self i s Q E h q, fun _ _ _ _ => trivial⟩, ⟨⟨_, Heap.get?_push_size _ rfl, rfl, rfl⟩, hl.at fun o e => Heap.get?_push_of_some _ e⟩, h⟩
    · intro i s Q E y hy hs hQ
      have hi : i < vs.toArray.size := by rw [List.size_toArray, p4.length]; exact (List.getElem?_eq_some_iff.mp hy).1
      refine W.item i s Q E hi hs fun v h' tk hv => hQ v h' tk ?_
      obtain ⟨u, h1, h2⟩ := p4.get hy
      have : vs[i]? = some v := by simpa using hv
      rw [h1] at this; cases this; exact h2
    · intro s Q E hs hQ
      have hz : vs.toArray.size = xs.length := by rw [List.size_toArray, p4.length]
      refine W.done s Q E (by rw [hz]; exact hs) fun h' tk k => hQ h' tk k trivial
    · intro i h hs b hb
      rw [List.mem_singleton.mp hb]
      obtain ⟨o, h1, _⟩ := hs.1; exact ⟨o, h1⟩
    · intro i h h' hs hw hp
      exact ⟨hs.1.at fun o e => hw _ (List.mem_singleton.mpr rfl) o e, ⟨_, hp _ _ (.inl p1), p2, _, p3⟩⟩
def rngL (a c : Int) (k : Nat) : List AVal := (List.range k).map fun (i : Nat) => AVal.int (a + (i : Int) * c)
theorem ti_rng {a b c : Int} {k : Nat} {Q : (AHeap → AHeap) → List AVal → AHeap → Prop} (hsmall : Builtin.Range.small a b c = true) (hk : Builtin.Range.rangeSize a b c = (k : Int)) (h : Q id (rngL a c k) σ) : TI C n f (.rng a b c) m σ Q := fun ok fz s E v x hv => by
  cases hv with
  | rng p1 =>
    have ho := x.at_ ok p1
    refine wpAny_pyIter_range ho hsmall ?_
    have W := Walks.range (prog := C.prog) (w := C.w) ok.handled s.heap.objs.size a c k
    have hlen : (rngL a c k).length = k := by simp [rngL]
    refine ⟨fz, σ, s.heap.objs.size, [s.heap.objs.size], rngL a c k, fun i h => IsRangeIter h s.heap.objs.size (a + (i : Nat) * c) ((k : Int) - (i : Nat)) c, fun _ => True, id, rfl, sub_refl, ⟨_, s.toks, rfl⟩, SX.ofPush (t := s.toks) x, ⟨?_, ?_, ?_, ?_, fun _ _ _ => trivial, fun _ _ _ _ _ x _ => x.sr, fun i s Q E h q => W.self i s Q E h q, fun _ _ _ _ => trivial⟩, ?_, h⟩
    · intro i s Q E y hy hs hQ
      have hi : i < k := by have := (List.getElem?_eq_some_iff.mp hy).1; omega
      refine W.item i s Q E hi hs fun v h' tk hv => hQ v h' tk ?_
      obtain ⟨t, rfl⟩ := hv
      have : y = .int (a + i * c) := by simp [rngL, hi] at hy; exact hy.symm
      subst this
      exact .int _ _
    · intro s Q E hs hQ
      exact W.done s Q E (by rw [hlen] at hs; exact hs) fun h' tk k => hQ h' tk k trivial
    · intro i h hs b hb
      rw [List.mem_singleton.mp hb]
      exact ⟨_, hs⟩
    · intro i h h' hs hw hp
      exact hw _ (List.mem_singleton.mpr rfl) _ hs
    · show IsRangeIter _ _ _ _ _
      rw [hk]
      simpa using Heap.get?_push_size s.heap (o := { cls := .type "range_iterator", data := .fields #[rawInt a, rawInt k, rawInt c] }) rfl
theorem w1_for {y : Str} {py : Pos} {iter : Expr} {body : List Stmt} {pos : Pos} {Q : AFlow → AEnv → AHeap → Prop} (Inv : List AVal → AEnv → AHeap → Prop)
    (h : WI C n f iter m σ fun back xs σ₂ => back = id ∧ Inv xs m σ₂)
    (turn : ∀ pin x xs m' σ', Inv (x :: xs) m' σ' → TS C n (f.withPin pin) y x m' σ' fun m₁ σ₁ => WS C n (f.withPin pin) body m₁ σ₁ (Turn id (Inv xs) Q))
    (done : ∀ m' σ', Inv [] m' σ' → Q .next m' σ') (hs : ∀ x, foldedSetIterable iter f.env x = pure x := by intro _; rfl) : W1 C n f (.For (.Name y py) iter body [] pos) m σ Q := by
  refine w1_forB (fun back xs m σ => back = id ∧ Inv xs m σ) h (fun back pin x xs m' σ' ⟨e, q⟩ => ?_) (fun back m' σ' ⟨e, q⟩ => by subst e; exact done _ _ q) hs
  subst e
  have key : Turn id (Inv xs) Q = Turn id (fun m σ => id = (id : AHeap → AHeap) ∧ Inv xs m σ) Q := by
    funext a m σ; cases a <;> simp [Turn]
  rw [← key]
  exact turn pin x xs m' σ' q
end
end Mine

open PySem PySem.W PyProof.Rows PySem.Calls
namespace Mine
section
variable {C : Cx} {n : Nat} {f : Fm} {m : AEnv} {σ : AHeap}
theorem HR.addFz {fz pin : Fz} {δ : Addr → Addr} {news : List (Addr × Obj)} (R : HR C fz pin σ δ news) (new : Fz) (hn : ∀ p ∈ new, ∀ q ∈ news, q.1 ≠ p.1) : HR C (new ++ fz) pin σ δ (new ++ news) := by
  have up : ∀ p ∈ fz, p ∈ new ++ fz := fun p hp => List.mem_append_right _ hp
  have split : ∀ p ∈ (new ++ fz) ++ pin, p ∈ new ∨ p ∈ fz ++ pin := fun p hp => by rw [List.append_assoc] at hp; exact List.mem_append.mp hp
  refine ⟨fun p hp => ?_, fun p hp q hq => ?_, fun a ao h => (R.ob a ao h).mono (fun _ _ => At.mono up) (fun _ q => List.mem_append_right _ q) fun _ _ _ _ q => List.mem_append_right _ q, fun a ao h p hp => ?_, fun a c as h p hp => ?_, R.dσ, fun p hp => let ⟨o, v, a, b, c⟩ := R.free p hp; ⟨o, v, a.mono up, b, c.up up⟩, R.dinj⟩
  · rcases split p hp with hp | hp
    · exact List.mem_append_left _ hp
    · exact List.mem_append_right _ (R.sub _ hp)
  · rcases List.mem_append.mp hp with hp | hp
    · exact fun e => hn p hp q (R.sub _ (List.mem_append_right _ hq)) e.symm
    · exact R.apart p hp q hq
  · rcases split p hp with hp | hp
    · obtain ⟨o, ho⟩ := (R.ob a ao h).key; exact fun q => hn p hp _ ho q.symm
    · exact R.off a ao h p hp
  · rcases split p hp with hp | hp
    · obtain ⟨_, es, k, ho, _⟩ := R.ob a _ h; exact fun q => hn p hp _ ho q.symm
    · exact R.doff a c as h p hp
theorem ER.up {fz fz' : Fz} {mc : Str → Option Value} (h : ∀ p ∈ fz, p ∈ fz') (e : ER (At C fz) m mc) : ER (At C fz') m mc := fun y a hy => by obtain ⟨v, h1, h2⟩ := e y a hy; exact ⟨v, h1, h2.up h⟩

/-! ## things of a class -/
theorem tc_fin {c : Addr} {Q : AVal → AHeap → Prop} (hk : keepIn C.K (.ref c) = true) (hm : makesIn C.K c = true) (hi : findIn C.K (.ref c) "__init__" = some (some (.builtin "object.__init__"))) (h : Q (.fin c) σ) : TC C n f (.raw (.ref c)) [] m σ Q := fun ok fz s E v vs x hv hvs => by
  cases hv; cases hvs
  refine ⟨keep_K ok x hk, ?_⟩
  obtain ⟨mc, news, δ, F, N, R, e⟩ := x
  refine call_cls0 F ok.kin N hm hi fun y d h' F' N' l1 l2 => ?_
  have hn : ∀ p ∈ [(y, instObj c d), (d, dictOf [] 0)], ∀ q ∈ news, q.1 ≠ p.1 := fun p hp q hq => by
    have := l1 q hq
    rcases List.mem_cons.mp hp with rfl | hp
    · exact Nat.ne_of_lt (Nat.lt_trans this l2)
    · rw [List.mem_singleton.mp hp]; exact Nat.ne_of_lt this
  have up : ∀ p ∈ fz, p ∈ [(y, instObj c d), (d, dictOf [] 0)] ++ fz := fun p hp => List.mem_append_right _ hp
  exact ⟨[(y, instObj c d), (d, dictOf [] 0)] ++ fz, σ, .fin c, up, ⟨h', s.toks, rfl⟩, ⟨mc, _, δ, F', N', R.addFz _ hn, e.up up⟩, .fin (.inl (List.mem_append_left _ (List.mem_cons_self ..))) (.inl (List.mem_append_left _ (List.mem_cons_of_mem _ (List.mem_cons_self ..)))), h⟩
theorem HR.addInst {fz pin : Fz} {δ : Addr → Addr} {news : List (Addr × Obj)} {y d c : Addr} (R : HR C fz pin σ δ news) (l1 : ∀ q ∈ news, q.1 < d) (l2 : d < y) :
    HR C fz pin (σ.set y (.inst c [])) (fun b => if b = y then d else δ b) ((y, instObj c d) :: (d, dictOf [] 0) :: news) := by
  have ny : ∀ q ∈ news, q.1 ≠ y := fun q hq => Nat.ne_of_lt (Nat.lt_trans (l1 q hq) l2)
  have nd : ∀ q ∈ news, q.1 ≠ d := fun q hq => Nat.ne_of_lt (l1 q hq)
  have ky : ∀ b bo, σ b = some bo → b ≠ y ∧ b ≠ d := fun b bo hb => by obtain ⟨o, h⟩ := (R.ob b bo hb).key; exact ⟨ny _ h, nd _ h⟩
  have kd : ∀ b c as, σ b = some (.inst c as) → δ b ≠ y ∧ δ b ≠ d := fun b c as hb => by obtain ⟨_, es, k, h, _⟩ := R.ob b _ hb; exact ⟨ny _ h, nd _ h⟩
  have hσd : σ d = none := by
    cases q : σ d with
    | none => rfl
    | some o => exact absurd rfl (ky d o q).2
  have hne : y ≠ d := Nat.ne_of_gt l2
  refine ⟨fun p hp => .tail _ (.tail _ (R.sub p hp)), R.apart, fun b bo hb => ?_, fun b bo hb p hp => ?_, fun b c₁ as hb p hp => ?_, fun b c₁ as hb => ?_, R.free, fun b c₁ as b' c' bs h1 h2 => ?_⟩
  · by_cases q : b = y
    · subst q; rw [AHeap.set_same] at hb; cases hb
      rw [if_pos rfl]
      exact ⟨List.mem_cons_self .., [], 0, .tail _ (List.mem_cons_self ..), .nil⟩
    · rw [AHeap.set_ne _ _ q] at hb
      rw [if_neg q]
      exact (R.ob b bo hb).mono (fun _ _ x => x) (fun _ hm => .tail _ (.tail _ hm)) fun c as eb _ hm => .tail _ (.tail _ hm)
  · by_cases q : b = y
    · subst q; exact ny _ (R.sub p hp)
    · rw [AHeap.set_ne _ _ q] at hb; exact R.off b bo hb p hp
  · by_cases q : b = y
    · rw [if_pos q]; exact nd _ (R.sub p hp)
    · rw [AHeap.set_ne _ _ q] at hb; rw [if_neg q]; exact R.doff b c₁ as hb p hp
  · by_cases q : b = y
    · rw [if_pos q, AHeap.set_ne _ _ (Ne.symm hne)]; exact hσd
    · rw [AHeap.set_ne _ _ q] at hb; rw [if_neg q, AHeap.set_ne _ _ (kd b c₁ as hb).1]; exact R.dσ b c₁ as hb
  · by_cases q : b = y <;> by_cases q' : b' = y
    · intro _; rw [q, q']
    · rw [AHeap.set_ne _ _ q'] at h2; rw [if_pos q, if_neg q']; exact fun e => absurd e.symm (kd b' c' bs h2).2
    · rw [AHeap.set_ne _ _ q] at h1; rw [if_neg q, if_pos q']; exact fun e => absurd e (kd b c₁ as h1).2
    · rw [AHeap.set_ne _ _ q] at h1; rw [AHeap.set_ne _ _ q'] at h2; rw [if_neg q, if_neg q']; exact R.dinj b c₁ as b' c' bs h1 h2
theorem HR.noneAt {fz pin : Fz} {δ : Addr → Addr} {news : List (Addr × Obj)} {y : Addr} (R : HR C fz pin σ δ news) (l : ∀ q ∈ news, q.1 ≠ y) : σ y = none := by
  cases q : σ y with
  | none => rfl
  | some o => obtain ⟨o, h⟩ := (R.ob y o q).key; exact absurd rfl (l _ h)
/-- a thing of a class without __init__, that may change -/
theorem tc_inst0 {c : Addr} {Q : AVal → AHeap → Prop} (hk : keepIn C.K (.ref c) = true) (hm : makesIn C.K c = true) (hi : findIn C.K (.ref c) "__init__" = some (some (.builtin "object.__init__"))) (h : ∀ a, σ a = none → Q (.obj a) (σ.set a (.inst c []))) :
    TC C n f (.raw (.ref c)) [] m σ Q := fun ok fz s E v vs x hv hvs => by
  cases hv; cases hvs
  refine ⟨keep_K ok x hk, ?_⟩
  obtain ⟨mc, news, δ, F, N, R, e⟩ := x
  refine call_cls0 F ok.kin N hm hi fun y d h' F' N' l1 l2 => ?_
  exact ⟨fz, _, .obj y, sub_refl, ⟨h', s.toks, rfl⟩, ⟨mc, _, _, F', N', R.addInst l1 l2, e⟩, .obj y, h y (R.noneAt fun q hq => Nat.ne_of_lt (Nat.lt_trans (l1 q hq) l2))⟩
/-! ## type, is -/
theorem tc_type_int {i : Int} {Q : AVal → AHeap → Prop} (h : Q (.raw (.type "int")) σ) : TC C n f (.raw (.type "type")) [.int i] m σ Q := fun ok fz s E v vs x hv hvs => by
  cases hv; obtain _ | ⟨h1, h2⟩ := hvs; cases h2; cases h1
  exact ⟨keep_type, call_type_of (typeIs_int s _ _) (by decide) (.here x (.raw _) h)⟩
theorem t2_isRaw {a b : Value} {Q : AVal → AHeap → Prop} (hp : plainIs a b = true) (h : Q (.bool (a == b)) σ) : T2 C n f (compareOp .Is) (.raw a) (.raw b) m σ Q := fun ok fz s E v w x hv hw => by
  cases hv; cases hw; exact wpAny_is_plain hp (.here x (.bool _) h)
/-! ## functions of ints -/
/-! ## lists -/
theorem SR.newFz {fz : Fz} {s : Shared} (x : SR C f fz m σ s) : ∃ mc news, Fr f.h₀ f.L s.heap mc ∧ News f.h₀ f.L s.heap news ∧
    ∀ h' t o, Fr f.h₀ f.L h' mc → News f.h₀ f.L h' ((s.heap.objs.size, o) :: news) → SR C f ([(s.heap.objs.size, o)] ++ fz) m σ { s with heap := h', toks := t } := by
  obtain ⟨mc, news, δ, F, N, R, e⟩ := x
  refine ⟨mc, news, F, N, fun h' t o F' N' => ⟨mc, _, δ, F', N', R.addFz [(s.heap.objs.size, o)] fun p hp q hq => ?_, e.up fun p hp => List.mem_append_right _ hp⟩⟩
  rw [List.mem_singleton.mp hp]
  exact Nat.ne_of_lt (news_lt N hq)
theorem SR.newL {fz : Fz} {s : Shared} (x : SR C f fz m σ s) : ∃ mc news, Fr f.h₀ f.L s.heap mc ∧ News f.h₀ f.L s.heap news ∧ σ s.heap.objs.size = none ∧
    ∀ h' t vs k xs, Fr f.h₀ f.L h' mc → News f.h₀ f.L h' ((s.heap.objs.size, listOf vs.toArray k) :: news) → Vs (At C fz) vs xs → SR C f fz m (σ.set s.heap.objs.size (.list xs)) { s with heap := h', toks := t } := by
  have hf := x.fresh (Nat.le_refl _)
  obtain ⟨mc, news, δ, F, N, R, e⟩ := x
  refine ⟨mc, news, F, N, hf, fun h' t vs k xs F' N' hv => ⟨mc, (s.heap.objs.size, listOf vs.toArray k) :: news, δ, F', N', ?_, e⟩⟩
  have nn : ∀ q ∈ news, q.1 ≠ s.heap.objs.size := fun q hq => Nat.ne_of_lt (news_lt N hq)
  have keep : ∀ {b c as}, σ.set s.heap.objs.size (.list xs) b = some (.inst c as) → b ≠ s.heap.objs.size ∧ σ b = some (.inst c as) := fun {b c as} hb => by
    by_cases q : b = s.heap.objs.size
    · subst q; rw [AHeap.set_same] at hb; cases hb
    · rw [AHeap.set_ne _ _ q] at hb; exact ⟨q, hb⟩
  have dn : ∀ b c as, σ b = some (.inst c as) → δ b ≠ s.heap.objs.size := fun b c as hb => by obtain ⟨_, es, n, h, _⟩ := R.ob b _ hb; exact nn _ h
  refine ⟨fun p hp => .tail _ (R.sub p hp), R.apart, fun b bo hb => ?_, fun b bo hb p hp => ?_, fun b c as hb p hp => R.doff b c as (keep hb).2 p hp, fun b c as hb => ?_, R.free, fun b c as b' c' bs h1 h2 => R.dinj b c as b' c' bs (keep h1).2 (keep h2).2⟩
  · by_cases q : b = s.heap.objs.size
    · subst q; rw [AHeap.set_same] at hb; cases hb; exact ⟨vs, k, List.mem_cons_self .., hv⟩
    · rw [AHeap.set_ne _ _ q] at hb
      exact (R.ob b bo hb).mono (fun _ _ x => x) (fun _ hm => .tail _ hm) fun c as eb _ hm => .tail _ hm
  · by_cases q : b = s.heap.objs.size
    · subst q; exact nn _ (R.sub p hp)
    · rw [AHeap.set_ne _ _ q] at hb; exact R.off b bo hb p hp
  · rw [AHeap.set_ne _ _ (dn b c as (keep hb).2)]; exact R.dσ b c as (keep hb).2
/-- a list, frozen or not: its items now -/
def items (σ : AHeap) : AVal → Option (List AVal)
  | .lst xs => some xs
  | .obj a => match σ a with
    | some (.list xs) => some xs
    | _ => none
  | _ => none
theorem V.items {fz : Fz} {s : Shared} (ok : f.Ok C n) (x : SR C f fz m σ s) {v : Value} {a : AVal} {xs : List AVal} (h : V (At C fz) v a) (e : items σ a = some xs) : ∃ l vs, v = .ref l ∧ s.heap.IsList l vs.toArray ∧ Vs (At C fz) vs xs := by
  cases h with
  | obj a =>
    have e' : (match σ a with | some (.list xs) => some xs | _ => Option.none) = some xs := e
    split at e'
    · rename_i ys hs; cases e'
      obtain ⟨vs, k, h1, h2⟩ := x.list hs
      exact ⟨a, vs, rfl, ⟨_, h1, rfl, _, rfl⟩, h2⟩
    · cases e'
  | lst h1 h2 h3 h4 => cases e; exact ⟨_, _, rfl, ⟨_, x.at_ ok h1, h2, _, h3⟩, h4⟩
  | _ => cases e
theorem t2_cat {a b : AVal} {xs ys : List AVal} {Q : AVal → AHeap → Prop} (ha : items σ a = some xs) (hb : items σ b = some ys) (hl : xs.length + ys.length ≤ sizeLine) (h : Q (.lst (xs ++ ys)) σ) : T2 C n f (binaryOp .Add) a b m σ Q := fun ok fz s E v w x hv hw => by
  obtain ⟨l, vs, rfl, hlv, hvs⟩ := hv.items ok x ha
  obtain ⟨l', ws, rfl, hlw, hws⟩ := hw.items ok x hb
  obtain ⟨mc, news, F, N, k⟩ := x.newFz
  refine add_lists F N hlv hlw (fun h' F' N' => ?_) (by rw [hvs.length, hws.length]; exact hl)
  exact ⟨_, σ, .lst (xs ++ ys), fun p hp => List.mem_append_right _ hp, ⟨h', s.toks, rfl⟩, k h' s.toks _ F' N', .lst (.inl (List.mem_append_left _ (List.mem_singleton.mpr rfl))) rfl rfl ((hvs.append hws).up fun p hp => List.mem_append_right _ hp), h⟩
end
end Mine

open PySem PySem.W PyProof.Rows PySem.Calls
namespace Mine
section
variable {C : Cx} {n : Nat} {f : Fm} {m : AEnv} {σ : AHeap}
theorem SX.ofFresh {fz : Fz} {s : Shared} {h' : Heap} {t : Nat} {wr : List Addr} (x : SR C f fz m σ s) (k : ∀ b o, s.heap.get? b = some o → h'.get? b = some o) (hw : ∀ b ∈ wr, s.heap.objs.size ≤ b) : SX C f fz m σ wr { s with heap := h', toks := t } := by
  obtain ⟨mc, news, δ, F, N, R, e⟩ := x
  obtain ⟨oL, a1, a2, hL, a3⟩ := id F.ns
  refine ⟨mc, news, δ, F.grownK k, fun p hp => ⟨k _ _ (N p hp).1, (N p hp).2⟩, R, e, fun p hp hm => ?_, fun hm => ?_, fun b hb => ?_⟩
  · exact absurd (news_lt N hp) (Nat.not_lt.mpr (hw _ hm))
  · exact absurd (Heap.lt_size hL) (Nat.not_lt.mpr (hw _ hm))
  · cases q : f.h₀.get? b with
    | none => rfl
    | some o => exact absurd (Heap.lt_size (F.keep _ _ q)) (Nat.not_lt.mpr (hw _ hb))
theorem V.lstD {P : Addr → Obj → Prop} {v : Value} {xs : List AVal} (h : V P v (.lst xs)) : ∃ l o k us, v = .ref l ∧ P l o ∧ o.cls = .type "list" ∧ o.data = .seq (List.toArray us) k ∧ Vs P us xs := by
  cases h with
  | lst p1 p2 p3 p4 => exact ⟨_, _, _, _, rfl, p1, p2, p3, p4⟩
def enumFrom (k : Nat) : List AVal → List (List AVal)
  | [] => []
  | x :: xs => [.int k, x] :: enumFrom (k + 1) xs
theorem w1_forT {ts : List Expr} {tk : Nat} {tp : Pos} {iter : Expr} {body : List Stmt} {pos : Pos} {Q : AFlow → AEnv → AHeap → Prop} (Inv : List (List AVal) → AEnv → AHeap → Prop)
    (h : WIT C n f iter m σ fun back xs σ₂ => back = id ∧ Inv xs m σ₂)
    (turn : ∀ pin x xs m' σ', Inv (x :: xs) m' σ' → (assignEach ts f.env).length = x.length ∧ TAs C n (f.withPin pin) ts x m' σ' fun m₁ σ₁ => WS C n (f.withPin pin) body m₁ σ₁ (Turn id (Inv xs) Q))
    (done : ∀ m' σ', Inv [] m' σ' → Q .next m' σ') (hstar : (assignEach ts f.env).findIdx? (·.1) = none := by rfl) (hs : ∀ x, foldedSetIterable iter f.env x = pure x := by intro _; rfl) : W1 C n f (.For (.Tuple ts tk tp) iter body [] pos) m σ Q := by
  refine w1_forTB (fun back xs m σ => back = id ∧ Inv xs m σ) h (fun back pin x xs m' σ' ⟨e, q⟩ => ?_) (fun back m' σ' ⟨e, q⟩ => by subst e; exact done _ _ q) hstar hs
  subst e
  have key : Turn id (Inv xs) Q = Turn id (fun m σ => id = (id : AHeap → AHeap) ∧ Inv xs m σ) Q := by
    funext a m σ; cases a <;> simp [Turn]
  rw [← key]
  exact turn pin x xs m' σ' q
end
end Mine
namespace Mine
section
variable {C : Cx} {n : Nat} {f : Fm} {m : AEnv} {σ : AHeap}
/-! ## methods of lists -/
def scalar : AVal → Bool
  | .none => true
  | .bool _ => true
  | .int _ => true
  | .str _ => true
  | _ => false
def notNone : AVal → Bool
  | .none => false
  | _ => true
end
end Mine

open PySem PySem.W PyProof.Rows PySem.Calls
namespace Mine
end Mine
namespace Mine
theorem vs_ints {P : Addr → Obj → Prop} : ∀ {vs : List Value} {ns : List Int}, IntsAre vs ns → Vs P vs (ns.map .int)
  | _, _, .nil => .nil
  | _, _, .cons n t r => .cons (.int n t) (vs_ints r)
end Mine

open PySem PySem.W PyProof.Rows PySem.Calls
namespace Mine
section
variable {C : Cx} {n : Nat} {f : Fm} {m : AEnv} {σ : AHeap}
/-! ## items by place -/
theorem we_sub {value slice : Expr} {pos : Pos} {Q : AVal → AHeap → Prop} (h : WE C n f value m σ fun a σ₁ => WE C n f slice m σ₁ fun b σ₂ => T2 C n f (subscriptTail value slice) a b m σ₂ Q) : WE C n f (.Subscript value slice pos) m σ Q := fun ok fz s E x => by
  refine Subscript_ (wpAny_mono (h ok fz s E x) (fun v s₁ hq => hq.el fun fz₁ σ₁ a u1 e1 x1 va q1 => wpAny_mono (q1 ok fz₁ s₁ E x1) (fun w s₂ hq => hq.el fun fz₂ σ₂ b u2 e2 x2 vb q2 => ?_) fun _ _ x => x) fun _ _ x => x)
  exact wpAny_mono (q2 ok fz₂ s₂ E v w x2 (va.up u2) vb) (fun r s₃ p => .up (fun p hp => u2 p (u1 p hp)) (e1.trans e2) p) fun _ _ x => x
theorem t2_item {value slice : Expr} {a : AVal} {i : Int} {xs : List AVal} {y : AVal} {Q : AVal → AHeap → Prop} (ha : items σ a = some xs) (h0 : 0 ≤ i) (hf : i < 2 ^ 63) (hy : xs[i.toNat]? = some y) (h : Q y σ)
    (hs : ∀ l u, subscripted slice false (.ref l) (.int i u) = operate [.ref l, .int i u] (getItem (.ref l) (.int i u)) := by intro _ _; rfl) : T2 C n f (subscriptTail value slice) a (.int i) m σ Q := fun ok fz s E v w x hv hw => by
  cases hw
  obtain ⟨l, vs, rfl, hl, hvs⟩ := hv.items ok x ha
  obtain ⟨u, g1, g2⟩ := hvs.get hy
  exact tail_any hl.typeIs slot_list_getitem.lookup (wpAny_getItem_list (x := u) hl h0 hf (by simpa using g1) (.here x g2 h)) (hs _ _)
/-! ## slices -/
def WO (C : Cx) (n : Nat) (f : Fm) (e : Option Expr) (m : AEnv) (σ : AHeap) (Q : AVal → AHeap → Prop) : Prop :=
  f.Ok C n → ∀ fz s E, SR C f fz m σ s → wpAny (Md C) f.A (evalPart e f.env) (PV C f m fz s Q) E s
def part : AVal → Option (Option Int)
  | .none => some none
  | .int i => some (some i)
  | _ => none
def pickA (xs : List AVal) (lo hi st : Option Int) : List AVal :=
  (sliceRange (sliceBounds lo hi st xs.length).1 (sliceBounds lo hi st xs.length).2.1 (sliceBounds lo hi st xs.length).2.2).filterMap (xs[·]?)
/-! ## changing a list -/
theorem mapSeq_listOf (g : Array Value → Array Value) (its : Array Value) (k : Nat) : ∃ k', Obj.mapSeq g (listOf its k) = listOf (g its) k' := ⟨_, rfl⟩
theorem SR.updList {fz : Fz} {s : Shared} {a : Addr} {xs xs' : List AVal} {vs : List Value} {k : Nat} (x : SR C f fz m σ s) (h : σ a = some (.list xs)) (ho : s.heap.get? a = some (listOf vs.toArray k)) (g : Array Value → Array Value) (hg : Vs (At C fz) (g vs.toArray).toList xs') (t : Nat) :
    SR C f fz m (σ.set a (.list xs')) { s with heap := s.heap.update a (Obj.mapSeq g), toks := t } := by
  obtain ⟨k', e⟩ := mapSeq_listOf g vs.toArray k
  have ho' : (s.heap.update a (Obj.mapSeq g)).get? a = some (listOf (g vs.toArray).toList.toArray k') := by
    rw [Heap.get?_update_self _ ho (by rw [e]; rfl), e]
  exact x.setList (t := t) h (Heap.SameBut.update ..) ho' hg
/-- storing at a place: as a tree -/
def TU (C : Cx) (n : Nat) (f : Fm) (o i y : AVal) (m : AEnv) (σ : AHeap) (Q : AHeap → Prop) : Prop :=
  f.Ok C n → ∀ fz s E vo vi vy, SR C f fz m σ s → V (At C fz) vo o → V (At C fz) vi i → V (At C fz) vy y → wpAny (Md C) f.A (setItem vo vi vy) (fun _ s' => ∃ fz' σ', (∀ p ∈ fz, p ∈ fz') ∧ Same s s' ∧ SR C f fz' m σ' s' ∧ Q σ') E s
theorem tu_list {a : Addr} {xs : List AVal} {i : Int} {y : AVal} {Q : AHeap → Prop} (ha : σ a = some (.list xs)) (h0 : 0 ≤ i) (hl : i < xs.length) (hf : i < 2 ^ 63) (h : Q (σ.set a (.list (xs.set i.toNat y)))) : TU C n f (.obj a) (.int i) y m σ Q := fun ok fz s E vo vi vy x ho hi hy => by
  cases ho; cases hi
  obtain ⟨us, k, ho, p4⟩ := x.list ha
  refine ki_setAt ho h0 hf (by rw [List.size_toArray, p4.length]; exact hl) ⟨fz, _, sub_refl, ⟨_, s.toks, rfl⟩, x.updList ha ho _ ?_ s.toks, h⟩
  have := p4.set i.toNat hy
  simpa using this
theorem w1_setItem {o i : Expr} {tp : Pos} {e : Expr} {pos : Pos} {Q : AFlow → AEnv → AHeap → Prop} (h : WE C n f e m σ fun y σ₁ => WE C n f o m σ₁ fun ov σ₂ => WE C n f i m σ₂ fun iv σ₃ => TU C n f ov iv y m σ₃ fun σ₄ => Q .next m σ₄)
    (hs : swapsWith e (some (.Subscript o i tp)) pos.line f.env = pure false := by rfl) : W1 C n f (.Assign [.Subscript o i tp] e pos) m σ Q := fun ok fz s E x => by
  refine wpAny_Assign_Subscript (wpAny_mono (h ok fz s E x) (fun v s₁ hq => hq.el fun fz₁ σ₁ a u1 e1 x1 va q1 => wpAny_mono (q1 ok fz₁ s₁ E x1) (fun ov s₂ hq => hq.el fun fz₂ σ₂ b u2 e2 x2 vb q2 => wpAny_mono (q2 ok fz₂ s₂ E x2) (fun iv s₃ hq => hq.el fun fz₃ σ₃ c u3 e3 x3 vc q3 => ?_) fun _ _ x => x) fun _ _ x => x) fun _ _ x => x) hs
  exact wpAny_mono (q3 ok fz₃ s₃ E ov iv v x3 (vb.up u3) vc ((va.up u2).up u3)) (fun _ s₄ hq => PH.el hq fun fz₄ σ₄ u4 e4 x4 q4 => ⟨fz₄, σ₄, m, .next, fun p hp => u4 p (u3 p (u2 p (u1 p hp))), ((e1.trans e2).trans e3).trans e4, x4, trivial, q4⟩) fun _ _ x => x
theorem w1_expr {e : Expr} {pos : Pos} {Q : AFlow → AEnv → AHeap → Prop} (h : WE C n f e m σ fun _ σ₁ => Q .next m σ₁) (hi : interactive f.env = false := by rfl) (hs : swapsWith e none pos.line f.env = pure false := by rfl) : W1 C n f (.Expr e pos) m σ Q := fun ok fz s E x => by
  refine wpAny_Expr_any (hi := hi) (hs := hs) (wpAny_mono (h ok fz s E x) (fun v s₁ hq => hq.el fun fz₁ σ₁ a u1 e1 x1 va q1 => ⟨fz₁, σ₁, m, .next, u1, e1, x1, trivial, q1⟩) fun _ _ x => x)
end
end Mine

open PySem PySem.W PyProof.Rows PySem.Calls
namespace Mine
section
variable {C : Cx} {n : Nat} {f : Fm} {m : AEnv} {σ : AHeap}
/-! ## rows built by a comprehension -/
def WQ (C : Cx) (n : Nat) (f : Fm) (ifs : List Expr) (m : AEnv) (σ : AHeap) (Q : Bool → AHeap → Prop) : Prop :=
  f.Ok C n → ∀ fz s E, SR C f fz m σ s → wpAny (Md C) f.A (forIn ifs true fun c r => if r = true then do let ok ← isTrue c f.env (eval c f.env); pure (ForInStep.yield ok) else pure (ForInStep.yield r)) (PB C f m fz s Q) E s
/-- an address that was kept apart becomes a frozen thing -/
theorem SX.ice {fz : Fz} {wr : List Addr} {s : Shared} {D : Addr} {o : Obj} (x : SX C f fz m σ (D :: wr) s) (hD : D ∉ wr) (ho : s.heap.get? D = some o) : SX C f ([(D, o)] ++ fz) m σ wr s := by
  obtain ⟨mc, news, δ, F, N, R, e, h1, h2, h3⟩ := x
  refine ⟨mc, [(D, o)] ++ news, δ, F, fun p hp => ?_, R.addFz [(D, o)] (fun p hp q hq => ?_), e.up fun p hp => List.mem_append_right _ hp, fun p hp q => ?_, fun q => h2 (List.mem_cons_of_mem _ q), fun b hb => h3 b (List.mem_cons_of_mem _ hb)⟩
  · rcases List.mem_append.mp hp with hp | hp
    · rw [List.mem_singleton.mp hp]; exact ⟨ho, fun q => h2 (by rw [← q]; exact List.mem_cons_self ..), h3 D (List.mem_cons_self ..)⟩
    · exact N p hp
  · rw [List.mem_singleton.mp hp]; exact fun e => h1 q hq (by rw [e]; exact List.mem_cons_self ..)
  · rcases List.mem_append.mp hp with hp | hp
    · rw [List.mem_singleton.mp hp] at q; exact hD q
    · exact h1 p hp (List.mem_cons_of_mem _ q)
end
end Mine

open PySem PySem.W PyProof.Rows PySem.Calls
namespace Mine
section
variable {C : Cx} {n : Nat} {f : Fm} {m : AEnv} {σ : AHeap}
theorem HR.addThing {fz pin : Fz} {δ : Addr → Addr} {news : List (Addr × Obj)} {D : Addr} {o : Obj} {ao : AObj} (R : HR C fz pin σ δ news) (hn : ∀ c as, ao ≠ .inst c as) (nn : ∀ q ∈ news, q.1 ≠ D) (hr : ∀ news d, (D, o) ∈ news → OR (At C fz) news d D ao) : HR C fz pin (σ.set D ao) δ ((D, o) :: news) := by
  have keep : ∀ {b c as}, σ.set D ao b = some (.inst c as) → b ≠ D ∧ σ b = some (.inst c as) := fun {b c as} hb => by
    by_cases q : b = D
    · subst q; rw [AHeap.set_same] at hb; exact absurd (Option.some.inj hb) (hn _ _)
    · rw [AHeap.set_ne _ _ q] at hb; exact ⟨q, hb⟩
  have dn : ∀ b c as, σ b = some (.inst c as) → δ b ≠ D := fun b c as hb => by obtain ⟨_, es, n, h, _⟩ := R.ob b _ hb; exact nn _ h
  refine ⟨fun p hp => .tail _ (R.sub p hp), R.apart, fun b bo hb => ?_, fun b bo hb p hp => ?_, fun b c as hb p hp => R.doff b c as (keep hb).2 p hp, fun b c as hb => ?_, R.free, fun b c as b' c' bs h1 h2 => R.dinj b c as b' c' bs (keep h1).2 (keep h2).2⟩
  · by_cases q : b = D
    · subst q; rw [AHeap.set_same] at hb; cases hb; exact hr _ _ (List.mem_cons_self ..)
    · rw [AHeap.set_ne _ _ q] at hb
      exact (R.ob b bo hb).mono (fun _ _ x => x) (fun _ hm => .tail _ hm) fun c as eb _ hm => .tail _ hm
  · by_cases q : b = D
    · subst q; exact nn _ (R.sub p hp)
    · rw [AHeap.set_ne _ _ q] at hb; exact R.off b bo hb p hp
  · rw [AHeap.set_ne _ _ (dn b c as (keep hb).2)]; exact R.dσ b c as (keep hb).2

/-! ## a def of the text, with cells -/
def cellS (cm : Str → Option AVal) : List (Str × Addr) → AHeap → AHeap
  | [], σ => σ
  | (y, c) :: r, σ => (cellS cm r σ).set c (.cell (cm y))
theorem HR.addCells {fz pin : Fz} {δ : Addr → Addr} {news : List (Addr × Obj)} {cm : Str → Option Value} {acm : Str → Option AVal} (R : HR C fz pin σ δ news) :
    ∀ {cs : List (Str × Addr)} {cells : List (Addr × Obj)}, CellsAre cm cs cells → (cs.map (·.2)).Nodup → (∀ p ∈ cs, ∀ q ∈ news, q.1 ≠ p.2) → (∀ p ∈ cs, (cm p.1 = none ∧ acm p.1 = none) ∨ ∃ v a, cm p.1 = some v ∧ acm p.1 = some a ∧ V (At C fz) v a) → HR C fz pin (cellS acm cs σ) δ (cells ++ news)
  | _, _, .nil, _, _, _ => R
  | _, _, .cons (n := y) (c := c) (o := o) (cs := cs) (cells := cells) hd r, hnd, hoff, hval => by
    have hnd' := List.nodup_cons.mp (by simpa using hnd : (c :: cs.map (·.2)).Nodup)
    have ih := R.addCells r hnd'.2 (fun p hp => hoff p (List.mem_cons_of_mem _ hp)) (fun p hp => hval p (List.mem_cons_of_mem _ hp))
    have keys : ∀ {cs : List (Str × Addr)} {cells : List (Addr × Obj)}, CellsAre cm cs cells → ∀ q ∈ cells, q.1 ∈ cs.map (·.2) := by
      intro cs cells h
      induction h with
      | nil => intro q hq; cases hq
      | cons _ _ ih =>
        intro q hq
        rcases List.mem_cons.mp hq with rfl | hq
        · exact List.mem_cons_self ..
        · exact List.mem_cons_of_mem _ (ih q hq)
    refine ih.addThing (ao := .cell (acm y)) (fun _ _ => nofun) (fun q hq e => ?_) fun news d hm => ?_
    · rcases List.mem_append.mp hq with hq | hq
      · exact hnd'.1 (by rw [← e]; exact keys r q hq)
      · exact hoff (y, c) (List.mem_cons_self ..) q hq e
    · rcases hval (y, c) (List.mem_cons_self ..) with ⟨h1, h2⟩ | ⟨v, a, h1, h2, h3⟩
      · have h1' : cm y = none := h1
        have h2' : acm y = none := h2
        rw [h2']; exact ⟨o, hm, by rw [hd, h1']⟩
      · have h1' : cm y = some v := h1
        have h2' : acm y = some a := h2
        rw [h2']; exact ⟨o, v, hm, by rw [hd, h1'], h3⟩
theorem cellsFrom_nd : ∀ (names : List (Str × NameKind)) (k : Nat) (acc : List (Str × Addr)), (acc.map (·.2)).Nodup → (∀ p ∈ acc, p.2 < k) → ((cellsFrom k names acc).map (·.2)).Nodup ∧ ∀ p ∈ cellsFrom k names acc, p ∈ acc ∨ k ≤ p.2
  | [], _, acc, h, _ => ⟨h, fun p hp => .inl hp⟩
  | (y, kd) :: r, k, acc, h, hl => by
    unfold cellsFrom
    by_cases hk : (kd == .cell) = true
    · rw [if_pos hk]
      obtain ⟨h1, h2⟩ := cellsFrom_nd r (k + 1) ((y, k) :: acc) (by
        rw [List.map_cons, List.nodup_cons]
        refine ⟨fun hm => ?_, h⟩
        obtain ⟨p, hp, e⟩ := List.mem_map.mp hm
        have := hl p hp
        have e' : p.2 = k := e
        rw [e'] at this
        exact Nat.lt_irrefl _ this) (fun p hp => by
        rcases List.mem_cons.mp hp with rfl | hp
        · exact Nat.lt_succ_self _
        · exact Nat.lt_succ_of_lt (hl p hp))
      refine ⟨h1, fun p hp => ?_⟩
      rcases h2 p hp with q | q
      · rcases List.mem_cons.mp q with rfl | q
        · exact .inr (Nat.le_refl _)
        · exact .inl q
      · exact .inr (Nat.le_of_succ_le q)
    · rw [if_neg hk]; exact cellsFrom_nd r k acc h hl
theorem bindL_off {kd : Str → Option NameKind} {y : Str} : ∀ {b : List (Str × Value)} {m : Str → Option Value}, y ∉ b.map (·.1) → bindL kd b m y = m y
  | [], _, _ => rfl
  | (z, v) :: r, m, h => by
    unfold bindL
    have h1 : y ≠ z := fun e => h (by rw [e]; exact List.mem_cons_self ..)
    rw [bindL_off fun q => h (List.mem_cons_of_mem _ q)]
    split
    · exact if_neg h1
    · rfl
theorem bindC_off {kd : Str → Option NameKind} {y : Str} : ∀ {b : List (Str × Value)} {m : Str → Option Value}, y ∉ b.map (·.1) → bindC kd b m y = m y
  | [], _, _ => rfl
  | (z, v) :: r, m, h => by
    unfold bindC
    have h1 : y ≠ z := fun e => h (by rw [e]; exact List.mem_cons_self ..)
    rw [bindC_off fun q => h (List.mem_cons_of_mem _ q)]
    split
    · rfl
    · exact if_neg h1
theorem zip_keys {α : Type} : ∀ {ns : List Str} {vs : List α} {y : Str}, y ∈ (ns.zip vs).map (·.1) → y ∈ ns
  | [], _, _, h => by simp at h
  | _ :: _, [], _, h => by simp at h
  | z :: ns, v :: vs, y, h => by
    rcases List.mem_cons.mp (by simpa using h : y ∈ z :: (ns.zip vs).map (·.1)) with rfl | h
    · exact List.mem_cons_self ..
    · exact List.mem_cons_of_mem _ (zip_keys h)
theorem zip_nd {α : Type} : ∀ {ns : List Str} {vs : List α}, ns.Nodup → ((ns.zip vs).map (·.1)).Nodup
  | [], _, _ => by simp
  | _ :: _, [], _ => by simp
  | z :: ns, v :: vs, h => by
    obtain ⟨n1, n2⟩ := List.nodup_cons.mp h
    rw [List.zip_cons_cons, List.map_cons, List.nodup_cons]
    exact ⟨fun q => n1 (zip_keys q), zip_nd n2⟩
theorem bind_get {P : Addr → Obj → Prop} {kd : Str → Option NameKind} {y : Str} {a : AVal} : ∀ {ns : List Str} {vs : List Value} {as : List AVal} {m : Str → Option Value}, Vs P vs as → ns.Nodup → getA y (ns.zip as) = some a → ∃ v, V P v a ∧ (kd y = some .local → bindL kd (ns.zip vs) m y = some v) ∧ (kd y ≠ some .local → bindC kd (ns.zip vs) m y = some v)
  | [], _, _, _, _, _, h => by simp [getA] at h
  | _ :: _, _, _, _, .nil, _, h => by simp [getA] at h
  | z :: ns, v :: vs, x :: as, m, .cons h1 h2, nd, h => by
    obtain ⟨n1, n2⟩ := List.nodup_cons.mp nd
    rw [List.zip_cons_cons] at h
    unfold getA at h
    by_cases q : (z == y) = true
    · rw [if_pos q] at h; cases h
      have q' : z = y := by simpa using q
      subst q'
      refine ⟨v, h1, fun hk => ?_, fun hk => ?_⟩
      · rw [List.zip_cons_cons]; unfold bindL
        rw [bindL_off fun q => n1 (zip_keys q), if_pos hk]; exact if_pos rfl
      · rw [List.zip_cons_cons]; unfold bindC
        rw [bindC_off fun q => n1 (zip_keys q), if_neg hk]; exact if_pos rfl
    · rw [if_neg q] at h
      obtain ⟨u, g1, g2, g3⟩ := bind_get (m := if kd z = some .local then fun y => if y = z then some v else m y else m) h2 n2 h
      obtain ⟨u', g1', g2', g3'⟩ := bind_get (kd := kd) (m := if kd z = some .local then m else fun y => if y = z then some v else m y) h2 n2 h
      by_cases hk : kd y = some .local
      · exact ⟨u, g1, fun _ => by rw [List.zip_cons_cons]; exact g2 hk, fun e => absurd hk e⟩
      · exact ⟨u', g1', fun e => absurd e hk, fun _ => by rw [List.zip_cons_cons]; exact g3' hk⟩
theorem getA_none {y : Str} : ∀ {l : List (Str × AVal)}, getA y l = none → y ∉ l.map (·.1)
  | [], _, h => by simp at h
  | (z, a) :: r, e, h => by
    unfold getA at e
    by_cases q : (z == y) = true
    · rw [if_pos q] at e; cases e
    · rw [if_neg q] at e
      rcases List.mem_cons.mp (by simpa using h : y ∈ z :: r.map (·.1)) with rfl | h
      · simp at q
      · exact getA_none e h
theorem zip_keys' {α β : Type} : ∀ {ns : List Str} {vs : List α} {ws : List β}, vs.length = ws.length → (ns.zip vs).map (·.1) = (ns.zip ws).map (·.1)
  | [], _, _, _ => by simp
  | _ :: _, [], [], _ => by simp
  | _ :: ns, _ :: vs, _ :: ws, h => by simp [zip_keys' (ns := ns) (vs := vs) (ws := ws) (by simpa using h)]
theorem getA_filter {q : Str × AVal → Bool} {y : Str} {a : AVal} : ∀ {l : List (Str × AVal)}, (l.map (·.1)).Nodup → getA y (l.filter q) = some a → getA y l = some a ∧ ∃ a', q (y, a') = true
  | [], _, h => by simp [getA] at h
  | (z, b) :: r, nd, h => by
    obtain ⟨n1, n2⟩ := List.nodup_cons.mp (by simpa using nd : (z :: r.map (·.1)).Nodup)
    by_cases hq : q (z, b) = true
    · rw [List.filter_cons_of_pos hq] at h
      unfold getA at h ⊢
      by_cases e : (z == y) = true
      · rw [if_pos e] at h; rw [if_pos e]
        have : z = y := by simpa using e
        subst this
        exact ⟨h, b, hq⟩
      · rw [if_neg e] at h; rw [if_neg e]; exact getA_filter n2 h
    · rw [List.filter_cons_of_neg hq] at h
      obtain ⟨h1, h2⟩ := getA_filter n2 h
      refine ⟨?_, h2⟩
      unfold getA
      by_cases e : (z == y) = true
      · have : z = y := by simpa using e
        subst this
        have hm : z ∈ r.map (·.1) := by
          refine Classical.byContradiction fun hn => ?_
          have : getA z r = none := by
            clear h h1 h2 nd n2
            induction r with
            | nil => rfl
            | cons p r ih =>
              obtain ⟨w, c⟩ := p
              simp only [List.map_cons, List.mem_cons, not_or] at hn
              unfold getA
              have : ¬ (w == z) = true := by simpa using fun e : w = z => hn.1 e.symm
              rw [if_neg this]
              exact ih (by simpa using hn.2) hn.2
          rw [this] at h1; cases h1
        exact absurd hm n1
      · rw [if_neg e]; exact h1
theorem fn_cells {fa : Addr} {name qual : Str} {params : Arguments} {body : List Stmt} {scope : Scope} {dV kV doc pm cdv ct oc : Value} {an od : Option Addr} {osl : Array (Option Value)} {as da : List AVal} {ns : List Str} {dv : List Value} {Q : AVal → AHeap → Prop}
    (ho : C.K.lookup fa = some ⟨oc, od, .func (fnOf name qual params body scope dV kV doc pm an cdv ct), osl⟩) (hcd : codeIn C.K cdv qual = true)
    (hbind : ∀ S vs, vs.length = as.length → peek C.K S (bindArgs (fnOf name qual params body scope dV kV doc pm an cdv ct) ⟨vs, []⟩) = some (ns.zip (vs ++ dv)))
    (hd : ∀ P, Vs P dv da) (hnd : ns.Nodup) (hloc : ∀ y ∈ ns, (scope.names.lookup y == some .local || scope.names.lookup y == some .cell) = true)
    (hck : ∀ p ∈ cellsFrom 0 scope.names [], scope.names.lookup p.1 ≠ some .local)
    (h : ∀ A₀ A base h₀ outer L pin, (∀ p ∈ cellsFrom (L + 1) scope.names [], σ p.2 = none) → WS C n ⟨A₀, A, base, h₀, outer, L, fa, qual, scope, cdv, cellsFrom (L + 1) scope.names [], pin, none⟩ body ((ns.zip (as ++ da)).filter fun p => scope.names.lookup p.1 == some .local) (cellS (fun y => getA y (ns.zip (as ++ da))) (cellsFrom (L + 1) scope.names []) σ) fun fl _ σ' => ∃ σ₂ : AHeap, σ₂.le σ' ∧ Q (retOf fl) σ₂)
    (hnc : ((cellsFrom 0 scope.names []).map (·.1)).Nodup := by decide)
    (hco : scope.isCoroutine = false := by rfl) (hgen : scope.isGenerator = false := by rfl) (hk : scope.kind = .function := by rfl) :
    Fn C (n + 1) fa as σ Q := fun f m A ok hn fz s vs x hvs => by
  obtain ⟨mc, news, δ, F, N, R, e⟩ := x
  have X := ok.kin.keeps F.keep
  have e2 := ok.depth
  have e3 := ok.units
  obtain ⟨n1, n2, n3, n4, n5⟩ := hn
  have hlen := hvs.length
  refine code_defC (env := f.fenv) (binds := ns.zip (vs ++ dv)) ok.below F ok.kin N ok.top (n1.trans ok.stack) rfl ok.kind ho hcd (by omega) (kp_binds X fun S => hbind S vs hlen) (List.all_eq_true.mpr fun y hy => hloc _ (List.of_mem_zip hy).1) hnc (fun g L' h₁ tk cells FG F' N' Y B' KG TG lt => ?_) hco hgen hk
  let f' : Fm := ⟨A, A.deeper (envOfC qual scope L' fa cdv), f.base, g, f.fenv :: f.outer, L', fa, qual, scope, cdv, cellsFrom (L' + 1) scope.names [], f.pin, none⟩
  have hkH : ∀ b o, C.H.get? b = some o → g.get? b = some o := fun b o hb => FG.keep b o (ok.hk b o hb)
  have ok' : f'.Ok C n := ⟨B', KG, TG, hkH, Around.frames_deeper B'.stack, n2.trans ok.handled, n3.trans ok.guards, by show A.depth + 1 + 3 * n < _; omega, by show A.units + 3 + 10 * n + 100 < _; omega, hk, hk⟩
  have hz := hvs.append (hd (At C fz))
  obtain ⟨nd, cl⟩ := cellsFrom_nd scope.names (L' + 1) [] List.nodup_nil (fun p hp => by cases hp)
  have cl' : ∀ p ∈ cellsFrom (L' + 1) scope.names [], L' < p.2 := fun p hp => by
    rcases cl p hp with q | q
    · cases q
    · exact q
  have off : ∀ p ∈ cellsFrom (L' + 1) scope.names [], ∀ q ∈ news, q.1 ≠ p.2 := fun p hp q hq => Nat.ne_of_lt (Nat.lt_trans (lt q hq) (cl' p hp))
  have names : ∀ (names : List (Str × NameKind)) (a b : Nat) (acc acc' : List (Str × Addr)), acc.map (·.1) = acc'.map (·.1) → (cellsFrom a names acc).map (·.1) = (cellsFrom b names acc').map (·.1) := by
    intro names
    induction names with
    | nil => intro a b acc acc' h; exact h
    | cons p r ih =>
      intro a b acc acc' h
      obtain ⟨y, kd⟩ := p
      unfold cellsFrom
      split
      · exact ih _ _ _ _ (by simp [h])
      · exact ih _ _ _ _ h
  have ck : ∀ p ∈ cellsFrom (L' + 1) scope.names [], scope.names.lookup p.1 ≠ some .local := fun p hp => by
    have : p.1 ∈ (cellsFrom 0 scope.names []).map (·.1) := by rw [names scope.names 0 (L' + 1) [] [] rfl]; exact List.mem_map_of_mem hp
    obtain ⟨q, hq, e⟩ := List.mem_map.mp this
    rw [← e]; exact hck q hq
  have R' : HR C fz f.pin (cellS (fun y => getA y (ns.zip (as ++ da))) (cellsFrom (L' + 1) scope.names []) σ) δ (cells ++ news) := R.addCells Y nd off fun p hp => by
    have hkd : (envOfC qual scope L' fa cdv).kindOf p.1 ≠ some .local := ck p hp
    cases q : getA p.1 (ns.zip (as ++ da)) with
    | none => exact .inl ⟨bindC_off (by rw [zip_keys' (ws := as ++ da) (by rw [hz.length])]; exact getA_none q), rfl⟩
    | some a =>
      obtain ⟨v, g1, g2, g3⟩ := bind_get (kd := (envOfC qual scope L' fa cdv).kindOf) (m := fun _ => none) hz hnd q
      exact .inr ⟨v, a, g3 hkd, rfl, g1⟩
  have x' : SR C f' fz ((ns.zip (as ++ da)).filter fun p => scope.names.lookup p.1 == some .local) (cellS (fun y => getA y (ns.zip (as ++ da))) (cellsFrom (L' + 1) scope.names []) σ) { s with heap := h₁, toks := tk } := by
    refine ⟨_, cells ++ news, δ, F', N', R', fun y a hy => ?_⟩
    have nd' : ((ns.zip (as ++ da)).map (·.1)).Nodup := zip_nd hnd
    obtain ⟨g1, a', g2⟩ := getA_filter nd' hy
    obtain ⟨v, g3, g4, _⟩ := bind_get (kd := (envOfC qual scope L' fa cdv).kindOf) (m := fun _ => none) hz hnd g1
    exact ⟨v, g4 (by have : scope.names.lookup y = some .local := by simpa using g2
                     exact this), g3⟩
  refine wpAny_mono (h A _ f.base g (f.fenv :: f.outer) L' f.pin (fun p hp => R.noneAt fun q hq => off p hp q hq) ok' fz _ _ x') (fun fl s' hq => hq.el fun fz' σ' m' a u es x2 va ⟨σ₂, hle, q⟩ => ?_) fun _ _ z => z
  obtain ⟨mc', news', δ', F2, N2, R2, e2⟩ := x2.weaken (fun _ _ h => h) hle
  refine leaveK_ F2 N2 fun FK NK => ⟨_, rfl, fz', σ₂, retOf a, u, ?_, ⟨mc, news', δ', FK, NK, R2, fun y b hy => ?_⟩, ?_, q⟩
  · obtain ⟨hh, tt, ee⟩ := es; exact ⟨hh, tt, ee⟩
  · obtain ⟨v, h1, h2⟩ := e y b hy; exact ⟨v, h1, h2.up u⟩
  · cases fl <;> cases a <;> first | exact va.elim | exact .none | exact va
end
end Mine

open PySem PySem.W PyProof.Rows PySem.Calls
namespace Mine
/-! ## data compared -/
mutual
inductive Rd (σ : AHeap) : AVal → PyData → Prop
  | none : Rd σ .none .none
  | bool (b : Bool) : Rd σ (.bool b) (.bool b)
  | int (i : Int) : Rd σ (.int i) (.int i)
  | str (x : Str) : Rd σ (.str x) (.str x)
  | lst {xs : List AVal} {ds : List PyData} : RdAll σ xs ds → Rd σ (.lst xs) (.list ds)
  | tup {xs : List AVal} {ds : List PyData} : RdAll σ xs ds → Rd σ (.tup xs) (.tuple ds)
  | obj {a : Addr} {xs : List AVal} {ds : List PyData} : σ a = some (.list xs) → RdAll σ xs ds → Rd σ (.obj a) (.list ds)
inductive RdAll (σ : AHeap) : List AVal → List PyData → Prop
  | nil : RdAll σ [] []
  | cons {a : AVal} {d : PyData} {xs : List AVal} {ds : List PyData} : Rd σ a d → RdAll σ xs ds → RdAll σ (a :: xs) (d :: ds)
end
section
variable {C : Cx} {n : Nat} {f : Fm} {m : AEnv} {σ : AHeap}
mutual
theorem Rd.reads {fz : Fz} {s : Shared} (ok : f.Ok C n) (x : SR C f fz m σ s) : ∀ {a : AVal} {d : PyData}, Rd σ a d → ∀ {v : Value}, V (At C fz) v a → ∃ as, Reads s.heap v d as
  | _, _, .none, _, h => by cases h; exact ⟨_, .none⟩
  | _, _, .bool b, _, h => by cases h; exact ⟨_, .bool b⟩
  | _, _, .int i, _, h => by cases h; exact ⟨_, .int i _⟩
  | _, _, .str y, _, h => by cases h; exact ⟨_, .str y _⟩
  | _, _, .lst r, _, h => by
    cases h with
    | lst h1 h2 h3 h4 => obtain ⟨as, q⟩ := RdAll.reads ok x r h4; exact ⟨_, .list (x.at_ ok h1) h2 h3 (by simpa using q)⟩
  | _, _, .tup r, _, h => by
    cases h with
    | tup h1 h2 h3 h4 => obtain ⟨as, q⟩ := RdAll.reads ok x r h4; exact ⟨_, .tuple (x.at_ ok h1) h2 h3 (by simpa using q)⟩
  | _, _, .obj e r, _, h => by
    cases h with
    | obj a =>
      obtain ⟨vs, k, h1, h2⟩ := x.list e
      obtain ⟨as, q⟩ := RdAll.reads ok x r h2
      exact ⟨_, .list h1 rfl rfl (by simpa using q)⟩
theorem RdAll.reads {fz : Fz} {s : Shared} (ok : f.Ok C n) (x : SR C f fz m σ s) : ∀ {xs : List AVal} {ds : List PyData}, RdAll σ xs ds → ∀ {vs : List Value}, Vs (At C fz) vs xs → ∃ as, ReadsAll s.heap vs ds as
  | _, _, .nil, _, h => by cases h; exact ⟨_, .nil⟩
  | _, _, .cons r rs, _, h => by
    cases h with
    | cons h1 h2 =>
      obtain ⟨as, q1⟩ := Rd.reads ok x r h1
      obtain ⟨bs, q2⟩ := RdAll.reads ok x rs h2
      exact ⟨_, .cons q1 q2⟩
end
def Dk (k : Nat) (d : PyData) : Prop := d.canLay0 = true ∧ d.depth ≤ k
theorem Dk.int {k : Nat} {i : Int} : Dk k (.int i) := ⟨rfl, Nat.zero_le _⟩
theorem Dk.none {k : Nat} : Dk k .none := ⟨rfl, Nat.zero_le _⟩
theorem Dk.str {k : Nat} {x : Str} (h : PyData.strOk x = true) : Dk k (.str x) := ⟨h, Nat.zero_le _⟩
theorem dk_all {k : Nat} : ∀ {ds : List PyData}, (∀ d ∈ ds, Dk k d) → PyData.canLayAll0 ds = true ∧ PyData.depthAll ds ≤ k
  | [], _ => ⟨rfl, Nat.zero_le _⟩
  | d :: ds, h => by
    obtain ⟨a, b⟩ := h d (List.mem_cons_self ..)
    obtain ⟨c, e⟩ := dk_all fun x hx => h x (List.mem_cons_of_mem _ hx)
    exact ⟨by rw [PyData.canLayAll0, a, c]; rfl, by rw [PyData.depthAll]; exact Nat.max_le.mpr ⟨b, e⟩⟩
theorem Dk.list {k : Nat} {ds : List PyData} (h : ∀ d ∈ ds, Dk k d) : Dk (k + 1) (.list ds) := by
  obtain ⟨a, b⟩ := dk_all h
  exact ⟨by rw [PyData.canLay0]; exact a, by rw [PyData.depth]; omega⟩
theorem Dk.shaped {k : Nat} {d : PyData} (h : Dk k d) (hk : k ≤ 64) : PySem.SeqAt.shaped d = true := by
  unfold PySem.SeqAt.shaped
  rw [h.1, Bool.true_and, decide_eq_true_eq]
  exact Nat.le_trans h.2 hk
theorem t2_eqD {a b : AVal} {da db : PyData} {k : Nat} {Q : AVal → AHeap → Prop} (ra : Rd σ a da) (rb : Rd σ b db) (ha : Dk k da) (hb : Dk k db) (h : Q (.bool (PyData.eqv da db)) σ) (hk : k ≤ 64 := by decide) : T2 C n f (compareOp .Eq) a b m σ Q := fun ok fz s E v w x hv hw => by
  obtain ⟨as, r1⟩ := ra.reads ok x hv
  obtain ⟨bs, r2⟩ := rb.reads ok x hw
  have := ok.units
  exact eq_dataH r1 r2 (ha.shaped hk) (hb.shaped hk) (by omega) (.here x (.bool _) h)
theorem t2_neD {a b : AVal} {da db : PyData} {k : Nat} {Q : AVal → AHeap → Prop} (ra : Rd σ a da) (rb : Rd σ b db) (ha : Dk k da) (hb : Dk k db) (h : Q (.bool (!PyData.eqv da db)) σ) (hk : k ≤ 64 := by decide) : T2 C n f (compareOp .NotEq) a b m σ Q := fun ok fz s E v w x hv hw => by
  obtain ⟨as, r1⟩ := ra.reads ok x hv
  obtain ⟨bs, r2⟩ := rb.reads ok x hw
  have := ok.units
  exact ne_dataH r1 r2 (ha.shaped hk) (hb.shaped hk) (by omega) (.here x (.bool _) h)
theorem t2_eqS {a b : AVal} {d : PyData} {k : Nat} {Q : AVal → AHeap → Prop} (ra : Rd σ a d) (rb : Rd σ b d) (hd : Dk k d) (h : Q (.bool true) σ) (hk : k ≤ 64 := by decide) : T2 C n f (compareOp .Eq) a b m σ Q :=
  t2_eqD ra rb hd hd (by rw [PySem.SeqAt.eqv_refl d hd.1]; exact h) hk
theorem t2_neS {a b : AVal} {d : PyData} {k : Nat} {Q : AVal → AHeap → Prop} (ra : Rd σ a d) (rb : Rd σ b d) (hd : Dk k d) (h : Q (.bool false) σ) (hk : k ≤ 64 := by decide) : T2 C n f (compareOp .NotEq) a b m σ Q :=
  t2_neD ra rb hd hd (by rw [PySem.SeqAt.eqv_refl d hd.1]; exact h) hk
/-! ## attributes -/
theorem SR.ownD {fz : Fz} {s : Shared} (x : SR C f fz m σ s) {a c : Addr} {as : List (Str × AVal)} (h : σ a = some (.inst c as)) :
    ∃ d es k mc rest, s.heap.get? a = some (instObj c d) ∧ s.heap.get? d = some (dictOf es k) ∧ Es (At C fz) es as ∧ Fr f.h₀ f.L s.heap mc ∧ News f.h₀ f.L s.heap ((d, dictOf es k) :: rest) ∧ (∀ p ∈ rest, p.1 ≠ d) ∧ (a, instObj c d) ∈ rest ∧
      ∀ h' t es' k' as', Fr f.h₀ f.L h' mc → News f.h₀ f.L h' ((d, dictOf es' k') :: rest) → Es (At C fz) es' as' → SR C f fz m (σ.set a (.inst c as')) { s with heap := h', toks := t } := by
  obtain ⟨mc, news, δ, F, N, R, e⟩ := x
  obtain ⟨h1, es, k, h2, h3⟩ := R.ob a _ h
  have hne : a ≠ δ a := fun q => by have := R.dσ a c as h; rw [← q, h] at this; cases this
  have keepM : ∀ {p : Addr × Obj}, p ∈ news → p.1 ≠ δ a → p ∈ news.filter (fun p => decide (p.1 ≠ δ a)) := fun h q => List.mem_filter.mpr ⟨h, by simpa using q⟩
  refine ⟨δ a, es, k, mc, news.filter (fun p => decide (p.1 ≠ δ a)), (N _ h1).1, (N _ h2).1, h3, F, fun p hp => ?_, fun p hp => by simpa using (List.mem_filter.mp hp).2, keepM h1 hne, fun h' t es' k' as' F' N' hE => ?_⟩
  · rcases List.mem_cons.mp hp with rfl | hp
    · exact N _ h2
    · exact N _ (List.mem_filter.mp hp).1
  · have σne : ∀ b bo, σ b = some bo → b ≠ δ a := fun b bo hb q => by have := R.dσ a c as h; rw [← q, hb] at this; cases this
    have back : ∀ {b c' bs}, σ.set a (.inst c as') b = some (.inst c' bs) → ∃ bs', σ b = some (.inst c' bs') := fun {b c' bs} hb => by
      by_cases q : b = a
      · subst q; rw [AHeap.set_same] at hb; cases hb; exact ⟨as, h⟩
      · rw [AHeap.set_ne _ _ q] at hb; exact ⟨bs, hb⟩
    refine ⟨mc, _, δ, F', N', ⟨fun p hp => .tail _ (keepM (R.sub p hp) (R.doff a c as h p hp)), R.apart, fun b bo hb => ?_, fun b bo hb p hp => ?_, fun b c' bs hb p hp => ?_, fun b c' bs hb => ?_, R.free, fun b c' bs b' c'' bs' g1 g2 => ?_⟩, e⟩
    · by_cases q : b = a
      · subst q; rw [AHeap.set_same] at hb; cases hb
        exact ⟨.tail _ (keepM h1 hne), es', k', List.mem_cons_self .., hE⟩
      · rw [AHeap.set_ne _ _ q] at hb
        refine (R.ob b bo hb).mono (fun _ _ z => z) (fun _ hm => .tail _ (keepM hm (σne b bo hb))) fun c' bs eb _ hm => .tail _ (keepM hm fun q' => ?_)
        subst eb
        exact q (R.dinj b c' bs a c as hb h q')
    · by_cases q : b = a
      · subst q; exact R.off b _ h p hp
      · rw [AHeap.set_ne _ _ q] at hb; exact R.off b bo hb p hp
    · obtain ⟨bs', hb'⟩ := back hb; exact R.doff b c' bs' hb' p hp
    · obtain ⟨bs', hb'⟩ := back hb
      have hd := R.dσ b c' bs' hb'
      rw [AHeap.set_ne _ _ (fun q => by rw [q, h] at hd; cases hd)]; exact hd
    · obtain ⟨x1, y1⟩ := back g1; obtain ⟨x2, y2⟩ := back g2; exact R.dinj b c' x1 b' c'' x2 y1 y2
/-- an attribute stored, as a tree -/
def TW (C : Cx) (n : Nat) (f : Fm) (o : AVal) (name : Str) (y : AVal) (m : AEnv) (σ : AHeap) (Q : AHeap → Prop) : Prop :=
  f.Ok C n → ∀ fz s E vo vy, SR C f fz m σ s → V (At C fz) vo o → V (At C fz) vy y → wpAny (Md C) f.A (setAttr vo name vy) (fun _ s' => ∃ fz' σ', (∀ p ∈ fz, p ∈ fz') ∧ Same s s' ∧ SR C f fz' m σ' s' ∧ Q σ') E s
theorem tw_inst {a c : Addr} {as : List (Str × AVal)} {name : Str} {y : AVal} {Q : AHeap → Prop} (ha : σ a = some (.inst c as)) (hs : findIn C.K (.ref c) "__setattr__" = some (some (.builtin "object.__setattr__"))) (hp : plainOver C.K c = true) (ht : takerIn C.K c name = some none) (hh : hasDictIn C.K c = true)
    (hl : (setA name y as).length ≤ 1000) (h : Q (σ.set a (.inst c (setA name y as)))) : TW C n f (.obj a) name y m σ Q := fun ok fz s E vo vy x ho hy => by
  cases ho
  obtain ⟨d, es, k, mc, rest, h1, h2, h3, F, N, off, hm, back⟩ := x.ownD ha
  have hE := h3.put (x := name) (hh := PyData.keyHash C.w.params name) (t := s.toks + 1) hy
  refine set_dict (dx := d) F ok.kin N ⟨h1, rfl, rfl, h2⟩ rfl hs hp ht hh h3.isSome rfl (.head off) (by rw [hE.length]; exact hl) fun h' F' N' => ?_
  exact ⟨fz, _, sub_refl, ⟨h', s.toks + 2, rfl⟩, back h' (s.toks + 2) _ _ _ F' N' hE, h⟩
theorem w1_setAttr {o e : Expr} {name : Str} {tp pos : Pos} {Q : AFlow → AEnv → AHeap → Prop} (h : WE C n f e m σ fun y σ₁ => WE C n f o m σ₁ fun ov σ₂ => TW C n f ov name y m σ₂ fun σ₃ => Q .next m σ₃)
    (hs : swapsWith e (some (.Attribute o name tp)) pos.line f.env = pure false := by rfl) : W1 C n f (.Assign [.Attribute o name tp] e pos) m σ Q := fun ok fz s E x => by
  refine plainObj_wpAny_Assign_Attribute (wpAny_mono (h ok fz s E x) (fun v s₁ hq => hq.el fun fz₁ σ₁ a u1 e1 x1 va q1 => wpAny_mono (q1 ok fz₁ s₁ E x1) (fun ov s₂ hq => hq.el fun fz₂ σ₂ b u2 e2 x2 vb q2 => ?_) fun _ _ x => x) fun _ _ x => x) hs
  exact wpAny_mono (q2 ok fz₂ s₂ E ov v x2 vb (va.up u2)) (fun _ s₃ hq => PH.el hq fun fz₃ σ₃ u3 e3 x3 q3 => ⟨fz₃, σ₃, m, .next, fun p hp => u3 p (u2 p (u1 p hp)), (e1.trans e2).trans e3, x3, trivial, q3⟩) fun _ _ x => x
theorem we_attr {o : Expr} {name : Str} {pos : Pos} {Q : AVal → AHeap → Prop} (h : WE C n f o m σ fun ov σ₁ => T1 C n f (fun v => getAttr v name true) ov m σ₁ Q)
    (he : eval (.Attribute o name pos) f.env = (do
      let v ← eval o f.env
      standAt pos.atName
      let r ← holding [v] (getAttr v name true)
      letTemporaryGo o v r
      pure r) := by rfl) : WE C n f (.Attribute o name pos) m σ Q := fun ok fz s E x =>
  Attribute_any_ (wpAny_mono (h ok fz s E x) (fun v s₁ hq => hq.el fun fz₁ σ₁ a u1 e1 x1 va q1 => wpAny_mono (q1 ok fz₁ s₁ E v x1 va) (fun r s₂ p => .up u1 e1 p) fun _ _ x => x) fun _ _ x => x) he
def handedA : AVal → Bool
  | .raw v => handedIn v
  | _ => true
theorem V.handed {P : Addr → Obj → Prop} {v : Value} {a : AVal} (h : V P v a) (e : handedA a = true) : handedIn v = true := by
  cases h <;> first | rfl | exact e
end
end Mine

open PySem PySem.W PyProof.Rows PySem.Calls
namespace Mine
def Has (m : AEnv) : List (Str × AVal) → Prop
  | [] => True
  | p :: r => m.get p.1 = some p.2 ∧ Has m r
theorem Has.sub {m : AEnv} : ∀ {l : AEnv}, Has m l → ∀ y a, AEnv.get l y = some a → m.get y = some a
  | [], _, _, _, e => by cases e
  | (z, b) :: r, h, y, a, e => by
    unfold AEnv.get getA at e
    by_cases q : (z == y) = true
    · rw [if_pos q] at e; cases e
      have : z = y := by simpa using q
      subst this; exact h.1
    · rw [if_neg q] at e; exact h.2.sub y a e
theorem AHeap.le_refl (σ : AHeap) : σ.le σ := fun _ _ h => h
theorem AHeap.le_trans {σ σ' σ'' : AHeap} (h : σ.le σ') (h' : σ'.le σ'') : σ.le σ'' := fun a o e => h' a o (h a o e)
theorem AHeap.le_set {σ : AHeap} {l : Addr} {o : AObj} (h : σ l = none) : σ.le (σ.set l o) := fun a b e => by rw [AHeap.set_ne]; exact e; intro q; rw [q, h] at e; cases e
theorem hp_ne {σ : AHeap} {a c : Addr} {o : AObj} (h1 : σ a = some o) (h2 : σ c = none) : a ≠ c := fun q => by rw [q, h2] at h1; cases h1
theorem items_obj {σ : AHeap} {a : Addr} {xs : List AVal} (h : σ a = some (.list xs)) : items σ (.obj a) = some xs := by show (match σ a with | some (.list xs) => some xs | _ => none) = some xs; rw [h]
theorem ret_le {σ : AHeap} {a : AVal} {Q : AVal → AHeap → Prop} (h : Q a σ) : ∃ σ₂ : AHeap, σ₂.le σ ∧ Q (retOf (.ret a)) σ₂ := ⟨σ, AHeap.le_refl σ, h⟩
theorem ret_le' {σ₂ σ : AHeap} {a : AVal} {Q : AVal → AHeap → Prop} (hl : σ₂.le σ) (h : Q a σ₂) : ∃ σ₂ : AHeap, σ₂.le σ ∧ Q (retOf (.ret a)) σ₂ := ⟨σ₂, hl, h⟩
theorem fmod_pos (x : Int) {y : Int} (h : 0 ≤ y) : x.fmod y = x % y := Int.fmod_eq_emod_of_nonneg x h
theorem fmod_range (x : Int) {y : Int} (h : 0 < y) : 0 ≤ x.fmod y ∧ x.fmod y < y := by
  rw [fmod_pos x (Int.le_of_lt h)]; exact ⟨Int.emod_nonneg x (Int.ne_of_gt h), Int.emod_lt_of_pos x h⟩
theorem rng_small1 {a b : Int} (ha : -(2 ^ 62) ≤ a ∧ a < 2 ^ 62) (hb : -(2 ^ 62) ≤ b ∧ b < 2 ^ 62) : Builtin.Range.small a b 1 = true := small_one ha.1 ha.2 hb.1 hb.2
theorem rng_size1' {k : Nat} : Builtin.Range.rangeSize 0 k 1 = (k : Int) := by rw [rangeSize_nat]; congr 1
theorem rngL_length {a c : Int} {k : Nat} : (rngL a c k).length = k := by simp [rngL]
theorem rngL_cons {a c : Int} {k j : Nat} {v : AVal} {r : List AVal} (h : v :: r = (rngL a c k).drop j) : j < k ∧ v = .int (a + (j : Int) * c) ∧ r = (rngL a c k).drop (j + 1) := by
  have hj : j < (rngL a c k).length := by
    rcases Nat.lt_or_ge j (rngL a c k).length with q | q
    · exact q
    · rw [List.drop_of_length_le q] at h; cases h
  rw [List.drop_eq_getElem_cons hj] at h
  obtain ⟨h1, h2⟩ := List.cons.inj h
  refine ⟨by rwa [rngL_length] at hj, ?_, h2⟩
  rw [h1]; simp [rngL]
theorem rngL_nil {a c : Int} {k j : Nat} (h : [] = (rngL a c k).drop j) : k ≤ j := by
  rcases Nat.lt_or_ge j (rngL a c k).length with q | q
  · rw [List.drop_eq_getElem_cons q] at h; cases h
  · rwa [rngL_length] at q
theorem W1.weaken {C : Cx} {n : Nat} {f : Fm} {m : AEnv} {σ : AHeap} {st : Stmt} {m' : AEnv} {σ' : AHeap} {Q : AFlow → AEnv → AHeap → Prop} (hm : ∀ y a, m'.get y = some a → m.get y = some a) (hσ : σ'.le σ) (h : W1 C n f st m' σ' Q) : W1 C n f st m σ Q :=
  fun ok fz s E x => h ok fz s E (x.weaken hm hσ)
theorem W1.cut {C : Cx} {n : Nat} {f : Fm} {m : AEnv} {σ : AHeap} {st : Stmt} {P Q : AFlow → AEnv → AHeap → Prop} (h : W1 C n f st m σ P) (k : ∀ a m' σ', P a m' σ' → Q a m' σ') : W1 C n f st m σ Q :=
  fun ok fz s E x => wpAny_mono (h ok fz s E x) (fun v s' hq => hq.el fun fz' σ' m' a h1 h2 h3 h4 h5 => ⟨fz', σ', m', a, h1, h2, h3, h4, k _ _ _ h5⟩) fun _ _ x => x
theorem fn_cellsX {C : Cx} {n : Nat} {σ : AHeap} {fa : Addr} {name qual : Str} {params : Arguments} {body : List Stmt} {scope : Scope} {dV kV doc pm cdv ct oc : Value} {an od : Option Addr} {osl : Array (Option Value)} {as da : List AVal} {ns : List Str} {dv : List Value} {Q : AVal → AHeap → Prop} {ml : AEnv} {σ₁ : Addr → AHeap}
    (cs : Addr → List (Str × Addr))
    (ho : C.K.lookup fa = some ⟨oc, od, .func (fnOf name qual params body scope dV kV doc pm an cdv ct), osl⟩) (hcd : codeIn C.K cdv qual = true)
    (hbind : ∀ S vs, vs.length = as.length → peek C.K S (bindArgs (fnOf name qual params body scope dV kV doc pm an cdv ct) ⟨vs, []⟩) = some (ns.zip (vs ++ dv)))
    (hd : ∀ P, Vs P dv da) (hnd : ns.Nodup) (hloc : ∀ y ∈ ns, (scope.names.lookup y == some .local || scope.names.lookup y == some .cell) = true)
    (hck : ∀ p ∈ cellsFrom 0 scope.names [], scope.names.lookup p.1 ≠ some .local)
    (hcs : ∀ L, cellsFrom (L + 1) scope.names [] = cs L) (hml : ((ns.zip (as ++ da)).filter fun p => scope.names.lookup p.1 == some .local) = ml) (hσ : ∀ L, cellS (fun y => getA y (ns.zip (as ++ da))) (cs L) σ = σ₁ L)
    (h : ∀ A₀ A base h₀ outer L pin, (∀ p ∈ cs L, σ p.2 = none) → WS C n ⟨A₀, A, base, h₀, outer, L, fa, qual, scope, cdv, cs L, pin, none⟩ body ml (σ₁ L) fun fl _ σ' => ∃ σ₂ : AHeap, σ₂.le σ' ∧ Q (retOf fl) σ₂)
    (hnc : ((cellsFrom 0 scope.names []).map (·.1)).Nodup := by decide)
    (hco : scope.isCoroutine = false := by rfl) (hgen : scope.isGenerator = false := by rfl) (hk : scope.kind = .function := by rfl) :
    Fn C (n + 1) fa as σ Q := fn_cells ho hcd hbind hd hnd hloc hck (fun A₀ A base h₀ outer L pin hc => by
      rw [hcs L] at hc ⊢
      rw [hml, hσ L]
      exact h A₀ A base h₀ outer L pin hc) hnc hco hgen hk
end Mine

open PySem PySem.W PyProof.Rows PySem.Calls
namespace Mine
end Mine

open PySem PySem.W PyProof.Rows PySem.Calls
namespace Mine
section
variable {C : Cx} {n : Nat} {f : Fm} {m : AEnv} {σ : AHeap}
theorem AHeap.set_set (σ : AHeap) (a : Addr) (x y : AObj) : (σ.set a x).set a y = σ.set a y := by
  funext b; unfold AHeap.set; split <;> rfl
/-- the five things of a source, as attributes -/
def srcA (s p e b c : AVal) : List (Str × AVal) := [(Str.ofString "_InputSource__system_id", s), (Str.ofString "_InputSource__public_id", p), (Str.ofString "_InputSource__encoding", e), (Str.ofString "_InputSource__bytefile", b), (Str.ofString "_InputSource__charfile", c)]
end
end Mine

open PySem PySem.W PyProof.Rows PySem.Calls
namespace Mine
/-! ## pieces of a def of the text -/
def blkOf : Stmt → Nat → List Stmt
  | .For _ _ b _ _, 0 => b
  | .For _ _ _ o _, _ => o
  | .If _ b _ _, 0 => b
  | .If _ _ o _, _ => o
  | .FunctionDef _ _ b _ _ _ _ _ _ _, _ => b
  | _, _ => []
def subs : List Stmt → List (Nat × Nat) → List Stmt
  | ss, [] => ss
  | ss, (i, j) :: r => match ss[i]? with
    | some st => subs (blkOf st j) r
    | none => []
def segOf (p : Program) (i : Nat) (path : List (Nat × Nat)) (k : Nat) : Option (Scope × List Stmt) :=
  match p.main.body[i]? with
  | some (.FunctionDef _ _ b _ _ _ sc _ _ _) => some (sc, (subs b path).drop k)
  | _ => none
def Seg (p : Program) (i : Nat) (path : List (Nat × Nat)) (k : Nat) (P : Scope → List Stmt → Prop) : Prop :=
  match segOf p i path k with
  | some (sc, ss) => P sc ss
  | none => True
theorem seg_intro {p : Program} {i : Nat} {path : List (Nat × Nat)} {k : Nat} {P : Scope → List Stmt → Prop} {kind : ScopeKind} {names : List (Str × NameKind)} {g c : Bool} {more : List (Str × Const)} {st : Stmt} {ss : List Stmt}
    (ho : segOf p i path k = some (⟨kind, names, g, c, more⟩, st :: ss)) (h : P ⟨kind, names, g, c, more⟩ (st :: ss)) : Seg p i path k P := by
  unfold Seg; rw [ho]; exact h
/-- one statement -/
def Seg1 (p : Program) (i : Nat) (path : List (Nat × Nat)) (k : Nat) (P : Scope → Stmt → Prop) : Prop :=
  match segOf p i path k with
  | some (sc, st :: _) => P sc st
  | _ => True
end Mine

open PySem PySem.W PyProof.Rows PySem.Calls
namespace Mine
def AHeap.del (σ : AHeap) (a : Addr) : AHeap := fun b => if b = a then none else σ b
theorem AHeap.del_same (σ : AHeap) (a : Addr) : σ.del a a = none := if_pos rfl
theorem AHeap.del_ne (σ : AHeap) {a b : Addr} (h : b ≠ a) : σ.del a b = σ b := if_neg h
theorem seg_elim {p : Program} {i : Nat} {path : List (Nat × Nat)} {k : Nat} {P : Scope → List Stmt → Prop} {sc : Scope} {ss : List Stmt} (h : Seg p i path k P) (ho : segOf p i path k = some (sc, ss)) : P sc ss := by
  unfold Seg at h; rw [ho] at h; exact h
section
variable {C : Cx} {n : Nat} {f : Fm} {m : AEnv} {σ : AHeap}
theorem we_one {op : BoolOp} {e : Expr} {pos : Pos} {Q : AVal → AHeap → Prop} (h : WE C n f e m σ Q) : WE C n f (.BoolOp op [e] pos) m σ Q := fun ok fz s E x => BoolOp_one (h ok fz s E x)
theorem we_andN {a b : Expr} {r : List Expr} {pos : Pos} {Q : AVal → AHeap → Prop} (h : WE C n f a m σ fun v σ₁ => TB C n f truthy v m σ₁ fun c σ₂ => (c = true → WE C n f (.BoolOp .And (b :: r) pos) m σ₂ Q) ∧ (c = false → Q v σ₂)) : WE C n f (.BoolOp .And (a :: b :: r) pos) m σ Q := fun ok fz s E x => by
  refine BoolOp_and (wpAny_mono (h ok fz s E x) (fun v s₁ hq => hq.el fun fz₁ σ₁ av u1 e1 x1 va q1 => wpAny_mono (q1 ok fz₁ s₁ E v x1 va) (fun c s₂ hq => hq.el fun fz₂ σ₂ u2 e2 x2 q2 => ?_) fun _ _ x => x) fun _ _ x => x)
  cases c with
  | true => rw [if_pos rfl]; exact wpAny_mono (q2.1 rfl ok fz₂ s₂ E x2) (fun r s₃ p => .up (fun p hp => u2 p (u1 p hp)) (e1.trans e2) p) fun _ _ x => x
  | false => rw [if_neg (by decide)]; exact ⟨fz₂, σ₂, av, fun p hp => u2 p (u1 p hp), e1.trans e2, x2, va.up u2, q2.2 rfl⟩
end
end Mine

open PySem PySem.W PyProof.Rows PySem.Calls
namespace Mine
/-! ## an attribute that is not there; a try in a called def -/
section
variable {prog : Program} {w : World} {A : Around} {E : Value → Shared → Prop} {s : Shared} {K : Frag} {x c L : Addr} {h₀ : Heap} {m : Str → Option Value} {ox : Obj} {es : List DictEntry} {n : Nat} {name : Str}
end

/-- a call out of the law's own frame -/
def Fn1 (C : Cx) (n : Nat) (fa : Addr) (as : List AVal) (σ : AHeap) (Q : AVal → AHeap → Prop) : Prop :=
  ∀ f m A, f.outer = [] → f.Ok C n → Near f A → ∀ fz s vs, SR C f fz m σ s → Vs (At C fz) vs as → codeAny (Md C) A (.call (.ref fa) ⟨vs, []⟩) (RV C f m fz s Q) s
/-- statements that raise, the state as it was -/
def XS (C : Cx) (n : Nat) (f : Fm) (ss : List Stmt) (m : AEnv) (σ : AHeap) (X : String) : Prop :=
  f.Ok C n → ∀ fz s E, SR C f fz m σ s → (∀ s₁ h' tk e fz', (∀ p ∈ fz, p ∈ fz') → Same s s₁ → SR C f fz' m σ s₁ → Heap.NewExcOf s₁.heap h' e X → E (.ref e) { s₁ with heap := h', toks := tk }) → wpAny (Md C) f.A (execs ss f.env) (fun _ _ => False) E s
section
variable {C : Cx} {n : Nat} {f : Fm} {m : AEnv} {σ : AHeap}
end
end Mine

open PySem PySem.W PyProof.Rows PySem.Calls
namespace Mine
/-! ## dicts with whole numbers as keys -/
def valA (es : List (Int × AVal)) (k : Int) : Option AVal := (es.find? fun kv => kv.1 = k).map (·.2)
def storeA (es : List (Int × AVal)) (k : Int) (v : AVal) : List (Int × AVal) := if es.any (fun kv => kv.1 = k) then es.map (fun kv => if kv.1 = k then (kv.1, v) else kv) else es ++ [(k, v)]
section
variable {C : Cx} {n : Nat} {f : Fm} {m : AEnv} {σ : AHeap}
end
end Mine

open PySem PySem.W PyProof.Rows PySem.Calls
set_option linter.unusedSectionVars false
namespace Mine
section
variable {C : Cx} {n : Nat} {f : Fm} {m : AEnv} {σ : AHeap}
theorem Vs.rep {P : Addr → Obj → Prop} {vs : List Value} {xs : List AVal} (h : Vs P vs xs) : ∀ k : Nat, Vs P (List.replicate k vs).flatten (List.replicate k xs).flatten
  | 0 => by simp; exact .nil
  | k + 1 => by simp only [List.replicate_succ, List.flatten_cons]; exact h.append (h.rep k)
theorem rep_flat {α : Type} (items : Array α) (k : Nat) : List.foldl (fun x1 x2 => x1 ++ x2) #[] (List.replicate (if items.isEmpty = true then 0 else k) items) = (List.replicate k items.toList).flatten.toArray := by
  have key : ∀ (k : Nat) (acc : Array α), List.foldl (fun x1 x2 => x1 ++ x2) acc (List.replicate k items) = (acc.toList ++ (List.replicate k items.toList).flatten).toArray := by
    intro k
    induction k with
    | zero => intro acc; simp
    | succ k ih => intro acc; simp [List.replicate_succ, ih, List.append_assoc]
  split
  · rename_i h
    have : items = #[] := by simpa using h
    subst this
    simp
  · rw [key]; simp
theorem t2_mulObjM {a : Addr} {xs : List AVal} {x : Int} {Q : AVal → AHeap → Prop} (ha : σ a = some (.list xs)) (h0 : 0 ≤ x) (hx : x < 2 ^ 63) (hz : xs.length * x.toNat ≤ 2 ^ 24) (h : ∀ b, σ b = none → Q (.obj b) (σ.set b (.list (List.replicate x.toNat xs).flatten))) : T2 C n f (binaryOp .Mult) (.obj a) (.int x) m σ Q := fun ok fz s E v w x' hv hw => by
  cases hv; cases hw
  obtain ⟨us, k, ho, hv⟩ := x'.list ha
  obtain ⟨mc, news, F, N, hno, kk⟩ := x'.newL
  refine mul_list (k := k) F N ho (by omega) hx (by rw [List.size_toArray, hv.length]; exact hz) fun h' F' N' => ?_
  rw [rep_flat] at N'
  exact ⟨fz, _, .obj s.heap.objs.size, sub_refl, .mk, kk h' s.toks (List.replicate x.toNat us).flatten 0 _ F' N' (hv.rep _), .obj _, h _ hno⟩
def zipA : List AVal → List AVal → List (List AVal)
  | x :: xs, y :: ys => [x, y] :: zipA xs ys
  | _, _ => []
theorem zipA_length : ∀ {xs ys : List AVal}, (zipA xs ys).length = min xs.length ys.length
  | [], _ => by simp [zipA]
  | _ :: _, [] => by simp [zipA]
  | _ :: xs, _ :: ys => by simp [zipA, zipA_length (xs := xs) (ys := ys), Nat.succ_min_succ]
theorem zipA_get : ∀ {xs ys : List AVal} {i : Nat} {r : List AVal}, (zipA xs ys)[i]? = some r → ∃ x y, xs[i]? = some x ∧ ys[i]? = some y ∧ r = [x, y]
  | [], _, _, _, h => by simp [zipA] at h
  | _ :: _, [], _, _, h => by simp [zipA] at h
  | x :: xs, y :: ys, 0, r, h => by simp [zipA] at h; exact ⟨x, y, rfl, rfl, h.symm⟩
  | x :: xs, y :: ys, i + 1, r, h => by
    simp [zipA] at h
    obtain ⟨a, b, h1, h2, h3⟩ := zipA_get h
    exact ⟨a, b, by simpa using h1, by simpa using h2, h3⟩
/-- two frozen lists are walked side by side -/
theorem wit_zip {g : Str} {gp : Pos} {e₁ e₂ : Expr} {cp : Pos} {Q : (AHeap → AHeap) → List (List AVal) → AHeap → Prop}
    (h : WE C n f (.Name g gp) m σ fun fv σ₁ => fv = .raw (.type "zip") ∧ WL C n f [e₁, e₂] cp m σ₁ fun as σ₂ => ∃ xs ys, as = [.lst xs, .lst ys] ∧ Q id (zipA xs ys) σ₂)
    (hplain : (backTo cp (starEach [e₁, e₂] f.env)).any (·.1) = false := by rfl) : WIT C n f (.Call (.Name g gp) [e₁, e₂] [] cp) m σ Q := fun ok fz s E x => by
  refine wpAny_Call_ofName (wpAny_mono (h ok fz s E x) (fun v s₁ hq => hq.el fun fz₁ σ₁ a u1 e1 x1 va ⟨ea, q1⟩ => ?_) fun _ _ x => x)
  subst ea; cases va
  refine cw (wpAny_mono (q1 ok fz₁ s₁ E x1) (fun vs s₂ hq => hq.el fun fz₂ σ₂ as u2 e2 x2 hvs ⟨xs, ys, es, q2⟩ => ?_) fun _ _ x => x) hplain
  subst es
  obtain _ | ⟨h1, hvs⟩ := hvs; obtain _ | ⟨h2, hvs⟩ := hvs; cases hvs
  refine ⟨keep_type, ?_⟩
  obtain ⟨l, o, k, us, rfl, p1, p2, p3, p4⟩ := h1.lstD
  obtain ⟨l', o', k', ws, rfl, p1', p2', p3', p4'⟩ := h2.lstD
  have ho := x2.at_ ok p1
  have ho' := x2.at_ ok p1'
  have hl : s₂.heap.IsList l us.toArray := ⟨_, ho, p2, _, p3⟩
  have hl' : s₂.heap.IsList l' ws.toArray := ⟨_, ho', p2', _, p3'⟩
  have hll : l < s₂.heap.objs.size := Heap.lt_size ho
  have hll' : l' < s₂.heap.objs.size := Heap.lt_size ho'
  refine call_zip_2 hl hl' fun h' hz hTI hTO hi1 hi2 hsz kk => ?_
  have D : ZipApart (s₂.heap.objs.size + 4) (s₂.heap.objs.size + 2) (s₂.heap.objs.size + 3) s₂.heap.objs.size (s₂.heap.objs.size + 1) l l' := by
    have dl : ∀ k, l ≠ s₂.heap.objs.size + k := fun k => Nat.ne_of_lt (Nat.lt_of_lt_of_le hll (Nat.le_add_right _ _))
    have dl' : ∀ k, l' ≠ s₂.heap.objs.size + k := fun k => Nat.ne_of_lt (Nat.lt_of_lt_of_le hll' (Nat.le_add_right _ _))
    constructor <;> first | exact dl _ | exact dl' _ | exact dl 0 | exact dl' 0 | exact Nat.ne_of_lt (by omega) | exact Nat.ne_of_gt (by omega)
  have W := (WalksT.zip2 (prog := C.prog) (w := C.w) ok.handled _ _ _ _ _ _ _ D us.toArray ws.toArray)
  have st0 : IsZip h' (s₂.heap.objs.size + 4) (s₂.heap.objs.size + 2) (s₂.heap.objs.size + 3) .none ∧ IsPair h' (s₂.heap.objs.size + 2) (.ref s₂.heap.objs.size) (.ref (s₂.heap.objs.size + 1)) ∧ (∃ a b, IsPair h' (s₂.heap.objs.size + 3) a b) ∧ h'.IsListIter s₂.heap.objs.size l 0 ∧ h'.IsListIter (s₂.heap.objs.size + 1) l' 0 ∧ h'.IsList l us.toArray ∧ h'.IsList l' ws.toArray :=
    ⟨hz, hTI, ⟨_, _, hTO⟩, hi1, hi2, hl.at fun o e => kk _ o e, hl'.at fun o e => kk _ o e⟩
  refine W.self 0 _ _ _ st0 ⟨fz₂, σ₂, s₂.heap.objs.size + 4, [s₂.heap.objs.size + 4, s₂.heap.objs.size + 3, s₂.heap.objs.size, s₂.heap.objs.size + 1, s₂.heap.objs.size + 2], zipA xs ys, (fun i h => IsZip h (s₂.heap.objs.size + 4) (s₂.heap.objs.size + 2) (s₂.heap.objs.size + 3) .none ∧ IsPair h (s₂.heap.objs.size + 2) (.ref s₂.heap.objs.size) (.ref (s₂.heap.objs.size + 1)) ∧ (∃ a b, IsPair h (s₂.heap.objs.size + 3) a b) ∧ h.IsListIter s₂.heap.objs.size l i ∧ h.IsListIter (s₂.heap.objs.size + 1) l' i ∧ h.IsList l us.toArray ∧ h.IsList l' ws.toArray), fun _ => True, id, rfl, fun p hp => u2 p (u1 p hp), (e1.trans e2).trans ⟨h', s₂.toks, rfl⟩, SX.ofFresh (t := s₂.toks) x2 kk ?_, ⟨?_, ?_, ?_, ?_, fun _ _ _ => trivial, fun _ _ _ _ _ x _ => x.sr⟩, st0, q2⟩
  · intro b hb
    simp at hb
    rcases hb with rfl | rfl | rfl | rfl | rfl <;> omega
  · intro i s Q E y hy hs hQ
    obtain ⟨z, z', hz1, hz2, rfl⟩ := zipA_get hy
    have hi : i < us.toArray.size := by rw [List.size_toArray, p4.length]; exact (List.getElem?_eq_some_iff.mp hz1).1
    have hi' : i < ws.toArray.size := by rw [List.size_toArray, p4'.length]; exact (List.getElem?_eq_some_iff.mp hz2).1
    refine W.item i s Q E (by omega) hs fun T vals h' tk hP hTs hT hm hk => ?_
    obtain ⟨u, u', hu, hu', rfl⟩ := hP
    obtain ⟨w1, g1, g2⟩ := p4.get hz1
    obtain ⟨w2, g3, g4⟩ := p4'.get hz2
    have e1 : w1 = u := by have : us[i]? = some u := by simpa using hu
                           rw [g1] at this; exact Option.some.inj this
    have e2 : w2 = u' := by have : ws[i]? = some u' := by simpa using hu'
                            rw [g3] at this; exact Option.some.inj this
    subst e1; subst e2
    have hap := W.apart i T h' hm
    have hTI' : T ≠ s₂.heap.objs.size + 2 := fun q => by
      have := Heap.lt_size hs.2.1
      rw [← q] at this
      exact absurd this (Nat.not_lt.mpr hTs)
    refine hQ T [w1, w2] h' tk (.cons g2 (.cons g4 .nil)) hT (fun q => ?_) (fun b o hb e => hk b o (fun q => hb ?_) e) fun ts k pos s₃ Q₂ E₂ e3 hQ2 => ?_
    · simp only [List.mem_cons, List.not_mem_nil, or_false] at q hap
      rcases q with q | q | q | q | q
      · exact hap (.inl q)
      · exact hap (.inr (.inl q))
      · exact hap (.inr (.inr (.inl q)))
      · exact hap (.inr (.inr (.inr q)))
      · exact hTI' q
    · simp only [List.mem_cons, List.not_mem_nil, or_false] at q ⊢
      rcases q with q | q | q | q
      · exact .inl q
      · exact .inr (.inl q)
      · exact .inr (.inr (.inl q))
      · exact .inr (.inr (.inr (.inl q)))
    · subst e3
      refine W.go ts k pos i T s₃ Q₂ E₂ hm fun h₂ st k => hQ2 h₂ st fun b o hb e => k b o (fun q => hb ?_) e
      simp only [List.mem_cons, List.not_mem_nil, or_false] at q ⊢
      rcases q with q | q | q | q
      · exact .inl q
      · exact .inr (.inl q)
      · exact .inr (.inr (.inl q))
      · exact .inr (.inr (.inr (.inl q)))
  · intro s Q E hs hQ
    have hz : min us.toArray.size ws.toArray.size = (zipA xs ys).length := by rw [List.size_toArray, List.size_toArray, p4.length, p4'.length, zipA_length]
    refine W.done s Q E (by rw [hz]; exact hs) fun h' tk k => hQ h' tk (fun b o hb e => k b o (fun q => hb ?_) e) trivial
    simp only [List.mem_cons, List.not_mem_nil, or_false] at q ⊢
    rcases q with q | q | q | q
    · exact .inl q
    · exact .inr (.inl q)
    · exact .inr (.inr (.inl q))
    · exact .inr (.inr (.inr (.inl q)))
  · intro i h hs b hb
    obtain ⟨a1, a2, ⟨a, b', a3⟩, ⟨o4, a4, _⟩, ⟨o5, a5, _⟩, a6, a7⟩ := hs
    simp only [List.mem_cons, List.not_mem_nil, or_false] at hb
    rcases hb with q | q | q | q | q
    · rw [q]; exact ⟨_, a1⟩
    · rw [q]; exact ⟨_, a3⟩
    · rw [q]; exact ⟨_, a4⟩
    · rw [q]; exact ⟨_, a5⟩
    · rw [q]; exact ⟨_, a2⟩
  · intro i h h' hs hw hp
    obtain ⟨a1, a2, ⟨a, b', a3⟩, a4, a5, a6, a7⟩ := hs
    exact ⟨hw _ (by simp) _ a1, hw _ (by simp) _ a2, ⟨a, b', hw _ (by simp) _ a3⟩, a4.at fun o e => hw _ (by simp) o e, a5.at fun o e => hw _ (by simp) o e, ⟨_, hp _ _ (.inl p1), p2, _, p3⟩, ⟨_, hp _ _ (.inl p1'), p2', _, p3'⟩⟩
end
/-! ## a state by its parts -/
def up {I α : Type} [DecidableEq I] (f : I → α) (x : I) (v : α) : I → α := fun y => if y = x then v else f y
theorem up_same {I α : Type} [DecidableEq I] (f : I → α) (x : I) (v : α) : up f x v x = v := if_pos rfl
theorem up_ne {I α : Type} [DecidableEq I] (f : I → α) {x y : I} (v : α) (h : y ≠ x) : up f x v y = f y := if_neg h
def NeQ {I : Type} (ad : I → Addr) (L : I → Prop) : Prop := ∀ x y, L x → L y → x ≠ y → ad x ≠ ad y
structure Hx {I : Type} (σ : AHeap) (ad : I → Addr) (L : I → Prop) (o : I → AObj) : Prop where
  at_ : ∀ y, L y → σ (ad y) = some (o y)
  ne : NeQ ad L
section
variable {I : Type} [DecidableEq I] {σ : AHeap} {ad : I → Addr} {L : I → Prop} {o : I → AObj}
end
/-- the five things of a source -/
def srcV (v : Nat → AVal) : List (Str × AVal) := srcA (v 0) (v 1) (v 2) (v 3) (v 4)
end Mine

open PySem PySem.W PyProof.Rows PySem.Calls
namespace Mine
end Mine

open PySem PySem.W PyProof.Rows PySem.Calls
namespace Mine
section
variable {C : Cx} {n : Nat} {f : Fm} {m : AEnv} {σ : AHeap}
end
end Mine

open PySem PySem.W PyProof.Rows PySem.Calls
namespace Mine
/-! ## defs inside defs -/
def lookT (pos : Pos) : List (Pos × Str) → Option Str
  | [] => none
  | (p, q) :: r => if ((p.line : Int) == pos.line && (p.col : Int) == pos.col) = true then some q else lookT pos r
def tabWith (pos : Pos) (q : Str) (es : List (Pos × Str)) : Option (List (Pos × Str)) := match lookT pos es with
  | some q' => if q' = q then some es else none
  | none => some (es ++ [(pos, q)])
theorem Tb.triples {P : Addr → Obj → Prop} : ∀ {ps : List Value} {es : List (Pos × Str)}, Tb P ps es → TriplesOk ps
  | _, _, .nil => trivial
  | _, _, .cons _ _ _ d => d.triples
theorem Tb.none_ {P : Addr → Obj → Prop} {pos : Pos} : ∀ {ps : List Value} {es : List (Pos × Str)}, Tb P ps es → lookT pos es = none → codeAmong pos ps = none
  | _, _, .nil, _ => rfl
  | _, _, .cons (pos := p) _ _ _ d, h => by
    unfold lookT at h
    split at h
    · cases h
    · rename_i q
      show (if ((p.line : Int) == pos.line && (p.col : Int) == pos.col) = true then _ else _) = _
      rw [if_neg q]; exact d.none_ h
theorem Tb.some_ {P : Addr → Obj → Prop} {pos : Pos} {q : Str} : ∀ {ps : List Value} {es : List (Pos × Str)}, Tb P ps es → lookT pos es = some q → ∃ c oc vs t, codeAmong pos ps = some (.ref c) ∧ P c oc ∧ oc.data = .fields vs ∧ vs[1]? = some (.str q t)
  | _, _, .nil, h => by cases h
  | _, _, .cons (pos := p) (c := c) a b e d, h => by
    unfold lookT at h
    split at h
    · rename_i hq
      cases h
      refine ⟨c, _, _, _, ?_, a, b, e⟩
      show (if ((p.line : Int) == pos.line && (p.col : Int) == pos.col) = true then _ else _) = _
      rw [if_pos hq]
    · rename_i hq
      obtain ⟨c, oc, vs, t, h1, h2⟩ := d.some_ h
      refine ⟨c, oc, vs, t, ?_, h2⟩
      show (if ((p.line : Int) == pos.line && (p.col : Int) == pos.col) = true then _ else _) = _
      rw [if_neg hq]; exact h1
theorem Tb.snoc {P : Addr → Obj → Prop} {pos : Pos} {q : Str} {c : Addr} {oc : Obj} {vs : Array Value} {t : Tok} (a : P c oc) (b : oc.data = .fields vs) (e : vs[1]? = some (.str q t)) : ∀ {ps : List Value} {es : List (Pos × Str)}, Tb P ps es → Tb P (ps ++ [rawInt pos.line, rawInt pos.col, .ref c]) (es ++ [(pos, q)])
  | _, _, .nil => .cons a b e .nil
  | _, _, .cons a' b' e' d => .cons a' b' e' (d.snoc a b e)
section
variable {C : Cx} {n : Nat} {f : Fm} {m : AEnv} {σ : AHeap}
theorem HR.change {fz pin : Fz} {δ : Addr → Addr} {news : List (Addr × Obj)} {a : Addr} {ao ao' : AObj} {o' : Obj} (R : HR C fz pin σ δ news) (h : σ a = some ao) (hn : ∀ c as, ao ≠ .inst c as) (hn' : ∀ c as, ao' ≠ .inst c as)
    (hr : ∀ news d, (a, o') ∈ news → OR (At C fz) news d a ao') : HR C fz pin (σ.set a ao') δ (upd news a o') := by
  have da : ∀ b c as, σ b = some (.inst c as) → δ b ≠ a := fun b c as hb e => by have := R.dσ b c as hb; rw [e, h] at this; cases this
  have keep : ∀ {b c as}, σ.set a ao' b = some (.inst c as) → b ≠ a ∧ σ b = some (.inst c as) := fun {b c as} hb => by
    by_cases q : b = a
    · subst q; rw [AHeap.set_same] at hb; exact absurd (Option.some.inj hb) (hn' _ _)
    · rw [AHeap.set_ne _ _ q] at hb; exact ⟨q, hb⟩
  refine ⟨fun p hp => mem_upd (R.sub p hp) (R.off a _ h p hp), R.apart, fun b bo hb => ?_, fun b bo hb p hp => ?_, fun b c as hb p hp => R.doff b c as (keep hb).2 p hp, fun b c as hb => ?_, R.free, fun b c as b' c' bs h1 h2 => R.dinj b c as b' c' bs (keep h1).2 (keep h2).2⟩
  · by_cases q : b = a
    · subst q; rw [AHeap.set_same] at hb; cases hb
      exact hr _ _ (List.mem_cons_self ..)
    · rw [AHeap.set_ne _ _ q] at hb
      exact (R.ob b bo hb).mono (fun _ _ x => x) (fun _ hm => mem_upd hm q) fun c as eb _ hm => mem_upd hm (da b c as (eb ▸ hb))
  · by_cases q : b = a
    · subst q; exact R.off b _ h p hp
    · rw [AHeap.set_ne _ _ q] at hb; exact R.off b bo hb p hp
  · obtain ⟨q, hb⟩ := keep hb
    rw [AHeap.set_ne _ _ (da b c as hb)]; exact R.dσ b c as hb
/-- a table grows, new frozen things come -/
theorem SR.tabGrow {fz : Fz} {s : Shared} (x : SR C f fz m σ s) {P : Addr} {es es' : List (Pos × Str)} {h' : Heap} {t : Nat} {ps' : Array Value} (h : σ P = some (.tab es)) (hx : Heap.ExtBut P s.heap h') (hP : h'.get? P = some (tabObj ps')) (new : Fz)
    (hn : ∀ p ∈ new, s.heap.objs.size ≤ p.1 ∧ h'.get? p.1 = some p.2) (ht : Tb (At C (new ++ fz)) ps'.toList es') : SR C f (new ++ fz) m (σ.set P (.tab es')) { s with heap := h', toks := t } := by
  obtain ⟨mc, news, δ, F, N, R, e⟩ := x
  obtain ⟨o, ho⟩ := (R.ob P _ h).key
  have lt : ∀ q ∈ news, q.1 < s.heap.objs.size := fun q hq => Heap.lt_size (N q hq).1
  have R1 := (R.addFz new fun p hp q hq e => absurd (lt q hq) (Nat.not_lt.mpr (e ▸ (hn p hp).1))).change h (fun _ _ e => by cases e) (ao' := .tab es') (fun _ _ e => by cases e) (o' := tabObj ps') fun _ _ hm => ⟨_, hm, ht⟩
  have hPn := N _ ho
  refine ⟨mc, _, δ, ⟨F.ns.extBut hx hPn.2.1.symm, fun b o e => hx b o (fun q => by rw [q, hPn.2.2] at e; cases e) (F.keep b o e), F.above⟩, fun p hp => ?_, R1, e.up fun p hp => List.mem_append_right _ hp⟩
  rcases List.mem_cons.mp hp with rfl | hp
  · exact ⟨hP, hPn.2⟩
  · have hne : p.1 ≠ P := by simpa using (List.mem_filter.mp hp).2
    rcases List.mem_append.mp (List.mem_filter.mp hp).1 with hp | hp
    · obtain ⟨h1, h2⟩ := hn p hp
      exact ⟨h2, Nat.ne_of_gt (Nat.lt_of_lt_of_le F.ns.lt h1), Heap.get?_none_of_le (Nat.le_trans F.above (Nat.le_trans (Nat.le_of_lt F.ns.lt) h1))⟩
    · exact ⟨hx _ _ hne (N p hp).1, (N p hp).2⟩
/-- a def, a lambda made in a frame -/
theorem make_clo {d : Clo} {cs : List Addr} {xs : List AVal} {pos : Pos} {fl : Nat} {c P : Addr} {es es' : List (Pos × Str)} {fz : Fz} {s : Shared} {E : Value → Shared → Prop} {Q : AVal → AHeap → Prop} (ok : f.Ok C n) (x : SR C f fz m σ s) (hcm : f.comp = none)
    (hcd : f.ccd = .ref c) (hC : CodeHd C.H c P) (hP : σ P = some (.tab es)) (hes : tabWith pos d.qual es = some es') (hcl : closureFor d.scope f.env = pure (d.free.zip cs)) (hxs : Cs (At C fz) cs xs) (h : Q (.clos d xs) (σ.set P (.tab es'))) :
    wpAny (Md C) f.A (makeFunction d.name d.qual d.params d.body d.scope f.env [] [] [] pos fl) (PV C f m fz s Q) E s := by
  have x0 := x
  obtain ⟨mc, news, δ, F, N, R, e⟩ := x
  obtain ⟨ps, hm0, hT⟩ := R.ob P _ hP
  have hm := N _ hm0
  have T := ok.top
  have hgs := T.g.keeps F.keep
  obtain ⟨bm, ob, b1, b2, b3, b4, b5, b6⟩ := T.bmain
  have hgP : mainGlobals ≠ P := fun q => by
    obtain ⟨o, es, ep, e, hd, _⟩ := hgs
    rw [q, hm.1] at e; cases e; cases hd
  have hbP : bm ≠ P := fun q => by
    have e := F.keep _ _ b3
    rw [q, hm.1] at e; cases e; cases b4
  have hbG : bm ≠ mainGlobals := fun q => by
    obtain ⟨o, es, ep, e, hd, _⟩ := T.g
    rw [q, e] at b3; cases b3; rw [hd] at b6; cases b6
  have he : f.env = f.fenv := by unfold Fm.env; rw [hcm]
  have hC' : CodeHd s.heap c P := hC.keeps fun b o e => F.keep _ _ (ok.hk _ _ e)
  have hge0 : f.env.globals = mainGlobals := by rw [he]
  have hcode : f.env.code = .ref c := by rw [he]; exact hcd
  have hbb : s.heap.BuiltinsAt C.mg P := ⟨bm, ob, b1, b2, hbG, hbP, F.keep _ _ b3, b4, b5, b6⟩
  have hit : ∀ {cv : Addr} {doc ctv : Value} {h' : Heap} {tk : Tok} {oc : Obj} {vs : Array Value} {t : Tok}, At C fz cv oc → oc.data = .fields vs → vs[1]? = some (.str d.qual t) → es' = es → (∀ b o, s.heap.get? b = some o → h'.get? b = some o) → s.heap.objs.size ≤ h'.objs.size →
      PV C f m fz s Q (.ref h'.objs.size) { s with heap := h'.push (cloObj d cs doc ((C.mg "__name__").getD .none) cv ctv), toks := tk } := by
    intro cv doc ctv h' tk oc vs t hat hd hv hee hk hsz
    subst hee
    have hsame : σ.le (σ.set P (.tab es')) := fun b o hb => by
      by_cases q : b = P
      · subst q; rw [AHeap.set_same]; rw [hP] at hb; exact hb
      · rw [AHeap.set_ne _ _ q]; exact hb
    have hsame' : (σ.set P (.tab es')).le σ := fun b o hb => by
      by_cases q : b = P
      · subst q; rw [AHeap.set_same] at hb; rw [hP]; exact hb
      · rw [AHeap.set_ne _ _ q] at hb; exact hb
    refine (PV.new (σ := σ.set P (.tab es')) (a := .clos d xs) (x0.weaken (fun _ _ h => h) hsame') (fun b o e => Heap.get?_push_of_some _ (hk b o e)) hsz (Heap.get?_push_size _ rfl) (fun fz' hq up => .clos (.inl hq) (hat.mono up) hd hv (hxs.mono fun _ _ => At.mono up)) h)
  have miss : ∀ {c' : Addr} {doc ctv : Value} {h' : Heap} {tk : Tok}, es' = es ++ [(pos, d.qual)] → Heap.ExtBut P s.heap h' → s.heap.objs.size ≤ c' → c' < h'.objs.size → h'.CodeRec (.ref c') d.qual → h'.get? P = some (tabObj (ps ++ #[rawInt pos.line, rawInt pos.col, .ref c'])) →
      PV C f m fz s Q (.ref h'.objs.size) { s with heap := h'.push (cloObj d cs doc ((C.mg "__name__").getD .none) c' ctv), toks := tk } := by
    intro c' doc ctv h' tk hee hx hge hlt hrec htb
    subst hee
    obtain ⟨c₂, oc, vs, t, e2, hoc, hd, hv⟩ := hrec
    cases e2
    have up : ∀ p ∈ fz, p ∈ [(h'.objs.size, cloObj d cs doc ((C.mg "__name__").getD .none) c' ctv), (c', oc)] ++ fz := fun p hp => List.mem_append_right _ hp
    refine ⟨[(h'.objs.size, cloObj d cs doc ((C.mg "__name__").getD .none) c' ctv), (c', oc)] ++ fz, _, .clos d xs, up, ⟨_, _, rfl⟩, x0.tabGrow (t := tk) hP (ps' := ps ++ #[rawInt pos.line, rawInt pos.col, .ref c']) (fun b o hb e => Heap.get?_push_of_some _ (hx b o hb e)) (Heap.get?_push_of_some _ htb) _ (fun p hp => ?_) ?_, .clos (.inl (.head _)) (.inl (.tail _ (.head _))) hd hv (hxs.mono fun _ _ => At.mono up), h⟩
    · rcases List.mem_cons.mp hp with rfl | hp
      · exact ⟨Nat.le_of_lt (Nat.lt_of_le_of_lt hge hlt), Heap.get?_push_size _ rfl⟩
      · rw [List.mem_singleton.mp hp]; exact ⟨hge, Heap.get?_push_of_some _ hoc⟩
    · have := (hT.mono fun _ _ => At.mono up).snoc (pos := pos) (q := d.qual) (c := c') (.inl (.tail _ (.head _))) hd hv
      simpa using this
  unfold tabWith at hes
  obtain ⟨dn, dq, dp, db, ds, df⟩ := d
  dsimp only at hes hit miss hcl ⊢
  split at hes
  · rename_i q' hq
    split at hes
    · rename_i hqq
      cases hes
      subst hqq
      obtain ⟨cv, oc, vs, t, h1, h2, h3, h4⟩ := hT.some_ hq
      cases db with
      | stmts b => exact makeFunction_hit (mg := C.mg) hcl hge0 hgs hcode hC' hm.1 hT.triples h1 hbb fun ctv doc h' tk hk hsz => hit h2 h3 h4 rfl hk hsz
      | expr b => exact kla_makeFunctionHit (mg := C.mg) hcl hge0 hgs hcode hC' hm.1 hT.triples h1 hbb fun ctv h' tk hk hsz => hit h2 h3 h4 rfl hk hsz
    · cases hes
  · rename_i hq
    cases hes
    have h1 := hT.none_ hq
    cases db with
    | stmts b => exact makeFunction_K (mg := C.mg) hcl hge0 hgs hcode hC' hm.1 hT.triples h1 hgP hbb fun c' ctv doc h' tk hx hge hlt hrec htb => miss rfl hx hge hlt hrec htb
    | expr b => exact kla_makeFunction (mg := C.mg) hcl hge0 hgs hcode hC' hm.1 hT.triples h1 hgP hbb fun c' ctv h' tk hx hge hlt hrec htb => miss rfl hx hge hlt hrec htb
end
end Mine

open PySem PySem.W PyProof.Rows PySem.Calls
namespace Mine
section
variable {C : Cx} {n : Nat} {f : Fm} {m : AEnv} {σ : AHeap}
/-- a thing of the state is kept apart -/
theorem SR.lendAny {fz : Fz} {s : Shared} (x : SR C f fz m σ s) {a : Addr} {ao : AObj} (h : σ a = some ao) : SX C f fz m (σ.del a) [a] s := by
  obtain ⟨mc, news, δ, F, N, R, e⟩ := x
  obtain ⟨o, ho⟩ := (R.ob a _ h).key
  have keepM : ∀ {p : Addr × Obj}, p ∈ news → p.1 ≠ a → p ∈ news.filter (fun p => decide (p.1 ≠ a)) := fun h q => List.mem_filter.mpr ⟨h, by simpa using q⟩
  have old : ∀ {b bo}, σ.del a b = some bo → b ≠ a ∧ σ b = some bo := fun {b bo} hb => by
    by_cases q : b = a
    · rw [q, AHeap.del_same] at hb; cases hb
    · rw [AHeap.del_ne _ q] at hb; exact ⟨q, hb⟩
  refine ⟨mc, news.filter (fun p => decide (p.1 ≠ a)), δ, F, fun p hp => N p (List.mem_filter.mp hp).1, ⟨fun p hp => keepM (R.sub p hp) (R.off a _ h p hp), R.apart, fun b bo hb => ?_, fun b bo hb => R.off b bo (old hb).2, fun b c as hb => R.doff b c as (old hb).2, fun b c as hb => ?_, R.free, fun b c as b' c' bs h1 h2 => R.dinj b c as b' c' bs (old h1).2 (old h2).2⟩, e, fun p hp q => ?_, fun q => ?_, fun b hb => ?_⟩
  · refine (R.ob b bo (old hb).2).mono (fun _ _ z => z) (fun _ hm => keepM hm (old hb).1) fun c as eb _ hm => keepM hm fun q => ?_
    have := R.dσ b c as (eb ▸ (old hb).2)
    rw [show δ b = a from q, h] at this; cases this
  · have := R.dσ b c as (old hb).2
    by_cases q : δ b = a
    · rw [q]; exact AHeap.del_same ..
    · rw [AHeap.del_ne _ q]; exact this
  · have := (List.mem_filter.mp hp).2
    exact absurd (List.mem_singleton.mp q) (by simpa using this)
  · exact absurd (List.mem_singleton.mp q).symm (N _ ho).2.1
  · rw [List.mem_singleton.mp hb]; exact (N _ ho).2.2
/-- a cell that changes no more -/
theorem SR.iceCell {fz : Fz} {s : Shared} (x : SR C f fz m σ s) {a : Addr} {v : AVal} (h : σ a = some (.cell (some v))) : ∃ o u, SR C f ([(a, o)] ++ fz) m (σ.del a) s ∧ o.data = .cell (some u) ∧ V (At C fz) u v := by
  obtain ⟨o, u, h1, h2, h3⟩ := x.cell h
  exact ⟨o, u, ((x.lendAny h).ice (D := a) (wr := []) (by simp) h1).sr, h2, h3⟩
def CellsOf : AHeap → List Addr → List AVal → AHeap → Prop
  | σ, [], [], σ' => σ' = σ
  | σ, c :: cs, x :: xs, σ' => σ c = some (.cell (some x)) ∧ CellsOf (σ.del c) cs xs σ'
  | _, _, _, _ => False
theorem SR.iceCells {s : Shared} : ∀ {cs : List Addr} {xs : List AVal} {σ σ' : AHeap} {fz : Fz}, SR C f fz m σ s → CellsOf σ cs xs σ' → ∃ fz', (∀ p ∈ fz, p ∈ fz') ∧ SR C f fz' m σ' s ∧ Cs (At C fz') cs xs
  | [], [], σ, σ', fz, x, h => by cases h; exact ⟨fz, sub_refl, x, .nil⟩
  | c :: cs, y :: xs, σ, σ', fz, x, ⟨h1, h2⟩ => by
    obtain ⟨o, u, x1, hd, hv⟩ := x.iceCell h1
    obtain ⟨fz', up, x2, hc⟩ := SR.iceCells x1 h2
    exact ⟨fz', fun p hp => up _ (List.mem_append_right _ hp), x2, .cons (.inl (up _ (.head _))) hd (hv.up fun p hp => up _ (List.mem_append_right _ hp)) hc⟩
  | [], _ :: _, _, _, _, _, h => h.elim
  | _ :: _, [], _, _, _, _, h => h.elim
theorem TS.up {y : Str} {a : AVal} {Q : AEnv → AHeap → Prop} (h : TS C n f y a m σ Q) (ok : f.Ok C n) {fz fz₁ : Fz} {s s₁ : Shared} {E : Value → Shared → Prop} {v : Value} (u : ∀ p ∈ fz, p ∈ fz₁) (e : Same s s₁) (x : SR C f fz₁ m σ s₁) (hv : V (At C fz₁) v a) :
    wpAny (Md C) f.A (storeName f.env y v) (fun _ s' => PU C f fz s Q s') E s₁ :=
  wpAny_mono (h ok fz₁ s₁ E v x hv) (fun _ s' hq => PU.el hq fun fz₂ σ₂ m₂ u2 e2 x2 q2 => ⟨fz₂, σ₂, m₂, fun p hp => u2 p (u p hp), e.trans e2, x2, q2⟩) fun _ _ x => x
/-- a def in a def: its cells change no more -/
theorem w1_def {name : Str} {params : Arguments} {body : List Stmt} {scope : Scope} {pos : Pos} {d : Clo} {cs : List Addr} {xs : List AVal} {σ₁ : AHeap} {c P : Addr} {es es' : List (Pos × Str)} {Q : AFlow → AEnv → AHeap → Prop}
    (hd : d = ⟨name, qualnameIn f.env name name, params, .stmts body, scope, d.free⟩) (hcd : f.ccd = .ref c) (hC : CodeHd C.H c P) (hcl : closureFor scope f.env = pure (d.free.zip cs)) (hx : CellsOf σ cs xs σ₁) (hP : σ₁ P = some (.tab es)) (hes : tabWith pos d.qual es = some es')
    (h : TS C n f name (.clos d xs) m (σ₁.set P (.tab es')) fun m' σ' => Q .next m' σ')
    (hd0 : params.defaults = [] := by rfl) (hk0 : params.kw_defaults = [] := by rfl) (ha : annTrees params none f.env = [] := by rfl) (hcm : f.comp = none := by rfl) : W1 C n f (.FunctionDef name params body [] none [] scope none name pos) m σ Q := fun ok fz s E x => by
  obtain ⟨fz₁, u, x1, hxs⟩ := x.iceCells hx
  refine nestDef_K hd0 hk0 ha ?_
  have hm := make_clo (d := d) (cs := cs) (pos := pos) (fl := pos.line) (E := E) (Q := fun a σ' => a = .clos d xs ∧ σ' = σ₁.set P (.tab es')) ok x1 hcm hcd hC hP hes (by rw [hd]; exact hcl) hxs ⟨rfl, rfl⟩
  rw [hd] at hm
  refine wpAny_mono hm (fun v s' hq => hq.el fun fz₂ σ₂ a u2 e2 x2 va q2 => ?_) fun _ _ z => z
  obtain ⟨rfl, rfl⟩ := q2
  rw [← hd] at va
  refine wpAny_mono (h.up ok (fz := fz) (s := s) (fun p hp => u2 p (u p hp)) e2 x2 va) (fun _ s₂ hq => PU.el hq fun fz₃ σ₃ m₃ u3 e3 x3 q3 => ⟨fz₃, σ₃, m₃, .next, u3, e3, x3, trivial, q3⟩) fun _ _ z => z
/-- a free name -/
theorem we_free {y : Str} {pos : Pos} {c : Addr} {a : AVal} {Q : AVal → AHeap → Prop} (hl : f.env.kindOf y = some .free) (hc : f.env.cells.lookup y = some c) (hv : (c, a) ∈ C.fr) (h : Q a σ) (hd : (y == ("__debug__" : Str)) = false := by decide) (hn : (y == ("__classdict__" : Str)) = false := by decide) : WE C n f (.Name y pos) m σ Q := fun ok fz s E x => by
  have x' := x
  obtain ⟨mc, news, δ, F, N, R, e⟩ := x
  obtain ⟨o, v, h1, h2, h3⟩ := R.free _ hv
  exact wpAny_Name (wpAny_loadName_free ok.ckind hl hc ⟨o, x'.at_ ok h1, h2⟩ (PV.here x' h3 h) hn) hd
theorem Cs.get {P : Addr → Obj → Prop} : ∀ {cs : List Addr} {xs : List AVal}, Cs P cs xs → ∀ p ∈ cs.zip xs, ∃ o v, P p.1 o ∧ o.data = .cell (some v) ∧ V P v p.2
  | _, _, .nil, p, hp => nomatch hp
  | _, _, .cons a b c d, p, hp => by
    rcases List.mem_cons.mp hp with rfl | hp
    · exact ⟨_, _, a, b, c⟩
    · exact d.get p hp
theorem Cs.length {P : Addr → Obj → Prop} : ∀ {cs : List Addr} {xs : List AVal}, Cs P cs xs → cs.length = xs.length
  | _, _, .nil => rfl
  | _, _, .cons _ _ _ d => by simp [d.length]
@[reducible] def Cx.withFr (C : Cx) (l : List (Addr × AVal)) : Cx := { C with fr := l ++ C.fr }
/-- a call of a def that was made in a def -/
theorem tc_clos {d : Clo} {xs as : List AVal} {ns : List Str} {body : List Stmt} {Q : AVal → AHeap → Prop} (hb : d.body = .stmts body)
    (hbind : ∀ cl doc pm c ctv vs, vs.length = as.length → bindArgs (fnX d.name d.qual d.params body d.scope cl .none .none doc pm none (.ref c) ctv) ⟨vs, []⟩ = pure (ns.zip vs)) (hnd : ns.Nodup) (hloc : ∀ y ∈ ns, d.scope.names.lookup y = some .local)
    (h : ∀ A₀ A base h₀ outer L fa cdv cs pin, cs.length = xs.length → WS (C.withFr (cs.zip xs)) n ⟨A₀, A, base, h₀, outer, L, fa, d.qual, d.scope, cdv, d.free.zip cs, pin, none⟩ body (ns.zip as) σ fun fl _ σ' => ∃ σ₂ : AHeap, σ₂.le σ' ∧ Q (retOf fl) σ₂)
    (hcell : ∀ x ∈ d.scope.names, x.2 ≠ .cell := by decide) (hco : d.scope.isCoroutine = false := by rfl) (hgen : d.scope.isGenerator = false := by rfl) (hk : d.scope.kind = .function := by rfl) : TC C (n + 1) f (.clos d xs) as m σ Q := fun ok fz s E v vs x hv hvs => by
  cases hv with
  | clos h1 h2 h3 h4 h5 =>
  rename_i a c oc cv t cs doc pm ctv
  have g1 := x.at_ ok h1
  have g2 := x.at_ ok h2
  refine ⟨keeps_F _ ⟨_, _, _, _, g1⟩, wpAny_call ?_⟩
  obtain ⟨mc, news, δ, F, N, R, e⟩ := x
  have e2 := ok.depth
  have e3 := ok.units
  have hlen := hvs.length
  obtain ⟨dn, dq, dp, db, ds, df⟩ := d
  dsimp only at hb
  subst hb
  refine callX_plain (cl := df.zip cs) (binds := ns.zip vs) ok.below F N ok.top.nolimit ok.stack rfl ok.kind g1 rfl ⟨c, oc, cv, t, rfl, g2, h3, h4⟩ (by omega) (BindsTo.of_eq (hbind _ _ _ _ _ vs hlen)) (fun y hy => hloc _ (List.of_mem_zip hy).1) (fun g L' h₁ FG F' N' B' st _ => ?_) hcell hco hgen hk
  let C' : Cx := C.withFr (cs.zip xs)
  let f' : Fm := ⟨f.A, f.A.deeper (envX dq ds L' a (.ref c) (df.zip cs)), f.base, g, f.fenv :: f.outer, L', a, dq, ds, .ref c, df.zip cs, f.pin, none⟩
  have hkH : ∀ b o, C.H.get? b = some o → g.get? b = some o := fun b o hb => FG.keep b o (ok.hk b o hb)
  have ok' : f'.Ok C' n := ⟨B', ok.kin.keeps st, ok.top.keeps st, hkH, Around.frames_deeper B'.stack, ok.handled, ok.guards, by show f.A.depth + 1 + 3 * n < _; omega, by show f.A.units + 3 + 10 * n + 100 < _; omega, hk, hk⟩
  have R' : HR C' fz f.pin σ δ news := ⟨R.sub, R.apart, R.ob, R.off, R.doff, R.dσ, fun p hp => by
    rcases List.mem_append.mp hp with hp | hp
    · exact h5.get p hp
    · exact R.free p hp, R.dinj⟩
  have x' : SR C' f' fz (ns.zip as) σ { s with heap := h₁, toks := s.toks + (ns.zip vs).length } :=
    ⟨_, news, δ, F', N', R', fun y a hy => lookup_zip hvs hnd hy⟩
  refine wpAny_mono (h f.A _ f.base g (f.fenv :: f.outer) L' a (.ref c) cs f.pin h5.length ok' fz _ _ x') (fun fl s' hq => hq.el fun fz' σ' m' b u es x2 va ⟨σ₂, hle, q⟩ => ?_) fun _ _ z => z
  obtain ⟨mc', news', δ', F2, N2, R2, e2⟩ := x2.weaken (fun _ _ h => h) hle
  have R3 : HR C fz' f.pin σ₂ δ' news' := ⟨R2.sub, R2.apart, R2.ob, R2.off, R2.doff, R2.dσ, fun p hp => R2.free p (List.mem_append_right _ hp), R2.dinj⟩
  refine leaveK_ F2 N2 fun FK NK => ⟨fz', σ₂, retOf b, u, ?_, ⟨mc, news', δ', FK, NK, R3, fun y b hy => ?_⟩, ?_, q⟩
  · obtain ⟨hh, tt, ee⟩ := es; exact ⟨hh, tt, ee⟩
  · obtain ⟨v, h1, h2⟩ := e y b hy; exact ⟨v, h1, h2.up u⟩
  · cases fl <;> cases b <;> first | exact va.elim | exact .none | exact va
end
end Mine

open PySem PySem.W PyProof.Rows PySem.Calls
namespace Mine
theorem HR.nil {C : Cx} (h : C.fr = []) : HR C [] [] (fun _ => none) id [] := ⟨fun p hp => (nomatch hp), fun p hp => (nomatch hp), fun a ao e => (nomatch e), fun a ao e => (nomatch e), fun a c as e => (nomatch e), fun a c as e => (nomatch e), (fun p hp => by rw [h] at hp; cases hp), fun a c as b c' bs e => (nomatch e)⟩
theorem HR.tab0 {C : Cx} (h : C.fr = []) (P : Addr) : HR C [] [] (AHeap.set (fun _ => none) P (.tab [])) id [(P, tabObj #[])] :=
  (HR.nil h).addThing (o := tabObj #[]) (fun _ _ e => by cases e) (fun q hq => nomatch hq) fun _ _ hm => ⟨_, hm, .nil⟩
theorem SR.grownAt {C : Cx} {f : Fm} {fz : Fz} {m : AEnv} {σ : AHeap} {s : Shared} (x : SR C f fz m σ s) {P : Addr} {es : List (Pos × Str)} (h : σ P = some (.tab es)) : GrownAt P s.heap := by
  obtain ⟨mc, news, δ, F, N, R, e⟩ := x
  obtain ⟨ps, h1, h2⟩ := R.ob P _ h
  exact ⟨ps, (N _ h1).1⟩
/-- the law's own frame, a table laid aside -/
theorem enterT {prog : Program} {w : World} {K : Frag} {vp : Program} {loose : List Str} {mean : ExcName → Option Value} {mg mb : Str → Option Value} {H : Heap} {L fa a P : Addr} {vs : List Value} {ns : List Int} {qual : Str} {scope : Scope} {cdv : Value} {body : List Stmt} {s : Shared} {Q : Flow → Shared → Prop} {E : Value → Shared → Prop}
    (B : Below callerA H [] H) (X : K.In H) (T : Top vp loose mean mg mb H) (hL : H.IsList a vs.toArray) (hI : IntsAre vs ns) (F : Fr H L s.heap (fun x => List.lookup x [(Str.ofString "script", Value.ref a)].reverse)) (N : News H L s.heap [(P, tabObj #[])]) (hk : scope.kind = .function) (hn : ns.length ≤ 63)
    (h : ∀ A₀ A base h₀ outer (L : Nat) (ns : List Int), ns.length ≤ 63 → WS ⟨prog, w, K, vp, loose, mean, mg, mb, H, []⟩ 20 ⟨A₀, A, base, h₀, outer, L, fa, qual, scope, cdv, [], [], none⟩ body [(Str.ofString "script", .lst (ns.map .int))] (AHeap.set (fun _ => none) P (.tab [])) fun fl _ σ' => fl = .ret (.bool true) ∧ ∃ es, σ' P = some (.tab es))
    (hQ : ∀ h' tk mc', Fr H L h' mc' → GrownAt P h' → Q (.ret (.bool true)) { s with heap := h', toks := tk }) :
    wpAny (model prog w) (callerA.deeper (envOf qual scope L fa cdv)) (execs body (envOf qual scope L fa cdv)) Q E s := by
  have hE : ER (At ⟨prog, w, K, vp, loose, mean, mg, mb, H, []⟩ []) [(Str.ofString "script", .lst (ns.map .int))] (fun x => List.lookup x [(Str.ofString "script", Value.ref a)].reverse) := fun y v hy => by
    unfold getA at hy
    by_cases q : (Str.ofString "script" == y) = true
    · rw [if_pos q] at hy; cases hy
      have : Str.ofString "script" = y := by simpa using q
      subst this
      obtain ⟨o, h1, h2, k, h3⟩ := hL
      exact ⟨.ref a, by simp, .lst (.inr h1) h2 h3 (vs_ints hI)⟩
    · rw [if_neg q] at hy; cases hy
  have ok : Fm.Ok ⟨prog, w, K, vp, loose, mean, mg, mb, H, []⟩ 20 ⟨callerA, callerA.deeper (envOf qual scope L fa cdv), H, H, [], L, fa, qual, scope, cdv, [], [], none⟩ :=
    ⟨B, X, T, fun _ _ h => h, rfl, rfl, rfl, (show 1 + claimMargin + 1 + 3 * 20 < recursionLimit by decide), (show 4 + 3 + 10 * 20 + 100 < cLine by decide), hk, hk⟩
  have x : SR ⟨prog, w, K, vp, loose, mean, mg, mb, H, []⟩ ⟨callerA, callerA.deeper (envOf qual scope L fa cdv), H, H, [], L, fa, qual, scope, cdv, [], [], none⟩ [] [(Str.ofString "script", .lst (ns.map .int))] (AHeap.set (fun _ => none) P (.tab [])) s :=
    ⟨_, _, id, F, N, HR.tab0 rfl P, hE⟩
  refine wpAny_mono (h callerA _ H H [] L ns hn ok [] s E x) (fun fl s' hq => hq.el fun fz' σ' m' a u es x2 va ⟨q, es', hes⟩ => ?_) fun _ _ z => z
  subst q
  cases fl with
  | ret v =>
    cases va
    obtain ⟨h', tk, rfl⟩ := es
    have g := x2.grownAt hes
    obtain ⟨mc', news, δ, F', N', R, e⟩ := x2
    exact hQ h' tk mc' F' g
  | _ => exact va.elim
/-! ## own functions of a thing, bound methods, functions of a class -/
section
open Builtin Builtin.ObjectAttr
variable {prog : Program} {w : World} {A : Around} {E : Value → Shared → Prop} {s : Shared} {K : Frag} {x C L f : Addr} {h₀ : Heap} {m : Str → Option Value} {ox : Obj} {od : Obj} {es : List DictEntry} {n : Nat} {name : Str} {v : Value} {pl : Sem Bool}
theorem method_own {Q : Value × List Value → Shared → Prop} (X : K.In s.heap) (I : InstAt s.heap x ox C (some od)) (hga : findIn K (.ref C) "__getattribute__" = some (some (.builtin "object.__getattribute__"))) (hk : findIn K (.ref C) "__getattr__" = some none)
    (hf : findIn K (.ref C) name = some (some (.ref f))) (ht : typeIn K (.ref f) = some (.type "function")) (hs : lookIn name od = some (some v)) (h : wpAny (model prog w) A (getAttr (.ref x) name) (fun v => Q (v, [])) E s) :
    wpAny (model prog w) A (getMethod (.ref x) name pl) Q E s := by
  have hcan := PySem.F.canon_object_ga
  have u : wpAny (model prog w) A (do return (← getAttr (.ref x) name, ([] : List Value))) Q E s := wpAny_bind (wpAny_mono h (fun _ _ z => wpAny_pure z) fun _ _ z => z)
  unfold getMethod specialOf
  refine wpAny_bind (wpAny_bind (I.type.here ((looks_findIn X hga).here ?_)))
  dsimp only
  rw [hcan, if_neg (by decide)]
  refine wpAny_bind (wpAny_bind (I.type.here ((looks_findIn X hk).here ?_)))
  refine wpAny_bind (wpAny_bind (I.type.here ((looks_findIn X hf).here (wpAny_bind ((looks_typeIn X ht).here ?_)))))
  rw [if_neg (by decide +kernel)]
  refine wpAny_bind (wpAny_loadPart I.at_ ?_)
  have hd := I.dict
  cases e : ox.dict with
  | none => rw [e] at hd; exact hd.elim
  | some dx =>
    rw [e] at hd
    refine wpAny_bind (wpAny_bind (wpAny_loadPart hd ?_))
    rw [nsLook_of hs]
    exact wpAny_pure u
theorem findObj_ownF {g : Value} (hh : hasDictIn K C = true) (ha : findIn K (.ref C) name = some (some (.ref f))) (hg : specialIn K (.ref f) "__get__" = some (some g)) (ht : takesIn K (.ref f) = some false) (hl : lookIn name od = some (some v)) :
    findObj K C (some od) name = some (.value v) := by
  obtain ⟨cd, hc', hd⟩ := any_some hh
  unfold findObj
  have ho : W.ownOf cd (some od) name = some (some v) := by unfold W.ownOf; rw [if_pos hd]; exact hl
  rw [hc', Option.bind_some, ha, Option.bind_some]
  simp only [hg, ht, Option.bind_some, ho]
end
section
variable {C : Cx} {n : Nat} {f : Fm} {m : AEnv} {σ : AHeap}
/-- a method's name that a thing has of its own -/
theorem tg_own {a c g : Addr} {as : List (Str × AVal)} {name : Str} {y : AVal} {gv : Value} {Q : AVal → List AVal → AHeap → Prop} (hσ : σ a = some (.inst c as)) (hn : getA name as = some y) (hv : handedA y = true) (hg : plainGet C.K c name = true) (hh : hasDictIn C.K c = true)
    (hf : findIn C.K (.ref c) name = some (some (.ref g))) (ht : isFn C.K (.ref g) = true) (hs : specialIn C.K (.ref g) "__get__" = some (some gv)) (hk : takesIn C.K (.ref g) = some false) (h : Q y [] σ) : TG C n f name (.obj a) m σ Q := fun ok fz s E v pl x hv' => by
  cases hv'
  obtain ⟨d, es, k, h1, h2, h3⟩ := x.inst hσ
  obtain ⟨u, h4, h5⟩ := h3.get_some hn
  have x' := x
  obtain ⟨mc, news, δ, F, N, R, e⟩ := x
  have I : InstAt s.heap a (instObj c d) c (some (dictOf es k)) := ⟨h1, rfl, rfl, h2⟩
  have hl : lookIn name (dictOf es k) = some (some u) := by rw [lookIn_dict, h4]
  have X := ok.kin.keeps F.keep
  refine method_own X I (plainGet_of hg).1 (plainGet_of hg).2 hf (beq_iff_eq.mp ht) hl ?_
  exact get_value X I (plainGet_of hg).1 (findObj_ownF hh hf hs hk hl) (h5.handed hv) ⟨fz, σ, _, _, sub_refl, ⟨_, _, rfl⟩, x', h5, .nil, h⟩
/-- a bound method read off a new thing -/
theorem t1_bound {c g : Addr} {name : Str} {Q : AVal → AHeap → Prop} (hg : plainGet C.K c name = true) (hh : hasDictIn C.K c = true) (hf : findIn C.K (.ref c) name = some (some (.ref g))) (ht : isFn C.K (.ref g) = true)
    (hs : specialIn C.K (.ref g) "__get__" = some (some (.builtin "function.__get__"))) (hk : takesIn C.K (.ref g) = some false) (hc : copiedNames.contains name = false) (h : Q (.meth g (.fin c)) σ) : T1 C n f (fun v => getAttr v name true) (.fin c) m σ Q := fun ok fz s E v x hv => by
  have hv' := hv
  cases hv with
  | fin p1 p2 =>
    have h1 := x.at_ ok p1
    have h2 := x.at_ ok p2
    have x' := x
    obtain ⟨mc, news, δ, F, N, R, e⟩ := x
    have I : InstAt s.heap _ (instObj c _) c (some (dictOf [] 0)) := ⟨h1, rfl, rfl, h2⟩
    have X := ok.kin.keeps F.keep
    refine get_bind X I (plainGet_of hg).1 (findObj_fn hh hf hs hk hc (by show lookIn name (dictOf [] 0) = _; rw [lookIn_dict]; rfl)) (plainGet_of hg).2
      (wpAny_call (fn_get (s := { s with toks := s.toks + 1 }) X (beq_iff_eq.mp ht) (handed_on rfl ?_)))
    exact PV.push x' rfl (fun fz' hq up => .meth (.inl hq) (hv'.up up)) h
/-- a function read off a class, to be called -/
theorem tg_cls {c : Addr} {mc g : Value} {name : Str} {Q : AVal → List AVal → AHeap → Prop} (hga : specialIn C.K (.ref c) "__getattribute__" = some (some (.builtin "type.__getattribute__"))) (hr : readsIn C.K c mc = true) (he : findCls C.K (.ref c) mc name = some (.val g)) (hh : handedIn g = true)
    (h : Q (.raw g) [] σ) : TG C n f name (.raw (.ref c)) m σ Q := fun ok fz s E v pl x hv => by
  cases hv
  have x' := x
  obtain ⟨mc, news, δ, F, N, R, e⟩ := x
  have X := ok.kin.keeps F.keep
  exact method_cls X hga (cls_value X hr he hh ⟨fz, σ, _, _, sub_refl, ⟨_, _, rfl⟩, x', .raw _, .nil, h⟩)
/-- a bound method called -/
theorem tc_meth {g : Addr} {x : AVal} {as : List AVal} {Q : AVal → AHeap → Prop} (hk : fnIn C.K g = true) (h : Fn C n g (x :: as) σ Q) : TC C n f (.meth g x) as m σ Q := fun ok fz s E v vs z hv hvs => by
  cases hv with
  | meth p1 p2 =>
    have h1 := z.at_ ok p1
    have z' := z
    obtain ⟨mc, news, δ, F, N, R, e⟩ := z
    refine ⟨keeps_M hk _ ⟨h1, ok.kin.keeps F.keep⟩, wpAny_call (method_call h1 (codeAny_mono (h f m f.A ok .refl fz s _ z' (.cons p2 hvs)) fun r s' ⟨v, e, p⟩ => ?_))⟩
    subst e; exact p
end
end Mine

open PySem PySem.W PyProof.Rows
set_option maxHeartbeats 8000000
namespace Mine
open_top hd06 for PySem.Challenge.rw_dn0301_06
end Mine

open PySem PySem.W PyProof.Rows PySem.Calls
open Mine
local macro_rules | `(tactic| walk_at "hp") => `(tactic| first
  | assumption
  | exact AHeap.set_same ..
  | (refine (AHeap.set_ne _ _ ?_).trans ?_; first | (first | assumption | exact Ne.symm (by assumption) | exact hp_ne (by assumption) (by assumption) | exact Ne.symm (hp_ne (by assumption) (by assumption)) | walk_at "hne"); walk_at "hp"))
local macro_rules | `(tactic| walk_at "we") => `(tactic| first
  | with_reducible refine we_int ?_
  | ((with_reducible refine' we_local ?h1 ?h2 ?_ ?h3 ?h4); (case h1 => rfl); (case h2 => rfl); (case h3 => decide); (case h4 => rfl))
  | ((with_reducible refine' we_cell ?h1 ?h2 ?h4 ?_ ?h3); (case h1 => rfl); (case h2 => rfl); (case h4 => walk_at "hp"); (case h3 => decide))
  | ((with_reducible refine' we_clocal ?h1 ?h2 ?h4 ?h5 ?_ ?h3); (case h1 => rfl); (case h2 => rfl); (case h4 => walk_at "hp"); (case h5 => rfl); (case h3 => decide))
  | with_reducible refine we_binop ?_
  | with_reducible refine we_str ?_
  | with_reducible refine we_none ?_
  | with_reducible refine we_bool ?_
  | with_reducible refine we_unary ?_
  | with_reducible refine we_ifexp ?_
  | with_reducible refine we_andN ?_
  | with_reducible refine we_orN ?_
  | with_reducible refine we_one ?_
  | ((with_reducible refine we_compare ?_ ?h1); (case h1 => rfl))
  | ((with_reducible refine' we_global ?h1 ?h2 ?_ ?h3); (case h1 => rfl); (case h2 => assumption); (case h3 => decide))
  | ((with_reducible refine' we_builtin ?h1 ?h2 ?h4 ?_ ?h5 ?h3); (case h1 => rfl); (case h2 => assumption); (case h4 => boot_by_name); (case h5 => decide); (case h3 => decide))
  | ((with_reducible refine we_call ?_ ?h1); (case h1 => rfl))
  | (refine we_method ?_)
  | ((with_reducible refine we_attr ?_ ?h1); (case h1 => rfl))
  | with_reducible refine we_tup ?_
  | with_reducible refine we_lst ?_
  | with_reducible refine we_sub (slice := .Name _ _) ?_
  | with_reducible refine we_sub (slice := .Constant _ _ _) ?_
  | with_reducible refine we_sub (slice := .BinOp _ _ _ _) ?_
  | with_reducible refine we_sub (slice := .UnaryOp _ _ _) ?_
  | with_reducible refine we_sub (slice := .Call _ _ _ _) ?_
  | with_reducible refine we_sub (slice := .Subscript _ _ _) ?_)
local macro_rules | `(tactic| walk_at "t2") => `(tactic| first
  | with_reducible refine t2_add ?_
  | with_reducible refine t2_sub ?_
  | with_reducible refine t2_eq ?_
  | with_reducible refine t2_ne ?_
  | with_reducible refine t2_lt ?_
  | with_reducible refine t2_gt ?_
  | ((with_reducible refine t2_div ?h1 ?h2 ?_); (case h1 => decide); (case h2 => decide))
  | ((with_reducible refine t2_mod ?h1 ?h2 ?_); (case h1 => decide); (case h2 => decide))
  | with_reducible refine t2_isNone ?_
  | with_reducible refine t2_isNotNone ?_)
local macro_rules | `(tactic| walk_at "tc") => `(tactic| first
  | with_reducible refine tc_cat1 ?_
  | walk_at "tcx"
  | ((with_reducible refine' tc_len ?h1 ?h2 ?_); (case h1 => first | rfl | exact items_obj (by walk_at "hp")); (case h2 => first | decide | (simp <;> omega)))
  | with_reducible refine tc_max ?_
  | with_reducible refine tc_min ?_)
local macro_rules | `(tactic| walk_at "fw") => `(tactic| first
  | ((with_reducible show WE _ _ _ _ _ _ _); walk_at "we")
  | ((with_reducible show WL _ _ _ _ _ _ _ _); (first | ((with_reducible refine wl_cons ?_ ?h1); (case h1 => rfl)) | with_reducible refine wl_nil ?_))
  | ((with_reducible show T2 _ _ _ _ _ _ _ _ _); walk_at "t2")
  | ((with_reducible show T1 _ _ _ _ _ _ _ _); first | with_reducible refine t1_neg ?_ | ((refine' t1_attr ?h1 ?h2 ?h3 ?h4 ?h5 ?h6 ?h7 ?_); (case h1 => walk_at "hp"); (case h2 => rfl); (case h3 => apply_assumption); (case h4 => assumption); (case h5 => assumption); (case h6 => rfl); (case h7 => first | assumption | rfl)))
  | ((with_reducible show TW _ _ _ _ _ _ _ _ _); ((refine' tw_inst ?h1 ?h2 ?h3 ?h4 ?h5 ?h6 ?_); (case h1 => walk_at "hp"); (case h2 => assumption); (case h3 => assumption); (case h4 => assumption); (case h5 => assumption); (case h6 => exact Nat.le_of_ble_eq_true (by rfl))))
  | ((with_reducible show TB _ _ _ _ _ _ _ _); with_reducible refine tb_bool ?_)
  | ((with_reducible show TG _ _ _ _ _ _ _ _); first | ((with_reducible refine' tg_fin ?h1 ?h2 ?h3 ?_); (case h1 => apply_assumption); (case h2 => assumption); (case h3 => assumption)) | ((with_reducible refine' tg_inst ?h1 ?h2 ?h3 ?h4 ?h5 ?_); (case h1 => walk_at "hp"); (case h2 => rfl); (case h3 => apply_assumption); (case h4 => assumption); (case h5 => assumption)))
  | ((with_reducible show List.length _ ≤ sizeLine ∧ _); refine And.intro (by first | decide | (simp [sizeLine_eq])) ?_)
  | ((with_reducible show (if true = true then _ else _)); rw [if_pos rfl])
  | ((with_reducible show (if false = true then _ else _)); rw [if_neg Bool.false_ne_true])
  | ((with_reducible show TC _ _ _ _ _ _ _ _); walk_at "tc")
  | ((with_reducible show WT _ _ _ _ _ _ _); first | ((with_reducible refine wt_compare ?_ ?h1); (case h1 => rfl)) | (with_reducible refine wt_bool ?_) | (with_reducible refine wt_not ?_))
  | ((with_reducible show WA _ _ _ _ _ _ _ _); first | (with_reducible refine wa_or ?_) | (with_reducible refine wa_or_nil ?_) | (with_reducible refine wa_and ?_) | (with_reducible refine wa_and_nil ?_))
  | ((with_reducible show WO _ _ _ _ _ _ _); first | (with_reducible refine wo_none ?_) | (with_reducible refine wo_some ?_))
  | ((with_reducible show WQ _ _ _ _ _ _ _); first | (with_reducible refine wq_nil ?_) | (with_reducible refine wq_one ?_))
  | ((with_reducible show WS _ _ _ _ _ _ _); (first | with_reducible refine ws_cons ?_ | with_reducible refine ws_nil ?_))
  | ((with_reducible show W1 _ _ _ _ _ _ _); (first | with_reducible refine w1_return ?_ | with_reducible refine w1_if ?_ | ((with_reducible refine w1_assign ?_ ?h1); (case h1 => rfl)) | ((with_reducible refine w1_assignT ?_ ?h1 ?h2); (case h1 => rfl); (case h2 => rfl)) | ((with_reducible refine w1_setItem ?_ ?h1); (case h1 => rfl)) | ((with_reducible refine w1_setAttr ?_ ?h1); (case h1 => rfl)) | ((with_reducible refine w1_expr ?_ ?h1 ?h2); (case h1 => rfl); (case h2 => rfl))))
  | ((with_reducible show TA _ _ _ _ _ _ _ _); (first | (refine ta_tup ?_) | (refine ta_name (ts_local (by rfl) ?_ (by rfl))) | (refine ta_name (ts_cell (by rfl) (by rfl) (by walk_at "hp") ?_)) | (with_reducible refine ta_sub ?_)))
  | ((with_reducible show TS _ _ _ _ _ _ _ _); first | (refine ts_local (by rfl) ?_ (by rfl)) | (refine ts_cell (by rfl) (by rfl) (by walk_at "hp") ?_))
  | ((with_reducible show TAs _ _ _ _ _ _ _ _); (first | (refine tas_cons ?_) | (refine tas_nil ?_)))
  | ((with_reducible show (_ = true → _) ∧ (_ = false → _)); (first | exact And.intro (fun hk => absurd hk (by decide)) (fun hk => absurd hk (by decide)) | refine And.intro (fun _ => ?_) (fun hk => absurd hk (by decide)) | refine And.intro (fun hk => absurd hk (by decide)) (fun _ => ?_) | refine And.intro (fun hk => ?_) (fun hk => ?_))))
local macro_rules | `(tactic| walk_at "fe") => `(tactic| ((fail_if_success (with_reducible show WS _ _ _ _ _ _ _)); walk_at "fw"))
namespace Mine
/-- what the text's top has -/
structure K06 (C : Cx) : Prop where
  hK : C.K = hd06.heap_39 C.w.params
  g_Locator : nsIn C.K mainGlobals (Str.ofString "Locator") = some (some (.ref 52))
  g__law_function : nsIn C.K mainGlobals (Str.ofString "_law_function") = some (some (.ref 63))
  g__law_lend : nsIn C.K mainGlobals (Str.ofString "_law_lend") = some (some (.ref 70))
  g__law_back : nsIn C.K mainGlobals (Str.ofString "_law_back") = some (some (.ref 77))
  g__law_holds : nsIn C.K mainGlobals (Str.ofString "_law_holds") = some (some (.ref 84))
  k_52 : keepIn C.K (.ref 52) = true
  k_63 : keepIn C.K (.ref 63) = true
  k_70 : keepIn C.K (.ref 70) = true
  k_77 : keepIn C.K (.ref 77) = true
  k_84 : keepIn C.K (.ref 84) = true
  b_range : nsIn C.K mainGlobals (Str.ofString "range") = some none
  b_type : nsIn C.K mainGlobals (Str.ofString "type") = some none
  b_int : nsIn C.K mainGlobals (Str.ofString "int") = some none
  b_zip : nsIn C.K mainGlobals (Str.ofString "zip") = some none
  mk_52 : makesIn C.K 52 = true
  ini_52 : findIn C.K (.ref 52) (Str.ofString "__init__") = some (some (.builtin "object.__init__"))
  pg_52 : ∀ name, plainGet C.K 52 name = true
  f_52_28 : findIn C.K (.ref 52) (Str.ofString "getColumnNumber") = some (some (.ref 28))
  i_52_28 : isFn C.K (.ref 28) = true
  k_52_28 : keepIn C.K (.ref 28) = true
  f_52_35 : findIn C.K (.ref 52) (Str.ofString "getLineNumber") = some (some (.ref 35))
  i_52_35 : isFn C.K (.ref 35) = true
  k_52_35 : keepIn C.K (.ref 35) = true
  f_52_42 : findIn C.K (.ref 52) (Str.ofString "getPublicId") = some (some (.ref 42))
  i_52_42 : isFn C.K (.ref 42) = true
  k_52_42 : keepIn C.K (.ref 42) = true
  f_52_49 : findIn C.K (.ref 52) (Str.ofString "getSystemId") = some (some (.ref 49))
  i_52_49 : isFn C.K (.ref 49) = true
  k_52_49 : keepIn C.K (.ref 49) = true
  sa_52 : findIn C.K (.ref 52) "__setattr__" = some (some (.builtin "object.__setattr__"))
  po_52 : plainOver C.K 52 = true
  hd_52 : hasDictIn C.K 52 = true
  ga_52 : specialIn C.K (.ref 52) "__getattribute__" = some (some (.builtin "type.__getattribute__"))
  rd_52 : readsIn C.K 52 (.type "type") = true
  tk_52_getColumnNumber : takerIn C.K 52 (Str.ofString "getColumnNumber") = some none
  sg_28 : specialIn C.K (.ref 28) "__get__" = some (some (.builtin "function.__get__"))
  tn_28 : takesIn C.K (.ref 28) = some false
  fi_28 : fnIn C.K 28 = true
  fc_28 : findCls C.K (.ref 52) (.type "type") (Str.ofString "getColumnNumber") = some (.val (.ref 28))
  tk_52_getLineNumber : takerIn C.K 52 (Str.ofString "getLineNumber") = some none
  sg_35 : specialIn C.K (.ref 35) "__get__" = some (some (.builtin "function.__get__"))
  tn_35 : takesIn C.K (.ref 35) = some false
  fi_35 : fnIn C.K 35 = true
  fc_35 : findCls C.K (.ref 52) (.type "type") (Str.ofString "getLineNumber") = some (.val (.ref 35))
  tk_52_getPublicId : takerIn C.K 52 (Str.ofString "getPublicId") = some none
  sg_42 : specialIn C.K (.ref 42) "__get__" = some (some (.builtin "function.__get__"))
  tn_42 : takesIn C.K (.ref 42) = some false
  fi_42 : fnIn C.K 42 = true
  fc_42 : findCls C.K (.ref 52) (.type "type") (Str.ofString "getPublicId") = some (.val (.ref 42))
  tk_52_getSystemId : takerIn C.K 52 (Str.ofString "getSystemId") = some none
  sg_49 : specialIn C.K (.ref 49) "__get__" = some (some (.builtin "function.__get__"))
  tn_49 : takesIn C.K (.ref 49) = some false
  fi_49 : fnIn C.K 49 = true
  fc_49 : findCls C.K (.ref 52) (.type "type") (Str.ofString "getSystemId") = some (.val (.ref 49))
theorem k06 {C : Cx} (hK : C.K = hd06.heap_39 C.w.params) : K06 C := by
  obtain ⟨prog, w, K, vp, loose, mean, mg, mb, H⟩ := C
  dsimp only at hK
  subst hK
  constructor <;> first | kernel_rfl | rfl | (intro name; kernel_rfl)
section
variable {C : Cx} {n : Nat} {σ : AHeap} {Q : AVal → AHeap → Prop} {a : AVal}
theorem getColumnNumber (K : K06 C) (h : Q (.int (-1)) σ) : Fn C (n + 1) 28 [a] σ Q := by
  refine fn_plain (ns := [Str.ofString "self"]) (dv := []) (da := []) (ho := by rw [K.hK]; rfl) (hcd := by rw [K.hK]; kernel_rfl) (hbind := ?_) (hd := fun _ => .nil) (hnd := by decide) (hloc := by decide) (h := ?_)
  · intro S vs hv
    match vs, hv with
    | [v], _ => rfl
  · intro A₀ A base h₀ outer L pin
    exact ws_cons (w1_return (we_unary (we_int (t1_neg (ret_le h)))))
theorem getLineNumber (K : K06 C) (h : Q (.int (-1)) σ) : Fn C (n + 1) 35 [a] σ Q := by
  refine fn_plain (ns := [Str.ofString "self"]) (dv := []) (da := []) (ho := by rw [K.hK]; rfl) (hcd := by rw [K.hK]; kernel_rfl) (hbind := ?_) (hd := fun _ => .nil) (hnd := by decide) (hloc := by decide) (h := ?_)
  · intro S vs hv
    match vs, hv with
    | [v], _ => rfl
  · intro A₀ A base h₀ outer L pin
    exact ws_cons (w1_return (we_unary (we_int (t1_neg (ret_le h)))))
theorem getPublicId (K : K06 C) (h : Q .none σ) : Fn C (n + 1) 42 [a] σ Q := by
  refine fn_plain (ns := [Str.ofString "self"]) (dv := []) (da := []) (ho := by rw [K.hK]; rfl) (hcd := by rw [K.hK]; kernel_rfl) (hbind := ?_) (hd := fun _ => .nil) (hnd := by decide) (hloc := by decide) (h := ?_)
  · intro S vs hv
    match vs, hv with
    | [v], _ => rfl
  · intro A₀ A base h₀ outer L pin
    exact ws_cons (w1_return (we_none (ret_le h)))
theorem getSystemId (K : K06 C) (h : Q .none σ) : Fn C (n + 1) 49 [a] σ Q := by
  refine fn_plain (ns := [Str.ofString "self"]) (dv := []) (da := []) (ho := by rw [K.hK]; rfl) (hcd := by rw [K.hK]; kernel_rfl) (hbind := ?_) (hd := fun _ => .nil) (hnd := by decide) (hloc := by decide) (h := ?_)
  · intro S vs hv
    match vs, hv with
    | [v], _ => rfl
  · intro A₀ A base h₀ outer L pin
    exact ws_cons (w1_return (we_none (ret_le h)))
end
end Mine

open PySem PySem.W PyProof.Rows PySem.Calls
local macro_rules | `(tactic| walk_at "tcx") => `(tactic| first
  | ((with_reducible refine tc_fn ?h1 (getLineNumber ?h2 ?_)); (case h1 => assumption); (case h2 => assumption))
  | ((with_reducible refine tc_fn ?h1 (getColumnNumber ?h2 ?_)); (case h1 => assumption); (case h2 => assumption))
  | ((with_reducible refine tc_fn ?h1 (getPublicId ?h2 ?_)); (case h1 => assumption); (case h2 => assumption))
  | ((with_reducible refine tc_fn ?h1 (getSystemId ?h2 ?_)); (case h1 => assumption); (case h2 => assumption)))
namespace Mine

def cloOf (p : Program) (i : Nat) (path : List (Nat × Nat)) (qual : Str) (free : List Str) : Clo :=
  match segOf p i path 0 with
  | some (_, .FunctionDef name params body _ _ _ scope _ _ _ :: _) => ⟨name, qual, params, .stmts body, scope, free⟩
  | _ => ⟨qual, qual, default, .stmts [], default, free⟩
def posOf (p : Program) (i : Nat) (path : List (Nat × Nat)) : Pos :=
  match segOf p i path 0 with
  | some (_, .FunctionDef _ _ _ _ _ _ _ _ _ pos :: _) => pos
  | _ => default
def tell06 : Clo := cloOf PySem.Challenge.pw_dn0301_06 3 [] (Str.ofString "_law_function.<locals>._law_tell") [Str.ofString "state", Str.ofString "j"]
def pos06 : Pos := posOf PySem.Challenge.pw_dn0301_06 3 []
/-- the table of codes, before and behind the first function made -/
def tb06 (es : List (Pos × Str)) : Prop := es = [] ∨ es = [(pos06, tell06.qual)]
section
variable {C : Cx} {n : Nat} {σ : AHeap} {Q : AVal → AHeap → Prop}
set_option maxHeartbeats 4000000 in
theorem func06 (K : K06 C) (hC : CodeHd C.H 62 58) {st : Addr} {j : Int} {es : List (Pos × Str)} (hT : σ 58 = some (.tab es)) (hes : tb06 es) (h : Q (.clos tell06 [.obj st, .int j]) (σ.set 58 (.tab [(pos06, tell06.qual)]))) : Fn C (n + 1) 63 [.obj st, .int j] σ Q := by
  refine fn_cellsX (ns := [Str.ofString "state", Str.ofString "j"]) (dv := []) (da := []) (cs := fun L => [(Str.ofString "j", L + 2), (Str.ofString "state", L + 1)]) (ho := by rw [K.hK]; rfl) (hcd := by rw [K.hK]; kernel_rfl) (hbind := ?_) (hd := fun _ => .nil) (hnd := by decide) (hloc := by decide) (hck := by decide) (hcs := fun _ => rfl) (hml := rfl) (hσ := fun _ => rfl) (h := ?_)
  · intro S vs hv
    match vs, hv with
    | [v1, v2], _ => rfl
  · intro A₀ A base h₀ outer L pin hc
    have hc1 : σ (L + 1) = none := hc (Str.ofString "state", L + 1) (.tail _ (.head _))
    have hc2 : σ (L + 2) = none := hc (Str.ofString "j", L + 2) (.head _)
    have hne : 58 ≠ L + 1 := hp_ne hT hc1
    have hne2 : 58 ≠ L + 2 := hp_ne hT hc2
    change WS C n _ _ [] ((σ.set (L + 1) (.cell (some (.obj st)))).set (L + 2) (.cell (some (.int j)))) _
    have K' := K
    cases K'
    have e12 : L + 1 ≠ L + 2 := Nat.ne_of_lt (Nat.lt_succ_self _)
    have hdel : (((σ.set (L + 1) (.cell (some (.obj st)))).set (L + 2) (.cell (some (.int j)))).del (L + 1)).del (L + 2) = σ := by
      funext b
      by_cases q2 : b = L + 2
      · subst q2; rw [AHeap.del_same, hc2]
      · rw [AHeap.del_ne _ q2]
        by_cases q1 : b = L + 1
        · subst q1; rw [AHeap.del_same, hc1]
        · rw [AHeap.del_ne _ q1, AHeap.set_ne _ _ q2, AHeap.set_ne _ _ q1]
    refine ws_cons ?_
    refine w1_def (d := tell06) (cs := [L + 1, L + 2]) (xs := [.obj st, .int j]) (c := 62) (P := 58) (σ₁ := σ) (es := es) (es' := [(pos06, tell06.qual)]) ?hd ?hcd hC ?hcl ?_ hT ?_ ?_
    case hd => kernel_rfl
    case hcd => rfl
    case hcl => kernel_rfl
    · refine ⟨?_, ?_, hdel.symm⟩
      · rw [AHeap.set_ne _ _ e12]; exact AHeap.set_same ..
      · rw [AHeap.del_ne _ (Ne.symm e12)]; exact AHeap.set_same ..
    · rcases hes with rfl | rfl <;> rfl
    · repeat walk_at "fw"
      exact ret_le h
theorem clo_intro {d : Clo} {P : Clo → Prop} {name qual : Str} {params : Arguments} {body : List Stmt} {kind : ScopeKind} {names : List (Str × NameKind)} {g c : Bool} {more : List (Str × Const)} {free : List Str} (e : d = ⟨name, qual, params, .stmts body, ⟨kind, names, g, c, more⟩, free⟩) (k : P ⟨name, qual, params, .stmts body, ⟨kind, names, g, c, more⟩, free⟩) : P d := e ▸ k
set_option maxHeartbeats 4000000 in
theorem tell_call {f : Fm} {m : AEnv} {st : Addr} {j : Nat} {vs : List AVal} {y : AVal} (hst : σ st = some (.list vs)) (hj : vs[j]? = some y) (hl : j < 2 ^ 60) (h : Q y σ) : TC C (n + 1) f (.clos tell06 [.obj st, .int j]) [] m σ Q := by
  refine clo_intro (d := tell06) (P := fun d => TC C (n + 1) f (.clos d [.obj st, .int j]) [] m σ Q) (by rfl) ?_
  refine tc_clos (ns := []) rfl ?_ .nil (fun y hy => nomatch hy) ?_
  · intro cl doc pm c ctv vs hv
    match vs, hv with
    | [], _ => rfl
  · intro A₀ A base h₀ outer L fa cdv cs pin hcs
    match cs, hcs with
    | [c1, c2], _ =>
    have m1 : (c1, AVal.obj st) ∈ (C.withFr ([c1, c2].zip [.obj st, .int j])).fr := .head _
    have m2 : (c2, AVal.int j) ∈ (C.withFr ([c1, c2].zip [.obj st, .int j])).fr := .tail _ (.head _)
    iterate 3 walk_at "fw"
    refine we_free (c := c1) rfl rfl m1 ?_
    refine we_free (c := c2) rfl rfl m2 ?_
    refine t2_item (y := y) (items_obj hst) (by omega) (by omega) (by simpa using hj) ?_
    exact ret_le h
end
end Mine

open PySem PySem.W PyProof.Rows PySem.Calls
namespace Mine

def nm6 (i : Nat) : Str := [Str.ofString "getColumnNumber", Str.ofString "getLineNumber", Str.ofString "getPublicId", Str.ofString "getSystemId"].getD i (Str.ofString "")
def fn6 (i : Nat) : Addr := [28, 35, 42, 49].getD i 0
def ans6 (q : Nat) : AVal := [AVal.int (-1), .int (-1), .none, .none].getD q .none
theorem nm6_inj : ∀ i < 4, ∀ j < 4, nm6 i = nm6 j → i = j := by decide +kernel
theorem setA_len {x : Str} {v : AVal} : ∀ {m : List (Str × AVal)}, (setA x v m).length ≤ m.length + 1
  | [] => by simp [setA]
  | (y, a) :: r => by
    unfold setA
    split
    · simp
    · simp [setA_len (x := x) (v := v) (m := r)]
theorem bk6 {q : Nat} (hq : q < 4) : ([.meth 28 (.fin 52), .meth 35 (.fin 52), .meth 42 (.fin 52), .meth 49 (.fin 52)] : List AVal)[((q : Nat) : Int).toNat]? = some (.meth (fn6 q) (.fin 52)) := by
  obtain rfl | rfl | rfl | rfl : q = 0 ∨ q = 1 ∨ q = 2 ∨ q = 3 := by omega
  all_goals rfl
section
variable {C : Cx} {n : Nat} {σ : AHeap} {Q : AVal → AHeap → Prop}
set_option maxHeartbeats 4000000 in
theorem lend06 (K : K06 C) {a : Addr} {q : Nat} {v : AVal} {as : List (Str × AVal)} (hq : q < 4) (ha : σ a = some (.inst 52 as)) (hl : as.length ≤ 999) (h : Q .none (σ.set a (.inst 52 (setA (nm6 q) v as)))) : Fn C (n + 1) 70 [.obj a, .int q, v] σ Q := by
  refine fn_plain (ns := [Str.ofString "locator", Str.ofString "question", Str.ofString "function"]) (dv := []) (da := []) (ho := by rw [K.hK]; rfl) (hcd := by rw [K.hK]; kernel_rfl) (hbind := ?_) (hd := fun _ => .nil) (hnd := by decide) (hloc := by decide) (h := ?_)
  · intro S vs hv
    match vs, hv with
    | [v1, v2, v3], _ => rfl
  · intro A₀ A base h₀ outer L pin
    have K' := K
    cases K'
    have hlen : ∀ x : Str, (setA x v as).length ≤ 1000 := fun x => by have := setA_len (x := x) (v := v) (m := as); omega
    obtain rfl | rfl | rfl | rfl : q = 0 ∨ q = 1 ∨ q = 2 ∨ q = 3 := by omega
    all_goals
      repeat walk_at "fw"
      refine tw_inst ha (by assumption) (by assumption) (by assumption) (by assumption) (hlen _) ?_
      repeat walk_at "fw"
      exact ⟨_, AHeap.le_refl _, h⟩
theorem getFns (K : K06 C) {q : Nat} (hq : q < 4) {a : AVal} (h : Q (ans6 q) σ) : Fn C (n + 1) (fn6 q) [a] σ Q := by
  obtain rfl | rfl | rfl | rfl : q = 0 ∨ q = 1 ∨ q = 2 ∨ q = 3 := by omega
  · exact getColumnNumber K h
  · exact getLineNumber K h
  · exact getPublicId K h
  · exact getSystemId K h
set_option maxHeartbeats 4000000 in
theorem back06 (K : K06 C) {a : Addr} {q : Nat} {as : List (Str × AVal)} (hq : q < 4) (ha : σ a = some (.inst 52 as)) (hl : as.length ≤ 999) (h : Q .none (σ.set a (.inst 52 (setA (nm6 q) (.meth (fn6 q) (.fin 52)) as)))) : Fn C (n + 2) 77 [.obj a, .int q] σ Q := by
  refine fn_plain (ns := [Str.ofString "locator", Str.ofString "question"]) (dv := []) (da := []) (ho := by rw [K.hK]; rfl) (hcd := by rw [K.hK]; kernel_rfl) (hbind := ?_) (hd := fun _ => .nil) (hnd := by decide) (hloc := by decide) (h := ?_)
  · intro S vs hv
    match vs, hv with
    | [v1, v2], _ => rfl
  · intro A₀ A base h₀ outer L pin
    have K' := K
    cases K'
    repeat walk_at "fw"
    refine tc_fin (c := 52) (by assumption) (by assumption) (by assumption) ?_
    repeat walk_at "fw"
    refine t1_bound (g := 28) (K.pg_52 _) (by assumption) (by assumption) (by assumption) (by assumption) (by assumption) (by decide +kernel) ?_
    repeat walk_at "fw"
    refine t1_bound (g := 35) (K.pg_52 _) (by assumption) (by assumption) (by assumption) (by assumption) (by assumption) (by decide +kernel) ?_
    repeat walk_at "fw"
    refine t1_bound (g := 42) (K.pg_52 _) (by assumption) (by assumption) (by assumption) (by assumption) (by assumption) (by decide +kernel) ?_
    repeat walk_at "fw"
    refine t1_bound (g := 49) (K.pg_52 _) (by assumption) (by assumption) (by assumption) (by assumption) (by assumption) (by decide +kernel) ?_
    repeat walk_at "fw"
    refine t2_item (y := .meth (fn6 q) (.fin 52)) rfl (by omega) (by omega) (bk6 hq) ?_
    repeat walk_at "fw"
    refine tc_fn (by assumption) (lend06 K hq ha hl ?_)
    repeat walk_at "fw"
    exact ⟨_, AHeap.le_refl _, h⟩
end
/-- what a locator's own names hold -/
def Lent (st : Addr) (as : List (Str × AVal)) (row : Nat → Option Nat) : Prop := ∀ q, q < 4 → match row q with
  | some j => j < 5 ∧ getA (nm6 q) as = some (.clos tell06 [.obj st, .int j])
  | none => getA (nm6 q) as = none ∨ getA (nm6 q) as = some (.meth (fn6 q) (.fin 52))
def told6 (row : Nat → Option Nat) (v : Nat → AVal) (q : Nat) : AVal := match row q with
  | some j => v j
  | none => ans6 q
def five (v : Nat → AVal) : List AVal := [v 0, v 1, v 2, v 3, v 4]
theorem five_get {v : Nat → AVal} {j : Nat} (h : j < 5) : (five v)[j]? = some (v j) := by
  obtain rfl | rfl | rfl | rfl | rfl : j = 0 ∨ j = 1 ∨ j = 2 ∨ j = 3 ∨ j = 4 := by omega
  all_goals rfl
section
variable {C : Cx} {n : Nat} {σ : AHeap} {f : Fm} {m : AEnv}
/-- a locator asked -/
theorem ask06 (K : K06 C) {a st : Addr} {q : Nat} {as : List (Str × AVal)} {row : Nat → Option Nat} {v : Nat → AVal} {name : Str} {pos : Pos} {Q : AVal → AHeap → Prop} (hn : name = nm6 q) (hq : q < 4) (ha : σ a = some (.inst 52 as)) (hl : Lent st as row) (hst : σ st = some (.list (five v))) (h : Q (told6 row v q) σ) :
    TG C (n + 1) f name (.obj a) m σ fun fv first σ₂ => WL C (n + 1) f [] pos m σ₂ fun ws σ₃ => TC C (n + 1) f fv (first ++ ws) m σ₃ Q := by
  subst hn
  have K' := K
  cases K'
  have hl' := hl q hq
  unfold told6 at h
  have hf : findIn C.K (.ref 52) (nm6 q) = some (some (.ref (fn6 q))) ∧ isFn C.K (.ref (fn6 q)) = true ∧ specialIn C.K (.ref (fn6 q)) "__get__" = some (some (.builtin "function.__get__")) ∧ takesIn C.K (.ref (fn6 q)) = some false ∧ keepIn C.K (.ref (fn6 q)) = true ∧ fnIn C.K (fn6 q) = true := by
    obtain rfl | rfl | rfl | rfl : q = 0 ∨ q = 1 ∨ q = 2 ∨ q = 3 := by omega
    all_goals exact ⟨by assumption, by assumption, by assumption, by assumption, by assumption, by assumption⟩
  obtain ⟨f1, f2, f3, f4, f5, f6⟩ := hf
  cases r : row q with
  | some j =>
    rw [r] at hl' h
    refine tg_own ha hl'.2 rfl (K.pg_52 _) (by assumption) f1 f2 f3 f4 ?_
    refine wl_nil ?_
    exact tell_call hst (five_get hl'.1) (by have := hl'.1; omega) h
  | none =>
    rw [r] at hl' h
    rcases hl' with hl' | hl'
    · refine tg_inst ha hl' (K.pg_52 _) f1 f2 ?_
      refine wl_nil ?_
      exact tc_fn f5 (getFns K hq h)
    · refine tg_own ha hl' rfl (K.pg_52 _) (by assumption) f1 f2 f3 f4 ?_
      refine wl_nil ?_
      exact tc_meth f6 (getFns K hq h)
end
end Mine

open PySem PySem.W PyProof.Rows PySem.Calls
namespace Mine

def okV6 (v : AVal) : Prop := v = .none ∨ (∃ i, v = .int i) ∨ ∃ x, v = .str x ∧ PyData.strOk x = true
theorem okV6.rd {v : AVal} (h : okV6 v) : ∃ d, (∀ σ, Rd σ v d) ∧ Dk 0 d := by
  rcases h with rfl | ⟨i, rfl⟩ | ⟨x, rfl, h⟩
  · exact ⟨_, fun _ => .none, Dk.none⟩
  · exact ⟨_, fun _ => .int i, Dk.int⟩
  · exact ⟨_, fun _ => .str _, Dk.str h⟩
theorem ans6_ok {q : Nat} (hq : q < 4) : okV6 (ans6 q) := by
  obtain rfl | rfl | rfl | rfl : q = 0 ∨ q = 1 ∨ q = 2 ∨ q = 3 := by omega
  · exact .inr (.inl ⟨_, rfl⟩)
  · exact .inr (.inl ⟨_, rfl⟩)
  · exact .inl rfl
  · exact .inl rfl
theorem told6_ok {st : Addr} {as : List (Str × AVal)} {row : Nat → Option Nat} {v : Nat → AVal} {q : Nat} (hq : q < 4) (hl : Lent st as row) (hv : ∀ j, j < 5 → okV6 (v j)) : okV6 (told6 row v q) := by
  have := hl q hq
  unfold told6
  cases r : row q with
  | some j => rw [r] at this; exact hv j this.1
  | none => exact ans6_ok hq
def rv6 (row : Nat → Option Nat) (q : Nat) : AVal := match row q with
  | some j => .int j
  | none => .none
def rowL (row : Nat → Option Nat) : List AVal := [rv6 row 0, rv6 row 1, rv6 row 2, rv6 row 3]
theorem rowL_get {row : Nat → Option Nat} {q : Nat} (h : q < 4) : (rowL row)[((q : Nat) : Int).toNat]? = some (rv6 row q) := by
  obtain rfl | rfl | rfl | rfl : q = 0 ∨ q = 1 ∨ q = 2 ∨ q = 3 := by omega
  all_goals rfl
def dueL (row : Nat → Option Nat) (v : Nat → AVal) (j : Nat) : List AVal := [if 0 < j then told6 row v 0 else ans6 0, if 1 < j then told6 row v 1 else ans6 1, if 2 < j then told6 row v 2 else ans6 2, if 3 < j then told6 row v 3 else ans6 3]
theorem dueL_set {row : Nat → Option Nat} {v : Nat → AVal} {j : Nat} (h : j < 4) : (dueL row v j).set ((j : Nat) : Int).toNat (told6 row v j) = dueL row v (j + 1) := by
  obtain rfl | rfl | rfl | rfl : j = 0 ∨ j = 1 ∨ j = 2 ∨ j = 3 := by omega
  all_goals rfl
theorem dueL_none {row : Nat → Option Nat} {v : Nat → AVal} {j : Nat} (h : j < 4) (hr : row j = none) : dueL row v j = dueL row v (j + 1) := by
  obtain rfl | rfl | rfl | rfl : j = 0 ∨ j = 1 ∨ j = 2 ∨ j = 3 := by omega
  all_goals simp [dueL, told6, hr]
def four (x : Nat → AVal) : List AVal := [x 0, x 1, x 2, x 3]
section
variable {C : Cx} {n : Nat} {σ : AHeap} {Q : AVal → AHeap → Prop}
set_option maxHeartbeats 8000000 in
theorem holds06 (K : K06 C) {a r pl st : Addr} {as : List (Str × AVal)} {row : Nat → Option Nat} {v : Nat → AVal} (ha : σ a = some (.inst 52 as)) (hl : Lent st as row) (hst : σ st = some (.list (five v))) (hpl : σ pl = some (.list (five v))) (hr : σ r = some (.list (rowL row))) (hv : ∀ j, j < 5 → okV6 (v j))
    (h : Q (.bool true) σ) : Fn C (n + 2) 84 [.obj a, .obj r, .obj pl] σ Q := by
  refine fn_plain (ns := [Str.ofString "locator", Str.ofString "row", Str.ofString "plain"]) (dv := []) (da := []) (ho := by rw [K.hK]; rfl) (hcd := by rw [K.hK]; kernel_rfl) (hbind := ?_) (hd := fun _ => .nil) (hnd := by decide) (hloc := by decide) (h := ?_)
  · intro S vs hv
    match vs, hv with
    | [v1, v2, v3], _ => rfl
  · intro A₀ A base h₀ outer L pin
    have K' := K
    cases K'
    iterate 2 walk_at "fw"
    refine we_listM ?_
    repeat walk_at "fw"
    intro d hd
    repeat walk_at "fw"
    with_reducible refine W1.weaken (m' := [(Str.ofString "locator", .obj a), (Str.ofString "row", .obj r), (Str.ofString "plain", .obj pl), (Str.ofString "due", .obj d)]) ?hm (AHeap.le_refl _) ?_
    case hm => exact Has.sub ⟨rfl, rfl, rfl, rfl, trivial⟩
    with_reducible refine w1_for (fun rest m' σ' => ∃ j : Nat, rest = (rngL 0 1 4).drop j ∧ j ≤ 4 ∧ σ' = σ.set d (.list (dueL row v j)) ∧ m' = [(Str.ofString "locator", .obj a), (Str.ofString "row", .obj r), (Str.ofString "plain", .obj pl), (Str.ofString "due", .obj d)]) ?_ ?_ ?_ ?hs
    case hs => intro _; rfl
    · refine wi ?_
      repeat walk_at "fw"
      refine tc_range1 ?_
      refine ti_rng (k := 4) (rng_small1 (by omega) (by omega)) (rng_size1' (k := 4)) ⟨rfl, 0, by simp, by omega, rfl, rfl⟩
    · rintro pin x xs m' σ' ⟨j, h1, hj4, rfl, rfl⟩
      obtain ⟨hj, rfl, rfl⟩ := rngL_cons h1
      have e0 : (0 + (j : Int) * 1) = j := by omega
      rw [e0]
      have hdd : (σ.set d (.list (dueL row v j))) d = some (.list (dueL row v j)) := AHeap.set_same ..
      have hpl' : (σ.set d (.list (dueL row v j))) pl = some (.list (five v)) := (AHeap.set_ne _ _ (hp_ne hpl hd)).trans hpl
      have hr' : (σ.set d (.list (dueL row v j))) r = some (.list (rowL row)) := (AHeap.set_ne _ _ (hp_ne hr hd)).trans hr
      walk_at "fw"
      dsimp only [Fm.withPin]
      repeat walk_at "fw"
      refine t2_item (y := rv6 row j) (items_obj hr') (by omega) (by omega) (rowL_get hj) ?_
      repeat walk_at "fw"
      have hlj := hl j hj
      cases q : row j with
      | none =>
        refine t2_isNotNone (b := true) (by unfold rv6; rw [q]; rfl) ?_
        repeat walk_at "fw"
        refine ⟨[(Str.ofString "locator", .obj a), (Str.ofString "row", .obj r), (Str.ofString "plain", .obj pl), (Str.ofString "due", .obj d)], _, Has.sub ⟨rfl, rfl, rfl, rfl, trivial⟩, AHeap.le_refl _, j + 1, rfl, by omega, by rw [dueL_none hj q], rfl⟩
      | some i =>
        rw [q] at hlj
        refine t2_isNotNone (b := false) (by unfold rv6; rw [q]; rfl) ?_
        repeat walk_at "fw"
        refine t2_item (y := rv6 row j) (items_obj hr') (by omega) (by omega) (rowL_get hj) ?_
        rw [show rv6 row j = .int i by unfold rv6; rw [q]]
        refine t2_item (y := v i) (items_obj hpl') (by omega) (by have := hlj.1; omega) (five_get hlj.1) ?_
        repeat walk_at "fw"
        refine tu_list hdd (by omega) (by show (j : Int) < 4; omega) (by omega) ?_
        repeat walk_at "fw"
        refine ⟨[(Str.ofString "locator", .obj a), (Str.ofString "row", .obj r), (Str.ofString "plain", .obj pl), (Str.ofString "due", .obj d)], _, Has.sub ⟨rfl, rfl, rfl, rfl, trivial⟩, AHeap.le_refl _, j + 1, rfl, by omega, ?_, rfl⟩
        rw [AHeap.set_set, ← dueL_set hj, show told6 row v j = v i by unfold told6; rw [q]]
    · rintro m' σ' ⟨j, h1, hj4, rfl, rfl⟩
      have hj := rngL_nil h1
      obtain rfl : j = 4 := by omega
      have hdd : (σ.set d (.list (dueL row v 4))) d = some (.list (four (told6 row v))) := AHeap.set_same ..
      have ha' : (σ.set d (.list (dueL row v 4))) a = some (.inst 52 as) := (AHeap.set_ne _ _ (hp_ne ha hd)).trans ha
      have hst' : (σ.set d (.list (dueL row v 4))) st = some (.list (five v)) := (AHeap.set_ne _ _ (hp_ne hst hd)).trans hst
      repeat walk_at "fw"
      refine ask06 K (q := 0) rfl (by omega) ha' hl hst' ?_
      repeat walk_at "fw"
      refine ask06 K (q := 1) rfl (by omega) ha' hl hst' ?_
      repeat walk_at "fw"
      refine ask06 K (q := 2) rfl (by omega) ha' hl hst' ?_
      repeat walk_at "fw"
      refine ask06 K (q := 3) rfl (by omega) ha' hl hst' ?_
      repeat walk_at "fw"
      obtain ⟨d0, r0, k0⟩ := (told6_ok (q := 0) (by omega) hl hv).rd
      obtain ⟨d1, r1, k1⟩ := (told6_ok (q := 1) (by omega) hl hv).rd
      obtain ⟨d2, r2, k2⟩ := (told6_ok (q := 2) (by omega) hl hv).rd
      obtain ⟨d3, r3, k3⟩ := (told6_ok (q := 3) (by omega) hl hv).rd
      refine t2_neS (d := .list [d0, d1, d2, d3]) (Rd.lst (.cons (r0 _) (.cons (r1 _) (.cons (r2 _) (.cons (r3 _) .nil))))) (Rd.obj hdd (.cons (r0 _) (.cons (r1 _) (.cons (r2 _) (.cons (r3 _) .nil))))) (k := 1) (Dk.list (k := 0) fun d hd => ?_) ?_
      · simp at hd
        rcases hd with rfl | rfl | rfl | rfl <;> assumption
      repeat walk_at "fw"
      refine tg_cls K.ga_52 K.rd_52 K.fc_28 rfl ?_
      repeat walk_at "fw"
      refine tg_cls K.ga_52 K.rd_52 K.fc_35 rfl ?_
      repeat walk_at "fw"
      refine tg_cls K.ga_52 K.rd_52 K.fc_42 rfl ?_
      repeat walk_at "fw"
      refine tg_cls K.ga_52 K.rd_52 K.fc_49 rfl ?_
      repeat walk_at "fw"
      refine t2_eqS (Rd.lst (.cons (.int _) (.cons (.int _) (.cons .none (.cons .none .nil))))) (Rd.lst (.cons (.int _) (.cons (.int _) (.cons .none (.cons .none .nil))))) (k := 1) (Dk.list (k := 0) fun d hd => ?_) ?_
      · simp at hd
        rcases hd with rfl | rfl
        · exact Dk.int
        · exact Dk.none
      repeat walk_at "fw"
      refine t2_item (y := .int (-1)) rfl (by decide) (by decide) rfl ?_
      repeat walk_at "fw"
      refine tc_type_int ?_
      repeat walk_at "fw"
      refine t2_isRaw rfl ?_
      repeat walk_at "fw"
      refine t2_item (y := .int (-1)) rfl (by decide) (by decide) rfl ?_
      repeat walk_at "fw"
      refine tc_type_int ?_
      repeat walk_at "fw"
      refine t2_isRaw rfl ?_
      exact ret_le' (AHeap.le_set hd) h
end
end Mine

open PySem PySem.W PyProof.Rows PySem.Calls
namespace Mine

def upR (rows : Nat → Nat → Option Nat) (k q : Nat) (ro : Option Nat) : Nat → Nat → Option Nat := fun i j => if i = k ∧ j = q then ro else rows i j
def optV (ro : Option Nat) : AVal := match ro with
  | some j => .int j
  | none => .none
theorem rv6_opt (row : Nat → Option Nat) (q : Nat) : rv6 row q = optV (row q) := by unfold rv6 optV; cases row q <;> rfl
theorem upR_other {rows : Nat → Nat → Option Nat} {k q i : Nat} {ro : Option Nat} (h : i ≠ k) : upR rows k q ro i = rows i := by
  funext j; unfold upR; rw [if_neg (fun e => h e.1)]
theorem rowL_set {rows : Nat → Nat → Option Nat} {k q : Nat} {ro : Option Nat} (hq : q < 4) : (rowL (rows k)).set ((q : Nat) : Int).toNat (optV ro) = rowL (upR rows k q ro k) := by
  obtain rfl | rfl | rfl | rfl : q = 0 ∨ q = 1 ∨ q = 2 ∨ q = 3 := by omega
  all_goals simp [rowL, rv6_opt, upR]
def fitsV (st : Addr) (q : Nat) (ro : Option Nat) (y : AVal) : Prop := match ro with
  | some j => j < 5 ∧ y = .clos tell06 [.obj st, .int j]
  | none => y = .meth (fn6 q) (.fin 52)
theorem Lent.put {st : Addr} {as : List (Str × AVal)} {rows : Nat → Nat → Option Nat} {k q : Nat} {ro : Option Nat} {y : AVal} (h : Lent st as (rows k)) (hq : q < 4) (hy : fitsV st q ro y) : Lent st (setA (nm6 q) y as) (upR rows k q ro k) := by
  intro i hi
  rw [getA_setA]
  by_cases e : i = q
  · subst e
    rw [if_pos rfl, show upR rows k i ro k i = ro by unfold upR; rw [if_pos ⟨rfl, rfl⟩]]
    unfold fitsV at hy
    cases ro with
    | some j => exact ⟨hy.1, by rw [hy.2]⟩
    | none => exact .inr (by rw [hy])
  · rw [if_neg (fun q' => e (nm6_inj i hi q hq q')), show upR rows k q ro k i = rows k i by unfold upR; rw [if_neg (fun q' => e q'.2)]]
    exact h i hi
structure G6 (σ : AHeap) (la ra : Nat → Addr) (st pl : Addr) (rows : Nat → Nat → Option Nat) (v : Nat → AVal) (n : Nat) : Prop where
  loc : ∀ i, i < 3 → ∃ as, σ (la i) = some (.inst 52 as) ∧ Lent st as (rows i) ∧ as.length ≤ n
  row : ∀ i, i < 3 → σ (ra i) = some (.list (rowL (rows i)))
  st_ : σ st = some (.list (five v))
  pl_ : σ pl = some (.list (five v))
  ne : st ≠ pl
  ok : ∀ j, j < 5 → okV6 (v j)
  tab : ∃ es, σ 58 = some (.tab es) ∧ tb06 es
  ia : ∀ i j, i < 3 → j < 3 → la i = la j → i = j
  ir : ∀ i j, i < 3 → j < 3 → ra i = ra j → i = j
  rs : ∀ i, i < 3 → ra i ≠ st ∧ ra i ≠ pl
section
variable {σ : AHeap} {la ra : Nat → Addr} {st pl : Addr} {rows : Nat → Nat → Option Nat} {v : Nat → AVal} {n : Nat}
theorem ne_kind {σ : AHeap} {a b : Addr} {o o' : AObj} (h : σ a = some o) (h' : σ b = some o') (hn : o ≠ o') : a ≠ b := fun q => by
  rw [q, h'] at h; exact hn (Option.some.inj h).symm
theorem G6.tabbed (h : G6 σ la ra st pl rows v n) : G6 (σ.set 58 (.tab [(pos06, tell06.qual)])) la ra st pl rows v n := by
  obtain ⟨es, ht, _⟩ := h.tab
  refine ⟨fun i hi => ?_, fun i hi => ?_, ?_, ?_, h.ne, h.ok, ⟨_, AHeap.set_same .., .inr rfl⟩, h.ia, h.ir, h.rs⟩
  · obtain ⟨as, h1, h2, h3⟩ := h.loc i hi
    exact ⟨as, (AHeap.set_ne _ _ (ne_kind h1 ht (by intro e; cases e))).trans h1, h2, h3⟩
  · exact (AHeap.set_ne _ _ (ne_kind (h.row i hi) ht (by intro e; cases e))).trans (h.row i hi)
  · exact (AHeap.set_ne _ _ (ne_kind h.st_ ht (by intro e; cases e))).trans h.st_
  · exact (AHeap.set_ne _ _ (ne_kind h.pl_ ht (by intro e; cases e))).trans h.pl_
theorem G6.put {k q : Nat} {ro : Option Nat} {y : AVal} {as : List (Str × AVal)} (h : G6 σ la ra st pl rows v n) (hk : k < 3) (hq : q < 4) (ha : σ (la k) = some (.inst 52 as)) (hl : Lent st as (rows k)) (hn : as.length ≤ n) (hy : fitsV st q ro y) :
    G6 ((σ.set (la k) (.inst 52 (setA (nm6 q) y as))).set (ra k) (.list (rowL (upR rows k q ro k)))) la ra st pl (upR rows k q ro) v (n + 1) := by
  obtain ⟨es, ht, he⟩ := h.tab
  have lr : ∀ i, i < 3 → la i ≠ ra k := fun i hi => by
    obtain ⟨bs, h1, _⟩ := h.loc i hi
    exact ne_kind h1 (h.row k hk) (by intro e; cases e)
  refine ⟨fun i hi => ?_, fun i hi => ?_, ?_, ?_, h.ne, h.ok, ⟨es, ?_, he⟩, h.ia, h.ir, h.rs⟩
  · rw [AHeap.set_ne _ _ (lr i hi)]
    by_cases e : i = k
    · subst e
      exact ⟨_, AHeap.set_same .., hl.put hq hy, by have := setA_len (x := nm6 q) (v := y) (m := as); omega⟩
    · obtain ⟨bs, h1, h2, h3⟩ := h.loc i hi
      exact ⟨bs, (AHeap.set_ne _ _ (fun e' => e (h.ia i k hi hk e'))).trans h1, by rw [upR_other e]; exact h2, by omega⟩
  · by_cases e : i = k
    · subst e; exact AHeap.set_same ..
    · rw [AHeap.set_ne _ _ (fun e' => e (h.ir i k hi hk e')), AHeap.set_ne _ _ (fun e' => lr k hk (by rw [← e'] at ha; exact absurd (h.row i hi) (by rw [ha]; intro e; cases e))), upR_other e]
      exact h.row i hi
  · rw [AHeap.set_ne _ _ (fun e => (h.rs k hk).1 e.symm), AHeap.set_ne _ _ (ne_kind h.st_ ha (by intro e; cases e))]; exact h.st_
  · rw [AHeap.set_ne _ _ (fun e => (h.rs k hk).2 e.symm), AHeap.set_ne _ _ (ne_kind h.pl_ ha (by intro e; cases e))]; exact h.pl_
  · rw [AHeap.set_ne _ _ (ne_kind ht (h.row k hk) (by intro e; cases e)), AHeap.set_ne _ _ (ne_kind ht ha (by intro e; cases e))]; exact ht
theorem five_set {v : Nat → AVal} {j : Nat} {y : AVal} (h : j < 5) : (five v).set ((j : Nat) : Int).toNat y = five (up v j y) := by
  obtain rfl | rfl | rfl | rfl | rfl : j = 0 ∨ j = 1 ∨ j = 2 ∨ j = 3 ∨ j = 4 := by omega
  all_goals rfl
theorem G6.state {j : Nat} {y : AVal} (h : G6 σ la ra st pl rows v n) (hj : j < 5) (hy : okV6 y) : G6 ((σ.set st (.list (five (up v j y)))).set pl (.list (five (up v j y)))) la ra st pl rows (up v j y) (n + 1) := by
  obtain ⟨es, ht, he⟩ := h.tab
  refine ⟨fun i hi => ?_, fun i hi => ?_, ?_, AHeap.set_same .., h.ne, fun i hi => ?_, ⟨es, ?_, he⟩, h.ia, h.ir, h.rs⟩
  · obtain ⟨bs, h1, h2, h3⟩ := h.loc i hi
    exact ⟨bs, ((AHeap.set_ne _ _ (ne_kind h1 h.pl_ (by intro e; cases e))).trans (AHeap.set_ne _ _ (ne_kind h1 h.st_ (by intro e; cases e)))).trans h1, h2, by omega⟩
  · rw [AHeap.set_ne _ _ (h.rs i hi).2, AHeap.set_ne _ _ (h.rs i hi).1]; exact h.row i hi
  · rw [AHeap.set_ne _ _ h.ne]; exact AHeap.set_same ..
  · by_cases e : i = j
    · subst e; rw [up_same]; exact hy
    · rw [up_ne _ _ e]; exact h.ok i hi
  · rw [AHeap.set_ne _ _ (ne_kind ht h.pl_ (by intro e; cases e)), AHeap.set_ne _ _ (ne_kind ht h.st_ (by intro e; cases e))]; exact ht
end
def Lx (la : Nat → Addr) : AVal := .lst [.obj (la 0), .obj (la 1), .obj (la 2)]
theorem Lx_get {la : Nat → Addr} {i : Nat} (h1 : i < 3) : ([.obj (la 0), .obj (la 1), .obj (la 2)] : List AVal)[((i : Nat) : Int).toNat]? = some (.obj (la i)) := by
  obtain rfl | rfl | rfl : i = 0 ∨ i = 1 ∨ i = 2 := by omega
  all_goals rfl
theorem pickV {x i : Int} (h0 : 0 ≤ i) (h1 : i < 3) : ∃ v, okV6 v ∧ ([.int x, .str (Str.ofString "t"), .none] : List AVal)[i.toNat]? = some v := by
  obtain rfl | rfl | rfl : i = 0 ∨ i = 1 ∨ i = 2 := by omega
  · exact ⟨_, .inr (.inl ⟨x, rfl⟩), rfl⟩
  · exact ⟨_, .inr (.inr ⟨_, rfl, by decide +kernel⟩), rfl⟩
  · exact ⟨_, .inl rfl, rfl⟩
def E6 (S : AVal) (la ra : Nat → Addr) (st pl : Addr) : AEnv := [(Str.ofString "script", S), (Str.ofString "locators", Lx la), (Str.ofString "state", .obj st), (Str.ofString "plain", .obj pl), (Str.ofString "lent", Lx ra)]
section
variable {C : Cx}
set_option maxHeartbeats 8000000 in
theorem step06 (K : K06 C) (hC : CodeHd C.H 62 58) {u : Int} {S : AVal} {la ra : Nat → Addr} {st pl : Addr} {rows : Nat → Nat → Option Nat} {v : Nat → AVal} {n : Nat} {σ : AHeap} (G : G6 σ la ra st pl rows v n) (hn : n ≤ 70) :
    Seg PySem.Challenge.pw_dn0301_06 7 [(2, 0)] 0 fun scope ss => ∀ A₀ A base h₀ outer L fa cdv pin, WS C 20 ⟨A₀, A, base, h₀, outer, L, fa, Str.ofString "law", scope, cdv, [], pin, none⟩ ss
      [(Str.ofString "script", S), (Str.ofString "locators", Lx la), (Str.ofString "state", .obj st), (Str.ofString "plain", .obj pl), (Str.ofString "lent", Lx ra), (Str.ofString "x", .int u)] σ
      fun fl m' σ₁ => fl = .next ∧ (∃ rows' v', G6 σ₁ la ra st pl rows' v' (n + 1)) ∧ Has m' (E6 S la ra st pl) := by
  refine seg_intro (by rfl) ?_
  intro A₀ A base h₀ outer L fa cdv pin
  have K' := K
  cases K'
  obtain ⟨hk0, hk1⟩ := fmod_range u (y := 3) (by decide)
  obtain ⟨hq0, hq1⟩ := fmod_range (u.fdiv 3) (y := 4) (by decide)
  obtain ⟨hj0, hj1⟩ := fmod_range (u.fdiv 36) (y := 5) (by decide)
  obtain ⟨hv0, hv1⟩ := fmod_range ((u.fdiv 36).fdiv 5) (y := 3) (by decide)
  generalize hke : u.fmod 3 = k at hk0 hk1
  generalize hqe : (u.fdiv 3).fmod 4 = q at hq0 hq1
  generalize hje : (u.fdiv 36).fmod 5 = j at hj0 hj1
  obtain ⟨k, rfl⟩ : ∃ i' : Nat, k = i' := ⟨k.toNat, by omega⟩
  obtain ⟨q, rfl⟩ : ∃ i' : Nat, q = i' := ⟨q.toNat, by omega⟩
  obtain ⟨j, rfl⟩ : ∃ i' : Nat, j = i' := ⟨j.toNat, by omega⟩
  obtain ⟨w, hw, hwe⟩ := pickV (x := ((u.fdiv 36).fdiv 5).fmod 100) hv0 hv1
  have hk3 : k < 3 := by omega
  have hq4 : q < 4 := by omega
  have hj5 : j < 5 := by omega
  obtain ⟨as, ha, hl, hlen⟩ := G.loc k hk3
  obtain ⟨es, hT, hes⟩ := G.tab
  with_reducible refine ws_cons ?_
  with_reducible refine w1_assignS (names := [Str.ofString "k", Str.ofString "question", Str.ofString "more"]) ?_ ?hw ?hs
  case hw => rfl
  case hs => rfl
  repeat walk_at "fw"
  rw [hke, hqe]
  refine ⟨_, rfl, rfl, tss_cons (ts_local rfl (tss_cons (ts_local rfl (tss_cons (ts_local rfl (tss_nil ?_))))))⟩
  with_reducible show WS _ _ _ _ _ _ _
  with_reducible refine WS.weaken (m' := [(Str.ofString "script", S), (Str.ofString "locators", Lx la), (Str.ofString "state", .obj st), (Str.ofString "plain", .obj pl), (Str.ofString "lent", Lx ra), (Str.ofString "x", .int u), (Str.ofString "k", .int k), (Str.ofString "question", .int q), (Str.ofString "more", .int (u.fdiv 36))]) ?h1 (AHeap.le_refl _) ?_
  case h1 => exact Has.sub ⟨rfl, rfl, rfl, rfl, rfl, rfl, rfl, rfl, rfl, trivial⟩
  with_reducible refine ws_cons ?_
  with_reducible refine' W1.cut (P := fun fl m' σ₁ => fl = .next ∧ (∃ rows' v', G6 σ₁ la ra st pl rows' v' (n + 1)) ∧ Has m' [(Str.ofString "script", S), (Str.ofString "locators", Lx la), (Str.ofString "state", .obj st), (Str.ofString "plain", .obj pl), (Str.ofString "lent", Lx ra), (Str.ofString "k", .int k)]) ?h1 ?_
  case h1 =>
    repeat walk_at "fw"
    · refine t2_item (y := .obj (la k)) rfl (by omega) (by omega) (Lx_get hk3) ?_
      repeat walk_at "fw"
      refine tc_fn (by assumption) (back06 K hq4 ha (by omega) ?_)
      repeat walk_at "fw"
      refine t2_item (y := .obj (ra k)) rfl (by omega) (by omega) (Lx_get hk3) ?_
      repeat walk_at "fw"
      refine tu_list ((AHeap.set_ne _ _ (ne_kind (G.row k hk3) ha (by intro e; cases e))).trans (G.row k hk3)) (by omega) (by show (q : Int) < 4; omega) (by omega) ?_
      repeat walk_at "fw"
      refine ⟨rfl, ⟨upR rows k q none, v, ?_⟩, rfl, rfl, rfl, rfl, rfl, rfl, trivial⟩
      rw [show AVal.none = optV none from rfl, rowL_set hq4]
      exact G.put hk3 hq4 ha hl hlen rfl
    · refine t2_item (y := w) rfl (by omega) (by omega) hwe ?_
      repeat walk_at "fw"
      rw [hje]
      refine tu_list G.st_ (by omega) (by show (j : Int) < 5; omega) (by omega) ?_
      rw [five_set hj5]
      repeat walk_at "fw"
      refine t2_item (y := w) rfl (by omega) (by omega) hwe ?_
      repeat walk_at "fw"
      rw [hje]
      refine tu_list ((AHeap.set_ne _ _ (Ne.symm G.ne)).trans G.pl_) (by omega) (by show (j : Int) < 5; omega) (by omega) ?_
      rw [five_set hj5]
      repeat walk_at "fw"
      exact ⟨rfl, ⟨_, _, G.state hj5 hw⟩, rfl, rfl, rfl, rfl, rfl, rfl, trivial⟩
    · refine t2_item (y := .obj (la k)) rfl (by omega) (by omega) (Lx_get hk3) ?_
      repeat walk_at "fw"
      rw [hje]
      refine tc_fn (by assumption) (func06 K hC hT hes ?_)
      have G1 := G.tabbed
      obtain ⟨as, ha, hl, hlen⟩ := G1.loc k hk3
      generalize σ.set 58 (.tab [(pos06, tell06.qual)]) = σ1 at G1 ha ⊢
      repeat walk_at "fw"
      refine tc_fn (by assumption) (lend06 K hq4 ha (by omega) ?_)
      repeat walk_at "fw"
      rw [hje]
      refine t2_item (y := .obj (ra k)) rfl (by omega) (by omega) (Lx_get hk3) ?_
      repeat walk_at "fw"
      refine tu_list ((AHeap.set_ne _ _ (ne_kind (G1.row k hk3) ha (by intro e; cases e))).trans (G1.row k hk3)) (by omega) (by show (q : Int) < 4; omega) (by omega) ?_
      repeat walk_at "fw"
      refine ⟨rfl, ⟨upR rows k q (some j), v, ?_⟩, rfl, rfl, rfl, rfl, rfl, rfl, trivial⟩
      rw [show AVal.int (j : Int) = optV (some j) from rfl, rowL_set hq4]
      exact G1.put hk3 hq4 ha hl hlen ⟨hj5, rfl⟩
  clear G ha hl hlen hT hes as es
  rintro fl m' σ₁ ⟨rfl, ⟨rows', v', G⟩, hm⟩
  obtain ⟨as, ha, hl, hlen⟩ := G.loc k hk3
  with_reducible show WS _ _ _ _ _ _ _
  with_reducible refine WS.weaken (Has.sub hm) (AHeap.le_refl _) ?_
  repeat walk_at "fw"
  with_reducible refine wt_value ?_ ?hwv
  case hwv => intro _; rfl
  repeat walk_at "fw"
  refine t2_item (y := .obj (la k)) rfl (by omega) (by omega) (Lx_get hk3) ?_
  repeat walk_at "fw"
  refine t2_item (y := .obj (ra k)) rfl (by omega) (by omega) (Lx_get hk3) ?_
  repeat walk_at "fw"
  refine tc_fn (by assumption) (holds06 K ha hl G.st_ G.pl_ (G.row k hk3) G.ok ?_)
  repeat walk_at "fw"
  exact ⟨rfl, ⟨_, _, G⟩, rfl, rfl, rfl, rfl, rfl, trivial⟩
end
end Mine

open PySem PySem.W PyProof.Rows PySem.Calls
namespace Mine

theorem Lent.nil {st : Addr} {row : Nat → Option Nat} (h : ∀ q, row q = none) : Lent st [] row := fun q hq => by rw [h q]; exact .inl rfl
section
variable {C : Cx}
set_option maxHeartbeats 8000000 in
theorem end06 (K : K06 C) {S : AVal} {la ra : Nat → Addr} {st pl : Addr} {rows : Nat → Nat → Option Nat} {v : Nat → AVal} {n : Nat} {σ : AHeap} (G : G6 σ la ra st pl rows v n) :
    Seg PySem.Challenge.pw_dn0301_06 7 [] 3 fun scope ss => ∀ A₀ A base h₀ outer L fa cdv pin, WS C 20 ⟨A₀, A, base, h₀, outer, L, fa, Str.ofString "law", scope, cdv, [], pin, none⟩ ss
      [(Str.ofString "script", S), (Str.ofString "locators", Lx la), (Str.ofString "state", .obj st), (Str.ofString "plain", .obj pl), (Str.ofString "lent", Lx ra)] σ
      fun fl m' σ₁ => fl = .ret (.bool true) ∧ ∃ es, σ₁ 58 = some (.tab es) := by
  refine seg_intro (by rfl) ?_
  intro A₀ A base h₀ outer L fa cdv pin
  have K' := K
  cases K'
  obtain ⟨es, hT, hes⟩ := G.tab
  with_reducible refine ws_cons ?_
  with_reducible refine w1_forT (fun rest m' σ' => m' = [(Str.ofString "script", S), (Str.ofString "locators", Lx la), (Str.ofString "state", .obj st), (Str.ofString "plain", .obj pl), (Str.ofString "lent", Lx ra)] ∧ σ' 58 = some (.tab es) ∧ σ' st = some (.list (five v)) ∧ σ' pl = some (.list (five v)) ∧
    ∀ r ∈ rest, ∃ a b as row, r = [.obj a, .obj b] ∧ σ' a = some (.inst 52 as) ∧ Lent st as row ∧ σ' b = some (.list (rowL row))) ?_ ?_ ?_ ?hst ?hs
  case hst => rfl
  case hs => intro _; rfl
  · refine wit_zip ?_
    walk_at "fw"
    refine ⟨rfl, ?_⟩
    repeat walk_at "fw"
    refine tc_inst0 (c := 52) (by assumption) (by assumption) (by assumption) fun a ha => ?_
    repeat walk_at "fw"
    refine t2_cat rfl rfl (by simp [sizeLine_eq]) ?_
    iterate 6 walk_at "fw"
    refine we_listM ?_
    repeat walk_at "fw"
    intro b hb
    repeat walk_at "fw"
    refine t2_mulObjM (xs := [.none]) (AHeap.set_same ..) (by decide) (by decide) (by decide) fun c hc => ?_
    repeat walk_at "fw"
    refine t2_cat rfl rfl (by simp [sizeLine_eq]) ?_
    repeat walk_at "fw"
    have le1 := AHeap.le_trans (AHeap.le_set hb) (AHeap.le_set (o := .list [.none, .none, .none, .none]) hc)
    have le0 := AHeap.le_trans (AHeap.le_set ha) le1
    refine ⟨_, _, rfl, rfl, rfl, le0 _ _ hT, le0 _ _ G.st_, le0 _ _ G.pl_, ?_⟩
    · intro r hr
      have key : ∀ i, i < 3 → ∃ x y as row, [AVal.obj (la i), .obj (ra i)] = [.obj x, .obj y] ∧ (((σ.set a (.inst 52 [])).set b (.list [.none])).set c (.list [.none, .none, .none, .none])) x = some (.inst 52 as) ∧ Lent st as row ∧ (((σ.set a (.inst 52 [])).set b (.list [.none])).set c (.list [.none, .none, .none, .none])) y = some (.list (rowL row)) := by
        intro i hi
        obtain ⟨as, h1, h2, _⟩ := G.loc i hi
        have h3 := G.row i hi
        exact ⟨_, _, as, rows i, rfl, le0 _ _ h1, h2, le0 _ _ h3⟩
      have hr' : r = [.obj (la 0), .obj (ra 0)] ∨ r = [.obj (la 1), .obj (ra 1)] ∨ r = [.obj (la 2), .obj (ra 2)] ∨ r = [.obj a, .obj c] := by
        simpa [zipA] using hr
      rcases hr' with rfl | rfl | rfl | rfl
      · exact key 0 (by omega)
      · exact key 1 (by omega)
      · exact key 2 (by omega)
      · exact ⟨a, c, [], fun _ => none, rfl, le1 _ _ (AHeap.set_same ..), Lent.nil fun _ => rfl, AHeap.set_same ..⟩
  · rintro pin r rest m' σ' ⟨rfl, h1, h2, h3, h4⟩
    obtain ⟨a, b, as, row, rfl, g1, g2, g3⟩ := h4 r (.head _)
    refine ⟨rfl, ?_⟩
    repeat walk_at "fw"
    with_reducible refine wt_value ?_ ?hwv
    case hwv => intro _; rfl
    repeat walk_at "fw"
    refine tc_fn (by assumption) (holds06 K g1 g2 h2 h3 g3 G.ok ?_)
    repeat walk_at "fw"
    exact ⟨[(Str.ofString "script", S), (Str.ofString "locators", Lx la), (Str.ofString "state", .obj st), (Str.ofString "plain", .obj pl), (Str.ofString "lent", Lx ra)], σ', Has.sub ⟨rfl, rfl, rfl, rfl, rfl, trivial⟩, AHeap.le_refl _, rfl, h1, h2, h3, fun r hr => h4 r (.tail _ hr)⟩
  · rintro m' σ' ⟨rfl, h1, h2, h3, h4⟩
    repeat walk_at "fw"
    exact ⟨rfl, _, h1⟩
end
end Mine

open PySem PySem.W PyProof.Rows PySem.Calls
namespace Mine

def Inv06 (S : AVal) (la ra : Nat → Addr) (st pl : Addr) (xs : List AVal) (m : AEnv) (σ : AHeap) : Prop :=
  ∃ (ns : List Int) (n : Nat) (rows : Nat → Nat → Option Nat) (v : Nat → AVal), xs = ns.map .int ∧ n + ns.length ≤ 69 ∧ G6 σ la ra st pl rows v n ∧ m = [(Str.ofString "script", S), (Str.ofString "locators", Lx la), (Str.ofString "state", .obj st), (Str.ofString "plain", .obj pl), (Str.ofString "lent", Lx ra)]
def pick3 (a b c : Addr) : Nat → Addr
  | 0 => a
  | 1 => b
  | _ => c
theorem pick3_inj {a b c : Addr} (h1 : a ≠ b) (h2 : a ≠ c) (h3 : b ≠ c) : ∀ i j, i < 3 → j < 3 → pick3 a b c i = pick3 a b c j → i = j := by
  intro i j hi hj e
  obtain rfl | rfl | rfl : i = 0 ∨ i = 1 ∨ i = 2 := by omega
  all_goals obtain rfl | rfl | rfl : j = 0 ∨ j = 1 ∨ j = 2 := by omega
  all_goals first | rfl | exact absurd e h1 | exact absurd e h2 | exact absurd e h3 | exact absurd e.symm h1 | exact absurd e.symm h2 | exact absurd e.symm h3
def v06 (j : Nat) : AVal := [AVal.int 3, .int 0, .str (Str.ofString "p"), .str (Str.ofString "s"), .none].getD j .none
theorem v06_ok : ∀ j, j < 5 → okV6 (v06 j) := by
  intro j hj
  obtain rfl | rfl | rfl | rfl | rfl : j = 0 ∨ j = 1 ∨ j = 2 ∨ j = 3 ∨ j = 4 := by omega
  · exact .inr (.inl ⟨_, rfl⟩)
  · exact .inr (.inl ⟨_, rfl⟩)
  · exact .inr (.inr ⟨_, rfl, by decide +kernel⟩)
  · exact .inr (.inr ⟨_, rfl, by decide +kernel⟩)
  · exact .inl rfl
section
variable {C : Cx}
set_option maxHeartbeats 8000000 in
theorem loop06 (K : K06 C) (hC : CodeHd C.H 62 58) {ns : List Int} (hns : ns.length ≤ 63) {la ra : Nat → Addr} {st pl : Addr} {rows : Nat → Nat → Option Nat} {v : Nat → AVal} {σ : AHeap} (G : G6 σ la ra st pl rows v 0) :
    Seg PySem.Challenge.pw_dn0301_06 7 [] 2 fun scope ss => ∀ A₀ A base h₀ outer L fa cdv pin, WS C 20 ⟨A₀, A, base, h₀, outer, L, fa, Str.ofString "law", scope, cdv, [], pin, none⟩ ss
      [(Str.ofString "script", .lst (ns.map .int)), (Str.ofString "locators", Lx la), (Str.ofString "state", .obj st), (Str.ofString "plain", .obj pl), (Str.ofString "lent", Lx ra)] σ
      fun fl m' σ₁ => fl = .ret (.bool true) ∧ ∃ es, σ₁ 58 = some (.tab es) := by
  refine seg_intro (by rfl) ?_
  intro A₀ A base h₀ outer L fa cdv pin
  have K' := K
  cases K'
  with_reducible refine ws_cons ?_
  with_reducible refine w1_for (Inv06 (.lst (ns.map .int)) la ra st pl) ?_ ?_ ?_ ?hs
  case hs => intro _; rfl
  · refine wi ?_
    repeat walk_at "fw"
    refine t2_cat rfl rfl (by simp [sizeLine_eq]; omega) ?_
    exact ti_lst ⟨rfl, [78, 0, 118, 41, 276, 12] ++ ns, 0, rows, v, by simp, by simp; omega, G, rfl⟩
  · rintro pin x xs m' σ' ⟨us, n, rows', v', he, hn, G, rfl⟩
    cases us with
    | nil => cases he
    | cons u us =>
      cases he
      walk_at "fw"
      dsimp only [Fm.withPin]
      have hn' : n + us.length + 1 ≤ 69 := by simpa [Nat.add_assoc] using hn
      with_reducible show WS _ _ _ _ _ _ _
      with_reducible refine WS.mono (Q := fun fl m' σ₁ => fl = .next ∧ (∃ rows' v', G6 σ₁ la ra st pl rows' v' (n + 1)) ∧ Has m' (E6 (.lst (ns.map .int)) la ra st pl)) ?h1 ?_
      case h1 => exact seg_elim (step06 K hC G (by omega)) rfl _ _ _ _ _ _ _ _ _
      rintro fl m' σ₁ ⟨rfl, ⟨rows'', v'', G⟩, hm⟩
      exact ⟨_, _, Has.sub hm, AHeap.le_refl _, us, n + 1, rows'', v'', rfl, by omega, G, rfl⟩
  · rintro m' σ' ⟨us, n, rows', v', he, hn, G, rfl⟩
    exact seg_elim (end06 K G) rfl _ _ _ _ _ _ _ _ _
set_option maxHeartbeats 8000000 in
theorem start06 (K : K06 C) (hC : CodeHd C.H 62 58) {ns : List Int} (hns : ns.length ≤ 63) :
    Seg PySem.Challenge.pw_dn0301_06 7 [] 0 fun scope ss => ∀ A₀ A base h₀ outer L fa cdv pin, WS C 20 ⟨A₀, A, base, h₀, outer, L, fa, Str.ofString "law", scope, cdv, [], pin, none⟩ ss
      [(Str.ofString "script", .lst (ns.map .int))] (AHeap.set (fun _ => none) 58 (.tab []))
      fun fl m' σ₁ => fl = .ret (.bool true) ∧ ∃ es, σ₁ 58 = some (.tab es) := by
  refine seg_intro (by rfl) ?_
  intro A₀ A base h₀ outer L fa cdv pin
  have K' := K
  cases K'
  have T0 : (AHeap.set (fun _ => none) 58 (.tab [])) 58 = some (.tab []) := AHeap.set_same ..
  generalize AHeap.set (fun _ => none) 58 (.tab []) = σ0 at T0 ⊢
  with_reducible refine ws_cons ?_
  with_reducible refine w1_assignS (names := [Str.ofString "locators", Str.ofString "state", Str.ofString "plain"]) ?_ ?hw ?hs
  case hw => rfl
  case hs => rfl
  repeat walk_at "fw"
  refine tc_inst0 (c := 52) (by assumption) (by assumption) (by assumption) fun a0 p0 => ?_
  repeat walk_at "fw"
  refine tc_inst0 (c := 52) (by assumption) (by assumption) (by assumption) fun a1 p1 => ?_
  repeat walk_at "fw"
  refine tc_inst0 (c := 52) (by assumption) (by assumption) (by assumption) fun a2 p2 => ?_
  iterate 3 walk_at "fw"
  refine we_listM ?_
  repeat walk_at "fw"
  intro st p3
  iterate 1 walk_at "fw"
  refine we_listM ?_
  repeat walk_at "fw"
  intro pl p4
  repeat walk_at "fw"
  refine ⟨_, rfl, rfl, tss_cons (ts_local rfl (tss_cons (ts_local rfl (tss_cons (ts_local rfl (tss_nil ?_))))))⟩
  have e01 : a0 ≠ a1 := hp_ne (AHeap.set_same ..) p1
  have e12 : a1 ≠ a2 := hp_ne (AHeap.set_same ..) p2
  have e02 : a0 ≠ a2 := hp_ne (AHeap.le_set p1 _ _ (AHeap.set_same ..)) p2
  have f3 : AHeap.le _ _ := AHeap.le_set (o := .list (five v06)) p3
  have f4 : AHeap.le _ _ := AHeap.le_set (o := .list (five v06)) p4
  have f2 : AHeap.le _ _ := AHeap.le_set (o := .inst 52 []) p2
  have f1 : AHeap.le _ _ := AHeap.le_set (o := .inst 52 []) p1
  have f0 : AHeap.le _ _ := AHeap.le_set (o := .inst 52 []) p0
  have e34 : st ≠ pl := hp_ne (AHeap.set_same ..) p4
  have t0 := f4 _ _ (f3 _ _ (f2 _ _ (f1 _ _ (f0 _ _ T0))))
  have t1 := f4 _ _ (f3 _ _ (f2 _ _ (f1 _ _ (AHeap.set_same σ0 a0 (.inst 52 [])))))
  have t2 := f4 _ _ (f3 _ _ (f2 _ _ (AHeap.set_same _ a1 (.inst 52 []))))
  have t3 := f4 _ _ (f3 _ _ (AHeap.set_same _ a2 (.inst 52 [])))
  have t4 := f4 _ _ (AHeap.set_same _ st (.list (five v06)))
  have t5 := AHeap.set_same (((((σ0.set a0 (.inst 52 [])).set a1 (.inst 52 [])).set a2 (.inst 52 [])).set st (.list (five v06)))) pl (.list (five v06))
  obtain ⟨σ1, hσ1, t0, t1, t2, t3, t4, t5⟩ : ∃ σ1 : AHeap, σ1 = ((((((σ0.set a0 (.inst 52 [])).set a1 (.inst 52 [])).set a2 (.inst 52 [])).set st (.list (five v06)))).set pl (.list (five v06))) ∧ σ1 58 = some (.tab []) ∧ σ1 a0 = some (.inst 52 []) ∧ σ1 a1 = some (.inst 52 []) ∧ σ1 a2 = some (.inst 52 []) ∧ σ1 st = some (.list (five v06)) ∧ σ1 pl = some (.list (five v06)) := ⟨_, rfl, t0, t1, t2, t3, t4, t5⟩
  change WS _ _ _ _ _ ((((((σ0.set a0 (.inst 52 [])).set a1 (.inst 52 [])).set a2 (.inst 52 [])).set st (.list (five v06)))).set pl (.list (five v06))) _
  rw [← hσ1]
  clear hσ1
  clear f0 f1 f2 f3 f4 p0 p1 p2 p3 p4
  with_reducible refine ws_cons ?_
  iterate 4 walk_at "fw"
  refine we_listM ?_
  repeat walk_at "fw"
  intro b0 q0
  repeat walk_at "fw"
  refine t2_mulObjM (xs := [.none]) (AHeap.set_same ..) (by decide) (by decide) (by decide) fun r0 s0 => ?_
  iterate 2 walk_at "fw"
  refine we_listM ?_
  repeat walk_at "fw"
  intro b1 q1
  repeat walk_at "fw"
  refine t2_mulObjM (xs := [.none]) (AHeap.set_same ..) (by decide) (by decide) (by decide) fun r1 s1 => ?_
  iterate 2 walk_at "fw"
  refine we_listM ?_
  repeat walk_at "fw"
  intro b2 q2
  repeat walk_at "fw"
  refine t2_mulObjM (xs := [.none]) (AHeap.set_same ..) (by decide) (by decide) (by decide) fun r2 s2 => ?_
  repeat walk_at "fe"
  have h0 : AHeap.le _ _ := AHeap.le_set (o := .list [.none]) q0
  have h1 : AHeap.le _ _ := AHeap.le_set (o := .list (rowL fun _ => none)) s0
  have h2 : AHeap.le _ _ := AHeap.le_set (o := .list [.none]) q1
  have h3 : AHeap.le _ _ := AHeap.le_set (o := .list (rowL fun _ => none)) s1
  have h4 : AHeap.le _ _ := AHeap.le_set (o := .list [.none]) q2
  have h5 : AHeap.le _ _ := AHeap.le_set (o := .list (rowL fun _ => none)) s2
  have lea := AHeap.le_trans (AHeap.le_trans (AHeap.le_trans (AHeap.le_trans (AHeap.le_trans h0 h1) h2) h3) h4) h5
  have leb := AHeap.le_trans (AHeap.le_trans (AHeap.le_trans h2 h3) h4) h5
  have lec := AHeap.le_trans h4 h5
  have r01 : r0 ≠ r1 := hp_ne (h2 _ _ (AHeap.set_same _ r0 (.list (rowL fun _ => none)))) s1
  have r02 : r0 ≠ r2 := hp_ne (h4 _ _ (h3 _ _ (h2 _ _ (AHeap.set_same _ r0 (.list (rowL fun _ => none)))))) s2
  have r12 : r1 ≠ r2 := hp_ne (h4 _ _ (AHeap.set_same _ r1 (.list (rowL fun _ => none)))) s2
  have r0s : r0 ≠ st ∧ r0 ≠ pl := ⟨(hp_ne (h0 _ _ t4) s0).symm, (hp_ne (h0 _ _ t5) s0).symm⟩
  have r1s : r1 ≠ st ∧ r1 ≠ pl := ⟨(hp_ne (h2 _ _ (h1 _ _ (h0 _ _ t4))) s1).symm, (hp_ne (h2 _ _ (h1 _ _ (h0 _ _ t5))) s1).symm⟩
  have r2s : r2 ≠ st ∧ r2 ≠ pl := ⟨(hp_ne (h4 _ _ (h3 _ _ (h2 _ _ (h1 _ _ (h0 _ _ t4))))) s2).symm, (hp_ne (h4 _ _ (h3 _ _ (h2 _ _ (h1 _ _ (h0 _ _ t5))))) s2).symm⟩
  with_reducible show WS _ _ _ _ _ _ _
  with_reducible refine WS.weaken (m' := [(Str.ofString "script", .lst (ns.map .int)), (Str.ofString "locators", Lx (pick3 a0 a1 a2)), (Str.ofString "state", .obj st), (Str.ofString "plain", .obj pl), (Str.ofString "lent", Lx (pick3 r0 r1 r2))]) ?h1 (AHeap.le_refl _) ?_
  case h1 => exact Has.sub ⟨rfl, rfl, rfl, rfl, rfl, trivial⟩
  refine (fun G => seg_elim (loop06 K hC hns G) rfl _ _ _ _ _ _ _ _ _ : G6 _ (pick3 a0 a1 a2) (pick3 r0 r1 r2) st pl (fun _ _ => none) v06 0 → _) ?_
  · refine ⟨fun i hi => ?_, fun i hi => ?_, lea _ _ t4, lea _ _ t5, e34, v06_ok, ⟨[], lea _ _ t0, .inl rfl⟩, pick3_inj e01 e02 e12, pick3_inj r01 r02 r12, fun i hi => ?_⟩
    · refine ⟨[], ?_, Lent.nil fun _ => rfl, Nat.le_refl _⟩
      obtain rfl | rfl | rfl : i = 0 ∨ i = 1 ∨ i = 2 := by omega
      · exact lea _ _ t1
      · exact lea _ _ t2
      · exact lea _ _ t3
    · obtain rfl | rfl | rfl : i = 0 ∨ i = 1 ∨ i = 2 := by omega
      · exact leb _ _ (AHeap.set_same _ r0 (.list (rowL fun _ => none)))
      · exact lec _ _ (AHeap.set_same _ r1 (.list (rowL fun _ => none)))
      · exact AHeap.set_same _ r2 (.list (rowL fun _ => none))
    · obtain rfl | rfl | rfl : i = 0 ∨ i = 1 ∨ i = 2 := by omega
      · exact r0s
      · exact r1s
      · exact r2s
end
end Mine
set_option maxHeartbeats 8000000 in
theorem PySem.Challenge.cw_dn0301_06_holds : PySem.Challenge.rw_dn0301_06.Holds :=
  Mine.hd06 (by
  w_strict (k_go0
            refine' Mine.enterT (P := 58) ?B ?X ?T ?hL ?hI ?F ?N ?hk ?hn ?h ?hQ
            case B => assumption
            case X => assumption
            case T => assumption
            case hL => assumption
            case hI => assumption
            case F => assumption
            case N => assumption
            case hk => rfl
            case hn => omega
            case hQ =>
              intro h' tk mc' F' G'
              refine ⟨?_, G', trivial⟩
              wrow_close
            case h =>
              intro A₀ A base h₀ outer L ns hns
              generalize hC' : Mine.Cx.mk _ _ _ _ _ _ _ _ _ _ = C
              have K : Mine.K06 C := by subst hC'; exact Mine.k06 rfl
              have hC : PySem.W.CodeHd C.H 62 58 := by subst hC'; exact codeHd
              exact Mine.seg_elim (Mine.start06 K hC hns) rfl _ _ _ _ _ _ _ _ _))

