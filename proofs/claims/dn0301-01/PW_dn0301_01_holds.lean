import PyProof.Rows.All
import Wide.All
import OpenK.AllK
import Wide.FinOn
import Lean
import PySem.Challenge.RW_dn0301_01
open PySem PySem.W PyProof.Rows PySem.Calls
set_option Elab.async false
set_option maxRecDepth 100000
set_option linter.unusedVariables false
namespace Mine

/-! ## abstract values, objects, contexts -/
inductive AVal where
  | none
  | bool (b : Bool)
  | int (i : Int)
  | str (s : Str)
  | bytes (b : Array UInt8)
  | raw (v : Value)
  | obj (a : Addr)
  | fin (C : Addr)
  | lst (xs : List AVal)
  | tup (xs : List AVal)
  | rng (a b c : Int)

inductive AObj where
  | inst (C : Addr) (as : List (Str × AVal))
  | list (xs : List AVal)
  | dict (es : List (Int × AVal))
  | cell (v : Option AVal)
  | ns (as : List (Str × AVal))

structure Cx where
  prog : Program
  w : World
  K : Frag
  vp : Program
  loose : List Str
  mean : ExcName → Option Value
  mg : Str → Option Value
  mb : Str → Option Value
  H : Heap

abbrev Fz := List (Addr × Obj)
def At (C : Cx) (fz : Fz) (a : Addr) (o : Obj) : Prop := (a, o) ∈ fz ∨ C.H.get? a = some o
theorem At.mono {C : Cx} {fz fz' : Fz} (h : ∀ p ∈ fz, p ∈ fz') {a : Addr} {o : Obj} (x : At C fz a o) : At C fz' a o := x.imp (h _) id

abbrev tupOf (vs : List Value) : Obj := { cls := .type "tuple", data := .seq vs.toArray }

mutual
inductive V (P : Addr → Obj → Prop) : Value → AVal → Prop
  | none : V P .none .none
  | bool (b : Bool) : V P (.bool b) (.bool b)
  | int (i : Int) (t : Tok) : V P (.int i t) (.int i)
  | str (x : Str) (t : Tok) : V P (.str x t) (.str x)
  | bytes (b : Array UInt8) (t : Tok) : V P (.bytes b t) (.bytes b)
  | raw (v : Value) : V P v (.raw v)
  | obj (a : Addr) : V P (.ref a) (.obj a)
  | fin {a d C : Addr} : P a (instObj C d) → P d (dictOf [] 0) → V P (.ref a) (.fin C)
  | lst {a : Addr} {o : Obj} {n : Nat} {vs : List Value} {xs : List AVal} : P a o → o.cls = .type "list" → o.data = .seq vs.toArray n → Vs P vs xs → V P (.ref a) (.lst xs)
  | tup {a : Addr} {o : Obj} {n : Nat} {vs : List Value} {xs : List AVal} : P a o → o.cls = .type "tuple" → o.data = .seq vs.toArray n → Vs P vs xs → V P (.ref a) (.tup xs)
  | rng {r : Addr} {a b c : Int} {t u v : Tok} : P r { cls := .type "range", dict := none, data := .fields #[.int a t, .int b u, .int c v], slots := #[] } → V P (.ref r) (.rng a b c)
inductive Vs (P : Addr → Obj → Prop) : List Value → List AVal → Prop
  | nil : Vs P [] []
  | cons {v : Value} {av : AVal} {vs : List Value} {xs : List AVal} : V P v av → Vs P vs xs → Vs P (v :: vs) (av :: xs)
end

mutual
theorem V.mono {P P' : Addr → Obj → Prop} (k : ∀ a o, P a o → P' a o) : ∀ {v : Value} {x : AVal}, V P v x → V P' v x
  | _, _, .none => .none
  | _, _, .bool b => .bool b
  | _, _, .int i t => .int i t
  | _, _, .str x t => .str x t
  | _, _, .bytes b t => .bytes b t
  | _, _, .raw v => .raw v
  | _, _, .obj a => .obj a
  | _, _, .fin h1 h2 => .fin (k _ _ h1) (k _ _ h2)
  | _, _, .lst h1 h2 h3 h4 => .lst (k _ _ h1) h2 h3 (Vs.mono k h4)
  | _, _, .tup h1 h2 h3 h4 => .tup (k _ _ h1) h2 h3 (Vs.mono k h4)
  | _, _, .rng h1 => .rng (k _ _ h1)
theorem Vs.mono {P P' : Addr → Obj → Prop} (k : ∀ a o, P a o → P' a o) : ∀ {vs : List Value} {xs : List AVal}, Vs P vs xs → Vs P' vs xs
  | _, _, .nil => .nil
  | _, _, .cons h1 h2 => .cons (V.mono k h1) (Vs.mono k h2)
end
theorem V.up {C : Cx} {fz fz' : Fz} (h : ∀ p ∈ fz, p ∈ fz') {v : Value} {x : AVal} (a : V (At C fz) v x) : V (At C fz') v x := a.mono fun _ _ => At.mono h
theorem Vs.up {C : Cx} {fz fz' : Fz} (h : ∀ p ∈ fz, p ∈ fz') {v : List Value} {x : List AVal} (a : Vs (At C fz) v x) : Vs (At C fz') v x := a.mono fun _ _ => At.mono h
theorem Vs.length {P : Addr → Obj → Prop} : ∀ {vs : List Value} {xs : List AVal}, Vs P vs xs → vs.length = xs.length
  | _, _, .nil => rfl
  | _, _, .cons _ h => by simp [h.length]
theorem Vs.append {P : Addr → Obj → Prop} : ∀ {vs : List Value} {xs : List AVal} {ws : List Value} {ys : List AVal}, Vs P vs xs → Vs P ws ys → Vs P (vs ++ ws) (xs ++ ys)
  | _, _, _, _, .nil, h => h
  | _, _, _, _, .cons a b, h => .cons a (b.append h)
theorem Vs.get {P : Addr → Obj → Prop} : ∀ {vs : List Value} {xs : List AVal}, Vs P vs xs → ∀ {i : Nat} {x : AVal}, xs[i]? = some x → ∃ v, vs[i]? = some v ∧ V P v x
  | _, _, .nil, _, _, e => by simp at e
  | _, _, .cons a b, 0, _, e => by simp at e; subst e; exact ⟨_, rfl, a⟩
  | _, _, .cons a b, i + 1, _, e => by simp at e; obtain ⟨v, h1, h2⟩ := b.get e; exact ⟨v, by simpa using h1, h2⟩
theorem Vs.set {P : Addr → Obj → Prop} : ∀ {vs : List Value} {xs : List AVal}, Vs P vs xs → ∀ (i : Nat) {v : Value} {x : AVal}, V P v x → Vs P (vs.set i v) (xs.set i x)
  | _, _, .nil, _, _, _, _ => .nil
  | _, _, .cons a b, 0, _, _, h => .cons h b
  | _, _, .cons a b, i + 1, _, _, h => .cons a (b.set i h)
theorem Vs.take {P : Addr → Obj → Prop} : ∀ {vs : List Value} {xs : List AVal}, Vs P vs xs → ∀ (i : Nat), Vs P (vs.take i) (xs.take i)
  | _, _, _, 0 => by simp; exact .nil
  | _, _, .nil, _ + 1 => .nil
  | _, _, .cons a b, i + 1 => .cons a (b.take i)
theorem Vs.drop {P : Addr → Obj → Prop} : ∀ {vs : List Value} {xs : List AVal}, Vs P vs xs → ∀ (i : Nat), Vs P (vs.drop i) (xs.drop i)
  | _, _, h, 0 => h
  | _, _, .nil, _ + 1 => .nil
  | _, _, .cons a b, i + 1 => b.drop i
theorem Vs.reverse {P : Addr → Obj → Prop} : ∀ {vs : List Value} {xs : List AVal}, Vs P vs xs → Vs P vs.reverse xs.reverse
  | _, _, .nil => .nil
  | _, _, .cons a b => by simp only [List.reverse_cons]; exact b.reverse.append (.cons a .nil)

/-! ## attribute dicts -/
inductive Es (P : Addr → Obj → Prop) : List DictEntry → List (Str × AVal) → Prop
  | nil : Es P [] []
  | cons {h : Int} {x : Str} {t : Tok} {v : Value} {av : AVal} {es : List DictEntry} {as : List (Str × AVal)} : V P v av → Es P es as → Es P (⟨h, .str x t, v⟩ :: es) ((x, av) :: as)
def getA (x : Str) : List (Str × AVal) → Option AVal
  | [] => none
  | (y, a) :: r => if y == x then some a else getA x r
def setA (x : Str) (v : AVal) : List (Str × AVal) → List (Str × AVal)
  | [] => [(x, v)]
  | (y, a) :: r => if y == x then (y, v) :: r else (y, a) :: setA x v r
theorem Es.mono {P P' : Addr → Obj → Prop} (k : ∀ a o, P a o → P' a o) : ∀ {es : List DictEntry} {as : List (Str × AVal)}, Es P es as → Es P' es as
  | _, _, .nil => .nil
  | _, _, .cons a b => .cons (a.mono k) (b.mono k)
theorem Es.length {P : Addr → Obj → Prop} : ∀ {es : List DictEntry} {as : List (Str × AVal)}, Es P es as → es.length = as.length
  | _, _, .nil => rfl
  | _, _, .cons _ b => by simp [b.length]
theorem Es.noRef {P : Addr → Obj → Prop} : ∀ {es : List DictEntry} {as : List (Str × AVal)}, Es P es as → es.any (·.refKey) = false
  | _, _, .nil => rfl
  | _, _, .cons _ b => by rw [List.any_cons, b.noRef]; rfl
theorem getL_cons_hit {x : Str} {e : DictEntry} {es : List DictEntry} (h : e.key.isStr x = true) : getL x (e :: es) = some (some e.val) := by
  unfold getL; rw [List.find?_cons, h]
theorem Es.get_some {P : Addr → Obj → Prop} {x : Str} : ∀ {es : List DictEntry} {as : List (Str × AVal)}, Es P es as → ∀ {a : AVal}, getA x as = some a → ∃ v, getL x es = some (some v) ∧ V P v a
  | _, _, .nil, _, e => by cases e
  | _, _, .cons (h := hh) (x := y) (t := t) (v := v) (es := es) (as := as) q b, a, e => by
    unfold getA at e
    by_cases hy : (y == x) = true
    · rw [if_pos hy] at e; cases e
      exact ⟨v, getL_cons_hit hy, q⟩
    · rw [if_neg hy] at e
      obtain ⟨u, h1, h2⟩ := b.get_some e
      refine ⟨u, ?_, h2⟩
      have hy' : Value.isStr (.str y t) x = false := by show (y == x) = false; exact Bool.eq_false_iff.mpr hy
      unfold getL at h1 ⊢
      rw [List.find?_cons]
      simp only [hy']
      revert h1
      cases List.find? (fun x_1 => x_1.key.isStr x) es with
      | none => intro h1; rw [List.any_cons]; revert h1; cases es.any (·.refKey) <;> intro h1 <;> cases h1
      | some e' => exact id
theorem Es.get_none {P : Addr → Obj → Prop} {x : Str} : ∀ {es : List DictEntry} {as : List (Str × AVal)}, Es P es as → getA x as = none → getL x es = some none
  | _, _, .nil, _ => rfl
  | _, _, .cons (h := hh) (x := y) (t := t) (v := v) (es := es) (as := as) q b, e => by
    unfold getA at e
    by_cases hy : (y == x) = true
    · rw [if_pos hy] at e; cases e
    · rw [if_neg hy] at e
      have h1 := b.get_none e
      have hy' : Value.isStr (.str y t) x = false := by show (y == x) = false; exact Bool.eq_false_iff.mpr hy
      unfold getL at h1 ⊢
      rw [List.find?_cons]
      simp only [hy']
      revert h1
      cases List.find? (fun x_1 => x_1.key.isStr x) es with
      | none => rw [List.any_cons, b.noRef]; intro _; rfl
      | some e' => exact id
theorem Es.isSome {P : Addr → Obj → Prop} {x : Str} {es : List DictEntry} {as : List (Str × AVal)} (h : Es P es as) : (getL x es).isSome = true := by
  cases q : getA x as with
  | none => rw [h.get_none q]; rfl
  | some a => obtain ⟨v, e, _⟩ := h.get_some q; rw [e]; rfl
theorem Es.put {P : Addr → Obj → Prop} {x : Str} {hh : Int} {t : Tok} {v : Value} {a : AVal} (hv : V P v a) : ∀ {es : List DictEntry} {as : List (Str × AVal)}, Es P es as → Es P (putL x hh (.str x t) v es) (setA x a as)
  | _, _, .nil => .cons hv .nil
  | _, _, .cons (h := h') (x := y) (t := t') (v := v') (es := es) (as := as) q b => by
    unfold putL setA
    by_cases hy : (y == x) = true
    · have hy' : Value.isStr (.str y t') x = true := hy
      rw [if_pos hy, if_pos hy']; exact .cons hv b
    · have hy' : ¬ Value.isStr (.str y t') x = true := hy
      rw [if_neg hy, if_neg hy']; exact .cons q (b.put hv)

/-! ## abstract heap -/
abbrev AHeap := Addr → Option AObj
def AHeap.set (σ : AHeap) (a : Addr) (o : AObj) : AHeap := fun b => if b = a then some o else σ b
@[simp] theorem AHeap.set_same (σ : AHeap) (a : Addr) (o : AObj) : σ.set a o a = some o := if_pos rfl
theorem AHeap.set_ne (σ : AHeap) {a b : Addr} (o : AObj) (h : b ≠ a) : σ.set a o b = σ b := if_neg h
def AHeap.le (σ σ' : AHeap) : Prop := ∀ a o, σ a = some o → σ' a = some o

/-- what stands under names -/
def ER (P : Addr → Obj → Prop) (m : List (Str × AVal)) (mc : Str → Option Value) : Prop := ∀ x a, getA x m = some a → ∃ v, mc x = some v ∧ V P v a
theorem ER.mono {P P' : Addr → Obj → Prop} (k : ∀ a o, P a o → P' a o) {m : List (Str × AVal)} {mc : Str → Option Value} (h : ER P m mc) : ER P' m mc := fun x a e => by obtain ⟨v, h1, h2⟩ := h x a e; exact ⟨v, h1, h2.mono k⟩
/-- a dict with whole numbers as keys -/
inductive Ks (P : Addr → Obj → Prop) : List (Int × Value) → List (Int × AVal) → Prop
  | nil : Ks P [] []
  | cons {k : Int} {v : Value} {a : AVal} {kvs : List (Int × Value)} {es : List (Int × AVal)} : V P v a → Ks P kvs es → Ks P ((k, v) :: kvs) ((k, a) :: es)
theorem Ks.mono {P P' : Addr → Obj → Prop} (k : ∀ a o, P a o → P' a o) : ∀ {kvs : List (Int × Value)} {es : List (Int × AVal)}, Ks P kvs es → Ks P' kvs es
  | _, _, .nil => .nil
  | _, _, .cons a b => .cons (a.mono k) (b.mono k)
def OR (P : Addr → Obj → Prop) (news : List (Addr × Obj)) (d a : Addr) : AObj → Prop
  | .inst C as => (a, instObj C d) ∈ news ∧ ∃ es n, (d, dictOf es n) ∈ news ∧ Es P es as
  | .list xs => ∃ vs n, (a, listOf vs.toArray n) ∈ news ∧ Vs P vs xs
  | .dict es => ∃ o kvs, (a, o) ∈ news ∧ (∀ prog w, o.IsDictOf (intKind prog w) kvs) ∧ Ks P kvs es
  | .ns as => ∃ o mc, (a, o) ∈ news ∧ LCg.NsObj o mc ∧ ER P as mc
  | .cell none => ∃ o, (a, o) ∈ news ∧ o.data = .cell none
  | .cell (some x) => ∃ o v, (a, o) ∈ news ∧ o.data = .cell (some v) ∧ V P v x

structure HR (C : Cx) (fz pin : Fz) (σ : AHeap) (δ : Addr → Addr) (news : List (Addr × Obj)) : Prop where
  sub : ∀ p ∈ fz ++ pin, p ∈ news
  apart : ∀ p ∈ fz, ∀ q ∈ pin, p.1 ≠ q.1
  ob : ∀ a ao, σ a = some ao → OR (At C fz) news (δ a) a ao
  off : ∀ a ao, σ a = some ao → ∀ p ∈ fz ++ pin, p.1 ≠ a
  doff : ∀ a c as, σ a = some (.inst c as) → ∀ p ∈ fz ++ pin, p.1 ≠ δ a
  dσ : ∀ a c as, σ a = some (.inst c as) → σ (δ a) = none
  dinj : ∀ a c as b c' bs, σ a = some (.inst c as) → σ b = some (.inst c' bs) → δ a = δ b → a = b

theorem OR.key {P : Addr → Obj → Prop} {news : List (Addr × Obj)} {d a : Addr} {o : AObj} (h : OR P news d a o) : ∃ o', (a, o') ∈ news := by
  cases o with
  | inst C as => exact ⟨_, h.1⟩
  | list xs => obtain ⟨vs, n, h, _⟩ := h; exact ⟨_, h⟩
  | dict es => obtain ⟨o, kvs, h, _⟩ := h; exact ⟨o, h⟩
  | ns as => obtain ⟨o, mc, h, _⟩ := h; exact ⟨o, h⟩
  | cell v => cases v with
    | none => obtain ⟨o, h, _⟩ := h; exact ⟨o, h⟩
    | some v => obtain ⟨o, _, h, _⟩ := h; exact ⟨o, h⟩
theorem OR.mono {P P' : Addr → Obj → Prop} {news news' : List (Addr × Obj)} {d a : Addr} {o : AObj} (k : ∀ a o, P a o → P' a o) (h : OR P news d a o) (hn : ∀ o', (a, o') ∈ news → (a, o') ∈ news') (hd : ∀ c as, o = .inst c as → ∀ o', (d, o') ∈ news → (d, o') ∈ news') : OR P' news' d a o := by
  cases o with
  | inst C as => obtain ⟨h1, es, n, h2, h3⟩ := h; exact ⟨hn _ h1, es, n, hd _ _ rfl _ h2, h3.mono k⟩
  | list xs => obtain ⟨vs, n, h1, h2⟩ := h; exact ⟨vs, n, hn _ h1, h2.mono k⟩
  | dict es => obtain ⟨o, kvs, h1, h2, h3⟩ := h; exact ⟨o, kvs, hn _ h1, h2, h3.mono k⟩
  | ns as => obtain ⟨o, mc, h1, h2, h3⟩ := h; exact ⟨o, mc, hn _ h1, h2, h3.mono k⟩
  | cell v => cases v with
    | none => obtain ⟨o, h1, h2⟩ := h; exact ⟨o, hn _ h1, h2⟩
    | some v => obtain ⟨o, v, h1, h2, h3⟩ := h; exact ⟨o, v, hn _ h1, h2, h3.mono k⟩

/-! ## frames, the state -/
structure Fm where
  A₀ : Around
  A : Around
  base : Heap
  h₀ : Heap
  outer : List Env
  L : Addr
  a : Addr
  cn : Str
  cs : Scope
  ccd : Value
  cl : List (Str × Addr)
  pin : Fz
  comp : Option (Scope × List (Str × Addr) × Addr)
@[reducible] def Fm.withPin (f : Fm) (p : Fz) : Fm := { f with pin := p }
/-- the function's own surroundings -/
@[reducible] def Fm.fenv (f : Fm) : Env := envX f.cn f.cs f.L f.a f.ccd f.cl
/-- those of a row built in it -/
@[reducible] def Fm.envOn (f : Fm) : Option (Scope × List (Str × Addr) × Addr) → Env
  | none => f.fenv
  | some (sc, cl, c) => compEnvC sc cl c f.fenv
@[reducible] def Fm.env (f : Fm) : Env := f.envOn f.comp
@[reducible] def Fm.withComp (f : Fm) (k : Option (Scope × List (Str × Addr) × Addr)) (p : Fz) : Fm := { f with comp := k, pin := p }

structure Fm.Ok (C : Cx) (n : Nat) (f : Fm) : Prop where
  below : Below f.A₀ f.base f.outer f.h₀
  kin : C.K.In f.h₀
  top : Top C.vp C.loose C.mean C.mg C.mb f.h₀
  hk : ∀ b o, C.H.get? b = some o → f.h₀.get? b = some o
  stack : f.A.frames = some (f.fenv :: f.outer)
  handled : f.A.handled = none
  guards : f.A.guards = some []
  depth : f.A.depth + 3 * n < recursionLimit
  units : f.A.units + 10 * n + 100 < cLine
  kind : f.cs.kind = .function
  ckind : f.env.scope.kind = .function

abbrev AEnv := List (Str × AVal)
def AEnv.get (m : AEnv) (x : Str) : Option AVal := getA x m
def AEnv.set (m : AEnv) (x : Str) (v : AVal) : AEnv := setA x v m
theorem getA_setA {x y : Str} {v : AVal} : ∀ {m : List (Str × AVal)}, getA y (setA x v m) = if y = x then some v else getA y m
  | [] => by
    unfold setA getA
    by_cases h : y = x
    · simp [h]
    · have : ¬ (x = y) := fun e => h e.symm
      simp [h, this, getA]
  | (z, a) :: r => by
    unfold setA
    by_cases hz : (z == x) = true
    · rw [if_pos hz]
      have hz' : z = x := by simpa using hz
      subst hz'
      unfold getA
      by_cases h : y = z
      · simp [h]
      · have : ¬ (z = y) := fun e => h e.symm
        simp [h, this]
    · rw [if_neg hz]
      unfold getA
      by_cases h : (z == y) = true
      · rw [if_pos h, if_pos h]
        have hz' : z = y := by simpa using h
        subst hz'
        have : ¬ z = x := by simpa using hz
        rw [if_neg this]
      · rw [if_neg h, if_neg h]; exact getA_setA
def SR (C : Cx) (f : Fm) (fz : Fz) (m : AEnv) (σ : AHeap) (s : Shared) : Prop :=
  ∃ mc news δ, Fr f.h₀ f.L s.heap mc ∧ News f.h₀ f.L s.heap news ∧ HR C fz f.pin σ δ news ∧ ER (At C fz) m mc
def Same (s s' : Shared) : Prop := ∃ h tk, s' = { s with heap := h, toks := tk }
theorem Same.rfl {s : Shared} : Same s s := ⟨s.heap, s.toks, by cases s; exact Eq.refl _⟩
theorem Same.mk {s : Shared} {h : Heap} {tk : Nat} : Same s { s with heap := h, toks := tk } := ⟨h, tk, Eq.refl _⟩
theorem Same.trans {s s₁ s₂ : Shared} (a : Same s s₁) (b : Same s₁ s₂) : Same s s₂ := by
  obtain ⟨h, t, e⟩ := a; obtain ⟨h', t', e'⟩ := b; subst e; subst e'; exact ⟨h', t', Eq.refl _⟩

section
variable {C : Cx} {f : Fm} {fz : Fz} {m : AEnv} {σ : AHeap} {s : Shared}
theorem SR.toks {t : Nat} (x : SR C f fz m σ s) : SR C f fz m σ { s with toks := t } := x
theorem SR.at_ {n : Nat} (ok : f.Ok C n) (x : SR C f fz m σ s) {a : Addr} {o : Obj} (h : At C fz a o) : s.heap.get? a = some o := by
  obtain ⟨mc, news, δ, F, N, R, _⟩ := x
  rcases h with h | h
  · exact (N _ (R.sub _ (List.mem_append_left _ h))).1
  · exact F.keep _ _ (ok.hk _ _ h)
theorem SR.weaken (x : SR C f fz m σ s) {m' : AEnv} {σ' : AHeap} (hm : ∀ y a, m'.get y = some a → m.get y = some a) (hσ : σ'.le σ) : SR C f fz m' σ' s := by
  obtain ⟨mc, news, δ, F, N, R, e⟩ := x
  refine ⟨mc, news, δ, F, N, ⟨R.sub, R.apart, fun a o h => R.ob a o (hσ _ _ h), fun a o h => R.off a o (hσ _ _ h), fun a c as h => R.doff a c as (hσ _ _ h), fun a c as h => ?_, fun a c as b c' bs h1 h2 => R.dinj a c as b c' bs (hσ _ _ h1) (hσ _ _ h2)⟩, fun y a h => e y a (hm _ _ h)⟩
  cases q : σ' (δ a) with
  | none => rfl
  | some o => have := hσ _ _ q; rw [R.dσ a c as (hσ _ _ h)] at this; cases this
theorem news_lt {h₀ h : Heap} {L : Addr} {news : List (Addr × Obj)} (N : News h₀ L h news) {p : Addr × Obj} (hp : p ∈ news) : p.1 < h.objs.size := Heap.lt_size (N p hp).1

/-- a heap that only grew -/
theorem SR.grow (x : SR C f fz m σ s) {h' : Heap} {t : Nat} (k : ∀ b o, s.heap.get? b = some o → h'.get? b = some o) : SR C f fz m σ { s with heap := h', toks := t } := by
  obtain ⟨mc, news, δ, F, N, R, e⟩ := x
  exact ⟨mc, news, δ, F.grownK k, fun p hp => ⟨k _ _ (N p hp).1, (N p hp).2⟩, R, e⟩

/-- new objects, frozen from the start -/
theorem SR.freeze (x : SR C f fz m σ s) {h' : Heap} {t : Nat} (k : ∀ b o, s.heap.get? b = some o → h'.get? b = some o) (new : List (Addr × Obj)) (hn : ∀ p ∈ new, s.heap.get? p.1 = none ∧ s.heap.objs.size ≤ p.1 ∧ h'.get? p.1 = some p.2) :
    SR C f (new ++ fz) m σ { s with heap := h', toks := t } := by
  obtain ⟨mc, news, δ, F, N, R, e⟩ := x
  have key : ∀ a ao, σ a = some ao → a < s.heap.objs.size := fun a ao h => by obtain ⟨o, h⟩ := (R.ob a ao h).key; exact news_lt N h
  have dkey : ∀ a c as, σ a = some (.inst c as) → δ a < s.heap.objs.size := fun a c as h => by obtain ⟨_, es, n, h, _⟩ := R.ob a _ h; exact news_lt N h
  have up : ∀ p ∈ fz, p ∈ new ++ fz := fun p hp => List.mem_append_right _ hp
  have split : ∀ p ∈ (new ++ fz) ++ f.pin, p ∈ new ∨ p ∈ fz ++ f.pin := fun p hp => by
    rw [List.append_assoc] at hp; exact List.mem_append.mp hp
  refine ⟨mc, new ++ news, δ, F.grownK k, fun p hp => ?_, ⟨fun p hp => ?_, fun p hp q hq => ?_, fun a ao h => ?_, fun a ao h p hp => ?_, fun a c as h p hp => ?_, R.dσ, R.dinj⟩, fun y a h => ?_⟩
  · rcases List.mem_append.mp hp with hp | hp
    · obtain ⟨h1, h2, h3⟩ := hn p hp
      refine ⟨h3, fun q => ?_, ?_⟩
      · obtain ⟨oL, _, _, hL, _⟩ := F.ns; rw [q, hL] at h1; cases h1
      · cases q : f.h₀.get? p.1 with
        | none => rfl
        | some o => rw [F.keep _ _ q] at h1; cases h1
    · exact ⟨k _ _ (N p hp).1, (N p hp).2⟩
  · rcases split p hp with hp | hp
    · exact List.mem_append_left _ hp
    · exact List.mem_append_right _ (R.sub _ hp)
  · rcases List.mem_append.mp hp with hp | hp
    · exact fun e => absurd (news_lt N (R.sub _ (List.mem_append_right _ hq))) (Nat.not_lt.mpr (e ▸ (hn p hp).2.1))
    · exact R.apart p hp q hq
  · exact (R.ob a ao h).mono (fun _ _ => At.mono up) (fun _ q => List.mem_append_right _ q) fun _ _ _ _ q => List.mem_append_right _ q
  · rcases split p hp with hp | hp
    · exact fun q => absurd (key a ao h) (Nat.not_lt.mpr (q ▸ (hn p hp).2.1))
    · exact R.off a ao h p hp
  · rcases split p hp with hp | hp
    · exact fun q => absurd (dkey a c as h) (Nat.not_lt.mpr (q ▸ (hn p hp).2.1))
    · exact R.doff a c as h p hp
  · obtain ⟨v, h1, h2⟩ := e y a h; exact ⟨v, h1, h2.up up⟩
end
end Mine

open PySem PySem.W PyProof.Rows PySem.Calls
namespace Mine
def upd (news : List (Addr × Obj)) (D : Addr) (o : Obj) : List (Addr × Obj) := (D, o) :: news.filter (fun p => decide (p.1 ≠ D))
theorem mem_upd {news : List (Addr × Obj)} {D : Addr} {o : Obj} {p : Addr × Obj} (h : p ∈ news) (hn : p.1 ≠ D) : p ∈ upd news D o :=
  List.mem_cons_of_mem _ (List.mem_filter.mpr ⟨h, by simpa using hn⟩)
theorem news_upd' {h₀ h h' : Heap} {L D : Addr} {news : List (Addr × Obj)} {o o' : Obj} (N : News h₀ L h news) (hD : (D, o) ∈ news) (hs : Heap.SameBut D h h') (ho : h'.get? D = some o') : News h₀ L h' (upd news D o') := by
  intro p hp
  rcases List.mem_cons.mp hp with rfl | hp
  · exact ⟨ho, (N _ hD).2⟩
  · obtain ⟨h1, h2⟩ := List.mem_filter.mp hp
    have h2 : p.1 ≠ D := by simpa using h2
    exact ⟨(hs.2 _ h2).trans (N p h1).1, (N p h1).2⟩

section
variable {C : Cx} {f : Fm} {fz : Fz} {m : AEnv} {σ : AHeap} {s : Shared}

theorem SR.list (x : SR C f fz m σ s) {a : Addr} {xs : List AVal} (h : σ a = some (.list xs)) : ∃ vs n, s.heap.get? a = some (listOf vs.toArray n) ∧ Vs (At C fz) vs xs := by
  obtain ⟨mc, news, δ, F, N, R, e⟩ := x
  obtain ⟨vs, n, h1, h2⟩ := R.ob a _ h
  exact ⟨vs, n, (N _ h1).1, h2⟩
theorem SR.inst (x : SR C f fz m σ s) {a c : Addr} {as : List (Str × AVal)} (h : σ a = some (.inst c as)) : ∃ d es n, s.heap.get? a = some (instObj c d) ∧ s.heap.get? d = some (dictOf es n) ∧ Es (At C fz) es as := by
  obtain ⟨mc, news, δ, F, N, R, e⟩ := x
  obtain ⟨h1, es, n, h2, h3⟩ := R.ob a _ h
  exact ⟨_, es, n, (N _ h1).1, (N _ h2).1, h3⟩
theorem SR.cell (x : SR C f fz m σ s) {a : Addr} {v : AVal} (h : σ a = some (.cell (some v))) : ∃ o u, s.heap.get? a = some o ∧ o.data = .cell (some u) ∧ V (At C fz) u v := by
  obtain ⟨mc, news, δ, F, N, R, e⟩ := x
  obtain ⟨o, u, h1, h2, h3⟩ := R.ob a _ h
  exact ⟨o, u, (N _ h1).1, h2, h3⟩
theorem SR.lt (x : SR C f fz m σ s) {a : Addr} {o : AObj} (h : σ a = some o) : a < s.heap.objs.size := by
  obtain ⟨mc, news, δ, F, N, R, e⟩ := x
  obtain ⟨o, h⟩ := (R.ob a _ h).key; exact news_lt N h
theorem SR.fresh (x : SR C f fz m σ s) {a : Addr} (h : s.heap.objs.size ≤ a) : σ a = none := by
  cases q : σ a with
  | none => rfl
  | some o => exact absurd (x.lt q) (Nat.not_lt.mpr h)

/-- a list's, a cell's object is changed -/
theorem SR.change (x : SR C f fz m σ s) {a : Addr} {ao ao' : AObj} {h' : Heap} {t : Nat} {o' : Obj} (h : σ a = some ao) (hn : ∀ c as, ao ≠ .inst c as) (hn' : ∀ c as, ao' ≠ .inst c as) (hs : Heap.SameBut a s.heap h') (ho : h'.get? a = some o')
    (hr : ∀ news d, (a, o') ∈ news → OR (At C fz) news d a ao') : SR C f fz m (σ.set a ao') { s with heap := h', toks := t } := by
  obtain ⟨mc, news, δ, F, N, R, e⟩ := x
  obtain ⟨o, hm⟩ := (R.ob a _ h).key
  have dn : ∀ b c as, σ b = some (.inst c as) → δ b ≠ a := fun b c as hb q => by have := R.dσ b c as hb; rw [q, h] at this; cases this
  have keep : ∀ {b c as}, σ.set a ao' b = some (.inst c as) → b ≠ a ∧ σ b = some (.inst c as) := fun {b c as} hb => by
    by_cases q : b = a
    · subst q; rw [AHeap.set_same] at hb; exact absurd (Option.some.inj hb) (hn' c as)
    · rw [AHeap.set_ne _ _ q] at hb; exact ⟨q, hb⟩
  refine ⟨mc, upd news a o', δ, F.change hs (N _ hm).2.1 (N _ hm).2.2, news_upd' N hm hs ho, ⟨fun p hp => mem_upd (R.sub p hp) (R.off a _ h p hp), R.apart, fun b bo hb => ?_, fun b bo hb p hp => ?_, fun b c as hb p hp => R.doff b c as (keep hb).2 p hp, fun b c as hb => ?_, fun b c as b' c' bs h1 h2 => R.dinj b c as b' c' bs (keep h1).2 (keep h2).2⟩, e⟩
  · by_cases q : b = a
    · subst q; rw [AHeap.set_same] at hb; cases hb; exact hr _ _ (List.mem_cons_self ..)
    · rw [AHeap.set_ne _ _ q] at hb
      exact (R.ob b bo hb).mono (fun _ _ x => x) (fun _ hm => mem_upd hm q) fun c as eb _ hm => mem_upd hm (dn b c as (eb ▸ hb))
  · by_cases q : b = a
    · subst q; exact R.off b _ h p hp
    · rw [AHeap.set_ne _ _ q] at hb; exact R.off b bo hb p hp
  · rw [AHeap.set_ne _ _ (dn b c as (keep hb).2)]; exact R.dσ b c as (keep hb).2
theorem SR.setList (x : SR C f fz m σ s) {a : Addr} {xs xs' : List AVal} {h' : Heap} {t n : Nat} {vs' : List Value} (h : σ a = some (.list xs)) (hs : Heap.SameBut a s.heap h') (ho : h'.get? a = some (listOf vs'.toArray n)) (hv : Vs (At C fz) vs' xs') :
    SR C f fz m (σ.set a (.list xs')) { s with heap := h', toks := t } := x.change h (fun _ _ => nofun) (fun _ _ => nofun) hs ho fun _ _ hm => ⟨_, _, hm, hv⟩
/-- new mutable things -/
theorem SR.newThing (x : SR C f fz m σ s) {a : Addr} {ao : AObj} {h' : Heap} {t : Nat} {o : Obj} (hn : ∀ c as, ao ≠ .inst c as) (k : ∀ b o, s.heap.get? b = some o → h'.get? b = some o) (ha : s.heap.objs.size ≤ a) (ho : h'.get? a = some o)
    (hr : ∀ news d, (a, o) ∈ news → OR (At C fz) news d a ao) : SR C f fz m (σ.set a ao) { s with heap := h', toks := t } := by
  have hσ := x.fresh ha
  obtain ⟨mc, news, δ, F, N, R, e⟩ := x
  have hnone : s.heap.get? a = none := by
    cases q : s.heap.get? a with
    | none => rfl
    | some o => exact absurd (Heap.lt_size q) (Nat.not_lt.mpr ha)
  have nn : ∀ p ∈ news, p.1 ≠ a := fun p hp q => absurd (news_lt N hp) (Nat.not_lt.mpr (q ▸ ha))
  have keep : ∀ {b c as}, σ.set a ao b = some (.inst c as) → b ≠ a ∧ σ b = some (.inst c as) := fun {b c as} hb => by
    by_cases q : b = a
    · subst q; rw [AHeap.set_same] at hb; exact absurd (Option.some.inj hb) (hn c as)
    · rw [AHeap.set_ne _ _ q] at hb; exact ⟨q, hb⟩
  have dn : ∀ b c as, σ b = some (.inst c as) → δ b ≠ a := fun b c as hb => by obtain ⟨_, es, n, h, _⟩ := R.ob b _ hb; exact nn _ h
  refine ⟨mc, (a, o) :: news, δ, F.grownK k, fun p hp => ?_, ⟨fun p hp => .tail _ (R.sub p hp), R.apart, fun b bo hb => ?_, fun b bo hb p hp => ?_, fun b c as hb p hp => R.doff b c as (keep hb).2 p hp, fun b c as hb => ?_, fun b c as b' c' bs h1 h2 => R.dinj b c as b' c' bs (keep h1).2 (keep h2).2⟩, e⟩
  · rcases List.mem_cons.mp hp with rfl | hp
    · refine ⟨ho, fun q => ?_, ?_⟩
      · obtain ⟨oL, _, _, hL, _⟩ := F.ns; dsimp only at q; rw [q, hL] at hnone; cases hnone
      · cases q : f.h₀.get? a with
        | none => rfl
        | some o => rw [F.keep _ _ q] at hnone; cases hnone
    · exact ⟨k _ _ (N p hp).1, (N p hp).2⟩
  · by_cases q : b = a
    · subst q; rw [AHeap.set_same] at hb; cases hb; exact hr _ _ (List.mem_cons_self ..)
    · rw [AHeap.set_ne _ _ q] at hb
      exact (R.ob b bo hb).mono (fun _ _ x => x) (fun _ hm => .tail _ hm) fun c as eb _ hm => .tail _ hm
  · by_cases q : b = a
    · subst q; exact nn _ (R.sub p hp)
    · rw [AHeap.set_ne _ _ q] at hb; exact R.off b bo hb p hp
  · rw [AHeap.set_ne _ _ (dn b c as (keep hb).2)]; exact R.dσ b c as (keep hb).2
theorem SR.newList (x : SR C f fz m σ s) {a : Addr} {xs : List AVal} {h' : Heap} {t n : Nat} {vs : List Value} (k : ∀ b o, s.heap.get? b = some o → h'.get? b = some o) (ha : s.heap.objs.size ≤ a) (ho : h'.get? a = some (listOf vs.toArray n)) (hv : Vs (At C fz) vs xs) :
    SR C f fz m (σ.set a (.list xs)) { s with heap := h', toks := t } := x.newThing (fun _ _ => nofun) k ha ho fun _ _ hm => ⟨_, _, hm, hv⟩
/-- a name of the frame is stored -/
theorem SR.store (x : SR C f fz m σ s) {y : Str} {v : Value} {a : AVal} (hv : V (At C fz) v a) :
    ∃ mc news, Fr f.h₀ f.L s.heap mc ∧ News f.h₀ f.L s.heap news ∧ ∀ h' t, Fr f.h₀ f.L h' (fun z => if z = y then some v else mc z) → News f.h₀ f.L h' news → SR C f fz (m.set y a) σ { s with heap := h', toks := t } := by
  obtain ⟨mc, news, δ, F, N, R, e⟩ := x
  refine ⟨mc, news, F, N, fun h' t F' N' => ⟨_, news, δ, F', N', R, fun z b hz => ?_⟩⟩
  unfold AEnv.get AEnv.set at hz
  rw [getA_setA] at hz
  by_cases q : z = y
  · rw [if_pos q] at hz; cases hz; exact ⟨v, if_pos q, hv⟩
  · rw [if_neg q] at hz; obtain ⟨u, h1, h2⟩ := e z b hz; exact ⟨u, (if_neg q).trans h1, h2⟩
end
end Mine

open PySem PySem.W PyProof.Rows PySem.Calls
namespace Mine
abbrev Md (C : Cx) : Model := model C.prog C.w

def PV (C : Cx) (f : Fm) (m : AEnv) (fz : Fz) (s : Shared) (Q : AVal → AHeap → Prop) (v : Value) (s' : Shared) : Prop :=
  ∃ fz' σ' a, (∀ p ∈ fz, p ∈ fz') ∧ Same s s' ∧ SR C f fz' m σ' s' ∧ V (At C fz') v a ∧ Q a σ'
def PL (C : Cx) (f : Fm) (m : AEnv) (fz : Fz) (s : Shared) (Q : List AVal → AHeap → Prop) (v : List Value) (s' : Shared) : Prop :=
  ∃ fz' σ' a, (∀ p ∈ fz, p ∈ fz') ∧ Same s s' ∧ SR C f fz' m σ' s' ∧ Vs (At C fz') v a ∧ Q a σ'
def PB (C : Cx) (f : Fm) (m : AEnv) (fz : Fz) (s : Shared) (Q : Bool → AHeap → Prop) (b : Bool) (s' : Shared) : Prop :=
  ∃ fz' σ', (∀ p ∈ fz, p ∈ fz') ∧ Same s s' ∧ SR C f fz' m σ' s' ∧ Q b σ'
inductive AFlow where
  | next | brk | cont
  | ret (a : AVal)
def FV (P : Addr → Obj → Prop) : Flow → AFlow → Prop
  | .next, .next => True
  | .brk, .brk => True
  | .cont, .cont => True
  | .ret v, .ret a => V P v a
  | _, _ => False
def PS (C : Cx) (f : Fm) (fz : Fz) (s : Shared) (Q : AFlow → AEnv → AHeap → Prop) (fl : Flow) (s' : Shared) : Prop :=
  ∃ fz' σ' m' a, (∀ p ∈ fz, p ∈ fz') ∧ Same s s' ∧ SR C f fz' m' σ' s' ∧ FV (At C fz') fl a ∧ Q a m' σ'

def WE (C : Cx) (n : Nat) (f : Fm) (e : Expr) (m : AEnv) (σ : AHeap) (Q : AVal → AHeap → Prop) : Prop :=
  f.Ok C n → ∀ fz s E, SR C f fz m σ s → wpAny (Md C) f.A (eval e f.env) (PV C f m fz s Q) E s
def WL (C : Cx) (n : Nat) (f : Fm) (es : List Expr) (pos : Pos) (m : AEnv) (σ : AHeap) (Q : List AVal → AHeap → Prop) : Prop :=
  f.Ok C n → ∀ fz s E, SR C f fz m σ s → wpAny (Md C) f.A (spliced (backTo pos (starEach es f.env))) (PL C f m fz s Q) E s
def WT (C : Cx) (n : Nat) (f : Fm) (e : Expr) (m : AEnv) (σ : AHeap) (Q : Bool → AHeap → Prop) : Prop :=
  f.Ok C n → ∀ fz s E, SR C f fz m σ s → wpAny (Md C) f.A (isTrue e f.env (eval e f.env)) (PB C f m fz s Q) E s
/-- trees over one, two, many values -/
def T1 (C : Cx) (n : Nat) (f : Fm) (t : Value → Sem Value) (a : AVal) (m : AEnv) (σ : AHeap) (Q : AVal → AHeap → Prop) : Prop :=
  f.Ok C n → ∀ fz s E v, SR C f fz m σ s → V (At C fz) v a → wpAny (Md C) f.A (t v) (PV C f m fz s Q) E s
def T2 (C : Cx) (n : Nat) (f : Fm) (t : Value → Value → Sem Value) (a b : AVal) (m : AEnv) (σ : AHeap) (Q : AVal → AHeap → Prop) : Prop :=
  f.Ok C n → ∀ fz s E v w, SR C f fz m σ s → V (At C fz) v a → V (At C fz) w b → wpAny (Md C) f.A (t v w) (PV C f m fz s Q) E s
def TL (C : Cx) (n : Nat) (f : Fm) (t : List Value → Sem Value) (as : List AVal) (m : AEnv) (σ : AHeap) (Q : AVal → AHeap → Prop) : Prop :=
  f.Ok C n → ∀ fz s E vs, SR C f fz m σ s → Vs (At C fz) vs as → wpAny (Md C) f.A (t vs) (PV C f m fz s Q) E s
def TB (C : Cx) (n : Nat) (f : Fm) (t : Value → Sem Bool) (a : AVal) (m : AEnv) (σ : AHeap) (Q : Bool → AHeap → Prop) : Prop :=
  f.Ok C n → ∀ fz s E v, SR C f fz m σ s → V (At C fz) v a → wpAny (Md C) f.A (t v) (PB C f m fz s Q) E s
def W1 (C : Cx) (n : Nat) (f : Fm) (st : Stmt) (m : AEnv) (σ : AHeap) (Q : AFlow → AEnv → AHeap → Prop) : Prop :=
  f.Ok C n → ∀ fz s E, SR C f fz m σ s → wpAny (Md C) f.A (exec st f.env) (PS C f fz s Q) E s
def WS (C : Cx) (n : Nat) (f : Fm) (ss : List Stmt) (m : AEnv) (σ : AHeap) (Q : AFlow → AEnv → AHeap → Prop) : Prop :=
  f.Ok C n → ∀ fz s E, SR C f fz m σ s → wpAny (Md C) f.A (execs ss f.env) (PS C f fz s Q) E s

section
variable {C : Cx} {n : Nat} {f : Fm} {m : AEnv} {σ : AHeap} {s s₁ s' : Shared} {fz fz₁ : Fz}
theorem sub_refl {fz : Fz} : ∀ p ∈ fz, p ∈ fz := fun _ h => h
theorem PV.up {Q : AVal → AHeap → Prop} {v : Value} (h : ∀ p ∈ fz, p ∈ fz₁) (hs : Same s s₁) (x : PV C f m fz₁ s₁ Q v s') : PV C f m fz s Q v s' := by
  obtain ⟨fz', σ', a, h1, h2, h3, h4, h5⟩ := x
  exact ⟨fz', σ', a, fun p hp => h1 p (h p hp), hs.trans h2, h3, h4, h5⟩
theorem PL.up {Q : List AVal → AHeap → Prop} {v : List Value} (h : ∀ p ∈ fz, p ∈ fz₁) (hs : Same s s₁) (x : PL C f m fz₁ s₁ Q v s') : PL C f m fz s Q v s' := by
  obtain ⟨fz', σ', a, h1, h2, h3, h4, h5⟩ := x
  exact ⟨fz', σ', a, fun p hp => h1 p (h p hp), hs.trans h2, h3, h4, h5⟩
theorem PB.up {Q : Bool → AHeap → Prop} {v : Bool} (h : ∀ p ∈ fz, p ∈ fz₁) (hs : Same s s₁) (x : PB C f m fz₁ s₁ Q v s') : PB C f m fz s Q v s' := by
  obtain ⟨fz', σ', h1, h2, h3, h5⟩ := x
  exact ⟨fz', σ', fun p hp => h1 p (h p hp), hs.trans h2, h3, h5⟩
theorem PS.up {Q : AFlow → AEnv → AHeap → Prop} {v : Flow} (h : ∀ p ∈ fz, p ∈ fz₁) (hs : Same s s₁) (x : PS C f fz₁ s₁ Q v s') : PS C f fz s Q v s' := by
  obtain ⟨fz', σ', m', a, h1, h2, h3, h4, h5⟩ := x
  exact ⟨fz', σ', m', a, fun p hp => h1 p (h p hp), hs.trans h2, h3, h4, h5⟩
theorem PV.here {Q : AVal → AHeap → Prop} {v : Value} {a : AVal} (x : SR C f fz m σ s) (hv : V (At C fz) v a) (q : Q a σ) : PV C f m fz s Q v s := ⟨fz, σ, a, sub_refl, .rfl, x, hv, q⟩
theorem PV.tok {Q : AVal → AHeap → Prop} {v : Value} {a : AVal} {t : Nat} (x : SR C f fz m σ s) (hv : V (At C fz) v a) (q : Q a σ) : PV C f m fz s Q v { s with toks := t } := ⟨fz, σ, a, sub_refl, .mk, x, hv, q⟩

/-! ## consequence -/
theorem WE.mono {e : Expr} {Q Q' : AVal → AHeap → Prop} (h : WE C n f e m σ Q) (k : ∀ a σ, Q a σ → Q' a σ) : WE C n f e m σ Q' :=
  fun ok fz s E x => wpAny_mono (h ok fz s E x) (fun v s' ⟨fz', σ', a, h1, h2, h3, h4, h5⟩ => ⟨fz', σ', a, h1, h2, h3, h4, k _ _ h5⟩) fun _ _ x => x
theorem WS.mono {ss : List Stmt} {Q Q' : AFlow → AEnv → AHeap → Prop} (h : WS C n f ss m σ Q) (k : ∀ a m σ, Q a m σ → Q' a m σ) : WS C n f ss m σ Q' :=
  fun ok fz s E x => wpAny_mono (h ok fz s E x) (fun v s' ⟨fz', σ', m', a, h1, h2, h3, h4, h5⟩ => ⟨fz', σ', m', a, h1, h2, h3, h4, k _ _ _ h5⟩) fun _ _ x => x
theorem WS.weaken {ss : List Stmt} {m' : AEnv} {σ' : AHeap} {Q : AFlow → AEnv → AHeap → Prop} (hm : ∀ y a, m'.get y = some a → m.get y = some a) (hσ : σ'.le σ) (h : WS C n f ss m' σ' Q) : WS C n f ss m σ Q :=
  fun ok fz s E x => h ok fz s E (x.weaken hm hσ)

/-! ## expressions -/
theorem we_int {i : Int} {k : Nat} {pos : Pos} {Q : AVal → AHeap → Prop} (h : Q (.int i) σ) : WE C n f (.Constant (.int i) k pos) m σ Q :=
  fun ok fz s E x => wpAny_Constant_int (.tok x (.int _ _) h)
theorem we_str {i : Str} {k : Nat} {pos : Pos} {Q : AVal → AHeap → Prop} (h : Q (.str i) σ) : WE C n f (.Constant (.str i) k pos) m σ Q :=
  fun ok fz s E x => wpAny_Constant_str (.tok x (.str _ _) h)
theorem we_none {k : Nat} {pos : Pos} {Q : AVal → AHeap → Prop} (h : Q .none σ) : WE C n f (.Constant .none k pos) m σ Q :=
  fun ok fz s E x => wpAny_Constant_none (.here x .none h)
theorem we_bool {b : Bool} {k : Nat} {pos : Pos} {Q : AVal → AHeap → Prop} (h : Q (.bool b) σ) : WE C n f (.Constant (.bool b) k pos) m σ Q :=
  fun ok fz s E x => wpAny_Constant_bool (.here x (.bool b) h)
theorem we_local {y : Str} {pos : Pos} {a : AVal} {Q : AVal → AHeap → Prop} (hl : f.fenv.kindOf y = some .local) (hv : m.get y = some a) (h : Q a σ) (hd : (y == ("__debug__" : Str)) = false := by decide) (hcm : f.comp = none := by rfl) : WE C n f (.Name y pos) m σ Q := fun ok fz s E x => by
  have x' := x
  obtain ⟨mc, news, δ, F, N, R, e⟩ := x
  obtain ⟨v, h1, h2⟩ := e y a hv
  have he : f.env = f.fenv := by unfold Fm.env; rw [hcm]
  rw [he]
  exact nameX_L F h1 (.here x' h2 h) ok.kind hl hd
theorem we_global {y : Str} {pos : Pos} {v : Value} {Q : AVal → AHeap → Prop} (hl : f.env.kindOf y = some .globalImplicit) (hv : nsIn C.K mainGlobals y = some (some v)) (h : Q (.raw v) σ) (hd : (y == ("__debug__" : Str)) = false := by decide) : WE C n f (.Name y pos) m σ Q := fun ok fz s E x => by
  have x' := x
  obtain ⟨mc, news, δ, F, N, R, e⟩ := x
  have hg : f.env.globals = mainGlobals := by unfold Fm.env; cases f.comp <;> rfl
  have T := topRead_of ok.top
  exact Name_function_global ok.ckind hl (loadGlobal_global (env := f.env) (by rw [hg]; exact T.g.keeps F.keep) (mg_of ok.kin T.g hv) (.here x' (.raw v) h)) hd
theorem we_builtin {y : Str} {pos : Pos} {v : Value} {Q : AVal → AHeap → Prop} (hl : f.env.kindOf y = some .globalImplicit) (hv : nsIn C.K mainGlobals y = some none) (hb : bootBuiltins y = some v) (h : Q (.raw v) σ) (hn : y ≠ "__name__" := by decide) (hd : (y == ("__debug__" : Str)) = false := by decide) :
    WE C n f (.Name y pos) m σ Q := fun ok fz s E x => by
  have x' := x
  obtain ⟨mc, news, δ, F, N, R, e⟩ := x
  have hg : f.env.globals = mainGlobals := by unfold Fm.env; cases f.comp <;> rfl
  have hbb : f.env.builtins = builtinsNs := by unfold Fm.env; cases f.comp <;> rfl
  have T := topRead_of ok.top
  exact Name_function_global ok.ckind hl (loadGlobal_builtin (env := f.env) (by rw [hg]; exact T.g.keeps F.keep) (mg_none_of ok.kin T.g hv) (by rw [hbb]; exact T.b.keeps F.keep) ((T.builtins y hn).trans hb) (.here x' (.raw v) h)) hd
theorem we_binop {l r : Expr} {op : Operator} {pos : Pos} {Q : AVal → AHeap → Prop} (h : WE C n f l m σ fun a σ₁ => WE C n f r m σ₁ fun b σ₂ => T2 C n f (binaryOp op) a b m σ₂ Q) : WE C n f (.BinOp l op r pos) m σ Q := fun ok fz s E x => by
  refine wpAny_BinOp (wpAny_mono (h ok fz s E x) (fun v s₁ ⟨fz₁, σ₁, a, u1, e1, x1, va, q1⟩ => wpAny_mono (q1 ok fz₁ s₁ E x1) (fun w s₂ ⟨fz₂, σ₂, b, u2, e2, x2, vb, q2⟩ => ?_) fun _ _ x => x) fun _ _ x => x)
  exact wpAny_mono (q2 ok fz₂ s₂ E v w x2 (va.up u2) vb) (fun r s₃ p => .up (fun p hp => u2 p (u1 p hp)) (e1.trans e2) p) fun _ _ x => x
theorem we_compare {l r : Expr} {op : CmpOp} {pos : Pos} {Q : AVal → AHeap → Prop} (h : WE C n f l m σ fun a σ₁ => WE C n f r m σ₁ fun b σ₂ => T2 C n f (compareOp op) a b m σ₂ Q) (hm : behindInMarks op r = false := by rfl) :
    WE C n f (.Compare l [op] [r] pos) m σ Q := fun ok fz s E x => by
  refine wpAny_Compare1 (wpAny_mono (h ok fz s E x) (fun v s₁ ⟨fz₁, σ₁, a, u1, e1, x1, va, q1⟩ => wpAny_mono (q1 ok fz₁ s₁ E x1) (fun w s₂ ⟨fz₂, σ₂, b, u2, e2, x2, vb, q2⟩ => ?_) fun _ _ x => x) fun _ _ x => x) hm
  exact wpAny_mono (q2 ok fz₂ s₂ E v w x2 (va.up u2) vb) (fun r s₃ p => .up (fun p hp => u2 p (u1 p hp)) (e1.trans e2) p) fun _ _ x => x
theorem we_unary {l : Expr} {op : UnaryOp} {pos : Pos} {Q : AVal → AHeap → Prop} (h : WE C n f l m σ fun a σ₁ => T1 C n f (unaryOp op) a m σ₁ Q) : WE C n f (.UnaryOp op l pos) m σ Q := fun ok fz s E x => by
  refine wpAny_UnaryOp (wpAny_mono (h ok fz s E x) (fun v s₁ ⟨fz₁, σ₁, a, u1, e1, x1, va, q1⟩ => ?_) fun _ _ x => x)
  exact wpAny_mono (q1 ok fz₁ s₁ E v x1 va) (fun r s₃ p => .up u1 e1 p) fun _ _ x => x
/-! ## rows of expressions -/
theorem wl_nil {pos : Pos} {Q : List AVal → AHeap → Prop} (h : Q [] σ) : WL C n f [] pos m σ Q := fun ok fz s E x => wpAny_items_nil ⟨fz, σ, [], sub_refl, .rfl, x, .nil, h⟩
theorem wl_cons {e : Expr} {es : List Expr} {pos : Pos} {Q : List AVal → AHeap → Prop} (h : WE C n f e m σ fun a σ₁ => WL C n f es pos m σ₁ fun as σ₂ => Q (a :: as) σ₂)
    (he : starEach (e :: es) f.env = (false, eval e f.env) :: starEach es f.env := by rfl) : WL C n f (e :: es) pos m σ Q := fun ok fz s E x => by
  refine wpAny_items_cons (wpAny_mono (h ok fz s E x) (fun v s₁ ⟨fz₁, σ₁, a, u1, e1, x1, va, q1⟩ => wpAny_mono (q1 ok fz₁ s₁ E x1) (fun w s₂ ⟨fz₂, σ₂, b, u2, e2, x2, vb, q2⟩ => ?_) fun _ _ x => x) fun _ _ x => x) he
  exact ⟨fz₂, σ₂, a :: b, fun p hp => u2 p (u1 p hp), e1.trans e2, x2, .cons (va.up u2) vb, q2⟩
/-- a list display, frozen; and one that may change -/
theorem we_lst {es : List Expr} {pos : Pos} {Q : AVal → AHeap → Prop} (h : WL C n f es pos m σ fun as σ₁ => as.length ≤ sizeLine ∧ Q (.lst as) σ₁) : WE C n f (.List es pos) m σ Q := fun ok fz s E x => by
  refine wpAny_List (wpAny_mono (h ok fz s E x) (fun vs s₁ ⟨fz₁, σ₁, as, u1, e1, x1, va, q0, q1⟩ => ⟨by rw [va.length]; exact q0, ?_⟩) fun _ _ x => x)
  have hs : s₁.heap.get? s₁.heap.objs.size = none := by
    cases q : s₁.heap.get? s₁.heap.objs.size with
    | none => rfl
    | some o => exact absurd (Heap.lt_size q) (Nat.lt_irrefl _)
  refine ⟨[(s₁.heap.objs.size, listOf vs.toArray 0)] ++ fz₁, σ₁, .lst as, fun p hp => List.mem_append_right _ (u1 p hp), e1.trans ⟨_, _, rfl⟩, x1.freeze (t := s₁.toks) (fun b o e => Heap.get?_push_of_some _ e) _ ?_, .lst (.inl (List.mem_append_left _ (List.mem_singleton.mpr rfl))) rfl rfl (va.up fun p hp => List.mem_append_right _ hp), q1⟩
  intro p hp
  rw [List.mem_singleton.mp hp]
  exact ⟨hs, Nat.le_refl _, Heap.get?_push_size _ rfl⟩
theorem we_tup {es : List Expr} {k : Nat} {pos : Pos} {Q : AVal → AHeap → Prop} (h : WL C n f es pos m σ fun as σ₁ => as.length ≤ sizeLine ∧ Q (.tup as) σ₁) : WE C n f (.Tuple es k pos) m σ Q := fun ok fz s E x => by
  refine wpAny_Tuple (wpAny_mono (h ok fz s E x) (fun vs s₁ ⟨fz₁, σ₁, as, u1, e1, x1, va, q0, q1⟩ => ⟨by rw [va.length]; exact q0, ?_⟩) fun _ _ x => x)
  have hs : s₁.heap.get? s₁.heap.objs.size = none := by
    cases q : s₁.heap.get? s₁.heap.objs.size with
    | none => rfl
    | some o => exact absurd (Heap.lt_size q) (Nat.lt_irrefl _)
  refine ⟨[(s₁.heap.objs.size, tupOf vs)] ++ fz₁, σ₁, .tup as, fun p hp => List.mem_append_right _ (u1 p hp), e1.trans ⟨_, _, rfl⟩, x1.freeze (t := s₁.toks) (fun b o e => Heap.get?_push_of_some _ e) _ ?_, .tup (.inl (List.mem_append_left _ (List.mem_singleton.mpr rfl))) rfl rfl (va.up fun p hp => List.mem_append_right _ hp), q1⟩
  intro p hp
  rw [List.mem_singleton.mp hp]
  exact ⟨hs, Nat.le_refl _, Heap.get?_push_size _ rfl⟩
theorem we_listM {es : List Expr} {pos : Pos} {Q : AVal → AHeap → Prop} (h : WL C n f es pos m σ fun as σ₁ => as.length ≤ sizeLine ∧ ∀ a, σ₁ a = none → Q (.obj a) (σ₁.set a (.list as))) : WE C n f (.List es pos) m σ Q := fun ok fz s E x => by
  refine wpAny_List (wpAny_mono (h ok fz s E x) (fun vs s₁ ⟨fz₁, σ₁, as, u1, e1, x1, va, q0, q1⟩ => ⟨by rw [va.length]; exact q0, ?_⟩) fun _ _ x => x)
  exact ⟨fz₁, _, .obj s₁.heap.objs.size, u1, e1.trans ⟨_, _, rfl⟩, x1.newList (t := s₁.toks) (fun b o e => Heap.get?_push_of_some _ e) (Nat.le_refl _) (Heap.get?_push_size _ rfl) va, .obj _, q1 _ (x1.fresh (Nat.le_refl _))⟩

/-! ## tests -/
theorem wt_compare {l r : Expr} {op : CmpOp} {pos : Pos} {Q : Bool → AHeap → Prop} (h : WE C n f l m σ fun a σ₁ => WE C n f r m σ₁ fun b σ₂ => T2 C n f (compareOp op) a b m σ₂ fun c σ₃ => TB C n f truthy c m σ₃ Q) (hm : behindInMarks op r = false := by rfl) :
    WT C n f (.Compare l [op] [r] pos) m σ Q := fun ok fz s E x => by
  refine wpAny_isTrue_Compare1 (wpAny_mono (h ok fz s E x) (fun v s₁ ⟨fz₁, σ₁, a, u1, e1, x1, va, q1⟩ => wpAny_mono (q1 ok fz₁ s₁ E x1) (fun w s₂ ⟨fz₂, σ₂, b, u2, e2, x2, vb, q2⟩ => ?_) fun _ _ x => x) fun _ _ x => x) hm
  refine wpAny_mono (q2 ok fz₂ s₂ E v w x2 (va.up u2) vb) (fun r s₃ ⟨fz₃, σ₃, c, u3, e3, x3, vc, q3⟩ => ?_) fun _ _ x => x
  exact wpAny_mono (q3 ok fz₃ s₃ E r x3 vc) (fun b s₄ p => .up (fun p hp => u3 p (u2 p (u1 p hp))) ((e1.trans e2).trans e3) p) fun _ _ x => x
theorem wt_not {t : Expr} {pos : Pos} {Q : Bool → AHeap → Prop} (h : WT C n f t m σ fun b σ₁ => Q (!b) σ₁) : WT C n f (.UnaryOp .Not t pos) m σ Q := fun ok fz s E x =>
  wpAny_isTrue_Not (wpAny_mono (h ok fz s E x) (fun v s₁ ⟨fz₁, σ₁, u1, e1, x1, q1⟩ => ⟨fz₁, σ₁, u1, e1, x1, q1⟩) fun _ _ x => x)
theorem wt_value {e : Expr} {Q : Bool → AHeap → Prop} (h : WE C n f e m σ fun a σ₁ => TB C n f truthy a m σ₁ Q) (he : ∀ whole, isTrue e f.env whole = (do let v ← whole; standAt e.pos; holding [v] (truthy v)) := by intro _; rfl) : WT C n f e m σ Q := fun ok fz s E x => by
  refine wpAny_isTrue_value (wpAny_mono (h ok fz s E x) (fun v s₁ ⟨fz₁, σ₁, a, u1, e1, x1, va, q1⟩ => ?_) fun _ _ x => x) (he _)
  exact wpAny_mono (q1 ok fz₁ s₁ E v x1 va) (fun b s₄ p => .up u1 e1 p) fun _ _ x => x
/-- a chain of tests in a condition -/
def WA (C : Cx) (n : Nat) (f : Fm) (op : BoolOp) (es : List Expr) (m : AEnv) (σ : AHeap) (Q : Bool → AHeap → Prop) : Prop :=
  f.Ok C n → ∀ fz s E, SR C f fz m σ s → wpAny (Md C) f.A (allTrue op es f.env) (PB C f m fz s Q) E s
theorem wt_bool {op : BoolOp} {es : List Expr} {pos : Pos} {Q : Bool → AHeap → Prop} (h : WA C n f op es m σ Q) : WT C n f (.BoolOp op es pos) m σ Q := fun ok fz s E x => wpAny_isTrue_BoolOp (h ok fz s E x)
theorem wa_or_nil {Q : Bool → AHeap → Prop} (h : Q false σ) : WA C n f .Or [] m σ Q := fun ok fz s E x => wpAny_allTrue_Or_nil ⟨fz, σ, sub_refl, .rfl, x, h⟩
theorem wa_or {e : Expr} {es : List Expr} {Q : Bool → AHeap → Prop} (h : WT C n f e m σ fun b σ₁ => (b = true → Q true σ₁) ∧ (b = false → WA C n f .Or es m σ₁ Q)) : WA C n f .Or (e :: es) m σ Q := fun ok fz s E x => by
  refine wpAny_allTrue_Or_cons (wpAny_mono (h ok fz s E x) (fun c s₁ ⟨fz₁, σ₁, u1, e1, x1, q1⟩ => ?_) fun _ _ x => x)
  cases c with
  | false => exact wpAny_mono (q1.2 rfl ok fz₁ s₁ E x1) (fun r s₃ p => .up u1 e1 p) fun _ _ x => x
  | true => exact ⟨fz₁, σ₁, u1, e1, x1, q1.1 rfl⟩
theorem tb_bool {b : Bool} {Q : Bool → AHeap → Prop} (h : Q b σ) : TB C n f truthy (.bool b) m σ Q := fun ok fz s E v x hv => by
  cases hv; exact wpAny_truthy_bool ⟨fz, σ, sub_refl, .rfl, x, h⟩

/-! ## statements -/
theorem ws_nil {Q : AFlow → AEnv → AHeap → Prop} (h : Q .next m σ) : WS C n f [] m σ Q := fun ok fz s E x => wpAny_execs_nil ⟨fz, σ, m, .next, sub_refl, .rfl, x, trivial, h⟩
theorem ws_cons {st : Stmt} {ss : List Stmt} {Q : AFlow → AEnv → AHeap → Prop} (h : W1 C n f st m σ fun a m' σ' => match a with | .next => WS C n f ss m' σ' Q | a => Q a m' σ') : WS C n f (st :: ss) m σ Q := fun ok fz s E x => by
  refine wpAny_execs_cons (wpAny_mono (h ok fz s E x) (fun fl s₁ ⟨fz₁, σ₁, m₁, a, u1, e1, x1, va, q1⟩ => ?_) fun _ _ x => x)
  cases fl with
  | next =>
    cases a with
    | next => exact wpAny_mono (q1 ok fz₁ s₁ E x1) (fun r s₃ p => .up u1 e1 p) fun _ _ x => x
    | _ => exact va.elim
  | brk => cases a <;> first | exact ⟨fz₁, σ₁, m₁, _, u1, e1, x1, va, q1⟩ | exact va.elim
  | cont => cases a <;> first | exact ⟨fz₁, σ₁, m₁, _, u1, e1, x1, va, q1⟩ | exact va.elim
  | ret v => cases a <;> first | exact ⟨fz₁, σ₁, m₁, _, u1, e1, x1, va, q1⟩ | exact va.elim
theorem w1_return {e : Expr} {pos : Pos} {Q : AFlow → AEnv → AHeap → Prop} (h : WE C n f e m σ fun a σ₁ => Q (.ret a) m σ₁) : W1 C n f (.Return (some e) pos) m σ Q := fun ok fz s E x =>
  wpAny_Return_some (wpAny_mono (h ok fz s E x) (fun v s₁ ⟨fz₁, σ₁, a, u1, e1, x1, va, q1⟩ => ⟨fz₁, σ₁, m, .ret a, u1, e1, x1, va, q1⟩) fun _ _ x => x)
theorem w1_if {t : Expr} {b o : List Stmt} {pos : Pos} {Q : AFlow → AEnv → AHeap → Prop} (h : WT C n f t m σ fun c σ₁ => (c = true → WS C n f b m σ₁ Q) ∧ (c = false → WS C n f o m σ₁ Q)) : W1 C n f (.If t b o pos) m σ Q := fun ok fz s E x => by
  refine wpAny_If (wpAny_mono (h ok fz s E x) (fun c s₁ ⟨fz₁, σ₁, u1, e1, x1, q1⟩ => ?_) fun _ _ x => x)
  cases c with
  | true => exact wpAny_mono (q1.1 rfl ok fz₁ s₁ E x1) (fun r s₃ p => .up u1 e1 p) fun _ _ x => x
  | false => exact wpAny_mono (q1.2 rfl ok fz₁ s₁ E x1) (fun r s₃ p => .up u1 e1 p) fun _ _ x => x
/-- storing a value under a name: as a tree -/
def TS (C : Cx) (n : Nat) (f : Fm) (y : Str) (a : AVal) (m : AEnv) (σ : AHeap) (Q : AEnv → AHeap → Prop) : Prop :=
  f.Ok C n → ∀ fz s E v, SR C f fz m σ s → V (At C fz) v a → wpAny (Md C) f.A (storeName f.env y v) (fun _ s' => ∃ fz' σ' m', (∀ p ∈ fz, p ∈ fz') ∧ Same s s' ∧ SR C f fz' m' σ' s' ∧ Q m' σ') E s
theorem ts_local {y : Str} {a : AVal} {Q : AEnv → AHeap → Prop} (hl : f.fenv.kindOf y = some .local) (h : Q (m.set y a) σ) (hcm : f.comp = none := by rfl) : TS C n f y a m σ Q := fun ok fz s E v x hv => by
  have he : f.env = f.fenv := by unfold Fm.env; rw [hcm]
  rw [he]
  obtain ⟨mc, news, F, N, k⟩ := x.store (y := y) hv
  exact storeX_L F N (fun h' F' N' => ⟨fz, σ, _, sub_refl, .mk, k h' _ F' N', h⟩) ok.kind hl
theorem w1_assign {y : Str} {py : Pos} {e : Expr} {pos : Pos} {Q : AFlow → AEnv → AHeap → Prop} (h : WE C n f e m σ fun a σ₁ => TS C n f y a m σ₁ fun m' σ' => Q .next m' σ')
    (hs : swapsWith e (some (.Name y py)) pos.line f.env = pure false := by rfl) : W1 C n f (.Assign [.Name y py] e pos) m σ Q := fun ok fz s E x => by
  refine wpAny_Assign_Name (wpAny_mono (h ok fz s E x) (fun v s₁ ⟨fz₁, σ₁, a, u1, e1, x1, va, q1⟩ => ?_) fun _ _ x => x) hs
  exact wpAny_mono (q1 ok fz₁ s₁ E v x1 va) (fun _ s₂ ⟨fz₂, σ₂, m₂, u2, e2, x2, q2⟩ => ⟨fz₂, σ₂, m₂, .next, fun p hp => u2 p (u1 p hp), e1.trans e2, x2, trivial, q2⟩) fun _ _ x => x
end
end Mine

open PySem PySem.W PyProof.Rows PySem.Calls
namespace Mine
def Near (f : Fm) (A : Around) : Prop := A.frames = f.A.frames ∧ A.handled = f.A.handled ∧ A.guards = f.A.guards ∧ A.depth ≤ f.A.depth + 2 ∧ A.units ≤ f.A.units + 4
theorem Near.refl {f : Fm} : Near f f.A := ⟨rfl, rfl, rfl, by omega, by omega⟩
def RV (C : Cx) (f : Fm) (m : AEnv) (fz : Fz) (s : Shared) (Q : AVal → AHeap → Prop) (r : Result) (s' : Shared) : Prop := ∃ v, r = .ok (.ret v) ∧ PV C f m fz s Q v s'
/-- what a call of a def of the text does -/
def Fn (C : Cx) (n : Nat) (fa : Addr) (as : List AVal) (σ : AHeap) (Q : AVal → AHeap → Prop) : Prop :=
  ∀ f m A, f.Ok C n → Near f A → ∀ fz s vs, SR C f fz m σ s → Vs (At C fz) vs as → codeAny (Md C) A (.call (.ref fa) ⟨vs, []⟩) (RV C f m fz s Q) s
theorem Fn.mono {C : Cx} {n : Nat} {fa : Addr} {as : List AVal} {σ : AHeap} {Q Q' : AVal → AHeap → Prop} (h : Fn C n fa as σ Q) (k : ∀ a σ, Q a σ → Q' a σ) : Fn C n fa as σ Q' :=
  fun f m A ok hn fz s vs x hv => codeAny_mono (h f m A ok hn fz s vs x hv) fun r s' ⟨v, e, fz', σ', a, h1, h2, h3, h4, h5⟩ => ⟨v, e, fz', σ', a, h1, h2, h3, h4, k _ _ h5⟩

def Keep (C : Cx) (h : Heap) (v : Value) : Prop := ∃ k, (k = Keeper.frame ∨ k = Keeper.machine ∨ k = Keeper.boundFrame) ∧ Looks (Md C) h (keeperOf v) k
/-- a call -/
def TC (C : Cx) (n : Nat) (f : Fm) (fv : AVal) (as : List AVal) (m : AEnv) (σ : AHeap) (Q : AVal → AHeap → Prop) : Prop :=
  f.Ok C n → ∀ fz s E v vs, SR C f fz m σ s → V (At C fz) v fv → Vs (At C fz) vs as → Keep C s.heap v ∧ wpAny (Md C) f.A (call v vs) (PV C f m fz s Q) E s
/-- a method looked up -/
def TG (C : Cx) (n : Nat) (f : Fm) (name : Str) (ov : AVal) (m : AEnv) (σ : AHeap) (Q : AVal → List AVal → AHeap → Prop) : Prop :=
  f.Ok C n → ∀ fz s E v pl, SR C f fz m σ s → V (At C fz) v ov → wpAny (Md C) f.A (getMethod v name pl) (fun fx s' => ∃ fz' σ' fa as, (∀ p ∈ fz, p ∈ fz') ∧ Same s s' ∧ SR C f fz' m σ' s' ∧ V (At C fz') fx.1 fa ∧ Vs (At C fz') fx.2 as ∧ Q fa as σ') E s

section
variable {C : Cx} {n : Nat} {f : Fm} {m : AEnv} {σ : AHeap}
theorem cw {pos : Pos} {v : Value} {first : List Value} {args : List Expr} {s : Shared} {E : Value → Shared → Prop} {Q : Value → Shared → Prop}
    (h : wpAny (Md C) f.A (spliced (backTo pos (starEach args f.env))) (fun vs s₁ => Keep C s₁.heap v ∧ wpAny (Md C) f.A (call v (first ++ vs)) Q E s₁) E s)
    (hplain : (backTo pos (starEach args f.env)).any (·.1) = false := by rfl) : wpAny (Md C) f.A (callWith pos v first (backTo pos (starEach args f.env)) (backToKw pos (keywordEach [] f.env))) Q E s := by
  show wpAny (Md C) f.A (callWith pos v first (backTo pos (starEach args f.env)) []) Q E s
  revert h hplain
  generalize backTo pos (starEach args f.env) = l
  intro h hplain
  refine callWith_of (P := fun h => Keep C h v) (by rw [hplain]; rfl) (fun h k => k) ?_
  cases l with
  | nil =>
    unfold evalArgs
    show wpAny _ _ (spliced [] >>= _) _ E s
    exact wpAny_bind (wpAny_mono h (fun vs s₁ h₁ => wpAny_bind (wpAny_pure (wpAny_holding (wpAny_bind (wpAny_pure (wpAny_bind (wpAny_pure (wpAny_pure h₁)))))))) fun _ _ x => x)
  | cons p l => 
    obtain ⟨b, x⟩ := p
    cases b with
    | true => cases hplain
    | false => exact evalArgs_plain h
theorem we_call {g : Str} {gp : Pos} {args : List Expr} {pos : Pos} {Q : AVal → AHeap → Prop} (h : WE C n f (.Name g gp) m σ fun fv σ₁ => WL C n f args pos m σ₁ fun as σ₂ => TC C n f fv as m σ₂ Q)
    (hplain : (backTo pos (starEach args f.env)).any (·.1) = false := by rfl) : WE C n f (.Call (.Name g gp) args [] pos) m σ Q := fun ok fz s E x => by
  refine wpAny_Call_ofName (wpAny_mono (h ok fz s E x) (fun v s₁ ⟨fz₁, σ₁, a, u1, e1, x1, va, q1⟩ => cw (wpAny_mono (q1 ok fz₁ s₁ E x1) (fun vs s₂ ⟨fz₂, σ₂, as, u2, e2, x2, vs', q2⟩ => ?_) fun _ _ x => x) hplain) fun _ _ x => x)
  obtain ⟨k, c⟩ := q2 ok fz₂ s₂ E v vs x2 (va.up u2) vs'
  exact ⟨k, wpAny_mono c (fun r s₃ p => .up (fun p hp => u2 p (u1 p hp)) (e1.trans e2) p) fun _ _ x => x⟩
theorem we_method {o : Expr} {name : Str} {apos pos : Pos} {args : List Expr} {pl : Sem Bool} {Q : AVal → AHeap → Prop}
    (h : WE C n f o m σ fun ov σ₁ => TG C n f name ov m σ₁ fun fv first σ₂ => WL C n f args pos m σ₂ fun as σ₃ => TC C n f fv (first ++ as) m σ₃ Q)
    (he : eval (.Call (.Attribute o name apos) args [] pos) f.env = (do
      let ov ← eval o f.env
      standAt apos.atName
      let (g, first) ← holding [ov] (getMethod ov name pl)
      callWith pos g first (backTo pos (starEach args f.env)) (backToKw pos (keywordEach [] f.env))) := by rfl)
    (hplain : (backTo pos (starEach args f.env)).any (·.1) = false := by rfl) : WE C n f (.Call (.Attribute o name apos) args [] pos) m σ Q := fun ok fz s E x => by
  refine methodCall_KW (pl := pl) (wpAny_mono (h ok fz s E x) (fun v s₁ ⟨fz₁, σ₁, a, u1, e1, x1, va, q1⟩ => wpAny_mono (q1 ok fz₁ s₁ E v pl x1 va) (fun fx s₂ ⟨fz₂, σ₂, fa, fs, u2, e2, x2, vf, vfs, q2⟩ => cw (wpAny_mono (q2 ok fz₂ s₂ E x2) (fun vs s₃ ⟨fz₃, σ₃, as, u3, e3, x3, vs', q3⟩ => ?_) fun _ _ x => x) hplain) fun _ _ x => x) fun _ _ x => x) he
  obtain ⟨k, c⟩ := q3 ok fz₃ s₃ E fx.1 (fx.2 ++ vs) x3 (vf.up u3) ((vfs.up u3).append vs')
  exact ⟨k, wpAny_mono c (fun r s₄ p => .up (fun p hp => u3 p (u2 p (u1 p hp))) ((e1.trans e2).trans e3) p) fun _ _ x => x⟩

/-! ## methods of own instances -/
theorem tg_inst {a c g : Addr} {as : List (Str × AVal)} {name : Str} {Q : AVal → List AVal → AHeap → Prop} (hσ : σ a = some (.inst c as)) (hn : getA name as = none) (hg : plainGet C.K c name = true)
    (hf : findIn C.K (.ref c) name = some (some (.ref g))) (ht : isFn C.K (.ref g) = true) (h : Q (.raw (.ref g)) [.obj a] σ) : TG C n f name (.obj a) m σ Q := fun ok fz s E v pl x hv => by
  cases hv
  obtain ⟨d, es, k, h1, h2, h3⟩ := x.inst hσ
  have x' := x
  obtain ⟨mc, news, δ, F, N, R, e⟩ := x
  exact method_inst F ok.kin (⟨h1, rfl, rfl, h2⟩ : InstAt s.heap a (instObj c d) c (some (dictOf es k))) hg hf ht (h3.get_none hn) ⟨fz, σ, _, _, sub_refl, .rfl, x', .raw _, .cons (.obj a) .nil, h⟩
theorem tg_fin {c g : Addr} {name : Str} {Q : AVal → List AVal → AHeap → Prop} (hg : plainGet C.K c name = true)
    (hf : findIn C.K (.ref c) name = some (some (.ref g))) (ht : isFn C.K (.ref g) = true) (h : Q (.raw (.ref g)) [.fin c] σ) : TG C n f name (.fin c) m σ Q := fun ok fz s E v pl x hv => by
  have hv' := hv
  cases hv with
  | fin p1 p2 =>
    have h1 := x.at_ ok p1
    have h2 := x.at_ ok p2
    have x' := x
    obtain ⟨mc, news, δ, F, N, R, e⟩ := x
    exact method_inst F ok.kin (⟨h1, rfl, rfl, h2⟩ : InstAt s.heap _ (instObj c _) c (some (dictOf [] 0))) hg hf ht rfl ⟨fz, σ, _, _, sub_refl, .rfl, x', .raw _, .cons hv' .nil, h⟩
theorem keep_K {g : Value} (ok : f.Ok C n) {fz : Fz} {s : Shared} (x : SR C f fz m σ s) (hk : keepIn C.K g = true) : Keep C s.heap g := by
  obtain ⟨mc, news, δ, F, N, R, e⟩ := x
  exact keeps_K hk _ (ok.kin.keeps F.keep)
theorem tc_fn {g : Addr} {as : List AVal} {Q : AVal → AHeap → Prop} (hk : keepIn C.K (.ref g) = true) (h : Fn C n g as σ Q) : TC C n f (.raw (.ref g)) as m σ Q := fun ok fz s E v vs x hv hvs => by
  cases hv
  refine ⟨keep_K ok x hk, wpAny_call (codeAny_mono (h f m f.A ok .refl fz s vs x hvs) fun r s' ⟨v, e, p⟩ => ?_)⟩
  subst e; exact p

/-! ## a def of the text, without cells -/
def retOf : AFlow → AVal
  | .ret a => a
  | _ => .none
theorem lookup_nd {β : Type} : ∀ {l : List (Str × β)}, (l.map (·.1)).Nodup → ∀ {y : Str} {v : β}, (y, v) ∈ l → l.lookup y = some v
  | [], _, _, _, h => nomatch h
  | (z, u) :: l, nd, y, v, h => by
    rw [List.map_cons, List.nodup_cons] at nd
    rcases List.mem_cons.mp h with e | h
    · cases e; simp
    · have : y ≠ z := fun e => nd.1 (List.mem_map.mpr ⟨_, h, e⟩)
      rw [List.lookup_cons]
      have hb : (y == z) = false := by simpa using this
      rw [hb]
      exact lookup_nd nd.2 h
theorem lookup_zip {P : Addr → Obj → Prop} : ∀ {ns : List Str} {vs : List Value} {as : List AVal}, Vs P vs as → ns.Nodup → ∀ {y : Str} {a : AVal}, getA y (ns.zip as) = some a → ∃ v, (ns.zip vs).reverse.lookup y = some v ∧ V P v a := by
  intro ns vs as h
  have key : ∀ {ns : List Str} {vs : List Value} {as : List AVal}, Vs P vs as → ns.Nodup → ∀ {y : Str} {a : AVal}, getA y (ns.zip as) = some a → ∃ v, (y, v) ∈ ns.zip vs ∧ V P v a := by
    intro ns
    induction ns with
    | nil => intro vs as _ _ y a e; cases as <;> cases e
    | cons z ns ih =>
      intro vs as h hd y a e
      cases h with
      | nil => cases e
      | cons hv h =>
        rw [List.zip_cons_cons] at e
        unfold getA at e
        by_cases q : (z == y) = true
        · rw [if_pos q] at e; cases e
          have : z = y := by simpa using q
          subst this
          exact ⟨_, List.mem_cons_self .., hv⟩
        · rw [if_neg q] at e
          obtain ⟨v, h1, h2⟩ := ih h (List.nodup_cons.mp hd).2 e
          exact ⟨v, List.mem_cons_of_mem _ h1, h2⟩
  intro hd y a e
  obtain ⟨v, h1, h2⟩ := key h hd e
  refine ⟨v, ?_, h2⟩
  have nd : ((ns.zip vs).reverse.map (·.1)).Nodup := by
    rw [List.map_reverse]
    refine List.pairwise_reverse.mpr (List.Pairwise.imp (fun h => Ne.symm h) ?_)
    have : (ns.zip vs).map (·.1) = ns.take vs.length := by
      clear h hd e h1 h2 key
      induction ns generalizing vs with
      | nil => simp
      | cons z ns ih => cases vs with
        | nil => simp
        | cons v vs => simp [ih]
    rw [this]
    exact List.Nodup.sublist (List.take_sublist ..) hd
  exact lookup_nd nd (List.mem_reverse.mpr h1)

theorem fn_plain {fa : Addr} {name qual : Str} {params : Arguments} {body : List Stmt} {scope : Scope} {dV kV doc pm cdv ct oc : Value} {an od : Option Addr} {osl : Array (Option Value)} {as da : List AVal} {ns : List Str} {dv : List Value} {Q : AVal → AHeap → Prop}
    (ho : C.K.lookup fa = some ⟨oc, od, .func (fnOf name qual params body scope dV kV doc pm an cdv ct), osl⟩) (hcd : codeIn C.K cdv qual = true)
    (hbind : ∀ S vs, vs.length = as.length → peek C.K S (bindArgs (fnOf name qual params body scope dV kV doc pm an cdv ct) ⟨vs, []⟩) = some (ns.zip (vs ++ dv)))
    (hd : ∀ P, Vs P dv da) (hnd : ns.Nodup) (hloc : ∀ y ∈ ns, scope.names.lookup y = some .local)
    (h : ∀ A₀ A base h₀ outer L pin, WS C n ⟨A₀, A, base, h₀, outer, L, fa, qual, scope, cdv, [], pin, none⟩ body (ns.zip (as ++ da)) σ fun fl _ σ' => ∃ σ₂ : AHeap, σ₂.le σ' ∧ Q (retOf fl) σ₂)
    (hco : scope.isCoroutine = false := by rfl) (hgen : scope.isGenerator = false := by rfl) (hk : scope.kind = .function := by rfl) (hcell : ∀ x ∈ scope.names, x.2 ≠ .cell := by decide) :
    Fn C (n + 1) fa as σ Q := fun f m A ok hn fz s vs x hvs => by
  obtain ⟨mc, news, δ, F, N, R, e⟩ := x
  have X := ok.kin.keeps F.keep
  have e2 := ok.depth
  have e3 := ok.units
  obtain ⟨n1, n2, n3, n4, n5⟩ := hn
  have hlen := hvs.length
  refine code_def (env := f.fenv) (binds := ns.zip (vs ++ dv)) ok.below F ok.kin N ok.top (n1.trans ok.stack) rfl ok.kind ho hcd (by omega) (kp_binds X fun S => hbind S vs hlen) (fun y hy => hloc _ (List.of_mem_zip hy).1) (fun g L' h₁ FG F' N' B' KG TG => ?_) hco hgen hk hcell
  let f' : Fm := ⟨A, A.deeper (envOf qual scope L' fa cdv), f.base, g, f.fenv :: f.outer, L', fa, qual, scope, cdv, [], f.pin, none⟩
  have hkH : ∀ b o, C.H.get? b = some o → g.get? b = some o := fun b o hb => FG.keep b o (ok.hk b o hb)
  have ok' : f'.Ok C n := ⟨B', KG, TG, hkH, Around.frames_deeper B'.stack, n2.trans ok.handled, n3.trans ok.guards, by show A.depth + 1 + 3 * n < _; omega, by show A.units + 3 + 10 * n + 100 < _; omega, hk, hk⟩
  have hz := hvs.append (hd (At C fz))
  have x' : SR C f' fz (ns.zip (as ++ da)) σ { s with heap := h₁, toks := s.toks + (ns.zip (vs ++ dv)).length } :=
    ⟨_, news, δ, F', N', R, fun y a hy => lookup_zip hz hnd hy⟩
  refine wpAny_mono (h A _ f.base g (f.fenv :: f.outer) L' f.pin ok' fz _ _ x') (fun fl s' ⟨fz', σ', m', a, u, es, x2, va, σ₂, hle, q⟩ => ?_) fun _ _ z => z
  obtain ⟨mc', news', δ', F2, N2, R2, e2⟩ := x2.weaken (fun _ _ h => h) hle
  refine leaveK_ F2 N2 fun FK NK => ⟨_, rfl, fz', σ₂, retOf a, u, ?_, ⟨mc, news', δ', FK, NK, R2, fun y b hy => ?_⟩, ?_, q⟩
  · obtain ⟨hh, tt, ee⟩ := es; exact ⟨hh, tt, ee⟩
  · obtain ⟨v, h1, h2⟩ := e y b hy; exact ⟨v, h1, h2.up u⟩
  · cases fl <;> cases a <;> first | exact va.elim | exact .none | exact va
end
end Mine

open PySem PySem.W PyProof.Rows PySem.Calls
namespace Mine
/-! ## storing -/
def PU (C : Cx) (f : Fm) (fz : Fz) (s : Shared) (Q : AEnv → AHeap → Prop) (s' : Shared) : Prop := ∃ fz' σ' m', (∀ p ∈ fz, p ∈ fz') ∧ Same s s' ∧ SR C f fz' m' σ' s' ∧ Q m' σ'
def TA (C : Cx) (n : Nat) (f : Fm) (t : Expr) (a : AVal) (m : AEnv) (σ : AHeap) (Q : AEnv → AHeap → Prop) : Prop :=
  f.Ok C n → ∀ fz s E v, SR C f fz m σ s → V (At C fz) v a → wpAny (Md C) f.A (assign t f.env v) (fun _ => PU C f fz s Q) E s
def TAs (C : Cx) (n : Nat) (f : Fm) (ts : List Expr) (as : List AVal) (m : AEnv) (σ : AHeap) (Q : AEnv → AHeap → Prop) : Prop :=
  f.Ok C n → ∀ fz s E vs, SR C f fz m σ s → Vs (At C fz) vs as → wpAny (Md C) f.A (assignInOrder ((assignEach ts f.env).map (·.2)) vs) (fun _ => PU C f fz s Q) E s
def TSs (C : Cx) (n : Nat) (f : Fm) (ys : List Str) (as : List AVal) (m : AEnv) (σ : AHeap) (Q : AEnv → AHeap → Prop) : Prop :=
  f.Ok C n → ∀ fz s E vs, SR C f fz m σ s → Vs (At C fz) vs as → wpAny (Md C) f.A (assignInOrder (ys.map fun y => bindName f.env y) vs) (fun _ => PU C f fz s Q) E s
section
variable {C : Cx} {n : Nat} {f : Fm} {m : AEnv} {σ : AHeap}
theorem PU.up {s s₁ s' : Shared} {fz fz₁ : Fz} {Q : AEnv → AHeap → Prop} (h : ∀ p ∈ fz, p ∈ fz₁) (hs : Same s s₁) (x : PU C f fz₁ s₁ Q s') : PU C f fz s Q s' := by
  obtain ⟨fz', σ', m', h1, h2, h3, h4⟩ := x
  exact ⟨fz', σ', m', fun p hp => h1 p (h p hp), hs.trans h2, h3, h4⟩
theorem tss_nil {Q : AEnv → AHeap → Prop} (h : Q m σ) : TSs C n f [] [] m σ Q := fun ok fz s E vs x hv => by cases hv; exact wpAny_assignInOrder_none ⟨fz, σ, m, sub_refl, .rfl, x, h⟩
theorem tss_cons {y : Str} {ys : List Str} {a : AVal} {as : List AVal} {Q : AEnv → AHeap → Prop} (h : TS C n f y a m σ fun m' σ' => TSs C n f ys as m' σ' Q) : TSs C n f (y :: ys) (a :: as) m σ Q := fun ok fz s E vs x hv => by
  cases hv with
  | cons hv hvs =>
    refine wpAny_assignInOrder_more (wpAny_bindName (wpAny_mono (h ok fz s E _ x hv) (fun _ s₁ ⟨fz₁, σ₁, m₁, u1, e1, x1, q1⟩ => ?_) fun _ _ x => x))
    exact wpAny_mono (q1 ok fz₁ s₁ E _ x1 (hvs.up u1)) (fun _ s₂ p => .up u1 e1 p) fun _ _ x => x
theorem ext_keeps {h h' : Heap} (e : Heap.ExtBut h.objs.size h h') : ∀ b o, h.get? b = some o → h'.get? b = some o := fun b o q => e b o (Nat.ne_of_lt (Heap.lt_size q)) q
theorem V.tuple_ {fz : Fz} {s : Shared} (ok : f.Ok C n) (x : SR C f fz m σ s) {v : Value} {xs : List AVal} (h : V (At C fz) v (.tup xs)) : ∃ t vs, v = .ref t ∧ s.heap.IsTuple t vs.toArray ∧ Vs (At C fz) vs xs := by
  cases h with
  | tup h1 h2 h3 h4 => exact ⟨_, _, rfl, ⟨_, x.at_ ok h1, h2, _, h3⟩, h4⟩
theorem w1_assignS {ts : List Expr} {k : Nat} {tp : Pos} {e : Expr} {pos : Pos} {names : List Str} {Q : AFlow → AEnv → AHeap → Prop} (h : WE C n f e m σ fun a σ₁ => ∃ as, a = .tup as ∧ as.length = names.length ∧ TSs C n f names.reverse as.reverse m σ₁ fun m' σ' => Q .next m' σ')
    (hw : swappedStores [.Tuple ts k tp] e f.env = pure (some names)) (hs : swapsWithSole [.Tuple ts k tp] e pos.line f.env = pure false := by rfl) : W1 C n f (.Assign [.Tuple ts k tp] e pos) m σ Q := fun ok fz s E x => by
  refine Assign_Tuple_swapped (wpAny_mono (h ok fz s E x) (fun v s₁ ⟨fz₁, σ₁, a, u1, e1, x1, va, as, ea, hl, q1⟩ => ?_) fun _ _ x => x) hs hw
  subst ea
  obtain ⟨t, vs, rfl, ht, hvs⟩ := va.tuple_ ok x1
  have hlen : names.length = vs.toArray.size := by rw [List.size_toArray, hvs.length, hl]
  rw [hlen]
  refine wpAny_unpackItems_tuple ok.handled ht fun h' he => ?_
  exact wpAny_mono (q1 ok fz₁ { s₁ with heap := h' } E vs.reverse (x1.grow (t := s₁.toks) (ext_keeps he)) hvs.reverse) (fun _ s₂ ⟨fz₂, σ₂, m₂, u2, e2, x2, q2⟩ => ⟨fz₂, σ₂, m₂, .next, fun p hp => u2 p (u1 p hp), (e1.trans ⟨h', s₁.toks, rfl⟩).trans e2, x2, trivial, q2⟩) fun _ _ x => x

/-! ## loops -/
/-- the state, with some addresses kept apart -/
def SX (C : Cx) (f : Fm) (fz : Fz) (m : AEnv) (σ : AHeap) (wr : List Addr) (s : Shared) : Prop :=
  ∃ mc news δ, Fr f.h₀ f.L s.heap mc ∧ News f.h₀ f.L s.heap news ∧ HR C fz f.pin σ δ news ∧ ER (At C fz) m mc ∧ (∀ p ∈ news, p.1 ∉ wr) ∧ f.L ∉ wr ∧ ∀ b ∈ wr, f.h₀.get? b = none
theorem SX.sr {fz : Fz} {wr : List Addr} {s : Shared} (x : SX C f fz m σ wr s) : SR C f fz m σ s := by
  obtain ⟨mc, news, δ, F, N, R, e, _⟩ := x; exact ⟨mc, news, δ, F, N, R, e⟩
theorem SX.step {fz : Fz} {wr : List Addr} {s : Shared} {h' : Heap} {t : Nat} (x : SX C f fz m σ wr s) (k : ∀ b o, b ∉ wr → s.heap.get? b = some o → h'.get? b = some o) : SX C f fz m σ wr { s with heap := h', toks := t } := by
  obtain ⟨mc, news, δ, F, N, R, e, h1, h2, h3⟩ := x
  refine ⟨mc, news, δ, ⟨F.ns.at' fun o q => k _ o h2 q, fun b o q => k b o (fun hb => by rw [h3 b hb] at q; cases q) (F.keep b o q), F.above⟩, fun p hp => ⟨k _ _ (h1 p hp) (N p hp).1, (N p hp).2⟩, R, e, h1, h2, h3⟩
def ownP (wr : List Addr) (h : Heap) : Fz := wr.filterMap fun b => (h.get? b).map fun o => (b, o)
theorem mem_ownP {wr : List Addr} {h : Heap} {p : Addr × Obj} : p ∈ ownP wr h ↔ p.1 ∈ wr ∧ h.get? p.1 = some p.2 := by
  unfold ownP
  rw [List.mem_filterMap]
  constructor
  · rintro ⟨b, hb, e⟩
    obtain ⟨o, ho, rfl⟩ := Option.map_eq_some_iff.mp e
    exact ⟨hb, ho⟩
  · rintro ⟨h1, h2⟩
    exact ⟨p.1, h1, by rw [h2]; rfl⟩
theorem SX.pin {fz : Fz} {wr : List Addr} {s : Shared} (x : SX C f fz m σ wr s) : SR C (f.withPin (ownP wr s.heap ++ f.pin)) fz m σ s := by
  obtain ⟨mc, news, δ, F, N, R, e, h1, h2, h3⟩ := x
  have off : ∀ {p : Addr × Obj}, p ∈ ownP wr s.heap → p.1 ∈ wr := fun hp => (mem_ownP.mp hp).1
  have three : ∀ p ∈ fz ++ (ownP wr s.heap ++ f.pin), p ∈ ownP wr s.heap ∨ p ∈ fz ++ f.pin := fun p hp => by
    rcases List.mem_append.mp hp with hp | hp
    · exact .inr (List.mem_append_left _ hp)
    · rcases List.mem_append.mp hp with hp | hp
      · exact .inl hp
      · exact .inr (List.mem_append_right _ hp)
  refine ⟨mc, ownP wr s.heap ++ news, δ, F, fun p hp => ?_, ⟨fun p hp => ?_, fun p hp q hq => ?_, fun a ao h => (R.ob a ao h).mono (fun _ _ z => z) (fun _ q => List.mem_append_right _ q) fun _ _ _ _ q => List.mem_append_right _ q, fun a ao h p hp => ?_, fun a c as h p hp => ?_, R.dσ, R.dinj⟩, e⟩
  · rcases List.mem_append.mp hp with hp | hp
    · obtain ⟨a, b⟩ := mem_ownP.mp hp
      exact ⟨b, fun q => h2 (q ▸ a), h3 _ a⟩
    · exact N p hp
  · rcases three p hp with hp | hp
    · exact List.mem_append_left _ hp
    · exact List.mem_append_right _ (R.sub p hp)
  · rcases List.mem_append.mp hq with hq | hq
    · exact fun q' => h1 p (R.sub p (List.mem_append_left _ hp)) (q' ▸ off hq)
    · exact R.apart p hp q hq
  · rcases three p hp with hp | hp
    · obtain ⟨o, ho⟩ := (R.ob a ao h).key
      exact fun q => h1 _ ho (by show a ∈ wr; rw [← q]; exact off hp)
    · exact R.off a ao h p hp
  · rcases three p hp with hp | hp
    · obtain ⟨_, es, k, ho, _⟩ := R.ob a _ h
      exact fun q => h1 _ ho (by show δ a ∈ wr; rw [← q]; exact off hp)
    · exact R.doff a c as h p hp
theorem SX.unpin {fz : Fz} {wr : List Addr} {s : Shared} {own : Fz} (hl : ∀ b ∈ wr, ∃ o, (b, o) ∈ own) (hp : ∀ p ∈ f.pin, p.1 ∉ wr) (h2 : f.L ∉ wr) (h3 : ∀ b ∈ wr, f.h₀.get? b = none) (x : SR C (f.withPin (own ++ f.pin)) fz m σ s) : SX C f fz m σ wr s := by
  obtain ⟨mc, news, δ, F, N, R, e⟩ := x
  have inpin : ∀ {b o}, (b, o) ∈ own → (b, o) ∈ fz ++ (own ++ f.pin) := fun h => List.mem_append_right _ (List.mem_append_left _ h)
  have keepM : ∀ {p : Addr × Obj}, p ∈ news → p.1 ∉ wr → p ∈ news.filter (fun p => decide (p.1 ∉ wr)) := fun h q => List.mem_filter.mpr ⟨h, by simpa using q⟩
  have anw : ∀ a ao, σ a = some ao → a ∉ wr := fun a ao h q => by obtain ⟨o, ho⟩ := hl a q; exact R.off a ao h _ (inpin ho) rfl
  have dnw : ∀ a c as, σ a = some (.inst c as) → δ a ∉ wr := fun a c as h q => by obtain ⟨o, ho⟩ := hl _ q; exact R.doff a c as h _ (inpin ho) rfl
  have up : ∀ p ∈ fz ++ f.pin, p ∈ fz ++ (own ++ f.pin) := fun p hp => (List.mem_append.mp hp).elim (fun h => List.mem_append_left _ h) fun h => List.mem_append_right _ (List.mem_append_right _ h)
  refine ⟨mc, news.filter (fun p => decide (p.1 ∉ wr)), δ, F, fun p hp => N p (List.mem_filter.mp hp).1, ⟨fun p hp' => keepM (R.sub p (up p hp')) ?_, fun p hp q hq => R.apart p hp q (List.mem_append_right _ hq), fun a ao h => (R.ob a ao h).mono (fun _ _ z => z) (fun _ q => keepM q (anw a ao h)) fun c as ea _ q => keepM q (dnw a c as (ea ▸ h)), fun a ao h p hp => R.off a ao h p (up p hp), fun a c as h p hp => R.doff a c as h p (up p hp), R.dσ, R.dinj⟩, e, fun p hp => by simpa using (List.mem_filter.mp hp).2, h2, h3⟩
  rcases List.mem_append.mp hp' with h | h
  · intro q
    obtain ⟨o, ho⟩ := hl _ q
    exact R.apart p h _ (List.mem_append_left _ ho) rfl
  · exact hp p h
theorem Fm.Ok.pin {n : Nat} {p : Fz} (ok : f.Ok C n) : (f.withPin p).Ok C n := ⟨ok.below, ok.kin, ok.top, ok.hk, ok.stack, ok.handled, ok.guards, ok.depth, ok.units, ok.kind, ok.ckind⟩

/-- what a value yields when it is walked -/
structure Wk (C : Cx) (f : Fm) (fz : Fz) (I : Addr) (wr : List Addr) (xs : List AVal) (St : Nat → Heap → Prop) (Lent : Heap → Prop) (back : AHeap → AHeap) : Prop where
  go : ∀ i (s : Shared) (Q : Option Value → Shared → Prop) (E : Value → Shared → Prop) x, xs[i]? = some x → St i s.heap →
    (∀ v h' tk, V (At C fz) v x → St (i + 1) h' → (∀ b o, b ∉ wr → s.heap.get? b = some o → h'.get? b = some o) → Q (some v) { s with heap := h', toks := tk }) → wpAny (Md C) f.A (pyNext (.ref I)) Q E s
  done : ∀ (s : Shared) (Q : Option Value → Shared → Prop) (E : Value → Shared → Prop), St xs.length s.heap →
    (∀ h' tk, (∀ b o, b ∉ wr → s.heap.get? b = some o → h'.get? b = some o) → Lent h' → Q none { s with heap := h', toks := tk }) → wpAny (Md C) f.A (pyNext (.ref I)) Q E s
  live : ∀ i h, St i h → ∀ b ∈ wr, ∃ o, h.get? b = some o
  frame : ∀ i h h', St i h → (∀ b ∈ wr, ∀ o, h.get? b = some o → h'.get? b = some o) → (∀ b o, At C fz b o ∨ (b, o) ∈ f.pin → h'.get? b = some o) → St i h'
  lent : ∀ i h, St i h → Lent h
  back : ∀ fz' m' σ' s', (∀ p ∈ fz, p ∈ fz') → SX C f fz' m' σ' wr s' → Lent s'.heap → SR C f fz' m' (back σ') s'
  self : ∀ i (s : Shared) (Q : Value → Shared → Prop) (E : Value → Shared → Prop), St i s.heap → Q (.ref I) s → wpAny (Md C) f.A (pyIter (.ref I)) Q E s
  lentF : ∀ (h h' : Heap), Lent h → (∀ b ∈ wr, ∀ o, h.get? b = some o → h'.get? b = some o) → Lent h'
structure WkT (C : Cx) (f : Fm) (fz : Fz) (I : Addr) (wr : List Addr) (xs : List (List AVal)) (St : Nat → Heap → Prop) (Lent : Heap → Prop) (back : AHeap → AHeap) : Prop where
  go : ∀ i (s : Shared) (Q : Option Value → Shared → Prop) (E : Value → Shared → Prop) x, xs[i]? = some x → St i s.heap →
    (∀ T vs h' tk, Vs (At C fz) vs x → h'.IsTuple T vs.toArray → T ∉ wr → (∀ b o, b ∉ wr → s.heap.get? b = some o → h'.get? b = some o) →
      (∀ ts k pos (s₂ : Shared) (Q₂ : Unit → Shared → Prop) (E₂ : Value → Shared → Prop), s₂.heap = h' → (∀ h₂, St (i + 1) h₂ → (∀ b o, b ∉ wr → h'.get? b = some o → h₂.get? b = some o) → Q₂ () { s₂ with heap := h₂ }) → wpAny (Md C) f.A (letOwnedTupleGo (.Tuple ts k pos) (.ref I) (.ref T)) Q₂ E₂ s₂) →
      Q (some (.ref T)) { s with heap := h', toks := tk }) → wpAny (Md C) f.A (pyNext (.ref I)) Q E s
  done : ∀ (s : Shared) (Q : Option Value → Shared → Prop) (E : Value → Shared → Prop), St xs.length s.heap →
    (∀ h' tk, (∀ b o, b ∉ wr → s.heap.get? b = some o → h'.get? b = some o) → Lent h' → Q none { s with heap := h', toks := tk }) → wpAny (Md C) f.A (pyNext (.ref I)) Q E s
  live : ∀ i h, St i h → ∀ b ∈ wr, ∃ o, h.get? b = some o
  frame : ∀ i h h', St i h → (∀ b ∈ wr, ∀ o, h.get? b = some o → h'.get? b = some o) → (∀ b o, At C fz b o ∨ (b, o) ∈ f.pin → h'.get? b = some o) → St i h'
  lent : ∀ i h, St i h → Lent h
  back : ∀ fz' m' σ' s', (∀ p ∈ fz, p ∈ fz') → SX C f fz' m' σ' wr s' → Lent s'.heap → SR C f fz' m' (back σ') s'
/-- the head of a for: the value and its iterator -/
def WI (C : Cx) (n : Nat) (f : Fm) (e : Expr) (m : AEnv) (σ : AHeap) (Q : (AHeap → AHeap) → List AVal → AHeap → Prop) : Prop :=
  f.Ok C n → ∀ fz s E, SR C f fz m σ s → wpAny (Md C) f.A (eval e f.env) (fun v s₁ => wpAny (Md C) f.A (pyIter v) (fun it s' => ∃ fz' σ' I wr xs St Lent back, it = .ref I ∧ (∀ p ∈ fz, p ∈ fz') ∧ Same s s' ∧ SX C f fz' m σ' wr s' ∧ Wk C f fz' I wr xs St Lent back ∧ St 0 s'.heap ∧ Q back xs σ') E s₁) E s
def WIT (C : Cx) (n : Nat) (f : Fm) (e : Expr) (m : AEnv) (σ : AHeap) (Q : (AHeap → AHeap) → List (List AVal) → AHeap → Prop) : Prop :=
  f.Ok C n → ∀ fz s E, SR C f fz m σ s → wpAny (Md C) f.A (eval e f.env) (fun v s₁ => wpAny (Md C) f.A (pyIter v) (fun it s' => ∃ fz' σ' I wr xs St Lent back, it = .ref I ∧ (∀ p ∈ fz, p ∈ fz') ∧ Same s s' ∧ SX C f fz' m σ' wr s' ∧ WkT C f fz' I wr xs St Lent back ∧ St 0 s'.heap ∧ Q back xs σ') E s₁) E s
def TI (C : Cx) (n : Nat) (f : Fm) (a : AVal) (m : AEnv) (σ : AHeap) (Q : (AHeap → AHeap) → List AVal → AHeap → Prop) : Prop :=
  f.Ok C n → ∀ fz s E v, SR C f fz m σ s → V (At C fz) v a → wpAny (Md C) f.A (pyIter v) (fun it s' => ∃ fz' σ' I wr xs St Lent back, it = .ref I ∧ (∀ p ∈ fz, p ∈ fz') ∧ Same s s' ∧ SX C f fz' m σ' wr s' ∧ Wk C f fz' I wr xs St Lent back ∧ St 0 s'.heap ∧ Q back xs σ') E s
theorem wi {e : Expr} {Q : (AHeap → AHeap) → List AVal → AHeap → Prop} (h : WE C n f e m σ fun a σ₁ => TI C n f a m σ₁ Q) : WI C n f e m σ Q := fun ok fz s E x =>
  wpAny_mono (h ok fz s E x) (fun v s₁ ⟨fz₁, σ₁, a, u1, e1, x1, va, q1⟩ => wpAny_mono (q1 ok fz₁ s₁ E v x1 va) (fun it s₂ ⟨fz₂, σ₂, I, wr, xs, St, Lent, back, ei, u2, e2, r⟩ => ⟨fz₂, σ₂, I, wr, xs, St, Lent, back, ei, fun p hp => u2 p (u1 p hp), e1.trans e2, r⟩) fun _ _ x => x) fun _ _ x => x
/-- one turn: what must hold behind the body -/
def Turn (back : AHeap → AHeap) (Inv : AEnv → AHeap → Prop) (Q : AFlow → AEnv → AHeap → Prop) : AFlow → AEnv → AHeap → Prop
  | .next, m, σ => ∃ m' σ', (∀ y a, AEnv.get m' y = some a → AEnv.get m y = some a) ∧ AHeap.le σ' σ ∧ Inv m' σ'
  | .cont, m, σ => ∃ m' σ', (∀ y a, AEnv.get m' y = some a → AEnv.get m y = some a) ∧ AHeap.le σ' σ ∧ Inv m' σ'
  | .brk, m, σ => Q .next m (back σ)
  | .ret a, m, σ => Q (.ret a) m (back σ)
theorem w1_forB {y : Str} {py : Pos} {iter : Expr} {body : List Stmt} {pos : Pos} {Q : AFlow → AEnv → AHeap → Prop} (Inv : (AHeap → AHeap) → List AVal → AEnv → AHeap → Prop)
    (h : WI C n f iter m σ fun back xs σ₂ => Inv back xs m σ₂)
    (turn : ∀ back pin x xs m' σ', Inv back (x :: xs) m' σ' → TS C n (f.withPin pin) y x m' σ' fun m₁ σ₁ => WS C n (f.withPin pin) body m₁ σ₁ (Turn back (Inv back xs) Q))
    (done : ∀ back m' σ', Inv back [] m' σ' → Q .next m' (back σ')) (hs : ∀ x, foldedSetIterable iter f.env x = pure x := by intro _; rfl) : W1 C n f (.For (.Name y py) iter body [] pos) m σ Q := fun ok fz s E x => by
  refine wpAny_For (wpAny_mono (h ok fz s E x) (fun v s₁ q1 => wpAny_mono q1 (fun it s₂ ⟨fz₂, σ₂, I, wr, xs, St, Lent, back, ei, u2, e2, x2, W, st, q2⟩ => ?_) fun _ _ x => x) fun _ _ x => x) hs
  subst ei
  have hpin : ∀ p ∈ f.pin, p.1 ∉ wr := by
    obtain ⟨mc, news, δ, F, N, R, e, h1, h2, h3⟩ := x2
    exact fun p hp => h1 p (R.sub p (List.mem_append_right _ hp))
  have hL : f.L ∉ wr := by obtain ⟨mc, news, δ, F, N, R, e, h1, h2, h3⟩ := x2; exact h2
  have h0 : ∀ b ∈ wr, f.h₀.get? b = none := by obtain ⟨mc, news, δ, F, N, R, e, h1, h2, h3⟩ := x2; exact h3
  refine codeAny_forLoop (fun k s' => ∃ fz' m' σ' i, (∀ p ∈ fz₂, p ∈ fz') ∧ Same s₂ s' ∧ SX C f fz' m' σ' wr s' ∧ St i s'.heap ∧ Inv back (xs.drop i) m' σ' ∧ i ≤ xs.length ∧ k = xs.length - i) ?_ (xs.length) ⟨fz₂, m, σ₂, 0, sub_refl, .rfl, x2, st, q2, Nat.zero_le _, rfl⟩
  rintro k s' ⟨fz', m', σ', i, u3, e3, x3, st3, q3, hi, rfl⟩
  have uu : ∀ p ∈ fz, p ∈ fz' := fun p hp => u3 p (u2 p hp)
  cases hx : xs[i]? with
  | none =>
    have hlen : i = xs.length := by have := List.getElem?_eq_none_iff.mp hx; omega
    subst hlen
    refine W.done _ _ _ st3 fun h' tk k hl => wpAny_execs_nil ?_
    rw [List.drop_length] at q3
    exact ⟨fz', back σ', m', .next, uu, (e2.trans e3).trans ⟨_, _, rfl⟩, W.back _ _ _ _ u3 (x3.step (t := tk) k) hl, trivial, done _ _ _ q3⟩
  | some b =>
    obtain ⟨hlt, hb⟩ := List.getElem?_eq_some_iff.mp hx
    have hd : xs.drop i = b :: xs.drop (i + 1) := by rw [List.drop_eq_getElem_cons hlt, hb]
    rw [hd] at q3
    refine W.go i _ _ _ b hx st3 fun v h' tk hv st' k => ?_
    have x4 := x3.step (t := tk) k
    have x5 := x4.pin
    refine PyProof.Rows.assign_Name (wpAny_mono (turn back (ownP wr h' ++ f.pin) b _ m' σ' q3 ok.pin fz' _ _ v x5 (hv.up u3)) (fun _ s₅ ⟨fz₅, σ₅, m₅, u5, e5, x6, q5⟩ => ?_) fun _ _ x => x)
    refine wpAny_mono (q5 ok.pin fz₅ s₅ _ x6) (fun fl s₆ ⟨fz₆, σ₆, m₆, a₆, u6, e6, x7, va6, q6⟩ => ?_) fun _ _ x => x
    have es : Same s s₆ := ((((e2.trans e3).trans ⟨_, _, rfl⟩).trans e5).trans e6)
    have us : ∀ p ∈ fz, p ∈ fz₆ := fun p hp => u6 p (u5 p (uu p hp))
    have u26 : ∀ p ∈ fz₂, p ∈ fz₆ := fun p hp => u6 p (u5 p (u3 p hp))
    have un : ∀ {m' : AEnv} {σ' : AHeap}, SR C (f.withPin (ownP wr h' ++ f.pin)) fz₆ m' σ' s₆ → SX C f fz₆ m' σ' wr s₆ := fun x => SX.unpin (fun b hb => by obtain ⟨o, ho⟩ := W.live _ _ st' b hb; exact ⟨o, (mem_ownP (p := (b, o))).mpr ⟨hb, ho⟩⟩) hpin hL h0 x
    have st6 : St (i + 1) s₆.heap := by
      refine W.frame _ _ _ st' (fun b hb o ho => ?_) fun b o q => ?_
      · obtain ⟨mc, news, δ, F, N, R, e⟩ := x7
        exact (N _ (R.sub _ (List.mem_append_right _ (List.mem_append_left _ ((mem_ownP (p := (b, o))).mpr ⟨hb, ho⟩))))).1
      · rcases q with q | q
        · exact (x7.at_ ok.pin (q.mono u26))
        · obtain ⟨mc, news, δ, F, N, R, e⟩ := x7
          exact (N _ (R.sub _ (List.mem_append_right _ (List.mem_append_right _ q)))).1
    have bk := W.back _ _ _ _ u26 (un x7) (W.lent _ _ st6)
    have next : Turn back (Inv back (xs.drop (i + 1))) Q .next m₆ σ₆ → ∃ m, m < xs.length - i ∧ ∃ fz' m' σ' i, (∀ p ∈ fz₂, p ∈ fz') ∧ Same s₂ s₆ ∧ SX C f fz' m' σ' wr s₆ ∧ St i s₆.heap ∧ Inv back (xs.drop i) m' σ' ∧ i ≤ xs.length ∧ m = xs.length - i := by
      rintro ⟨m₇, σ₇, hm, hσ, q7⟩
      exact ⟨xs.length - (i + 1), by omega, fz₆, m₇, σ₇, i + 1, u26, ((e3.trans ⟨_, _, rfl⟩).trans e5).trans e6, un (x7.weaken hm hσ), st6, q7, hlt, rfl⟩
    cases fl with
    | next => cases a₆ <;> first | exact next q6 | exact va6.elim
    | cont => cases a₆ <;> first | exact next q6 | exact va6.elim
    | brk => cases a₆ <;> first | exact ⟨fz₆, back σ₆, m₆, .next, us, es, bk, trivial, q6⟩ | exact va6.elim
    | ret r => cases a₆ <;> first | exact ⟨fz₆, back σ₆, m₆, .ret _, us, es, bk, va6, q6⟩ | exact va6.elim
end
end Mine

open PySem PySem.W PyProof.Rows PySem.Calls
namespace Mine
section
variable {C : Cx} {n : Nat} {f : Fm} {m : AEnv} {σ : AHeap}
theorem size_none (h : Heap) : h.get? h.objs.size = none := by
  cases q : h.get? h.objs.size with
  | none => rfl
  | some o => exact absurd (Heap.lt_size q) (Nat.lt_irrefl _)
theorem ge_none {h : Heap} {a : Addr} (ha : h.objs.size ≤ a) : h.get? a = none := by
  cases q : h.get? a with
  | none => rfl
  | some o => exact absurd (Heap.lt_size q) (Nat.not_lt.mpr ha)
/-- one new frozen object -/
theorem PV.new {fz : Fz} {s : Shared} {Q : AVal → AHeap → Prop} {a : AVal} {h' : Heap} {t : Nat} {b : Addr} {o : Obj} (x : SR C f fz m σ s) (k : ∀ b o, s.heap.get? b = some o → h'.get? b = some o) (hb : s.heap.objs.size ≤ b) (ho : h'.get? b = some o)
    (hv : ∀ fz', (b, o) ∈ fz' → (∀ p ∈ fz, p ∈ fz') → V (At C fz') (.ref b) a) (q : Q a σ) : PV C f m fz s Q (.ref b) { s with heap := h', toks := t } :=
  ⟨[(b, o)] ++ fz, σ, a, fun p hp => List.mem_append_right _ hp, .mk, x.freeze (t := t) k _ (fun p hp => by rw [List.mem_singleton.mp hp]; exact ⟨ge_none hb, hb, ho⟩), hv _ (List.mem_append_left _ (List.mem_singleton.mpr rfl)) (fun p hp => List.mem_append_right _ hp), q⟩
theorem PV.push {fz : Fz} {s : Shared} {Q : AVal → AHeap → Prop} {a : AVal} {t : Nat} {o : Obj} (x : SR C f fz m σ s) (hf : o.isFreed = false) (hv : ∀ fz', (s.heap.objs.size, o) ∈ fz' → (∀ p ∈ fz, p ∈ fz') → V (At C fz') (.ref s.heap.objs.size) a) (q : Q a σ) :
    PV C f m fz s Q (.ref s.heap.objs.size) { s with heap := s.heap.push o, toks := t } := .new x (fun b o e => Heap.get?_push_of_some _ e) (Nat.le_refl _) (Heap.get?_push_size _ hf) hv q
theorem PV.grow {fz : Fz} {s : Shared} {Q : AVal → AHeap → Prop} {v : Value} {a : AVal} {h' : Heap} {t : Nat} (x : SR C f fz m σ s) (k : ∀ b o, s.heap.get? b = some o → h'.get? b = some o) (hv : V (At C fz) v a) (q : Q a σ) : PV C f m fz s Q v { s with heap := h', toks := t } :=
  ⟨fz, σ, a, sub_refl, .mk, x.grow (t := t) k, hv, q⟩

/-! ## ints -/
section
variable {Q : AVal → AHeap → Prop} {a b : Int}
theorem t2_add (h : Q (.int (a + b)) σ) : T2 C n f (binaryOp .Add) (.int a) (.int b) m σ Q := fun ok fz s E v w x hv hw => by cases hv; cases hw; exact add_int (.tok x (.int _ _) h)
theorem t2_div (hb : b ≠ 0) (hs : b.natAbs < 1073741824) (h : Q (.int (a.fdiv b)) σ) : T2 C n f (binaryOp .FloorDiv) (.int a) (.int b) m σ Q := fun ok fz s E v w x hv hw => by cases hv; cases hw; exact floordiv_int hb (.tok x (.int _ _) h) (.inl (PyProof.noPylong_small hs))
theorem t2_mod (hb : b ≠ 0) (hs : b.natAbs < 1073741824) (h : Q (.int (a.fmod b)) σ) : T2 C n f (binaryOp .Mod) (.int a) (.int b) m σ Q := fun ok fz s E v w x hv hw => by cases hv; cases hw; exact mod_int' hb (.tok x (.int _ _) h)
theorem t1_neg (h : Q (.int (-a)) σ) : T1 C n f (unaryOp .USub) (.int a) m σ Q := fun ok fz s E v x hv => by cases hv; exact PyProof.Rows.neg_int (.tok x (.int _ _) h)
theorem t2_eq (h : Q (.bool (a == b)) σ) : T2 C n f (compareOp .Eq) (.int a) (.int b) m σ Q := fun ok fz s E v w x hv hw => by cases hv; cases hw; exact PyProof.Rows.eq_int (.here x (.bool _) h)
end

/-! ## None -/
def isNone : AVal → Option Bool
  | .none => some true
  | .raw _ => Option.none
  | _ => some false
/-! ## builtins called -/
theorem keep_builtin {h : Heap} {i : String} : Keep C h (.builtin i) := ⟨.machine, .inr (.inl rfl), Looks.of_pure rfl⟩
theorem keep_type {h : Heap} {i : String} : Keep C h (.type i) := ⟨.machine, .inr (.inl rfl), Looks.of_pure rfl⟩
theorem tc_range1 {a : Int} {Q : AVal → AHeap → Prop} (h : Q (.rng 0 a 1) σ) : TC C n f (.raw (.type "range")) [.int a] m σ Q := fun ok fz s E v vs x hv hvs => by
  cases hv; obtain _ | ⟨h1, h2⟩ := hvs; cases h2; cases h1
  exact ⟨keep_type, call_range_1 (.push x rfl (fun fz' h _ => .rng (.inl h)) h)⟩
/-! ## iterators -/
theorem SX.ofPush {fz : Fz} {s : Shared} {o : Obj} {t : Nat} (x : SR C f fz m σ s) : SX C f fz m σ [s.heap.objs.size] { s with heap := s.heap.push o, toks := t } := by
  obtain ⟨mc, news, δ, F, N, R, e⟩ := x
  obtain ⟨oL, a1, a2, hL, a3⟩ := id F.ns
  refine ⟨mc, news, δ, F.push o, fun p hp => ⟨Heap.get?_push_of_some _ (N p hp).1, (N p hp).2⟩, R, e, fun p hp hm => ?_, fun hm => ?_, fun b hb => ?_⟩
  · exact absurd (news_lt N hp) (by rw [List.mem_singleton.mp hm]; exact Nat.lt_irrefl _)
  · exact absurd (Heap.lt_size hL) (by rw [List.mem_singleton.mp hm]; exact Nat.lt_irrefl _)
  · rw [List.mem_singleton.mp hb]
    cases q : f.h₀.get? s.heap.objs.size with
    | none => rfl
    | some o => exact absurd (Heap.lt_size (F.keep _ _ q)) (Nat.lt_irrefl _)
theorem ti_lst {xs : List AVal} {Q : (AHeap → AHeap) → List AVal → AHeap → Prop} (h : Q id xs σ) : TI C n f (.lst xs) m σ Q := fun ok fz s E v x hv => by
  cases hv with
  | lst p1 p2 p3 p4 =>
    rename_i l o k vs
    have ho := x.at_ ok p1
    have hl : s.heap.IsList l vs.toArray := ⟨_, ho, p2, _, p3⟩
    have hne : l ≠ s.heap.objs.size := Nat.ne_of_lt (Heap.lt_size ho)
    refine wpAny_pyIter_list hl ?_
    have W := Walks.list (prog := C.prog) (w := C.w) ok.handled s.heap.objs.size l hne vs.toArray
    refine ⟨fz, σ, s.heap.objs.size, [s.heap.objs.size], xs, fun i h => h.IsListIter s.heap.objs.size l i ∧ h.IsList l vs.toArray, fun _ => True, id, rfl, sub_refl, ⟨_, s.toks, rfl⟩, SX.ofPush (t := s.toks) x, ⟨?_, ?_, ?_, ?_, fun _ _ _ => trivial, fun _ _ _ _ _ x _ => x.sr, fun i s Q E h q => W.self i s Q E h q, fun _ _ _ _ => trivial⟩, ⟨⟨_, Heap.get?_push_size _ rfl, rfl, rfl⟩, hl.at fun o e => Heap.get?_push_of_some _ e⟩, h⟩
    · intro i s Q E y hy hs hQ
      have hi : i < vs.toArray.size := by rw [List.size_toArray, p4.length]; exact (List.getElem?_eq_some_iff.mp hy).1
      refine W.item i s Q E hi hs fun v h' tk hv => hQ v h' tk ?_
      obtain ⟨u, h1, h2⟩ := p4.get hy
      have : vs[i]? = some v := by simpa using hv
      rw [h1] at this; cases this; exact h2
    · intro s Q E hs hQ
      have hz : vs.toArray.size = xs.length := by rw [List.size_toArray, p4.length]
      refine W.done s Q E (by rw [hz]; exact hs) fun h' tk k => hQ h' tk k trivial
    · intro i h hs b hb
      rw [List.mem_singleton.mp hb]
      obtain ⟨o, h1, _⟩ := hs.1; exact ⟨o, h1⟩
    · intro i h h' hs hw hp
      exact ⟨hs.1.at fun o e => hw _ (List.mem_singleton.mpr rfl) o e, ⟨_, hp _ _ (.inl p1), p2, _, p3⟩⟩
def rngL (a c : Int) (k : Nat) : List AVal := (List.range k).map fun (i : Nat) => AVal.int (a + (i : Int) * c)
theorem ti_rng {a b c : Int} {k : Nat} {Q : (AHeap → AHeap) → List AVal → AHeap → Prop} (hsmall : Builtin.Range.small a b c = true) (hk : Builtin.Range.rangeSize a b c = (k : Int)) (h : Q id (rngL a c k) σ) : TI C n f (.rng a b c) m σ Q := fun ok fz s E v x hv => by
  cases hv with
  | rng p1 =>
    have ho := x.at_ ok p1
    refine wpAny_pyIter_range ho hsmall ?_
    have W := Walks.range (prog := C.prog) (w := C.w) ok.handled s.heap.objs.size a c k
    have hlen : (rngL a c k).length = k := by simp [rngL]
    refine ⟨fz, σ, s.heap.objs.size, [s.heap.objs.size], rngL a c k, fun i h => IsRangeIter h s.heap.objs.size (a + (i : Nat) * c) ((k : Int) - (i : Nat)) c, fun _ => True, id, rfl, sub_refl, ⟨_, s.toks, rfl⟩, SX.ofPush (t := s.toks) x, ⟨?_, ?_, ?_, ?_, fun _ _ _ => trivial, fun _ _ _ _ _ x _ => x.sr, fun i s Q E h q => W.self i s Q E h q, fun _ _ _ _ => trivial⟩, ?_, h⟩
    · intro i s Q E y hy hs hQ
      have hi : i < k := by have := (List.getElem?_eq_some_iff.mp hy).1; omega
      refine W.item i s Q E hi hs fun v h' tk hv => hQ v h' tk ?_
      obtain ⟨t, rfl⟩ := hv
      have : y = .int (a + i * c) := by simp [rngL, hi] at hy; exact hy.symm
      subst this
      exact .int _ _
    · intro s Q E hs hQ
      exact W.done s Q E (by rw [hlen] at hs; exact hs) fun h' tk k => hQ h' tk k trivial
    · intro i h hs b hb
      rw [List.mem_singleton.mp hb]
      exact ⟨_, hs⟩
    · intro i h h' hs hw hp
      exact hw _ (List.mem_singleton.mpr rfl) _ hs
    · show IsRangeIter _ _ _ _ _
      rw [hk]
      simpa using Heap.get?_push_size s.heap (o := { cls := .type "range_iterator", data := .fields #[rawInt a, rawInt k, rawInt c] }) rfl
theorem w1_for {y : Str} {py : Pos} {iter : Expr} {body : List Stmt} {pos : Pos} {Q : AFlow → AEnv → AHeap → Prop} (Inv : List AVal → AEnv → AHeap → Prop)
    (h : WI C n f iter m σ fun back xs σ₂ => back = id ∧ Inv xs m σ₂)
    (turn : ∀ pin x xs m' σ', Inv (x :: xs) m' σ' → TS C n (f.withPin pin) y x m' σ' fun m₁ σ₁ => WS C n (f.withPin pin) body m₁ σ₁ (Turn id (Inv xs) Q))
    (done : ∀ m' σ', Inv [] m' σ' → Q .next m' σ') (hs : ∀ x, foldedSetIterable iter f.env x = pure x := by intro _; rfl) : W1 C n f (.For (.Name y py) iter body [] pos) m σ Q := by
  refine w1_forB (fun back xs m σ => back = id ∧ Inv xs m σ) h (fun back pin x xs m' σ' ⟨e, q⟩ => ?_) (fun back m' σ' ⟨e, q⟩ => by subst e; exact done _ _ q) hs
  subst e
  have key : Turn id (Inv xs) Q = Turn id (fun m σ => id = (id : AHeap → AHeap) ∧ Inv xs m σ) Q := by
    funext a m σ; cases a <;> simp [Turn]
  rw [← key]
  exact turn pin x xs m' σ' q
end
end Mine

open PySem PySem.W PyProof.Rows PySem.Calls
namespace Mine
section
variable {C : Cx} {n : Nat} {f : Fm} {m : AEnv} {σ : AHeap}
theorem HR.addFz {fz pin : Fz} {δ : Addr → Addr} {news : List (Addr × Obj)} (R : HR C fz pin σ δ news) (new : Fz) (hn : ∀ p ∈ new, ∀ q ∈ news, q.1 ≠ p.1) : HR C (new ++ fz) pin σ δ (new ++ news) := by
  have up : ∀ p ∈ fz, p ∈ new ++ fz := fun p hp => List.mem_append_right _ hp
  have split : ∀ p ∈ (new ++ fz) ++ pin, p ∈ new ∨ p ∈ fz ++ pin := fun p hp => by rw [List.append_assoc] at hp; exact List.mem_append.mp hp
  refine ⟨fun p hp => ?_, fun p hp q hq => ?_, fun a ao h => (R.ob a ao h).mono (fun _ _ => At.mono up) (fun _ q => List.mem_append_right _ q) fun _ _ _ _ q => List.mem_append_right _ q, fun a ao h p hp => ?_, fun a c as h p hp => ?_, R.dσ, R.dinj⟩
  · rcases split p hp with hp | hp
    · exact List.mem_append_left _ hp
    · exact List.mem_append_right _ (R.sub _ hp)
  · rcases List.mem_append.mp hp with hp | hp
    · exact fun e => hn p hp q (R.sub _ (List.mem_append_right _ hq)) e.symm
    · exact R.apart p hp q hq
  · rcases split p hp with hp | hp
    · obtain ⟨o, ho⟩ := (R.ob a ao h).key; exact fun q => hn p hp _ ho q.symm
    · exact R.off a ao h p hp
  · rcases split p hp with hp | hp
    · obtain ⟨_, es, k, ho, _⟩ := R.ob a _ h; exact fun q => hn p hp _ ho q.symm
    · exact R.doff a c as h p hp
theorem ER.up {fz fz' : Fz} {mc : Str → Option Value} (h : ∀ p ∈ fz, p ∈ fz') (e : ER (At C fz) m mc) : ER (At C fz') m mc := fun y a hy => by obtain ⟨v, h1, h2⟩ := e y a hy; exact ⟨v, h1, h2.up h⟩

/-! ## things of a class -/
theorem tc_fin {c : Addr} {Q : AVal → AHeap → Prop} (hk : keepIn C.K (.ref c) = true) (hm : makesIn C.K c = true) (hi : findIn C.K (.ref c) "__init__" = some (some (.builtin "object.__init__"))) (h : Q (.fin c) σ) : TC C n f (.raw (.ref c)) [] m σ Q := fun ok fz s E v vs x hv hvs => by
  cases hv; cases hvs
  refine ⟨keep_K ok x hk, ?_⟩
  obtain ⟨mc, news, δ, F, N, R, e⟩ := x
  refine call_cls0 F ok.kin N hm hi fun y d h' F' N' l1 l2 => ?_
  have hn : ∀ p ∈ [(y, instObj c d), (d, dictOf [] 0)], ∀ q ∈ news, q.1 ≠ p.1 := fun p hp q hq => by
    have := l1 q hq
    rcases List.mem_cons.mp hp with rfl | hp
    · exact Nat.ne_of_lt (Nat.lt_trans this l2)
    · rw [List.mem_singleton.mp hp]; exact Nat.ne_of_lt this
  have up : ∀ p ∈ fz, p ∈ [(y, instObj c d), (d, dictOf [] 0)] ++ fz := fun p hp => List.mem_append_right _ hp
  exact ⟨[(y, instObj c d), (d, dictOf [] 0)] ++ fz, σ, .fin c, up, ⟨h', s.toks, rfl⟩, ⟨mc, _, δ, F', N', R.addFz _ hn, e.up up⟩, .fin (.inl (List.mem_append_left _ (List.mem_cons_self ..))) (.inl (List.mem_append_left _ (List.mem_cons_of_mem _ (List.mem_cons_self ..)))), h⟩
theorem HR.addInst {fz pin : Fz} {δ : Addr → Addr} {news : List (Addr × Obj)} {y d c : Addr} (R : HR C fz pin σ δ news) (l1 : ∀ q ∈ news, q.1 < d) (l2 : d < y) :
    HR C fz pin (σ.set y (.inst c [])) (fun b => if b = y then d else δ b) ((y, instObj c d) :: (d, dictOf [] 0) :: news) := by
  have ny : ∀ q ∈ news, q.1 ≠ y := fun q hq => Nat.ne_of_lt (Nat.lt_trans (l1 q hq) l2)
  have nd : ∀ q ∈ news, q.1 ≠ d := fun q hq => Nat.ne_of_lt (l1 q hq)
  have ky : ∀ b bo, σ b = some bo → b ≠ y ∧ b ≠ d := fun b bo hb => by obtain ⟨o, h⟩ := (R.ob b bo hb).key; exact ⟨ny _ h, nd _ h⟩
  have kd : ∀ b c as, σ b = some (.inst c as) → δ b ≠ y ∧ δ b ≠ d := fun b c as hb => by obtain ⟨_, es, k, h, _⟩ := R.ob b _ hb; exact ⟨ny _ h, nd _ h⟩
  have hσd : σ d = none := by
    cases q : σ d with
    | none => rfl
    | some o => exact absurd rfl (ky d o q).2
  have hne : y ≠ d := Nat.ne_of_gt l2
  refine ⟨fun p hp => .tail _ (.tail _ (R.sub p hp)), R.apart, fun b bo hb => ?_, fun b bo hb p hp => ?_, fun b c₁ as hb p hp => ?_, fun b c₁ as hb => ?_, fun b c₁ as b' c' bs h1 h2 => ?_⟩
  · by_cases q : b = y
    · subst q; rw [AHeap.set_same] at hb; cases hb
      rw [if_pos rfl]
      exact ⟨List.mem_cons_self .., [], 0, .tail _ (List.mem_cons_self ..), .nil⟩
    · rw [AHeap.set_ne _ _ q] at hb
      rw [if_neg q]
      exact (R.ob b bo hb).mono (fun _ _ x => x) (fun _ hm => .tail _ (.tail _ hm)) fun c as eb _ hm => .tail _ (.tail _ hm)
  · by_cases q : b = y
    · subst q; exact ny _ (R.sub p hp)
    · rw [AHeap.set_ne _ _ q] at hb; exact R.off b bo hb p hp
  · by_cases q : b = y
    · rw [if_pos q]; exact nd _ (R.sub p hp)
    · rw [AHeap.set_ne _ _ q] at hb; rw [if_neg q]; exact R.doff b c₁ as hb p hp
  · by_cases q : b = y
    · rw [if_pos q, AHeap.set_ne _ _ (Ne.symm hne)]; exact hσd
    · rw [AHeap.set_ne _ _ q] at hb; rw [if_neg q, AHeap.set_ne _ _ (kd b c₁ as hb).1]; exact R.dσ b c₁ as hb
  · by_cases q : b = y <;> by_cases q' : b' = y
    · intro _; rw [q, q']
    · rw [AHeap.set_ne _ _ q'] at h2; rw [if_pos q, if_neg q']; exact fun e => absurd e.symm (kd b' c' bs h2).2
    · rw [AHeap.set_ne _ _ q] at h1; rw [if_neg q, if_pos q']; exact fun e => absurd e (kd b c₁ as h1).2
    · rw [AHeap.set_ne _ _ q] at h1; rw [AHeap.set_ne _ _ q'] at h2; rw [if_neg q, if_neg q']; exact R.dinj b c₁ as b' c' bs h1 h2
theorem HR.noneAt {fz pin : Fz} {δ : Addr → Addr} {news : List (Addr × Obj)} {y : Addr} (R : HR C fz pin σ δ news) (l : ∀ q ∈ news, q.1 ≠ y) : σ y = none := by
  cases q : σ y with
  | none => rfl
  | some o => obtain ⟨o, h⟩ := (R.ob y o q).key; exact absurd rfl (l _ h)
/-- a thing of a class without __init__, that may change -/
theorem tc_inst0 {c : Addr} {Q : AVal → AHeap → Prop} (hk : keepIn C.K (.ref c) = true) (hm : makesIn C.K c = true) (hi : findIn C.K (.ref c) "__init__" = some (some (.builtin "object.__init__"))) (h : ∀ a, σ a = none → Q (.obj a) (σ.set a (.inst c []))) :
    TC C n f (.raw (.ref c)) [] m σ Q := fun ok fz s E v vs x hv hvs => by
  cases hv; cases hvs
  refine ⟨keep_K ok x hk, ?_⟩
  obtain ⟨mc, news, δ, F, N, R, e⟩ := x
  refine call_cls0 F ok.kin N hm hi fun y d h' F' N' l1 l2 => ?_
  exact ⟨fz, _, .obj y, sub_refl, ⟨h', s.toks, rfl⟩, ⟨mc, _, _, F', N', R.addInst l1 l2, e⟩, .obj y, h y (R.noneAt fun q hq => Nat.ne_of_lt (Nat.lt_trans (l1 q hq) l2))⟩
/-! ## type, is -/
theorem tc_type_int {i : Int} {Q : AVal → AHeap → Prop} (h : Q (.raw (.type "int")) σ) : TC C n f (.raw (.type "type")) [.int i] m σ Q := fun ok fz s E v vs x hv hvs => by
  cases hv; obtain _ | ⟨h1, h2⟩ := hvs; cases h2; cases h1
  exact ⟨keep_type, call_type_of (typeIs_int s _ _) (by decide) (.here x (.raw _) h)⟩
theorem t2_isRaw {a b : Value} {Q : AVal → AHeap → Prop} (hp : plainIs a b = true) (h : Q (.bool (a == b)) σ) : T2 C n f (compareOp .Is) (.raw a) (.raw b) m σ Q := fun ok fz s E v w x hv hw => by
  cases hv; cases hw; exact wpAny_is_plain hp (.here x (.bool _) h)
/-! ## functions of ints -/
/-! ## lists -/
theorem SR.newFz {fz : Fz} {s : Shared} (x : SR C f fz m σ s) : ∃ mc news, Fr f.h₀ f.L s.heap mc ∧ News f.h₀ f.L s.heap news ∧
    ∀ h' t o, Fr f.h₀ f.L h' mc → News f.h₀ f.L h' ((s.heap.objs.size, o) :: news) → SR C f ([(s.heap.objs.size, o)] ++ fz) m σ { s with heap := h', toks := t } := by
  obtain ⟨mc, news, δ, F, N, R, e⟩ := x
  refine ⟨mc, news, F, N, fun h' t o F' N' => ⟨mc, _, δ, F', N', R.addFz [(s.heap.objs.size, o)] fun p hp q hq => ?_, e.up fun p hp => List.mem_append_right _ hp⟩⟩
  rw [List.mem_singleton.mp hp]
  exact Nat.ne_of_lt (news_lt N hq)
/-- a list, frozen or not: its items now -/
def items (σ : AHeap) : AVal → Option (List AVal)
  | .lst xs => some xs
  | .obj a => match σ a with
    | some (.list xs) => some xs
    | _ => none
  | _ => none
theorem V.items {fz : Fz} {s : Shared} (ok : f.Ok C n) (x : SR C f fz m σ s) {v : Value} {a : AVal} {xs : List AVal} (h : V (At C fz) v a) (e : items σ a = some xs) : ∃ l vs, v = .ref l ∧ s.heap.IsList l vs.toArray ∧ Vs (At C fz) vs xs := by
  cases h with
  | obj a =>
    have e' : (match σ a with | some (.list xs) => some xs | _ => Option.none) = some xs := e
    split at e'
    · rename_i ys hs; cases e'
      obtain ⟨vs, k, h1, h2⟩ := x.list hs
      exact ⟨a, vs, rfl, ⟨_, h1, rfl, _, rfl⟩, h2⟩
    · cases e'
  | lst h1 h2 h3 h4 => cases e; exact ⟨_, _, rfl, ⟨_, x.at_ ok h1, h2, _, h3⟩, h4⟩
  | _ => cases e
theorem t2_cat {a b : AVal} {xs ys : List AVal} {Q : AVal → AHeap → Prop} (ha : items σ a = some xs) (hb : items σ b = some ys) (hl : xs.length + ys.length ≤ sizeLine) (h : Q (.lst (xs ++ ys)) σ) : T2 C n f (binaryOp .Add) a b m σ Q := fun ok fz s E v w x hv hw => by
  obtain ⟨l, vs, rfl, hlv, hvs⟩ := hv.items ok x ha
  obtain ⟨l', ws, rfl, hlw, hws⟩ := hw.items ok x hb
  obtain ⟨mc, news, F, N, k⟩ := x.newFz
  refine add_lists F N hlv hlw (fun h' F' N' => ?_) (by rw [hvs.length, hws.length]; exact hl)
  exact ⟨_, σ, .lst (xs ++ ys), fun p hp => List.mem_append_right _ hp, ⟨h', s.toks, rfl⟩, k h' s.toks _ F' N', .lst (.inl (List.mem_append_left _ (List.mem_singleton.mpr rfl))) rfl rfl ((hvs.append hws).up fun p hp => List.mem_append_right _ hp), h⟩
end
end Mine

open PySem PySem.W PyProof.Rows PySem.Calls
namespace Mine
section
variable {C : Cx} {n : Nat} {f : Fm} {m : AEnv} {σ : AHeap}
def enumFrom (k : Nat) : List AVal → List (List AVal)
  | [] => []
  | x :: xs => [.int k, x] :: enumFrom (k + 1) xs
end
end Mine
namespace Mine
section
variable {C : Cx} {n : Nat} {f : Fm} {m : AEnv} {σ : AHeap}
/-! ## methods of lists -/
def scalar : AVal → Bool
  | .none => true
  | .bool _ => true
  | .int _ => true
  | .str _ => true
  | _ => false
def notNone : AVal → Bool
  | .none => false
  | _ => true
end
end Mine

open PySem PySem.W PyProof.Rows PySem.Calls
namespace Mine
end Mine
namespace Mine
theorem vs_ints {P : Addr → Obj → Prop} : ∀ {vs : List Value} {ns : List Int}, IntsAre vs ns → Vs P vs (ns.map .int)
  | _, _, .nil => .nil
  | _, _, .cons n t r => .cons (.int n t) (vs_ints r)
end Mine

open PySem PySem.W PyProof.Rows PySem.Calls
namespace Mine
section
variable {C : Cx} {n : Nat} {f : Fm} {m : AEnv} {σ : AHeap}
theorem WE.cut {e : Expr} {Q P : AVal → AHeap → Prop} (h : WE C n f e m σ P) (k : ∀ a σ₁, P a σ₁ → Q a σ₁) : WE C n f e m σ Q := fun ok fz s E x =>
  wpAny_mono (h ok fz s E x) (fun v s₁ ⟨fz₁, σ₁, a, u1, e1, x1, va, q1⟩ => ⟨fz₁, σ₁, a, u1, e1, x1, va, k _ _ q1⟩) fun _ _ x => x

/-! ## items by place -/
theorem we_sub {value slice : Expr} {pos : Pos} {Q : AVal → AHeap → Prop} (h : WE C n f value m σ fun a σ₁ => WE C n f slice m σ₁ fun b σ₂ => T2 C n f (subscriptTail value slice) a b m σ₂ Q) : WE C n f (.Subscript value slice pos) m σ Q := fun ok fz s E x => by
  refine Subscript_ (wpAny_mono (h ok fz s E x) (fun v s₁ ⟨fz₁, σ₁, a, u1, e1, x1, va, q1⟩ => wpAny_mono (q1 ok fz₁ s₁ E x1) (fun w s₂ ⟨fz₂, σ₂, b, u2, e2, x2, vb, q2⟩ => ?_) fun _ _ x => x) fun _ _ x => x)
  exact wpAny_mono (q2 ok fz₂ s₂ E v w x2 (va.up u2) vb) (fun r s₃ p => .up (fun p hp => u2 p (u1 p hp)) (e1.trans e2) p) fun _ _ x => x
theorem t2_item {value slice : Expr} {a : AVal} {i : Int} {xs : List AVal} {y : AVal} {Q : AVal → AHeap → Prop} (ha : items σ a = some xs) (h0 : 0 ≤ i) (hf : i < 2 ^ 63) (hy : xs[i.toNat]? = some y) (h : Q y σ)
    (hs : ∀ l u, subscripted slice false (.ref l) (.int i u) = operate [.ref l, .int i u] (getItem (.ref l) (.int i u)) := by intro _ _; rfl) : T2 C n f (subscriptTail value slice) a (.int i) m σ Q := fun ok fz s E v w x hv hw => by
  cases hw
  obtain ⟨l, vs, rfl, hl, hvs⟩ := hv.items ok x ha
  obtain ⟨u, g1, g2⟩ := hvs.get hy
  exact tail_any hl.typeIs slot_list_getitem.lookup (wpAny_getItem_list (x := u) hl h0 hf (by simpa using g1) (.here x g2 h)) (hs _ _)
/-! ## slices -/
def WO (C : Cx) (n : Nat) (f : Fm) (e : Option Expr) (m : AEnv) (σ : AHeap) (Q : AVal → AHeap → Prop) : Prop :=
  f.Ok C n → ∀ fz s E, SR C f fz m σ s → wpAny (Md C) f.A (evalPart e f.env) (PV C f m fz s Q) E s
def part : AVal → Option (Option Int)
  | .none => some none
  | .int i => some (some i)
  | _ => none
theorem V.part {P : Addr → Obj → Prop} {v : Value} {a : AVal} {p : Option Int} (h : V P v a) (e : part a = some p) : IsPart v p := by
  cases h <;> cases e
  · exact .none
  · exact .int _ _
def pickA (xs : List AVal) (lo hi st : Option Int) : List AVal :=
  (sliceRange (sliceBounds lo hi st xs.length).1 (sliceBounds lo hi st xs.length).2.1 (sliceBounds lo hi st xs.length).2.2).filterMap (xs[·]?)
/-! ## changing a list -/
theorem mapSeq_listOf (g : Array Value → Array Value) (its : Array Value) (k : Nat) : ∃ k', Obj.mapSeq g (listOf its k) = listOf (g its) k' := ⟨_, rfl⟩
theorem SR.updList {fz : Fz} {s : Shared} {a : Addr} {xs xs' : List AVal} {vs : List Value} {k : Nat} (x : SR C f fz m σ s) (h : σ a = some (.list xs)) (ho : s.heap.get? a = some (listOf vs.toArray k)) (g : Array Value → Array Value) (hg : Vs (At C fz) (g vs.toArray).toList xs') (t : Nat) :
    SR C f fz m (σ.set a (.list xs')) { s with heap := s.heap.update a (Obj.mapSeq g), toks := t } := by
  obtain ⟨k', e⟩ := mapSeq_listOf g vs.toArray k
  have ho' : (s.heap.update a (Obj.mapSeq g)).get? a = some (listOf (g vs.toArray).toList.toArray k') := by
    rw [Heap.get?_update_self _ ho (by rw [e]; rfl), e]
  exact x.setList (t := t) h (Heap.SameBut.update ..) ho' hg
/-- storing at a place: as a tree -/
def TU (C : Cx) (n : Nat) (f : Fm) (o i y : AVal) (m : AEnv) (σ : AHeap) (Q : AHeap → Prop) : Prop :=
  f.Ok C n → ∀ fz s E vo vi vy, SR C f fz m σ s → V (At C fz) vo o → V (At C fz) vi i → V (At C fz) vy y → wpAny (Md C) f.A (setItem vo vi vy) (fun _ s' => ∃ fz' σ', (∀ p ∈ fz, p ∈ fz') ∧ Same s s' ∧ SR C f fz' m σ' s' ∧ Q σ') E s
theorem tu_list {a : Addr} {xs : List AVal} {i : Int} {y : AVal} {Q : AHeap → Prop} (ha : σ a = some (.list xs)) (h0 : 0 ≤ i) (hl : i < xs.length) (hf : i < 2 ^ 63) (h : Q (σ.set a (.list (xs.set i.toNat y)))) : TU C n f (.obj a) (.int i) y m σ Q := fun ok fz s E vo vi vy x ho hi hy => by
  cases ho; cases hi
  obtain ⟨us, k, ho, p4⟩ := x.list ha
  refine ki_setAt ho h0 hf (by rw [List.size_toArray, p4.length]; exact hl) ⟨fz, _, sub_refl, ⟨_, s.toks, rfl⟩, x.updList ha ho _ ?_ s.toks, h⟩
  have := p4.set i.toNat hy
  simpa using this
theorem w1_setItem {o i : Expr} {tp : Pos} {e : Expr} {pos : Pos} {Q : AFlow → AEnv → AHeap → Prop} (h : WE C n f e m σ fun y σ₁ => WE C n f o m σ₁ fun ov σ₂ => WE C n f i m σ₂ fun iv σ₃ => TU C n f ov iv y m σ₃ fun σ₄ => Q .next m σ₄)
    (hs : swapsWith e (some (.Subscript o i tp)) pos.line f.env = pure false := by rfl) : W1 C n f (.Assign [.Subscript o i tp] e pos) m σ Q := fun ok fz s E x => by
  refine wpAny_Assign_Subscript (wpAny_mono (h ok fz s E x) (fun v s₁ ⟨fz₁, σ₁, a, u1, e1, x1, va, q1⟩ => wpAny_mono (q1 ok fz₁ s₁ E x1) (fun ov s₂ ⟨fz₂, σ₂, b, u2, e2, x2, vb, q2⟩ => wpAny_mono (q2 ok fz₂ s₂ E x2) (fun iv s₃ ⟨fz₃, σ₃, c, u3, e3, x3, vc, q3⟩ => ?_) fun _ _ x => x) fun _ _ x => x) fun _ _ x => x) hs
  exact wpAny_mono (q3 ok fz₃ s₃ E ov iv v x3 (vb.up u3) vc ((va.up u2).up u3)) (fun _ s₄ ⟨fz₄, σ₄, u4, e4, x4, q4⟩ => ⟨fz₄, σ₄, m, .next, fun p hp => u4 p (u3 p (u2 p (u1 p hp))), ((e1.trans e2).trans e3).trans e4, x4, trivial, q4⟩) fun _ _ x => x
theorem w1_expr {e : Expr} {pos : Pos} {Q : AFlow → AEnv → AHeap → Prop} (h : WE C n f e m σ fun _ σ₁ => Q .next m σ₁) (hi : interactive f.env = false := by rfl) (hs : swapsWith e none pos.line f.env = pure false := by rfl) : W1 C n f (.Expr e pos) m σ Q := fun ok fz s E x => by
  refine wpAny_Expr_any (hi := hi) (hs := hs) (wpAny_mono (h ok fz s E x) (fun v s₁ ⟨fz₁, σ₁, a, u1, e1, x1, va, q1⟩ => ⟨fz₁, σ₁, m, .next, u1, e1, x1, trivial, q1⟩) fun _ _ x => x)
end
end Mine

open PySem PySem.W PyProof.Rows PySem.Calls
namespace Mine
section
variable {C : Cx} {n : Nat} {f : Fm} {m : AEnv} {σ : AHeap}
/-! ## rows built by a comprehension -/
def WQ (C : Cx) (n : Nat) (f : Fm) (ifs : List Expr) (m : AEnv) (σ : AHeap) (Q : Bool → AHeap → Prop) : Prop :=
  f.Ok C n → ∀ fz s E, SR C f fz m σ s → wpAny (Md C) f.A (forIn ifs true fun c r => if r = true then do let ok ← isTrue c f.env (eval c f.env); pure (ForInStep.yield ok) else pure (ForInStep.yield r)) (PB C f m fz s Q) E s
theorem SX.sub {fz : Fz} {wr wr' : List Addr} {s : Shared} (h : ∀ b ∈ wr', b ∈ wr) (x : SX C f fz m σ wr s) : SX C f fz m σ wr' s := by
  obtain ⟨mc, news, δ, F, N, R, e, h1, h2, h3⟩ := x
  exact ⟨mc, news, δ, F, N, R, e, fun p hp q => h1 p hp (h _ q), fun q => h2 (h _ q), fun b hb => h3 b (h _ hb)⟩
/-- the row's own names become a thing of the state -/
theorem SX.names {fz : Fz} {wr : List Addr} {s : Shared} {c : Addr} {mc' : Str → Option Value} {as : List (Str × AVal)} {k : Option (Scope × List (Str × Addr) × Addr)} (x : SX C f fz m σ (c :: wr) s) (hc : c ∉ wr) (hns : s.heap.Ns c mc') (he : ER (At C fz) as mc') :
    σ c = none ∧ SR C (f.withComp k (ownP wr s.heap ++ f.pin)) fz m (σ.set c (.ns as)) s := by
  obtain ⟨o, ho, hn⟩ := LCg.ns_obj hns
  have hwr := (SX.sub (wr' := wr) (fun b hb => List.mem_cons_of_mem _ hb) x)
  obtain ⟨mc, news, δ, F, N, R, e, h1, h2, h3⟩ := x
  have nn : ∀ q ∈ news, q.1 ≠ c := fun q hq e => h1 q hq (by rw [e]; exact List.mem_cons_self ..)
  have hno : σ c = none := R.noneAt nn
  have off : ∀ {p : Addr × Obj}, p ∈ ownP wr s.heap → p.1 ∈ wr := fun hp => (mem_ownP.mp hp).1
  have three : ∀ p ∈ fz ++ (ownP wr s.heap ++ f.pin), p ∈ ownP wr s.heap ∨ p ∈ fz ++ f.pin := fun p hp => by
    rcases List.mem_append.mp hp with hp | hp
    · exact .inr (List.mem_append_left _ hp)
    · rcases List.mem_append.mp hp with hp | hp
      · exact .inl hp
      · exact .inr (List.mem_append_right _ hp)
  have keep : ∀ {b c' as'}, σ.set c (.ns as) b = some (.inst c' as') → b ≠ c ∧ σ b = some (.inst c' as') := fun {b c' as'} hb => by
    by_cases q : b = c
    · subst q; rw [AHeap.set_same] at hb; cases hb
    · rw [AHeap.set_ne _ _ q] at hb; exact ⟨q, hb⟩
  have dn : ∀ b c' as', σ b = some (.inst c' as') → δ b ≠ c := fun b c' as' hb => by obtain ⟨_, es, n, h, _⟩ := R.ob b _ hb; exact nn _ h
  have up : ∀ {p}, p ∈ news → p ∈ (c, o) :: (ownP wr s.heap ++ news) := fun h => .tail _ (List.mem_append_right _ h)
  refine ⟨hno, mc, (c, o) :: (ownP wr s.heap ++ news), δ, F, fun p hp => ?_, ⟨fun p hp => ?_, fun p hp q hq => ?_, fun b bo hb => ?_, fun b bo hb p hp => ?_, fun b c' as' hb p hp => ?_, fun b c' as' hb => ?_, fun b c' as' b' c'' bs g1 g2 => R.dinj b c' as' b' c'' bs (keep g1).2 (keep g2).2⟩, e⟩
  · rcases List.mem_cons.mp hp with rfl | hp
    · exact ⟨ho, fun q => h2 (by rw [← q]; exact List.mem_cons_self ..), h3 c (List.mem_cons_self ..)⟩
    · rcases List.mem_append.mp hp with hp | hp
      · obtain ⟨a, b⟩ := mem_ownP.mp hp
        exact ⟨b, fun q => h2 (List.mem_cons_of_mem _ (q ▸ a)), h3 _ (List.mem_cons_of_mem _ a)⟩
      · exact N p hp
  · rcases three p hp with hp | hp
    · exact .tail _ (List.mem_append_left _ hp)
    · exact up (R.sub p hp)
  · rcases List.mem_append.mp hq with hq | hq
    · exact fun q' => h1 p (R.sub p (List.mem_append_left _ hp)) (List.mem_cons_of_mem _ (q' ▸ off hq))
    · exact R.apart p hp q hq
  · by_cases q : b = c
    · subst q; rw [AHeap.set_same] at hb; cases hb; exact ⟨o, mc', List.mem_cons_self .., hn, he⟩
    · rw [AHeap.set_ne _ _ q] at hb
      exact (R.ob b bo hb).mono (fun _ _ x => x) (fun _ hm => up hm) fun _ _ eb _ hm => up hm
  · by_cases q : b = c
    · rcases three p hp with hp | hp
      · exact fun q' => hc (by rw [← q, ← q']; exact off hp)
      · rw [q]; exact nn _ (R.sub p hp)
    · rw [AHeap.set_ne _ _ q] at hb
      rcases three p hp with hp | hp
      · obtain ⟨o, ho⟩ := (R.ob b bo hb).key
        exact fun q => h1 _ ho (List.mem_cons_of_mem _ (by show b ∈ wr; rw [← q]; exact off hp))
      · exact R.off b bo hb p hp
  · rcases three p hp with hp | hp
    · obtain ⟨_, es, k, ho, _⟩ := R.ob b _ (keep hb).2
      exact fun q => h1 _ ho (List.mem_cons_of_mem _ (by show δ b ∈ wr; rw [← q]; exact off hp))
    · exact R.doff b c' as' (keep hb).2 p hp
  · rw [AHeap.set_ne _ _ (dn b c' as' (keep hb).2)]; exact R.dσ b c' as' (keep hb).2
theorem Fm.Ok.comp {n : Nat} {sc : Scope} {cl : List (Str × Addr)} {c : Addr} {p : Fz} (ok : f.Ok C n) (hk : sc.kind = .function) : (f.withComp (some (sc, cl, c)) p).Ok C n := ⟨ok.below, ok.kin, ok.top, ok.hk, ok.stack, ok.handled, ok.guards, ok.depth, ok.units, ok.kind, hk⟩

end
end Mine

open PySem PySem.W PyProof.Rows PySem.Calls
namespace Mine
section
variable {C : Cx} {n : Nat} {f : Fm} {m : AEnv} {σ : AHeap}
/-! ## a def of the text, with cells -/
def cellS (cm : Str → Option AVal) : List (Str × Addr) → AHeap → AHeap
  | [], σ => σ
  | (y, c) :: r, σ => (cellS cm r σ).set c (.cell (cm y))
end
end Mine

open PySem PySem.W PyProof.Rows PySem.Calls
namespace Mine
/-! ## data compared -/
mutual
inductive Rd (σ : AHeap) : AVal → PyData → Prop
  | none : Rd σ .none .none
  | bool (b : Bool) : Rd σ (.bool b) (.bool b)
  | int (i : Int) : Rd σ (.int i) (.int i)
  | str (x : Str) : Rd σ (.str x) (.str x)
  | lst {xs : List AVal} {ds : List PyData} : RdAll σ xs ds → Rd σ (.lst xs) (.list ds)
  | tup {xs : List AVal} {ds : List PyData} : RdAll σ xs ds → Rd σ (.tup xs) (.tuple ds)
  | obj {a : Addr} {xs : List AVal} {ds : List PyData} : σ a = some (.list xs) → RdAll σ xs ds → Rd σ (.obj a) (.list ds)
inductive RdAll (σ : AHeap) : List AVal → List PyData → Prop
  | nil : RdAll σ [] []
  | cons {a : AVal} {d : PyData} {xs : List AVal} {ds : List PyData} : Rd σ a d → RdAll σ xs ds → RdAll σ (a :: xs) (d :: ds)
end
section
variable {C : Cx} {n : Nat} {f : Fm} {m : AEnv} {σ : AHeap}
mutual
theorem Rd.reads {fz : Fz} {s : Shared} (ok : f.Ok C n) (x : SR C f fz m σ s) : ∀ {a : AVal} {d : PyData}, Rd σ a d → ∀ {v : Value}, V (At C fz) v a → ∃ as, Reads s.heap v d as
  | _, _, .none, _, h => by cases h; exact ⟨_, .none⟩
  | _, _, .bool b, _, h => by cases h; exact ⟨_, .bool b⟩
  | _, _, .int i, _, h => by cases h; exact ⟨_, .int i _⟩
  | _, _, .str y, _, h => by cases h; exact ⟨_, .str y _⟩
  | _, _, .lst r, _, h => by
    cases h with
    | lst h1 h2 h3 h4 => obtain ⟨as, q⟩ := RdAll.reads ok x r h4; exact ⟨_, .list (x.at_ ok h1) h2 h3 (by simpa using q)⟩
  | _, _, .tup r, _, h => by
    cases h with
    | tup h1 h2 h3 h4 => obtain ⟨as, q⟩ := RdAll.reads ok x r h4; exact ⟨_, .tuple (x.at_ ok h1) h2 h3 (by simpa using q)⟩
  | _, _, .obj e r, _, h => by
    cases h with
    | obj a =>
      obtain ⟨vs, k, h1, h2⟩ := x.list e
      obtain ⟨as, q⟩ := RdAll.reads ok x r h2
      exact ⟨_, .list h1 rfl rfl (by simpa using q)⟩
theorem RdAll.reads {fz : Fz} {s : Shared} (ok : f.Ok C n) (x : SR C f fz m σ s) : ∀ {xs : List AVal} {ds : List PyData}, RdAll σ xs ds → ∀ {vs : List Value}, Vs (At C fz) vs xs → ∃ as, ReadsAll s.heap vs ds as
  | _, _, .nil, _, h => by cases h; exact ⟨_, .nil⟩
  | _, _, .cons r rs, _, h => by
    cases h with
    | cons h1 h2 =>
      obtain ⟨as, q1⟩ := Rd.reads ok x r h1
      obtain ⟨bs, q2⟩ := RdAll.reads ok x rs h2
      exact ⟨_, .cons q1 q2⟩
end
def Dk (k : Nat) (d : PyData) : Prop := d.canLay0 = true ∧ d.depth ≤ k
theorem Dk.int {k : Nat} {i : Int} : Dk k (.int i) := ⟨rfl, Nat.zero_le _⟩
theorem Dk.none {k : Nat} : Dk k .none := ⟨rfl, Nat.zero_le _⟩
theorem Dk.bool {k : Nat} {b : Bool} : Dk k (.bool b) := ⟨rfl, Nat.zero_le _⟩
theorem Dk.str {k : Nat} {x : Str} (h : PyData.strOk x = true) : Dk k (.str x) := ⟨h, Nat.zero_le _⟩
theorem dk_all {k : Nat} : ∀ {ds : List PyData}, (∀ d ∈ ds, Dk k d) → PyData.canLayAll0 ds = true ∧ PyData.depthAll ds ≤ k
  | [], _ => ⟨rfl, Nat.zero_le _⟩
  | d :: ds, h => by
    obtain ⟨a, b⟩ := h d (List.mem_cons_self ..)
    obtain ⟨c, e⟩ := dk_all fun x hx => h x (List.mem_cons_of_mem _ hx)
    exact ⟨by rw [PyData.canLayAll0, a, c]; rfl, by rw [PyData.depthAll]; exact Nat.max_le.mpr ⟨b, e⟩⟩
theorem Dk.list {k : Nat} {ds : List PyData} (h : ∀ d ∈ ds, Dk k d) : Dk (k + 1) (.list ds) := by
  obtain ⟨a, b⟩ := dk_all h
  exact ⟨by rw [PyData.canLay0]; exact a, by rw [PyData.depth]; omega⟩
theorem Dk.shaped {k : Nat} {d : PyData} (h : Dk k d) (hk : k ≤ 64) : PySem.SeqAt.shaped d = true := by
  unfold PySem.SeqAt.shaped
  rw [h.1, Bool.true_and, decide_eq_true_eq]
  exact Nat.le_trans h.2 hk
theorem t2_eqD {a b : AVal} {da db : PyData} {k : Nat} {Q : AVal → AHeap → Prop} (ra : Rd σ a da) (rb : Rd σ b db) (ha : Dk k da) (hb : Dk k db) (h : Q (.bool (PyData.eqv da db)) σ) (hk : k ≤ 64 := by decide) : T2 C n f (compareOp .Eq) a b m σ Q := fun ok fz s E v w x hv hw => by
  obtain ⟨as, r1⟩ := ra.reads ok x hv
  obtain ⟨bs, r2⟩ := rb.reads ok x hw
  have := ok.units
  exact eq_dataH r1 r2 (ha.shaped hk) (hb.shaped hk) (by omega) (.here x (.bool _) h)
theorem t2_neD {a b : AVal} {da db : PyData} {k : Nat} {Q : AVal → AHeap → Prop} (ra : Rd σ a da) (rb : Rd σ b db) (ha : Dk k da) (hb : Dk k db) (h : Q (.bool (!PyData.eqv da db)) σ) (hk : k ≤ 64 := by decide) : T2 C n f (compareOp .NotEq) a b m σ Q := fun ok fz s E v w x hv hw => by
  obtain ⟨as, r1⟩ := ra.reads ok x hv
  obtain ⟨bs, r2⟩ := rb.reads ok x hw
  have := ok.units
  exact ne_dataH r1 r2 (ha.shaped hk) (hb.shaped hk) (by omega) (.here x (.bool _) h)
theorem t2_eqS {a b : AVal} {d : PyData} {k : Nat} {Q : AVal → AHeap → Prop} (ra : Rd σ a d) (rb : Rd σ b d) (hd : Dk k d) (h : Q (.bool true) σ) (hk : k ≤ 64 := by decide) : T2 C n f (compareOp .Eq) a b m σ Q :=
  t2_eqD ra rb hd hd (by rw [PySem.SeqAt.eqv_refl d hd.1]; exact h) hk
theorem t2_neS {a b : AVal} {d : PyData} {k : Nat} {Q : AVal → AHeap → Prop} (ra : Rd σ a d) (rb : Rd σ b d) (hd : Dk k d) (h : Q (.bool false) σ) (hk : k ≤ 64 := by decide) : T2 C n f (compareOp .NotEq) a b m σ Q :=
  t2_neD ra rb hd hd (by rw [PySem.SeqAt.eqv_refl d hd.1]; exact h) hk
/-! ## attributes -/
theorem SR.ownD {fz : Fz} {s : Shared} (x : SR C f fz m σ s) {a c : Addr} {as : List (Str × AVal)} (h : σ a = some (.inst c as)) :
    ∃ d es k mc rest, s.heap.get? a = some (instObj c d) ∧ s.heap.get? d = some (dictOf es k) ∧ Es (At C fz) es as ∧ Fr f.h₀ f.L s.heap mc ∧ News f.h₀ f.L s.heap ((d, dictOf es k) :: rest) ∧ (∀ p ∈ rest, p.1 ≠ d) ∧ (a, instObj c d) ∈ rest ∧
      ∀ h' t es' k' as', Fr f.h₀ f.L h' mc → News f.h₀ f.L h' ((d, dictOf es' k') :: rest) → Es (At C fz) es' as' → SR C f fz m (σ.set a (.inst c as')) { s with heap := h', toks := t } := by
  obtain ⟨mc, news, δ, F, N, R, e⟩ := x
  obtain ⟨h1, es, k, h2, h3⟩ := R.ob a _ h
  have hne : a ≠ δ a := fun q => by have := R.dσ a c as h; rw [← q, h] at this; cases this
  have keepM : ∀ {p : Addr × Obj}, p ∈ news → p.1 ≠ δ a → p ∈ news.filter (fun p => decide (p.1 ≠ δ a)) := fun h q => List.mem_filter.mpr ⟨h, by simpa using q⟩
  refine ⟨δ a, es, k, mc, news.filter (fun p => decide (p.1 ≠ δ a)), (N _ h1).1, (N _ h2).1, h3, F, fun p hp => ?_, fun p hp => by simpa using (List.mem_filter.mp hp).2, keepM h1 hne, fun h' t es' k' as' F' N' hE => ?_⟩
  · rcases List.mem_cons.mp hp with rfl | hp
    · exact N _ h2
    · exact N _ (List.mem_filter.mp hp).1
  · have σne : ∀ b bo, σ b = some bo → b ≠ δ a := fun b bo hb q => by have := R.dσ a c as h; rw [← q, hb] at this; cases this
    have back : ∀ {b c' bs}, σ.set a (.inst c as') b = some (.inst c' bs) → ∃ bs', σ b = some (.inst c' bs') := fun {b c' bs} hb => by
      by_cases q : b = a
      · subst q; rw [AHeap.set_same] at hb; cases hb; exact ⟨as, h⟩
      · rw [AHeap.set_ne _ _ q] at hb; exact ⟨bs, hb⟩
    refine ⟨mc, _, δ, F', N', ⟨fun p hp => .tail _ (keepM (R.sub p hp) (R.doff a c as h p hp)), R.apart, fun b bo hb => ?_, fun b bo hb p hp => ?_, fun b c' bs hb p hp => ?_, fun b c' bs hb => ?_, fun b c' bs b' c'' bs' g1 g2 => ?_⟩, e⟩
    · by_cases q : b = a
      · subst q; rw [AHeap.set_same] at hb; cases hb
        exact ⟨.tail _ (keepM h1 hne), es', k', List.mem_cons_self .., hE⟩
      · rw [AHeap.set_ne _ _ q] at hb
        refine (R.ob b bo hb).mono (fun _ _ z => z) (fun _ hm => .tail _ (keepM hm (σne b bo hb))) fun c' bs eb _ hm => .tail _ (keepM hm fun q' => ?_)
        subst eb
        exact q (R.dinj b c' bs a c as hb h q')
    · by_cases q : b = a
      · subst q; exact R.off b _ h p hp
      · rw [AHeap.set_ne _ _ q] at hb; exact R.off b bo hb p hp
    · obtain ⟨bs', hb'⟩ := back hb; exact R.doff b c' bs' hb' p hp
    · obtain ⟨bs', hb'⟩ := back hb
      have hd := R.dσ b c' bs' hb'
      rw [AHeap.set_ne _ _ (fun q => by rw [q, h] at hd; cases hd)]; exact hd
    · obtain ⟨x1, y1⟩ := back g1; obtain ⟨x2, y2⟩ := back g2; exact R.dinj b c' x1 b' c'' x2 y1 y2
/-- an attribute stored, as a tree -/
def TW (C : Cx) (n : Nat) (f : Fm) (o : AVal) (name : Str) (y : AVal) (m : AEnv) (σ : AHeap) (Q : AHeap → Prop) : Prop :=
  f.Ok C n → ∀ fz s E vo vy, SR C f fz m σ s → V (At C fz) vo o → V (At C fz) vy y → wpAny (Md C) f.A (setAttr vo name vy) (fun _ s' => ∃ fz' σ', (∀ p ∈ fz, p ∈ fz') ∧ Same s s' ∧ SR C f fz' m σ' s' ∧ Q σ') E s
theorem tw_inst {a c : Addr} {as : List (Str × AVal)} {name : Str} {y : AVal} {Q : AHeap → Prop} (ha : σ a = some (.inst c as)) (hs : findIn C.K (.ref c) "__setattr__" = some (some (.builtin "object.__setattr__"))) (hp : plainOver C.K c = true) (ht : takerIn C.K c name = some none) (hh : hasDictIn C.K c = true)
    (hl : (setA name y as).length ≤ 1000) (h : Q (σ.set a (.inst c (setA name y as)))) : TW C n f (.obj a) name y m σ Q := fun ok fz s E vo vy x ho hy => by
  cases ho
  obtain ⟨d, es, k, mc, rest, h1, h2, h3, F, N, off, hm, back⟩ := x.ownD ha
  have hE := h3.put (x := name) (hh := PyData.keyHash C.w.params name) (t := s.toks + 1) hy
  refine set_dict (dx := d) F ok.kin N ⟨h1, rfl, rfl, h2⟩ rfl hs hp ht hh h3.isSome rfl (.head off) (by rw [hE.length]; exact hl) fun h' F' N' => ?_
  exact ⟨fz, _, sub_refl, ⟨h', s.toks + 2, rfl⟩, back h' (s.toks + 2) _ _ _ F' N' hE, h⟩
theorem w1_setAttr {o e : Expr} {name : Str} {tp pos : Pos} {Q : AFlow → AEnv → AHeap → Prop} (h : WE C n f e m σ fun y σ₁ => WE C n f o m σ₁ fun ov σ₂ => TW C n f ov name y m σ₂ fun σ₃ => Q .next m σ₃)
    (hs : swapsWith e (some (.Attribute o name tp)) pos.line f.env = pure false := by rfl) : W1 C n f (.Assign [.Attribute o name tp] e pos) m σ Q := fun ok fz s E x => by
  refine plainObj_wpAny_Assign_Attribute (wpAny_mono (h ok fz s E x) (fun v s₁ ⟨fz₁, σ₁, a, u1, e1, x1, va, q1⟩ => wpAny_mono (q1 ok fz₁ s₁ E x1) (fun ov s₂ ⟨fz₂, σ₂, b, u2, e2, x2, vb, q2⟩ => ?_) fun _ _ x => x) fun _ _ x => x) hs
  exact wpAny_mono (q2 ok fz₂ s₂ E ov v x2 vb (va.up u2)) (fun _ s₃ ⟨fz₃, σ₃, u3, e3, x3, q3⟩ => ⟨fz₃, σ₃, m, .next, fun p hp => u3 p (u2 p (u1 p hp)), (e1.trans e2).trans e3, x3, trivial, q3⟩) fun _ _ x => x
theorem we_attr {o : Expr} {name : Str} {pos : Pos} {Q : AVal → AHeap → Prop} (h : WE C n f o m σ fun ov σ₁ => T1 C n f (fun v => getAttr v name true) ov m σ₁ Q)
    (he : eval (.Attribute o name pos) f.env = (do
      let v ← eval o f.env
      standAt pos.atName
      let r ← holding [v] (getAttr v name true)
      letTemporaryGo o v r
      pure r) := by rfl) : WE C n f (.Attribute o name pos) m σ Q := fun ok fz s E x =>
  Attribute_any_ (wpAny_mono (h ok fz s E x) (fun v s₁ ⟨fz₁, σ₁, a, u1, e1, x1, va, q1⟩ => wpAny_mono (q1 ok fz₁ s₁ E v x1 va) (fun r s₂ p => .up u1 e1 p) fun _ _ x => x) fun _ _ x => x) he
def handedA : AVal → Bool
  | .raw v => handedIn v
  | _ => true
theorem V.handed {P : Addr → Obj → Prop} {v : Value} {a : AVal} (h : V P v a) (e : handedA a = true) : handedIn v = true := by
  cases h <;> first | rfl | exact e
theorem t1_attr {a c : Addr} {as : List (Str × AVal)} {name : Str} {y : AVal} {attr : Option Value} {Q : AVal → AHeap → Prop} (ha : σ a = some (.inst c as)) (hy : getA name as = some y) (hg : plainGet C.K c name = true) (hh : hasDictIn C.K c = true) (hf : findIn C.K (.ref c) name = some attr) (hn : noGet C.K attr = true) (hv : handedA y = true) (h : Q y σ) :
    T1 C n f (fun v => getAttr v name true) (.obj a) m σ Q := fun ok fz s E vo x ho => by
  cases ho
  obtain ⟨d, es, k, h1, h2, h3⟩ := x.inst ha
  obtain ⟨v, g1, g2⟩ := h3.get_some hy
  have x' := x
  obtain ⟨mc, news, δ, F, N, R, e⟩ := x
  exact get_own F ok.kin ⟨h1, rfl, rfl, h2⟩ hg hh hf hn g1 (g2.handed hv) (.tok x' g2 h)
end
end Mine

open PySem PySem.W PyProof.Rows PySem.Calls
namespace Mine
def Has (m : AEnv) : List (Str × AVal) → Prop
  | [] => True
  | p :: r => m.get p.1 = some p.2 ∧ Has m r
theorem Has.sub {m : AEnv} : ∀ {l : AEnv}, Has m l → ∀ y a, AEnv.get l y = some a → m.get y = some a
  | [], _, _, _, e => by cases e
  | (z, b) :: r, h, y, a, e => by
    unfold AEnv.get getA at e
    by_cases q : (z == y) = true
    · rw [if_pos q] at e; cases e
      have : z = y := by simpa using q
      subst this; exact h.1
    · rw [if_neg q] at e; exact h.2.sub y a e
theorem AHeap.le_refl (σ : AHeap) : σ.le σ := fun _ _ h => h
theorem AHeap.le_trans {σ σ' σ'' : AHeap} (h : σ.le σ') (h' : σ'.le σ'') : σ.le σ'' := fun a o e => h' a o (h a o e)
theorem AHeap.le_set {σ : AHeap} {l : Addr} {o : AObj} (h : σ l = none) : σ.le (σ.set l o) := fun a b e => by rw [AHeap.set_ne]; exact e; intro q; rw [q, h] at e; cases e
theorem hp_ne {σ : AHeap} {a c : Addr} {o : AObj} (h1 : σ a = some o) (h2 : σ c = none) : a ≠ c := fun q => by rw [q, h2] at h1; cases h1
theorem items_obj {σ : AHeap} {a : Addr} {xs : List AVal} (h : σ a = some (.list xs)) : items σ (.obj a) = some xs := by show (match σ a with | some (.list xs) => some xs | _ => none) = some xs; rw [h]
theorem ret_le {σ : AHeap} {a : AVal} {Q : AVal → AHeap → Prop} (h : Q a σ) : ∃ σ₂ : AHeap, σ₂.le σ ∧ Q (retOf (.ret a)) σ₂ := ⟨σ, AHeap.le_refl σ, h⟩
theorem ret_le' {σ₂ σ : AHeap} {a : AVal} {Q : AVal → AHeap → Prop} (hl : σ₂.le σ) (h : Q a σ₂) : ∃ σ₂ : AHeap, σ₂.le σ ∧ Q (retOf (.ret a)) σ₂ := ⟨σ₂, hl, h⟩
theorem fmod_pos (x : Int) {y : Int} (h : 0 ≤ y) : x.fmod y = x % y := Int.fmod_eq_emod_of_nonneg x h
theorem fmod_range (x : Int) {y : Int} (h : 0 < y) : 0 ≤ x.fmod y ∧ x.fmod y < y := by
  rw [fmod_pos x (Int.le_of_lt h)]; exact ⟨Int.emod_nonneg x (Int.ne_of_gt h), Int.emod_lt_of_pos x h⟩
theorem rng_small1 {a b : Int} (ha : -(2 ^ 62) ≤ a ∧ a < 2 ^ 62) (hb : -(2 ^ 62) ≤ b ∧ b < 2 ^ 62) : Builtin.Range.small a b 1 = true := small_one ha.1 ha.2 hb.1 hb.2
theorem rng_size1' {k : Nat} : Builtin.Range.rangeSize 0 k 1 = (k : Int) := by rw [rangeSize_nat]; congr 1
theorem rngL_length {a c : Int} {k : Nat} : (rngL a c k).length = k := by simp [rngL]
theorem rngL_cons {a c : Int} {k j : Nat} {v : AVal} {r : List AVal} (h : v :: r = (rngL a c k).drop j) : j < k ∧ v = .int (a + (j : Int) * c) ∧ r = (rngL a c k).drop (j + 1) := by
  have hj : j < (rngL a c k).length := by
    rcases Nat.lt_or_ge j (rngL a c k).length with q | q
    · exact q
    · rw [List.drop_of_length_le q] at h; cases h
  rw [List.drop_eq_getElem_cons hj] at h
  obtain ⟨h1, h2⟩ := List.cons.inj h
  refine ⟨by rwa [rngL_length] at hj, ?_, h2⟩
  rw [h1]; simp [rngL]
theorem rngL_nil {a c : Int} {k j : Nat} (h : [] = (rngL a c k).drop j) : k ≤ j := by
  rcases Nat.lt_or_ge j (rngL a c k).length with q | q
  · rw [List.drop_eq_getElem_cons q] at h; cases h
  · rwa [rngL_length] at q
theorem W1.weaken {C : Cx} {n : Nat} {f : Fm} {m : AEnv} {σ : AHeap} {st : Stmt} {m' : AEnv} {σ' : AHeap} {Q : AFlow → AEnv → AHeap → Prop} (hm : ∀ y a, m'.get y = some a → m.get y = some a) (hσ : σ'.le σ) (h : W1 C n f st m' σ' Q) : W1 C n f st m σ Q :=
  fun ok fz s E x => h ok fz s E (x.weaken hm hσ)
theorem W1.cut {C : Cx} {n : Nat} {f : Fm} {m : AEnv} {σ : AHeap} {st : Stmt} {P Q : AFlow → AEnv → AHeap → Prop} (h : W1 C n f st m σ P) (k : ∀ a m' σ', P a m' σ' → Q a m' σ') : W1 C n f st m σ Q :=
  fun ok fz s E x => wpAny_mono (h ok fz s E x) (fun v s' ⟨fz', σ', m', a, h1, h2, h3, h4, h5⟩ => ⟨fz', σ', m', a, h1, h2, h3, h4, k _ _ _ h5⟩) fun _ _ x => x
end Mine

open PySem PySem.W PyProof.Rows PySem.Calls
namespace Mine
end Mine

open PySem PySem.W PyProof.Rows PySem.Calls
namespace Mine
section
variable {C : Cx} {n : Nat} {f : Fm} {m : AEnv} {σ : AHeap}
theorem AHeap.set_set (σ : AHeap) (a : Addr) (x y : AObj) : (σ.set a x).set a y = σ.set a y := by
  funext b; unfold AHeap.set; split <;> rfl
/-- the five things of a source, as attributes -/
def srcA (s p e b c : AVal) : List (Str × AVal) := [(Str.ofString "_InputSource__system_id", s), (Str.ofString "_InputSource__public_id", p), (Str.ofString "_InputSource__encoding", e), (Str.ofString "_InputSource__bytefile", b), (Str.ofString "_InputSource__charfile", c)]
end
end Mine

open PySem PySem.W PyProof.Rows PySem.Calls
namespace Mine
/-! ## pieces of a def of the text -/
def blkOf : Stmt → Nat → List Stmt
  | .For _ _ b _ _, 0 => b
  | .For _ _ _ o _, _ => o
  | .If _ b _ _, 0 => b
  | .If _ _ o _, _ => o
  | .FunctionDef _ _ b _ _ _ _ _ _ _, _ => b
  | _, _ => []
def subs : List Stmt → List (Nat × Nat) → List Stmt
  | ss, [] => ss
  | ss, (i, j) :: r => match ss[i]? with
    | some st => subs (blkOf st j) r
    | none => []
def segOf (p : Program) (i : Nat) (path : List (Nat × Nat)) (k : Nat) : Option (Scope × List Stmt) :=
  match p.main.body[i]? with
  | some (.FunctionDef _ _ b _ _ _ sc _ _ _) => some (sc, (subs b path).drop k)
  | _ => none
def Seg (p : Program) (i : Nat) (path : List (Nat × Nat)) (k : Nat) (P : Scope → List Stmt → Prop) : Prop :=
  match segOf p i path k with
  | some (sc, ss) => P sc ss
  | none => True
theorem seg_intro {p : Program} {i : Nat} {path : List (Nat × Nat)} {k : Nat} {P : Scope → List Stmt → Prop} {kind : ScopeKind} {names : List (Str × NameKind)} {g c : Bool} {more : List (Str × Const)} {st : Stmt} {ss : List Stmt}
    (ho : segOf p i path k = some (⟨kind, names, g, c, more⟩, st :: ss)) (h : P ⟨kind, names, g, c, more⟩ (st :: ss)) : Seg p i path k P := by
  unfold Seg; rw [ho]; exact h
theorem tc_cat1 {C : Cx} {n : Nat} {f : Fm} {m : AEnv} {σ : AHeap} {fv a : AVal} {as : List AVal} {Q : AVal → AHeap → Prop} (h : TC C n f fv (a :: as) m σ Q) : TC C n f fv ([a] ++ as) m σ Q := h
/-- one statement -/
def Seg1 (p : Program) (i : Nat) (path : List (Nat × Nat)) (k : Nat) (P : Scope → Stmt → Prop) : Prop :=
  match segOf p i path k with
  | some (sc, st :: _) => P sc st
  | _ => True
end Mine

open PySem PySem.W PyProof.Rows PySem.Calls
namespace Mine
def AHeap.del (σ : AHeap) (a : Addr) : AHeap := fun b => if b = a then none else σ b
theorem seg_elim {p : Program} {i : Nat} {path : List (Nat × Nat)} {k : Nat} {P : Scope → List Stmt → Prop} {sc : Scope} {ss : List Stmt} (h : Seg p i path k P) (ho : segOf p i path k = some (sc, ss)) : P sc ss := by
  unfold Seg at h; rw [ho] at h; exact h
section
variable {C : Cx} {n : Nat} {f : Fm} {m : AEnv} {σ : AHeap}
theorem we_one {op : BoolOp} {e : Expr} {pos : Pos} {Q : AVal → AHeap → Prop} (h : WE C n f e m σ Q) : WE C n f (.BoolOp op [e] pos) m σ Q := fun ok fz s E x => BoolOp_one (h ok fz s E x)
theorem we_andN {a b : Expr} {r : List Expr} {pos : Pos} {Q : AVal → AHeap → Prop} (h : WE C n f a m σ fun v σ₁ => TB C n f truthy v m σ₁ fun c σ₂ => (c = true → WE C n f (.BoolOp .And (b :: r) pos) m σ₂ Q) ∧ (c = false → Q v σ₂)) : WE C n f (.BoolOp .And (a :: b :: r) pos) m σ Q := fun ok fz s E x => by
  refine BoolOp_and (wpAny_mono (h ok fz s E x) (fun v s₁ ⟨fz₁, σ₁, av, u1, e1, x1, va, q1⟩ => wpAny_mono (q1 ok fz₁ s₁ E v x1 va) (fun c s₂ ⟨fz₂, σ₂, u2, e2, x2, q2⟩ => ?_) fun _ _ x => x) fun _ _ x => x)
  cases c with
  | true => rw [if_pos rfl]; exact wpAny_mono (q2.1 rfl ok fz₂ s₂ E x2) (fun r s₃ p => .up (fun p hp => u2 p (u1 p hp)) (e1.trans e2) p) fun _ _ x => x
  | false => rw [if_neg (by decide)]; exact ⟨fz₂, σ₂, av, fun p hp => u2 p (u1 p hp), e1.trans e2, x2, va.up u2, q2.2 rfl⟩
end
end Mine

open PySem PySem.W PyProof.Rows PySem.Calls
namespace Mine
/-! ## an attribute that is not there; a try in a called def -/
theorem findObj_missing {K : Frag} {c : Addr} {name : Str} {od : Obj} (hh : hasDictIn K c = true) (ha : findIn K (.ref c) name = some none) (hc : copiedNames.contains name = false) (hl : lookIn name od = some none) :
    findObj K c (some od) name = some .missing := by
  obtain ⟨cd, hc', hd⟩ := any_some hh
  unfold findObj
  have ho : PySem.W.ownOf cd (some od) name = some none := by unfold PySem.W.ownOf; rw [if_pos hd]; exact hl
  rw [hc', Option.bind_some, ha, Option.bind_some]
  simp only [Option.bind_some, ho, hc, Bool.false_and, Bool.false_eq_true, if_false]
section
variable {prog : Program} {w : World} {A : Around} {E : Value → Shared → Prop} {s : Shared} {K : Frag} {x c L : Addr} {h₀ : Heap} {m : Str → Option Value} {ox : Obj} {es : List DictEntry} {n : Nat} {name : Str}
theorem get_miss {expr : Bool} {Q : Value → Shared → Prop} {tn : String} (F : Fr h₀ L s.heap m) (X₀ : K.In h₀) (I : InstAt s.heap x ox c (some (dictOf es n))) (hg : plainGet K c name = true) (hh : hasDictIn K c = true)
    (ha : findIn K (.ref c) name = some none) (hc : copiedNames.contains name = false) (hl : getL name es = some none) (htn : ∀ S, peek K S (typeNameCut 100 (.ref c)) = some tn) (htl : tn.length ≤ 50) (hsz : name.length + 100 ≤ sizeLine) (hA : A.handled = none)
    (h : ∀ h' tk e, Heap.NewExcOf s.heap h' e "AttributeError" → E (.ref e) { s with heap := h', toks := tk }) :
    wpAny (model prog w) A (getAttr (.ref x) name expr) Q E s := by
  have X := X₀.keeps F.keep
  refine get_open X I (plainGet_of hg).1 ?_
  obtain ⟨hh', g, d, t, os⟩ := s
  have L0 := I.type (M := model prog w)
  have L1 := looks_find (M := model prog w) X I (findObj_missing hh ha hc (by rw [lookIn_dict]; exact hl))
  have L2 := looks_findIn (M := model prog w) X (plainGet_of hg).2
  refine wpAny_bind (wpAny_pure (wpAny_bind (L0.at (wpAny_bind (L1.at (wpAny_bind (L2.at ?_)))))))
  show wpAny _ _ (Builtin.ObjectAttr.noSuchAttribute (.ref x) name) _ _ _
  unfold Builtin.ObjectAttr.noSuchAttribute
  have L3 : Looks (model prog w) hh' (typeNameOfCut 100 (.ref x)) tn := by
    unfold typeNameOfCut shownTypeOf
    refine Looks.andThen (a := .ref c) ?_ (Looks.of_peek X (htn _))
    refine Looks.andThen L0 ?_
    exact Looks.of_pure rfl
  refine wpAny_bind (L3.at ?_)
  refine wpAny_raiseAttrError hA (fun h' tk e hx => ?_) ?_
  · obtain ⟨t', u', he⟩ := id hx.there
    unfold noteIf
    rw [if_pos rfl]
    dsimp only
    unfold noteAttr lacksNameAndObj
    have f1 := sub_AttributeError
    repeat (any_goals (first | assumption | wp_step))
    exact h _ _ _ hx.of
  · have e1 : (s!"'{tn}' object has no attribute '").length ≤ 90 := by
      show (("" ++ "'" ++ tn ++ "' object has no attribute '") : String).length ≤ 90
      simp only [String.length_append]
      have : "' object has no attribute '".length = 27 := by decide
      have : "'".length = 1 := by decide
      have : "".length = 0 := by decide
      omega
    exact attrMsg_fits e1 hsz
end

/-- a call out of the law's own frame -/
def Fn1 (C : Cx) (n : Nat) (fa : Addr) (as : List AVal) (σ : AHeap) (Q : AVal → AHeap → Prop) : Prop :=
  ∀ f m A, f.outer = [] → f.Ok C n → Near f A → ∀ fz s vs, SR C f fz m σ s → Vs (At C fz) vs as → codeAny (Md C) A (.call (.ref fa) ⟨vs, []⟩) (RV C f m fz s Q) s
/-- statements that raise, the state as it was -/
def XS (C : Cx) (n : Nat) (f : Fm) (ss : List Stmt) (m : AEnv) (σ : AHeap) (X : String) : Prop :=
  f.Ok C n → ∀ fz s E, SR C f fz m σ s → (∀ s₁ h' tk e fz', (∀ p ∈ fz, p ∈ fz') → Same s s₁ → SR C f fz' m σ s₁ → Heap.NewExcOf s₁.heap h' e X → E (.ref e) { s₁ with heap := h', toks := tk }) → wpAny (Md C) f.A (execs ss f.env) (fun _ _ => False) E s
section
variable {C : Cx} {n : Nat} {f : Fm} {m : AEnv} {σ : AHeap}
theorem tc_fn1 {g : Addr} {as : List AVal} {Q : AVal → AHeap → Prop} (hk : keepIn C.K (.ref g) = true) (ho : f.outer = []) (h : Fn1 C n g as σ Q) : TC C n f (.raw (.ref g)) as m σ Q := fun ok fz s E v vs x hv hvs => by
  cases hv
  refine ⟨keep_K ok x hk, wpAny_call (codeAny_mono (h f m f.A ho ok .refl fz s vs x hvs) fun r s' ⟨v, e, p⟩ => ?_)⟩
  subst e; exact p
theorem xs_if {t : Expr} {b rest : List Stmt} {pos : Pos} {X : String} (h : WT C n f t m σ fun c σ₁ => σ₁ = σ ∧ (c = true → XS C n f b m σ X) ∧ (c = false → XS C n f rest m σ X)) : XS C n f (.If t b [] pos :: rest) m σ X := fun ok fz s E x k => by
  refine wpAny_execs_cons (wpAny_If (wpAny_mono (h ok fz s E x) (fun c s₁ ⟨fz₁, σ₁, u1, e1, x1, q0, q1⟩ => ?_) fun _ _ x => x))
  subst q0
  cases c with
  | true => exact wpAny_mono (q1.1 rfl ok fz₁ s₁ E x1 fun s₂ h' tk e fz' u es x2 hx => k s₂ h' tk e fz' (fun p hp => u p (u1 p hp)) (e1.trans es) x2 hx) (fun _ _ z => z.elim) fun _ _ x => x
  | false => exact wpAny_execs_nil (wpAny_mono (q1.2 rfl ok fz₁ s₁ E x1 fun s₂ h' tk e fz' u es x2 hx => k s₂ h' tk e fz' (fun p hp => u p (u1 p hp)) (e1.trans es) x2 hx) (fun _ _ z => z.elim) fun _ _ x => x)
theorem xs_retAttr {y name : Str} {yp ap lp rp : Pos} {rest : List Stmt} {a c : Addr} {as : List (Str × AVal)} {tn : String} (hy : WE C n f (.Name y yp) m σ fun v σ₁ => v = .obj a ∧ σ₁ = σ) (ha : σ a = some (.inst c as)) (hn : getA name as = none) (hg : plainGet C.K c name = true) (hh : hasDictIn C.K c = true)
    (hf : findIn C.K (.ref c) name = some none) (hc : copiedNames.contains name = false) (htn : ∀ S, peek C.K S (typeNameCut 100 (.ref c)) = some tn) (htl : tn.length ≤ 50) (hsz : name.length + 100 ≤ sizeLine)
    (hst : starEach [.Attribute (.Name y yp) name ap] f.env = (false, eval (.Attribute (.Name y yp) name ap) f.env) :: starEach [] f.env := by rfl)
    (he : eval (.Attribute (.Name y yp) name ap) f.env = (do
      let v ← eval (.Name y yp) f.env
      standAt ap.atName
      let r ← holding [v] (getAttr v name true)
      letTemporaryGo (.Name y yp) v r
      pure r) := by rfl) :
    XS C n f (.Return (some (.List [.Attribute (.Name y yp) name ap] lp)) rp :: rest) m σ "AttributeError" := fun ok fz s E x k => by
  refine wpAny_execs_cons (wpAny_Return_some (wpAny_List (wpAny_items_cons (Attribute_any_ (wpAny_mono (hy ok fz s E x) (fun v s₁ ⟨fz₁, σ₁, av, u1, e1, x1, va, q0, q1⟩ => ?_) fun _ _ x => x) he) hst)))
  subst q0; subst q1
  cases va
  obtain ⟨d, es, k', h1, h2, h3⟩ := x1.inst ha
  have x1' := x1
  obtain ⟨mc, news, δ, F, N, R, e⟩ := x1
  exact get_miss F ok.kin ⟨h1, rfl, rfl, h2⟩ hg hh hf hc (h3.get_none hn) htn htl hsz ok.handled fun h' tk e hx => k _ h' tk e fz₁ u1 e1 x1' hx

theorem fn_try1 {fa : Addr} {name qual : Str} {params : Arguments} {tb : List Stmt} {x : Str} {T X : String} {np lp rp hp tp : Pos} {scope : Scope} {dV kV doc pm cdv ct oc : Value} {an od : Option Addr} {osl : Array (Option Value)} {as : List AVal} {ns : List Str} {Q : AVal → AHeap → Prop}
    (ho : C.K.lookup fa = some ⟨oc, od, .func (fnOf name qual params [.Try tb [.ExceptHandler (some (.Name x np)) none [.Return (some (.List [] lp)) rp] hp] [] [] tp] scope dV kV doc pm an cdv ct), osl⟩) (hcd : codeIn C.K cdv qual = true)
    (hbind : ∀ S vs, vs.length = as.length → peek C.K S (bindArgs (fnOf name qual params [.Try tb [.ExceptHandler (some (.Name x np)) none [.Return (some (.List [] lp)) rp] hp] [] [] tp] scope dV kV doc pm an cdv ct) ⟨vs, []⟩) = some (ns.zip vs))
    (hnd : ns.Nodup) (hloc : ∀ y ∈ ns, scope.names.lookup y = some .local)
    (ex : nsIn C.K mainGlobals x = some none) (hv : bootBuiltins x = some (.type T)) (hxn : x ≠ "__name__") (hxk : scope.names.lookup x = some .globalImplicit ∨ ∀ L, (envOf qual scope L fa cdv).kindOf x = some .globalImplicit)
    (hexc : isSubtype (.type T) (.type "BaseException") = pure true) (hnt : isSubtype (.type ((Manifest.find? T).elim "type" fun y => y.metatype)) (.type "tuple") = pure false) (hsub : isSubtype (.type X) (.type T) = pure true) (hxd : (x == ("__debug__" : Str)) = false)
    (h : ∀ A₀ A base h₀ outer L pin, (WS C n ⟨A₀, A, base, h₀, outer, L, fa, qual, scope, cdv, [], pin, none⟩ tb (ns.zip as) σ fun fl _ σ' => ∃ a, fl = .ret a ∧ ∃ σ₂ : AHeap, σ₂.le σ' ∧ Q a σ₂) ∨ (XS C n ⟨A₀, A, base, h₀, outer, L, fa, qual, scope, cdv, [], pin, none⟩ tb (ns.zip as) σ X ∧ Q (.lst []) σ))
    (hco : scope.isCoroutine = false := by rfl) (hgen : scope.isGenerator = false := by rfl) (hk : scope.kind = .function := by rfl) (hcell : ∀ x ∈ scope.names, x.2 ≠ .cell := by decide) :
    Fn1 C (n + 1) fa as σ Q := fun f m A hout ok hn fz s vs x hvs => by
  obtain ⟨mc, news, δ, F, N, R, e⟩ := x
  have XK := ok.kin.keeps F.keep
  have e2 := ok.depth
  have e3 := ok.units
  obtain ⟨n1, n2, n3, n4, n5⟩ := hn
  have hlen := hvs.length
  obtain ⟨FG, BG, st, lv⟩ := groundX (R := RV C f m fz s Q) (env := f.fenv) ok.below F N (n1.trans ok.stack) rfl ok.kind
  refine codeAny_call_def (fd := fnX name qual params _ scope [] dV kV doc pm an cdv ct) (binds := ns.zip vs) (by omega) (XK _ _ ho) rfl (ok.top.nolimit.keeps F.keep) (codeRec_of XK hcd) rfl (kp_binds XK fun S => hbind S vs hlen) hcell (fun y hy => hloc _ (List.of_mem_zip hy).1) (fun h₁ hns hk₁ => ?_) hco hgen hk
  have hkH : ∀ b o, C.H.get? b = some o → (hideAll s.heap (news.map (·.1))).get? b = some o := fun b o hb => FG.keep b o (ok.hk b o hb)
  have F' : Fr (hideAll s.heap (news.map (·.1))) s.heap.objs.size h₁ (fun y => (ns.zip vs).reverse.lookup y) := ⟨hns, fun b o e => hk₁ b o (of_hideAll _ e), Nat.le_of_eq (hideAll_size _ _)⟩
  have N' : News (hideAll s.heap (news.map (·.1))) s.heap.objs.size h₁ news := fun p hp => ⟨hk₁ _ _ (N p hp).1, Nat.ne_of_lt (Heap.lt_size (N p hp).1), hideAll_none _ (List.mem_map_of_mem hp)⟩
  generalize hg : hideAll s.heap (news.map (·.1)) = g at FG BG st lv hkH F' N'
  generalize hL : s.heap.objs.size = L' at F' N'
  have ok' : Fm.Ok C n ⟨A, A.deeper (envOf qual scope L' fa cdv), f.base, g, f.fenv :: f.outer, L', fa, qual, scope, cdv, [], f.pin, none⟩ :=
    ⟨BG, ok.kin.keeps st, ok.top.keeps st, hkH, Around.frames_deeper BG.stack, n2.trans ok.handled, n3.trans ok.guards, by show A.depth + 1 + 3 * n < _; omega, by show A.units + 3 + 10 * n + 100 < _; omega, hk, hk⟩
  have x' : SR C ⟨A, A.deeper (envOf qual scope L' fa cdv), f.base, g, f.fenv :: f.outer, L', fa, qual, scope, cdv, [], f.pin, none⟩ fz (ns.zip as) σ { s with heap := h₁, toks := s.toks + (ns.zip vs).length } :=
    ⟨_, news, δ, F', N', R, fun y a hy => lookup_zip hvs hnd hy⟩
  refine wpAny_execs_cons (wpAny_Try_except ?_)
  rcases h A (A.deeper (envOf qual scope L' fa cdv)) f.base g (f.fenv :: f.outer) L' f.pin with hw | ⟨hx, hq⟩
  · refine wpAny_mono (hw ok' fz _ _ x') (fun fl s' ⟨fz', σ', m', a, u, es, x2, va, a', ea, σ₂, hle, q⟩ => ?_) fun _ _ z => z
    subst ea
    cases fl with
    | ret v =>
      obtain ⟨mc', news', δ', F2, N2, R2, e2⟩ := x2.weaken (fun _ _ h => h) hle
      refine lv v s' (leaveK_ F2 N2 fun FK NK => ⟨_, rfl, fz', σ₂, a', u, ?_, ⟨mc, news', δ', FK, NK, R2, fun y b hy => ?_⟩, va, q⟩)
      · obtain ⟨hh, tt, ee⟩ := es; exact ⟨hh, tt, ee⟩
      · obtain ⟨v, h1, h2⟩ := e y b hy; exact ⟨v, h1, h2.up u⟩
    | _ => exact va.elim
  · refine wpAny_mono (hx ok' fz _ _ x' fun s₁ h' tk ea fz' u es x1 hnew => ?_) (fun _ _ z => z.elim) fun _ _ z => z
    obtain ⟨mc', news', δ', F1, N1, R1, e1⟩ := x1
    have gL : ∃ o, g.get? f.L = some o := by obtain ⟨o, _, _, ho, _⟩ := FG.ns; exact ⟨o, ho⟩
    obtain ⟨oL, hoL⟩ := gL
    have hlt : f.L < L' := Nat.lt_of_lt_of_le (Heap.lt_size hoL) F1.above
    have hLL : f.L ≠ L' := Nat.ne_of_lt hlt
    have hkk : ∀ env : Env, env.scope.kind = .function → env.scope.kind ≠ .module := fun env h => by rw [h]; decide
    have ns1 : s₁.heap.Ns L' mc' := F1.ns
    have ns2 : s₁.heap.Ns f.L mc := FG.ns.at' fun o q => F1.keep _ o q
    obtain ⟨ob, ws, he, hcls, hd, h1⟩ := hnew.there
    have hsz : 1 < ws.size := (Array.getElem?_eq_some_iff.mp h1).1
    have hB0 : ∀ b o, (hideAll s₁.heap [L', f.L]).get? b = some o → s₁.heap.get? b = some o := fun b o q => of_hideAll _ q
    have hBe : (hideAll s₁.heap [L', f.L]).get? ea = none := by
      cases q : (hideAll s₁.heap [L', f.L]).get? ea with
      | none => rfl
      | some o => have := hB0 _ _ q; rw [hnew.new] at this; cases this
    have hff : h'.FunFrames (hideAll s₁.heap [L', f.L]) (envOf qual scope L' fa cdv :: f.fenv :: []) :=
      .cons (hkk _ hk) rfl (ns1.at' fun o q => hnew.keeps _ o q) (hideAll_none _ (.head _)) (.cons (hkk _ ok.kind) rfl (ns2.at' fun o q => hnew.keeps _ o q) (hideAll_none _ (.tail _ (.head _))) trivial)
    have hfr : (A.deeper (envOf qual scope L' fa cdv)).frames = some (envOf qual scope L' fa cdv :: f.fenv :: []) := by
      have := Around.frames_deeper (env := envOf qual scope L' fa cdv) BG.stack
      rw [hout] at this; exact this
    change wpAny _ _ (noteFrame (.ref ea) (envOf qual scope L' fa cdv)) _ _ _
    unfold noteFrame
    simp only [show (envOf qual scope L' fa cdv).frame = some L' from rfl]
    refine wpAny_bind (wpAny_field he hd h1 ?_)
    rw [if_neg (by decide)]
    refine wpAny_entryW (a0 := ws[0]) hfr hff rfl he (fun b o q => hnew.keeps b o (hB0 b o q)) hBe hd hsz (Array.getElem?_eq_getElem _) fun h₃ hN => ?_
    obtain ⟨k1, k2, k3, k4⟩ := hN
    refine wpAny_landsW (base := hideAll s₁.heap [L', f.L]) (L := L') ⟨k1, hBe, k2, k3⟩ fun h₄ hfl sm => ?_
    have hUp0 : s₁.heap.UpToSlots h₃ := (Heap.UpToSlots.of_keeps hnew.keeps).trans k4
    have keepB : ∀ b o, s₁.heap.get? b = some o → b ≠ L' → b ≠ f.L → (hideAll s₁.heap [L', f.L]).get? b = some o := fun b o q q1 q2 => hideAll_get _ q fun hm => by
      rcases List.mem_cons.mp hm with r | hm
      · exact q1 r
      · exact q2 (List.mem_singleton.mp hm)
    have h0L : ∀ b o, f.h₀.get? b = some o → b ≠ L' ∧ b ≠ f.L := fun b o q => by
      have a1 : b < f.L := Nat.lt_of_lt_of_le (Heap.lt_size q) F.above
      exact ⟨Nat.ne_of_lt (Nat.lt_trans a1 hlt), Nat.ne_of_lt a1⟩
    have h0B : ∀ b o, f.h₀.get? b = some o → (hideAll s₁.heap [L', f.L]).get? b = some o := fun b o q => keepB b o (F1.keep b o (FG.keep b o q)) (h0L b o q).1 (h0L b o q).2
    have F4 : Fr f.h₀ L' h₄ mc' := ⟨(hUp0.trans sm).ns ns1, fun b o q => hfl.1 b o (h0B b o q), Nat.le_trans F.above (Nat.le_of_lt hlt)⟩
    obtain ⟨oe, hoe, hoec⟩ := hfl.there
    have hxk' : (envOf qual scope L' fa cdv).kindOf x = some .globalImplicit := by
      rcases hxk with q | q
      · exact q
      · exact q L'
    refine wpAny_handleBy_builtin (X := X) (T := T) (b := true) hexc hnt hsub (name_B F4 ok.kin (topRead_of ok.top) ex hv hxn ⟨rfl, ⟨oe, hoe, hoec.trans hcls⟩, ?_⟩ hk hxk' hxd)
    refine lands_againW hfl fun h₆ hfl₆ sm₆ => ?_
    refine wpAny_execs_cons (wpAny_Return_some (wpAny_List (wpAny_items_nil ⟨by decide, ?_⟩)))
    have F6 : Fr f.h₀ f.L h₆ mc := ⟨((hUp0.trans sm).trans sm₆).ns ns2, fun b o q => hfl₆.1 b o (h0B b o q), F.above⟩
    have N6 : News f.h₀ f.L h₆ news' := fun p hp => by
      obtain ⟨p1, p2, p3⟩ := N1 p hp
      dsimp only at p2 p3
      have p4 : p.1 ≠ f.L := fun q => by rw [q, hoL] at p3; cases p3
      refine ⟨hfl₆.1 _ _ (keepB _ _ p1 p2 p4), p4, ?_⟩
      cases q : f.h₀.get? p.1 with
      | none => rfl
      | some o => rw [FG.keep _ _ q] at p3; cases p3
    obtain ⟨hh, tt, ee⟩ := es
    subst ee
    have x6 : SR C f fz' m σ { s with heap := h₆, toks := tk } := ⟨mc, news', δ', F6, N6, R1, fun y b hy => by obtain ⟨v, g1, g2⟩ := e y b hy; exact ⟨v, g1, g2.up u⟩⟩
    have hnone : h₆.get? h₆.objs.size = none := size_none h₆
    refine ⟨_, rfl, [(h₆.objs.size, listOf (List.toArray []) 0)] ++ fz', σ, .lst [], fun p hp => List.mem_append_right _ (u p hp), ⟨_, _, rfl⟩, x6.freeze (t := tk) (fun b o e => Heap.get?_push_of_some _ e) _ (fun p hp => ?_), .lst (vs := []) (.inl (List.mem_append_left _ (List.mem_singleton.mpr rfl))) rfl rfl .nil, hq⟩
    rw [List.mem_singleton.mp hp]
    exact ⟨hnone, Nat.le_refl _, Heap.get?_push_size _ rfl⟩
end
end Mine

open PySem PySem.W PyProof.Rows PySem.Calls
namespace Mine
/-! ## dicts with whole numbers as keys -/
theorem pairs_any {p p' : Program} {w w' : World} : ∀ {es : List DictEntry} {kvs : List (Int × Value)}, Pairs (intKind p w) es kvs → Pairs (intKind p' w') es kvs
  | _, _, .nil => .nil
  | _, _, .cons a b c => .cons a b (pairs_any c)
theorem isDict_any {p p' : Program} {w w' : World} {o : Obj} {kvs : List (Int × Value)} (h : o.IsDictOf (intKind p w) kvs) : o.IsDictOf (intKind p' w') kvs := by
  obtain ⟨es, ep, h1, h2, h3, h4, h5⟩ := h
  exact ⟨es, ep, h1, h2, h3, pairs_any h4, h5⟩
def valA (es : List (Int × AVal)) (k : Int) : Option AVal := (es.find? fun kv => kv.1 = k).map (·.2)
def storeA (es : List (Int × AVal)) (k : Int) (v : AVal) : List (Int × AVal) := if es.any (fun kv => kv.1 = k) then es.map (fun kv => if kv.1 = k then (kv.1, v) else kv) else es ++ [(k, v)]
theorem Ks.val {P : Addr → Obj → Prop} {k : Int} : ∀ {kvs : List (Int × Value)} {es : List (Int × AVal)}, Ks P kvs es → (valueAt kvs k = none ∧ valA es k = none) ∨ ∃ v a, valueAt kvs k = some v ∧ valA es k = some a ∧ V P v a
  | _, _, .nil => .inl ⟨rfl, rfl⟩
  | _, _, .cons (k := k') (v := v) (a := a) (kvs := kvs) (es := es) q b => by
    unfold valueAt valA
    by_cases h : k' = k
    · exact .inr ⟨v, a, by simp [h], by simp [h], q⟩
    · have := b.val (k := k)
      unfold valueAt valA at this
      simpa [List.find?_cons, h] using this
theorem Ks.any {P : Addr → Obj → Prop} {k : Int} : ∀ {kvs : List (Int × Value)} {es : List (Int × AVal)}, Ks P kvs es → kvs.any (fun kv => kv.1 = k) = es.any (fun kv => kv.1 = k)
  | _, _, .nil => rfl
  | _, _, .cons q b => by simp [b.any (k := k)]
theorem Ks.length {P : Addr → Obj → Prop} : ∀ {kvs : List (Int × Value)} {es : List (Int × AVal)}, Ks P kvs es → kvs.length = es.length
  | _, _, .nil => rfl
  | _, _, .cons q b => by simp [b.length]
theorem Ks.snoc {P : Addr → Obj → Prop} {k : Int} {v : Value} {a : AVal} (hv : V P v a) : ∀ {kvs : List (Int × Value)} {es : List (Int × AVal)}, Ks P kvs es → Ks P (kvs ++ [(k, v)]) (es ++ [(k, a)])
  | _, _, .nil => .cons hv .nil
  | _, _, .cons q b => .cons q (b.snoc hv)
theorem Ks.mapAt {P : Addr → Obj → Prop} {k : Int} {v : Value} {a : AVal} (hv : V P v a) : ∀ {kvs : List (Int × Value)} {es : List (Int × AVal)}, Ks P kvs es → Ks P (kvs.map (fun kv => if kv.1 = k then (kv.1, v) else kv)) (es.map (fun kv => if kv.1 = k then (kv.1, a) else kv))
  | _, _, .nil => .nil
  | _, _, .cons (k := k') q b => by
    simp only [List.map_cons]
    by_cases h : k' = k
    · rw [if_pos h, if_pos h]; exact .cons hv (b.mapAt hv)
    · rw [if_neg h, if_neg h]; exact .cons q (b.mapAt hv)
theorem Ks.store {P : Addr → Obj → Prop} {k : Int} {v : Value} {a : AVal} (hv : V P v a) {kvs : List (Int × Value)} {es : List (Int × AVal)} (h : Ks P kvs es) : Ks P (stored kvs k v) (storeA es k a) := by
  unfold stored storeA
  rw [h.any]
  split
  · exact h.mapAt hv
  · exact h.snoc hv
section
variable {C : Cx} {n : Nat} {f : Fm} {m : AEnv} {σ : AHeap}
theorem SR.dict_ {fz : Fz} {s : Shared} (x : SR C f fz m σ s) {a : Addr} {es : List (Int × AVal)} (h : σ a = some (.dict es)) : ∃ o kvs, s.heap.get? a = some o ∧ (∀ p w, o.IsDictOf (intKind p w) kvs) ∧ Ks (At C fz) kvs es := by
  obtain ⟨mc, news, δ, F, N, R, e⟩ := x
  obtain ⟨o, kvs, h1, h2, h3⟩ := R.ob a _ h
  exact ⟨o, kvs, (N _ h1).1, h2, h3⟩
theorem we_dictM {pos : Pos} {Q : AVal → AHeap → Prop} (h : ∀ a, σ a = none → (a == sysModules) = false → Q (.obj a) (σ.set a (.dict []))) : WE C n f (.Dict [] [] pos) m σ Q := fun ok fz s E x => by
  have hlo : (s.heap.objs.size == sysModules) = false := by
    obtain ⟨mc, news, δ, F, N, R, e⟩ := x
    exact F.notModules (modules_low ok.top.nolimit)
  refine wpAny_Dict_empty ⟨fz, σ.set s.heap.objs.size (.dict []), .obj s.heap.objs.size, sub_refl, ⟨_, _, rfl⟩, x.newThing (t := s.toks) (fun _ _ => nofun) (fun b o e => Heap.get?_push_of_some _ e) (Nat.le_refl _) (Heap.get?_push_size _ rfl) (fun news d hm => ⟨_, [], hm, fun p w => ?_, .nil⟩), .obj _, h _ (x.fresh (Nat.le_refl _)) hlo⟩
  refine ⟨#[], 0, ⟨rfl, rfl, rfl⟩, rfl, ?_, .nil, List.nodup_nil⟩
  intro e he; simp at he
theorem tu_dict {a : Addr} {es : List (Int × AVal)} {k : Int} {y : AVal} {Q : AHeap → Prop} (ha : σ a = some (.dict es)) (hl : es.length ≤ sizeLine) (h : Q (σ.set a (.dict (storeA es k y)))) : TU C n f (.obj a) (.int k) y m σ Q := fun ok fz s E vo vi vy x ho hi hy => by
  cases ho; cases hi
  obtain ⟨o, kvs, h1, h2, h3⟩ := x.dict_ ha
  refine wpAny_setItem_pairs (knd := intKind C.prog C.w) (k := k) (kvs := kvs) (intKind_is _ _ _ _) (Heap.dictOf_iff.mpr ⟨o, h1, h2 _ _⟩) (fun h' hm hs => ?_) (hsz := by rw [h3.length]; exact hl)
  obtain ⟨o', ho', hd'⟩ := Heap.dictOf_iff.mp hm
  exact ⟨fz, _, sub_refl, ⟨_, _, rfl⟩, x.change (t := s.toks + 1) (ao' := .dict (storeA es k y)) ha (fun _ _ => nofun) (fun _ _ => nofun) hs ho' fun news d hmem => ⟨o', _, hmem, fun p w => isDict_any hd', h3.store hy⟩, h⟩
theorem tg_dictGet {a : Addr} {es : List (Int × AVal)} {Q : AVal → List AVal → AHeap → Prop} (ha : σ a = some (.dict es)) (h : Q (.raw (.builtin "dict.get")) [.obj a] σ) : TG C n f "get" (.obj a) m σ Q := fun ok fz s E v pl x hv => by
  cases hv
  obtain ⟨o, kvs, h1, h2, h3⟩ := x.dict_ ha
  have hD : s.heap.DictOf (intKind C.prog C.w) a kvs := Heap.dictOf_iff.mpr ⟨o, h1, h2 _ _⟩
  exact getMethod_builtin hD.typeIs PySem.F.plainAttrs_dict PySem.F.slot_dict_get PySem.F.type_dict_get hD.mapOf.noDict ⟨fz, σ, _, _, sub_refl, .rfl, x, .raw _, .cons (.obj a) .nil, h⟩
theorem tc_dictGet2 {a : Addr} {es : List (Int × AVal)} {k : Int} {y : AVal} {Q : AVal → AHeap → Prop} (ha : σ a = some (.dict es)) (lo : (a == sysModules) = false) (h : Q ((valA es k).getD y) σ) : TC C n f (.raw (.builtin "dict.get")) [.obj a, .int k, y] m σ Q := fun ok fz s E v vs x hv hvs => by
  cases hv
  obtain _ | ⟨h1, hvs⟩ := hvs; obtain _ | ⟨h2, hvs⟩ := hvs; obtain _ | ⟨h3, hvs⟩ := hvs; cases hvs; cases h1; cases h2
  obtain ⟨o, kvs, g1, g2, g3⟩ := x.dict_ ha
  have hD : s.heap.DictOf (intKind C.prog C.w) a kvs := Heap.dictOf_iff.mpr ⟨o, g1, g2 _ _⟩
  refine ⟨keep_builtin, call_meetsIn PySem.F.slot_dict_get hD.typeIs PySem.F.entry_dict_get (PySem.F.args_dict_get_3 _ _ _) (meets_dict_get_default (intKind C.prog C.w) a (intKind_is _ _ _ _) lo _) ⟨_, hD.mapOf, ?_⟩⟩
  rcases g3.val (k := k) with ⟨e1, e2⟩ | ⟨v, b, e1, e2, e3⟩
  · rw [e1]; rw [e2] at h; exact .tok x h3 h
  · rw [e1]; rw [e2] at h; exact .tok x e3 h
end
/-- the law's own frame, nothing around it -/
theorem enter1 {prog : Program} {w : World} {K : Frag} {vp : Program} {loose : List Str} {mean : ExcName → Option Value} {mg mb : Str → Option Value} {H : Heap} {L fa a : Addr} {vs : List Value} {ns : List Int} {qual : Str} {scope : Scope} {cdv : Value} {body : List Stmt} {s : Shared} {Q : Flow → Shared → Prop} {E : Value → Shared → Prop}
    (B : Below callerA H [] H) (X : K.In H) (T : Top vp loose mean mg mb H) (hL : H.IsList a vs.toArray) (hI : IntsAre vs ns) (F : Fr H L s.heap (fun x => List.lookup x [(Str.ofString "script", Value.ref a)].reverse)) (hk : scope.kind = .function) (hn : ns.length ≤ 63)
    (h : ∀ A₀ A base h₀ (ns : List Int), ns.length ≤ 63 → WS ⟨prog, w, K, vp, loose, mean, mg, mb, H⟩ 20 ⟨A₀, A, base, h₀, [], L, fa, qual, scope, cdv, [], [], none⟩ body [(Str.ofString "script", .lst (ns.map .int))] (fun _ => none) fun fl _ _ => fl = .ret (.bool true))
    (hQ : ∀ h' tk mc', Fr H L h' mc' → Q (.ret (.bool true)) { s with heap := h', toks := tk }) :
    wpAny (model prog w) (callerA.deeper (envOf qual scope L fa cdv)) (execs body (envOf qual scope L fa cdv)) Q E s := by
  have hE : ER (At ⟨prog, w, K, vp, loose, mean, mg, mb, H⟩ []) [(Str.ofString "script", .lst (ns.map .int))] (fun x => List.lookup x [(Str.ofString "script", Value.ref a)].reverse) := fun y v hy => by
    unfold getA at hy
    by_cases q : (Str.ofString "script" == y) = true
    · rw [if_pos q] at hy; cases hy
      have : Str.ofString "script" = y := by simpa using q
      subst this
      obtain ⟨o, h1, h2, k, h3⟩ := hL
      exact ⟨.ref a, by simp, .lst (.inr h1) h2 h3 (vs_ints hI)⟩
    · rw [if_neg q] at hy; cases hy
  have ok : Fm.Ok ⟨prog, w, K, vp, loose, mean, mg, mb, H⟩ 20 ⟨callerA, callerA.deeper (envOf qual scope L fa cdv), H, H, [], L, fa, qual, scope, cdv, [], [], none⟩ :=
    ⟨B, X, T, fun _ _ h => h, rfl, rfl, rfl, (show 1 + claimMargin + 1 + 3 * 20 < recursionLimit by decide), (show 4 + 3 + 10 * 20 + 100 < cLine by decide), hk, hk⟩
  have x : SR ⟨prog, w, K, vp, loose, mean, mg, mb, H⟩ ⟨callerA, callerA.deeper (envOf qual scope L fa cdv), H, H, [], L, fa, qual, scope, cdv, [], [], none⟩ [] [(Str.ofString "script", .lst (ns.map .int))] (fun _ => none) s :=
    ⟨_, [], id, F, News.nil, ⟨fun p hp => (nomatch hp), fun p hp => (nomatch hp), fun a ao e => (nomatch e), fun a ao e => (nomatch e), fun a c as e => (nomatch e), fun a c as e => (nomatch e), fun a c as b c' bs e => (nomatch e)⟩, hE⟩
  refine wpAny_mono (h callerA _ H H ns hn ok [] s E x) (fun fl s' ⟨fz', σ', m', a, u, es, x2, va, q⟩ => ?_) fun _ _ z => z
  subst q
  cases fl with
  | ret v =>
    cases va
    obtain ⟨h', tk, rfl⟩ := es
    obtain ⟨mc', news, δ, F', N', R, e⟩ := x2
    exact hQ h' tk mc' F'
  | _ => exact va.elim
end Mine

open PySem PySem.W PyProof.Rows
set_option maxHeartbeats 8000000
namespace Mine
open_top hd01 for PySem.Challenge.rw_dn0301_01
end Mine

open PySem PySem.W PyProof.Rows PySem.Calls
open Mine
local macro_rules | `(tactic| walk_at "hp") => `(tactic| first
  | assumption
  | exact AHeap.set_same ..
  | (refine (AHeap.set_ne _ _ ?_).trans ?_; first | (first | assumption | exact Ne.symm (by assumption) | exact hp_ne (by assumption) (by assumption) | exact Ne.symm (hp_ne (by assumption) (by assumption))); walk_at "hp"))
local macro_rules | `(tactic| walk_at "we") => `(tactic| first
  | with_reducible refine we_int ?_
  | ((with_reducible refine' we_local ?h1 ?h2 ?_ ?h3 ?h4); (case h1 => rfl); (case h2 => rfl); (case h3 => decide); (case h4 => rfl))
  | ((with_reducible refine' we_cell ?h1 ?h2 ?h4 ?_ ?h3); (case h1 => rfl); (case h2 => rfl); (case h4 => walk_at "hp"); (case h3 => decide))
  | ((with_reducible refine' we_clocal ?h1 ?h2 ?h4 ?h5 ?_ ?h3); (case h1 => rfl); (case h2 => rfl); (case h4 => walk_at "hp"); (case h5 => rfl); (case h3 => decide))
  | with_reducible refine we_binop ?_
  | with_reducible refine we_str ?_
  | with_reducible refine we_none ?_
  | with_reducible refine we_bool ?_
  | with_reducible refine we_unary ?_
  | with_reducible refine we_ifexp ?_
  | with_reducible refine we_andN ?_
  | with_reducible refine we_orN ?_
  | with_reducible refine we_one ?_
  | ((with_reducible refine we_compare ?_ ?h1); (case h1 => rfl))
  | ((with_reducible refine' we_global ?h1 ?h2 ?_ ?h3); (case h1 => rfl); (case h2 => assumption); (case h3 => decide))
  | ((with_reducible refine' we_builtin ?h1 ?h2 ?h4 ?_ ?h5 ?h3); (case h1 => rfl); (case h2 => assumption); (case h4 => boot_by_name); (case h5 => decide); (case h3 => decide))
  | ((with_reducible refine we_call ?_ ?h1); (case h1 => rfl))
  | (refine we_method ?_)
  | ((with_reducible refine we_attr ?_ ?h1); (case h1 => rfl))
  | with_reducible refine we_tup ?_
  | with_reducible refine we_lst ?_
  | with_reducible refine we_sub (slice := .Name _ _) ?_
  | with_reducible refine we_sub (slice := .Constant _ _ _) ?_
  | with_reducible refine we_sub (slice := .BinOp _ _ _ _) ?_
  | with_reducible refine we_sub (slice := .UnaryOp _ _ _) ?_
  | with_reducible refine we_sub (slice := .Call _ _ _ _) ?_
  | with_reducible refine we_sub (slice := .Subscript _ _ _) ?_)
local macro_rules | `(tactic| walk_at "t2") => `(tactic| first
  | with_reducible refine t2_add ?_
  | with_reducible refine t2_sub ?_
  | with_reducible refine t2_eq ?_
  | with_reducible refine t2_ne ?_
  | with_reducible refine t2_lt ?_
  | with_reducible refine t2_gt ?_
  | ((with_reducible refine t2_div ?h1 ?h2 ?_); (case h1 => decide); (case h2 => decide))
  | ((with_reducible refine t2_mod ?h1 ?h2 ?_); (case h1 => decide); (case h2 => decide))
  | with_reducible refine t2_isNone ?_
  | with_reducible refine t2_isNotNone ?_)
local macro_rules | `(tactic| walk_at "tc") => `(tactic| first
  | with_reducible refine tc_cat1 ?_
  | walk_at "tcx"
  | ((with_reducible refine' tc_len ?h1 ?h2 ?_); (case h1 => first | rfl | exact items_obj (by walk_at "hp")); (case h2 => first | decide | (simp <;> omega)))
  | with_reducible refine tc_max ?_
  | with_reducible refine tc_min ?_)
local macro_rules | `(tactic| walk_at "fw") => `(tactic| first
  | ((with_reducible show WE _ _ _ _ _ _ _); walk_at "we")
  | ((with_reducible show WL _ _ _ _ _ _ _ _); (first | ((with_reducible refine wl_cons ?_ ?h1); (case h1 => rfl)) | with_reducible refine wl_nil ?_))
  | ((with_reducible show T2 _ _ _ _ _ _ _ _ _); walk_at "t2")
  | ((with_reducible show T1 _ _ _ _ _ _ _ _); first | with_reducible refine t1_neg ?_ | ((refine' t1_attr ?h1 ?h2 ?h3 ?h4 ?h5 ?h6 ?h7 ?_); (case h1 => walk_at "hp"); (case h2 => rfl); (case h3 => apply_assumption); (case h4 => assumption); (case h5 => assumption); (case h6 => rfl); (case h7 => first | assumption | rfl)))
  | ((with_reducible show TW _ _ _ _ _ _ _ _ _); ((refine' tw_inst ?h1 ?h2 ?h3 ?h4 ?h5 ?h6 ?_); (case h1 => walk_at "hp"); (case h2 => assumption); (case h3 => assumption); (case h4 => assumption); (case h5 => assumption); (case h6 => exact Nat.le_of_ble_eq_true (by rfl))))
  | ((with_reducible show TB _ _ _ _ _ _ _ _); with_reducible refine tb_bool ?_)
  | ((with_reducible show TG _ _ _ _ _ _ _ _); first | ((with_reducible refine' tg_fin ?h1 ?h2 ?h3 ?_); (case h1 => apply_assumption); (case h2 => assumption); (case h3 => assumption)) | ((with_reducible refine' tg_inst ?h1 ?h2 ?h3 ?h4 ?h5 ?_); (case h1 => walk_at "hp"); (case h2 => rfl); (case h3 => apply_assumption); (case h4 => assumption); (case h5 => assumption)))
  | ((with_reducible show List.length _ ≤ sizeLine ∧ _); refine And.intro (by first | decide | (simp [sizeLine_eq])) ?_)
  | ((with_reducible show (if true = true then _ else _)); rw [if_pos rfl])
  | ((with_reducible show (if false = true then _ else _)); rw [if_neg Bool.false_ne_true])
  | ((with_reducible show TC _ _ _ _ _ _ _ _); walk_at "tc")
  | ((with_reducible show WT _ _ _ _ _ _ _); first | ((with_reducible refine wt_compare ?_ ?h1); (case h1 => rfl)) | (with_reducible refine wt_bool ?_) | (with_reducible refine wt_not ?_))
  | ((with_reducible show WA _ _ _ _ _ _ _ _); first | (with_reducible refine wa_or ?_) | (with_reducible refine wa_or_nil ?_) | (with_reducible refine wa_and ?_) | (with_reducible refine wa_and_nil ?_))
  | ((with_reducible show WO _ _ _ _ _ _ _); first | (with_reducible refine wo_none ?_) | (with_reducible refine wo_some ?_))
  | ((with_reducible show WQ _ _ _ _ _ _ _); first | (with_reducible refine wq_nil ?_) | (with_reducible refine wq_one ?_))
  | ((with_reducible show WS _ _ _ _ _ _ _); (first | with_reducible refine ws_cons ?_ | with_reducible refine ws_nil ?_))
  | ((with_reducible show W1 _ _ _ _ _ _ _); (first | with_reducible refine w1_return ?_ | with_reducible refine w1_if ?_ | ((with_reducible refine w1_assign ?_ ?h1); (case h1 => rfl)) | ((with_reducible refine w1_assignT ?_ ?h1 ?h2); (case h1 => rfl); (case h2 => rfl)) | ((with_reducible refine w1_setItem ?_ ?h1); (case h1 => rfl)) | ((with_reducible refine w1_setAttr ?_ ?h1); (case h1 => rfl)) | ((with_reducible refine w1_expr ?_ ?h1 ?h2); (case h1 => rfl); (case h2 => rfl))))
  | ((with_reducible show TA _ _ _ _ _ _ _ _); (first | (refine ta_tup ?_) | (refine ta_name (ts_local (by rfl) ?_ (by rfl))) | (refine ta_name (ts_cell (by rfl) (by rfl) (by walk_at "hp") ?_)) | (with_reducible refine ta_sub ?_)))
  | ((with_reducible show TS _ _ _ _ _ _ _ _); first | (refine ts_local (by rfl) ?_ (by rfl)) | (refine ts_cell (by rfl) (by rfl) (by walk_at "hp") ?_))
  | ((with_reducible show TAs _ _ _ _ _ _ _ _); (first | (refine tas_cons ?_) | (refine tas_nil ?_)))
  | ((with_reducible show (_ = true → _) ∧ (_ = false → _)); (first | exact And.intro (fun hk => absurd hk (by decide)) (fun hk => absurd hk (by decide)) | refine And.intro (fun _ => ?_) (fun hk => absurd hk (by decide)) | refine And.intro (fun hk => absurd hk (by decide)) (fun _ => ?_) | refine And.intro (fun hk => ?_) (fun hk => ?_))))
namespace Mine
/-- what the text's top has -/
structure K01 (C : Cx) : Prop where
  hK : C.K = hd01.heap_39 C.w.params
  g_Locator : nsIn C.K mainGlobals (Str.ofString "Locator") = some (some (.ref 52))
  g__law_write : nsIn C.K mainGlobals (Str.ofString "_law_write") = some (some (.ref 63))
  g__law_read : nsIn C.K mainGlobals (Str.ofString "_law_read") = some (some (.ref 70))
  g__law_plain : nsIn C.K mainGlobals (Str.ofString "_law_plain") = some (some (.ref 77))
  k_52 : keepIn C.K (.ref 52) = true
  k_63 : keepIn C.K (.ref 63) = true
  k_70 : keepIn C.K (.ref 70) = true
  k_77 : keepIn C.K (.ref 77) = true
  b_range : nsIn C.K mainGlobals (Str.ofString "range") = some none
  b_type : nsIn C.K mainGlobals (Str.ofString "type") = some none
  b_int : nsIn C.K mainGlobals (Str.ofString "int") = some none
  b_AttributeError : nsIn C.K mainGlobals (Str.ofString "AttributeError") = some none
  mk_52 : makesIn C.K 52 = true
  ini_52 : findIn C.K (.ref 52) (Str.ofString "__init__") = some (some (.builtin "object.__init__"))
  pg_52 : ∀ name, plainGet C.K 52 name = true
  f_52_28 : findIn C.K (.ref 52) (Str.ofString "getColumnNumber") = some (some (.ref 28))
  i_52_28 : isFn C.K (.ref 28) = true
  k_52_28 : keepIn C.K (.ref 28) = true
  f_52_35 : findIn C.K (.ref 52) (Str.ofString "getLineNumber") = some (some (.ref 35))
  i_52_35 : isFn C.K (.ref 35) = true
  k_52_35 : keepIn C.K (.ref 35) = true
  f_52_42 : findIn C.K (.ref 52) (Str.ofString "getPublicId") = some (some (.ref 42))
  i_52_42 : isFn C.K (.ref 42) = true
  k_52_42 : keepIn C.K (.ref 42) = true
  f_52_49 : findIn C.K (.ref 52) (Str.ofString "getSystemId") = some (some (.ref 49))
  i_52_49 : isFn C.K (.ref 49) = true
  k_52_49 : keepIn C.K (.ref 49) = true
  sa_52 : findIn C.K (.ref 52) "__setattr__" = some (some (.builtin "object.__setattr__"))
  po_52 : plainOver C.K 52 = true
  hd_52 : hasDictIn C.K 52 = true
  fa_52_column : findIn C.K (.ref 52) (Str.ofString "column") = some none
  tk_52_column : takerIn C.K 52 (Str.ofString "column") = some none
  fa_52_line : findIn C.K (.ref 52) (Str.ofString "line") = some none
  tk_52_line : takerIn C.K 52 (Str.ofString "line") = some none
  fa_52_public_id : findIn C.K (.ref 52) (Str.ofString "public_id") = some none
  tk_52_public_id : takerIn C.K 52 (Str.ofString "public_id") = some none
  fa_52_system_id : findIn C.K (.ref 52) (Str.ofString "system_id") = some none
  tk_52_system_id : takerIn C.K 52 (Str.ofString "system_id") = some none
  fa_52_columnNumber : findIn C.K (.ref 52) (Str.ofString "columnNumber") = some none
  tk_52_columnNumber : takerIn C.K 52 (Str.ofString "columnNumber") = some none
  fa_52_lineNumber : findIn C.K (.ref 52) (Str.ofString "lineNumber") = some none
  tk_52_lineNumber : takerIn C.K 52 (Str.ofString "lineNumber") = some none
  fa_52_publicId : findIn C.K (.ref 52) (Str.ofString "publicId") = some none
  tk_52_publicId : takerIn C.K 52 (Str.ofString "publicId") = some none
  fa_52_systemId : findIn C.K (.ref 52) (Str.ofString "systemId") = some none
  tk_52_systemId : takerIn C.K 52 (Str.ofString "systemId") = some none
theorem k01 {C : Cx} (hK : C.K = hd01.heap_39 C.w.params) : K01 C := by
  obtain ⟨prog, w, K, vp, loose, mean, mg, mb, H⟩ := C
  dsimp only at hK
  subst hK
  constructor <;> first | kernel_rfl | rfl | (intro name; kernel_rfl)
section
variable {C : Cx} {n : Nat} {σ : AHeap} {Q : AVal → AHeap → Prop} {a : AVal}
theorem getColumnNumber (K : K01 C) (h : Q (.int (-1)) σ) : Fn C (n + 1) 28 [a] σ Q := by
  refine fn_plain (ns := [Str.ofString "self"]) (dv := []) (da := []) (ho := by rw [K.hK]; rfl) (hcd := by rw [K.hK]; kernel_rfl) (hbind := ?_) (hd := fun _ => .nil) (hnd := by decide) (hloc := by decide) (h := ?_)
  · intro S vs hv
    match vs, hv with
    | [v], _ => rfl
  · intro A₀ A base h₀ outer L pin
    exact ws_cons (w1_return (we_unary (we_int (t1_neg (ret_le h)))))
theorem getLineNumber (K : K01 C) (h : Q (.int (-1)) σ) : Fn C (n + 1) 35 [a] σ Q := by
  refine fn_plain (ns := [Str.ofString "self"]) (dv := []) (da := []) (ho := by rw [K.hK]; rfl) (hcd := by rw [K.hK]; kernel_rfl) (hbind := ?_) (hd := fun _ => .nil) (hnd := by decide) (hloc := by decide) (h := ?_)
  · intro S vs hv
    match vs, hv with
    | [v], _ => rfl
  · intro A₀ A base h₀ outer L pin
    exact ws_cons (w1_return (we_unary (we_int (t1_neg (ret_le h)))))
theorem getPublicId (K : K01 C) (h : Q .none σ) : Fn C (n + 1) 42 [a] σ Q := by
  refine fn_plain (ns := [Str.ofString "self"]) (dv := []) (da := []) (ho := by rw [K.hK]; rfl) (hcd := by rw [K.hK]; kernel_rfl) (hbind := ?_) (hd := fun _ => .nil) (hnd := by decide) (hloc := by decide) (h := ?_)
  · intro S vs hv
    match vs, hv with
    | [v], _ => rfl
  · intro A₀ A base h₀ outer L pin
    exact ws_cons (w1_return (we_none (ret_le h)))
theorem getSystemId (K : K01 C) (h : Q .none σ) : Fn C (n + 1) 49 [a] σ Q := by
  refine fn_plain (ns := [Str.ofString "self"]) (dv := []) (da := []) (ho := by rw [K.hK]; rfl) (hcd := by rw [K.hK]; kernel_rfl) (hbind := ?_) (hd := fun _ => .nil) (hnd := by decide) (hloc := by decide) (h := ?_)
  · intro S vs hv
    match vs, hv with
    | [v], _ => rfl
  · intro A₀ A base h₀ outer L pin
    exact ws_cons (w1_return (we_none (ret_le h)))
end
end Mine

open PySem PySem.W PyProof.Rows PySem.Calls
local macro_rules | `(tactic| walk_at "tcx") => `(tactic| first
  | ((with_reducible refine tc_fn ?h1 (getLineNumber ?h2 ?_)); (case h1 => assumption); (case h2 => assumption))
  | ((with_reducible refine tc_fn ?h1 (getColumnNumber ?h2 ?_)); (case h1 => assumption); (case h2 => assumption))
  | ((with_reducible refine tc_fn ?h1 (getPublicId ?h2 ?_)); (case h1 => assumption); (case h2 => assumption))
  | ((with_reducible refine tc_fn ?h1 (getSystemId ?h2 ?_)); (case h1 => assumption); (case h2 => assumption))
  | ((with_reducible refine tc_fin ?h1 ?h2 ?h3 ?_); (case h1 => assumption); (case h2 => assumption); (case h3 => assumption)))
namespace Mine

def nm (i : Nat) : Str := [Str.ofString "column", Str.ofString "line", Str.ofString "public_id", Str.ofString "system_id", Str.ofString "columnNumber", Str.ofString "lineNumber", Str.ofString "publicId", Str.ofString "systemId"].getD i (Str.ofString "")
theorem nm_inj : ∀ i < 8, ∀ j < 8, nm i = nm j → i = j := by decide +kernel
theorem nm_not : ∀ i < 8, nm i ≠ Str.ofString "getColumnNumber" ∧ nm i ≠ Str.ofString "getLineNumber" ∧ nm i ≠ Str.ofString "getPublicId" ∧ nm i ≠ Str.ofString "getSystemId" := by decide +kernel
theorem setA_len {x : Str} {v : AVal} : ∀ {m : List (Str × AVal)}, (setA x v m).length ≤ m.length + 1
  | [] => by simp [setA]
  | (y, a) :: r => by
    unfold setA
    split
    · simp
    · simp [setA_len (x := x) (v := v) (m := r)]
def okV (v : AVal) : Prop := v = .none ∨ (∃ i, v = .int i) ∨ v = .str (Str.ofString "a") ∨ ∃ i, v = .lst [.int i]
theorem okV.handed {v : AVal} (h : okV v) : handedA v = true := by
  rcases h with rfl | ⟨i, rfl⟩ | rfl | ⟨i, rfl⟩ <;> rfl
theorem okV.rd {v : AVal} (h : okV v) (σ : AHeap) : ∃ d, Rd σ v d ∧ Dk 1 d := by
  rcases h with rfl | ⟨i, rfl⟩ | rfl | ⟨i, rfl⟩
  · exact ⟨_, .none, Dk.none⟩
  · exact ⟨_, .int i, Dk.int⟩
  · exact ⟨_, .str _, Dk.str (by decide +kernel)⟩
  · exact ⟨_, .lst (.cons (.int i) .nil), Dk.list fun d hd => by rw [List.mem_singleton.mp hd]; exact Dk.int⟩
def readA (as : List (Str × AVal)) (k : Nat) : List AVal := match getA (nm k) as with
  | some v => [v]
  | none => []
section
variable {C : Cx} {n : Nat} {σ : AHeap} {Q : AVal → AHeap → Prop}
set_option maxHeartbeats 4000000 in
theorem write01 (K : K01 C) {a : Addr} {k : Nat} {v : AVal} {as : List (Str × AVal)} (hk : k < 8) (ha : σ a = some (.inst 52 as)) (hl : as.length ≤ 999) (h : Q .none (σ.set a (.inst 52 (setA (nm k) v as)))) : Fn C (n + 1) 63 [.obj a, .int k, v] σ Q := by
  refine fn_plain (ns := [Str.ofString "locator", Str.ofString "name", Str.ofString "value"]) (dv := []) (da := []) (ho := by rw [K.hK]; rfl) (hcd := by rw [K.hK]; kernel_rfl) (hbind := ?_) (hd := fun _ => .nil) (hnd := by decide) (hloc := by decide) (h := ?_)
  · intro S vs hv
    match vs, hv with
    | [v1, v2, v3], _ => rfl
  · intro A₀ A base h₀ outer L pin
    have K' := K
    cases K'
    have hlen : ∀ x : Str, (setA x v as).length ≤ 1000 := fun x => by have := setA_len (x := x) (v := v) (m := as); omega
    obtain rfl | rfl | rfl | rfl | rfl | rfl | rfl | rfl : k = 0 ∨ k = 1 ∨ k = 2 ∨ k = 3 ∨ k = 4 ∨ k = 5 ∨ k = 6 ∨ k = 7 := by omega
    all_goals
      repeat walk_at "fw"
      refine tw_inst ha (by assumption) (by assumption) (by assumption) (by assumption) (hlen _) ?_
      repeat walk_at "fw"
      exact ⟨_, AHeap.le_refl _, h⟩
set_option maxHeartbeats 4000000 in
theorem read01 (K : K01 C) {a : Addr} {k : Nat} {as : List (Str × AVal)} (hk : k < 8) (ha : σ a = some (.inst 52 as)) (hok : ∀ v, getA (nm k) as = some v → okV v) (h : Q (.lst (readA as k)) σ) : Fn1 C (n + 1) 70 [.obj a, .int k] σ Q := by
  refine fn_try1 (ns := [Str.ofString "locator", Str.ofString "name"]) (T := "AttributeError") (X := "AttributeError") (ho := by rw [K.hK]; rfl) (hcd := by rw [K.hK]; kernel_rfl) (hbind := ?_) (hnd := by decide) (hloc := by decide) (ex := K.b_AttributeError) (hv := PyProof.Rows.Boot.«AttributeError») (hxn := by decide) (hxk := .inr fun _ => rfl)
    (hexc := by rw [isSubtype_type]; kernel_rfl) (hnt := by rw [show ((Manifest.find? "AttributeError").elim "type" fun x => x.metatype) = "type" from by kernel_rfl, isSubtype_type]; kernel_rfl) (hsub := sub_AttributeError) (hxd := by decide) (h := ?_)
  · intro S vs hv
    match vs, hv with
    | [v1, v2], _ => rfl
  · intro A₀ A base h₀ outer L pin
    have K' := K
    cases K'
    unfold readA at h
    have htn : ∀ S, peek C.K S (typeNameCut 100 (.ref 52)) = some "Locator" := fun S => by rw [K.hK]; kernel_rfl
    cases q : getA (nm k) as with
    | some v =>
      left
      rw [q] at h
      have hv := (hok v q).handed
      obtain rfl | rfl | rfl | rfl | rfl | rfl | rfl | rfl : k = 0 ∨ k = 1 ∨ k = 2 ∨ k = 3 ∨ k = 4 ∨ k = 5 ∨ k = 6 ∨ k = 7 := by omega
      all_goals
        repeat walk_at "fw"
        refine t1_attr ha q (K.pg_52 _) (by assumption) (by assumption) rfl hv ?_
        repeat walk_at "fw"
        exact ⟨_, rfl, _, AHeap.le_refl _, h⟩
    | none =>
      right
      rw [q] at h
      refine ⟨?_, h⟩
      obtain rfl | rfl | rfl | rfl | rfl | rfl | rfl | rfl : k = 0 ∨ k = 1 ∨ k = 2 ∨ k = 3 ∨ k = 4 ∨ k = 5 ∨ k = 6 ∨ k = 7 := by omega
      all_goals
        repeat (refine xs_if ?_; (repeat walk_at "fw"); refine ⟨rfl, fun hk => absurd hk (by decide), fun _ => ?_⟩)
      all_goals
        try (refine xs_if ?_; (repeat walk_at "fw"); refine ⟨rfl, fun _ => ?_, fun hk => absurd hk (by decide)⟩)
      all_goals
        refine xs_retAttr (a := a) (c := 52) (as := as) (tn := "Locator") ?_ ha q (K.pg_52 _) (by assumption) (by assumption) (by decide +kernel) htn (by decide) (by rw [sizeLine_eq]; decide +kernel) rfl rfl
        repeat walk_at "fw"
        exact ⟨rfl, rfl⟩
end
end Mine

open PySem PySem.W PyProof.Rows PySem.Calls
namespace Mine

/-- a locator that answers as the class does -/
def isLoc (σ : AHeap) (l : AVal) : Prop := l = .fin 52 ∨ ∃ a as, l = .obj a ∧ σ a = some (.inst 52 as) ∧ getA (Str.ofString "getColumnNumber") as = none ∧ getA (Str.ofString "getLineNumber") as = none ∧ getA (Str.ofString "getPublicId") as = none ∧ getA (Str.ofString "getSystemId") as = none
def ans (q : Nat) : AVal := [AVal.int (-1), .int (-1), .none, .none].getD q .none
theorem isLoc.off {σ : AHeap} {l : AVal} {b : Addr} {o : AObj} (h : isLoc σ l) (hb : σ b = none) : isLoc (σ.set b o) l := by
  rcases h with h | ⟨a, as, rfl, h1, h2⟩
  · exact .inl h
  · exact .inr ⟨a, as, rfl, (AHeap.set_ne _ _ (hp_ne h1 hb)).trans h1, h2⟩
theorem isLoc.put {σ : AHeap} {l : AVal} {b : Addr} {o : AObj} {xs : List AVal} (h : isLoc σ l) (hb : σ b = some (.list xs)) : isLoc (σ.set b o) l := by
  rcases h with h | ⟨a, as, rfl, h1, h2⟩
  · exact .inl h
  · exact .inr ⟨a, as, rfl, (AHeap.set_ne _ _ (fun q => by rw [q, hb] at h1; cases h1)).trans h1, h2⟩
section
variable {C : Cx} {n : Nat} {σ : AHeap} {f : Fm} {m : AEnv}
theorem tg_loc (K : K01 C) {l : AVal} {Q : AVal → List AVal → AHeap → Prop} {name : Str} {g : Addr} (hl : isLoc σ l) (hn : name = Str.ofString "getColumnNumber" ∨ name = Str.ofString "getLineNumber" ∨ name = Str.ofString "getPublicId" ∨ name = Str.ofString "getSystemId")
    (hf : findIn C.K (.ref 52) name = some (some (.ref g))) (ht : isFn C.K (.ref g) = true) (h : Q (.raw (.ref g)) [l] σ) : TG C n f name l m σ Q := by
  rcases hl with rfl | ⟨a, as, rfl, h1, h2, h3, h4, h5⟩
  · exact tg_fin (K.pg_52 _) hf ht h
  · refine tg_inst h1 ?_ (K.pg_52 _) hf ht h
    rcases hn with rfl | rfl | rfl | rfl <;> assumption
end
section
variable {C : Cx} {n : Nat} {σ : AHeap} {Q : AVal → AHeap → Prop}
set_option maxHeartbeats 4000000 in
theorem plain01 (K : K01 C) {l : AVal} {fi : Int} (hl : isLoc σ l) (h : Q (.bool true) σ) : Fn C (n + 2) 77 [l, .int fi] σ Q := by
  refine fn_plain (ns := [Str.ofString "locator", Str.ofString "first"]) (dv := []) (da := []) (ho := by rw [K.hK]; rfl) (hcd := by rw [K.hK]; kernel_rfl) (hbind := ?_) (hd := fun _ => .nil) (hnd := by decide) (hloc := by decide) (h := ?_)
  · intro S vs hv
    match vs, hv with
    | [v1, v2], _ => rfl
  · intro A₀ A base h₀ outer L pin
    have K' := K
    cases K'
    iterate 2 walk_at "fw"
    refine we_listM ?_
    repeat walk_at "fw"
    intro t ht
    repeat walk_at "fw"
    with_reducible refine W1.weaken (m' := [(Str.ofString "locator", l), (Str.ofString "first", .int fi), (Str.ofString "told", .obj t)]) ?hm (AHeap.le_refl _) ?_
    case hm => exact Has.sub ⟨rfl, rfl, rfl, trivial⟩
    with_reducible refine w1_for (fun rest m' σ' => ∃ (j : Nat) (ts : List AVal), rest = (rngL 0 1 4).drop j ∧ ts.length = 4 ∧ σ' = σ.set t (.list ts) ∧ (∀ i q : Nat, i < j → ((fi + i).fmod 4) = q → ts[q]? = some (ans q)) ∧ m' = [(Str.ofString "locator", l), (Str.ofString "first", .int fi), (Str.ofString "told", .obj t)]) ?_ ?_ ?_ ?hs
    case hs => intro _; rfl
    · refine wi ?_
      repeat walk_at "fw"
      refine tc_range1 ?_
      refine ti_rng (k := 4) (rng_small1 (by omega) (by omega)) (rng_size1' (k := 4)) ⟨rfl, 0, _, by simp, ?_, rfl, fun i q hi => absurd hi (by omega), rfl⟩
      rfl
    · rintro pin x xs m' σ' ⟨j, ts, h1, hts, rfl, hI, rfl⟩
      obtain ⟨hj, rfl, rfl⟩ := rngL_cons h1
      have e0 : (0 + (j : Int) * 1) = j := by omega
      rw [e0]
      have hlo : isLoc (σ.set t (.list ts)) l := hl.off ht
      obtain ⟨hq0, hq1⟩ := fmod_range (fi + j) (y := 4) (by decide)
      have hst : (σ.set t (.list ts)) t = some (.list ts) := AHeap.set_same ..
      have fin : ∀ q : Nat, ((fi + j).fmod 4) = q → q < 4 → ∀ v, v = ans q → Turn id (fun m' σ' => ∃ (j' : Nat) (ts : List AVal), (rngL 0 1 4).drop (j + 1) = (rngL 0 1 4).drop j' ∧ ts.length = 4 ∧ σ' = σ.set t (.list ts) ∧ (∀ i q : Nat, i < j' → ((fi + i).fmod 4) = q → ts[q]? = some (ans q)) ∧ m' = [(Str.ofString "locator", l), (Str.ofString "first", .int fi), (Str.ofString "told", .obj t)]) (fun fl _ σ' => ∃ σ₂ : AHeap, σ₂.le σ' ∧ Q (retOf fl) σ₂) .next [(Str.ofString "locator", l), (Str.ofString "first", .int fi), (Str.ofString "told", .obj t), (Str.ofString "k", .int j), (Str.ofString "question", .int ((fi + j).fmod 4))] ((σ.set t (.list ts)).set t (.list (ts.set q v))) := by
        intro q hq hq4 v hv
        refine ⟨[(Str.ofString "locator", l), (Str.ofString "first", .int fi), (Str.ofString "told", .obj t)], _, Has.sub ⟨rfl, rfl, rfl, trivial⟩, AHeap.le_refl _, j + 1, ts.set q v, rfl, by simp [hts], by rw [AHeap.set_set], fun i q' hi hq' => ?_, rfl⟩
        by_cases e : q' = q
        · subst e; rw [List.getElem?_set_self (by omega), hv]
        · rw [List.getElem?_set_ne (fun r => e r.symm)]
          refine hI i q' ?_ hq'
          rcases Nat.lt_succ_iff_lt_or_eq.mp hi with r | r
          · exact r
          · subst r; rw [hq] at hq'; exact absurd (by omega) e
      walk_at "fw"
      dsimp only [Fm.withPin]
      iterate 11 walk_at "fw"
      generalize hqq : (fi + (j : Int)).fmod 4 = q at *
      obtain rfl | rfl | rfl | rfl : q = 0 ∨ q = 1 ∨ q = 2 ∨ q = 3 := by omega
      all_goals (repeat walk_at "fw")
      · refine tg_loc K hlo (by simp) (by assumption) (by assumption) ?_
        repeat walk_at "fw"
        refine tu_list hst (by omega) (by omega) (by omega) ?_
        repeat walk_at "fw"
        exact fin 0 rfl (by omega) _ rfl
      · refine tg_loc K hlo (by simp) (by assumption) (by assumption) ?_
        repeat walk_at "fw"
        refine tu_list hst (by omega) (by omega) (by omega) ?_
        repeat walk_at "fw"
        exact fin 1 rfl (by omega) _ rfl
      · refine tg_loc K hlo (by simp) (by assumption) (by assumption) ?_
        repeat walk_at "fw"
        refine tu_list hst (by omega) (by omega) (by omega) ?_
        repeat walk_at "fw"
        exact fin 2 rfl (by omega) _ rfl
      · refine tg_loc K hlo (by simp) (by assumption) (by assumption) ?_
        repeat walk_at "fw"
        refine tu_list hst (by omega) (by omega) (by omega) ?_
        repeat walk_at "fw"
        exact fin 3 rfl (by omega) _ rfl
    · rintro m' σ' ⟨j, ts, h1, hts, rfl, hI, rfl⟩
      have hj := rngL_nil h1
      have hst : (σ.set t (.list ts)) t = some (.list ts) := AHeap.set_same ..
      have hall : ∀ q : Nat, q < 4 → ts[q]? = some (ans q) := fun q hq => by
        have : ∃ i : Nat, i < 4 ∧ (fi + i) % 4 = q := by
          refine ⟨((q - fi) % 4).toNat, ?_, ?_⟩ <;> omega
        obtain ⟨i, hi, e⟩ := this
        exact hI i q (by omega) (by rw [fmod_pos _ (by decide)]; exact e)
      obtain rfl : ts = [.int (-1), .int (-1), .none, .none] := by
        apply List.ext_getElem?
        intro q
        by_cases hq : q < 4
        · rw [hall q hq]
          obtain rfl | rfl | rfl | rfl : q = 0 ∨ q = 1 ∨ q = 2 ∨ q = 3 := by omega
          all_goals rfl
        · rw [List.getElem?_eq_none (by omega), List.getElem?_eq_none (by simp; omega)]
      repeat walk_at "fw"
      refine t2_eqS (Rd.obj hst (.cons (.int _) (.cons (.int _) (.cons .none (.cons .none .nil))))) (Rd.lst (.cons (.int _) (.cons (.int _) (.cons .none (.cons .none .nil))))) (k := 1) (Dk.list (k := 0) fun d hd => ?_) ?_
      · simp at hd
        rcases hd with rfl | rfl
        · exact Dk.int
        · exact Dk.none
      repeat walk_at "fw"
      refine t2_item (y := .int (-1)) (items_obj hst) (by decide) (by decide) rfl ?_
      repeat walk_at "fw"
      refine tc_type_int ?_
      repeat walk_at "fw"
      refine t2_isRaw rfl ?_
      repeat walk_at "fw"
      refine t2_item (y := .int (-1)) (items_obj hst) (by decide) (by decide) rfl ?_
      repeat walk_at "fw"
      refine tc_type_int ?_
      repeat walk_at "fw"
      refine t2_isRaw rfl ?_
      exact ret_le' (AHeap.le_set ht) h
end
end Mine

open PySem PySem.W PyProof.Rows PySem.Calls
namespace Mine

theorem valA_store {es : List (Int × AVal)} {k k' : Int} {v : AVal} : valA (storeA es k v) k' = if k' = k then some v else valA es k' := by
  induction es with
  | nil =>
    by_cases h : k' = k
    · simp [storeA, valA, h]
    · have h' : ¬ k = k' := fun e => h e.symm
      simp [storeA, valA, h, h']
  | cons p r ih =>
    obtain ⟨j, a⟩ := p
    unfold storeA at ih ⊢
    unfold valA at ih ⊢
    by_cases hj : j = k
    · subst hj
      by_cases h : k' = j
      · subst h; simp
      · have h' : ¬ j = k' := fun e => h e.symm
        have key : ∀ r : List (Int × AVal), ((r.map fun kv => if kv.1 = j then (kv.1, v) else kv).find? fun kv => kv.1 = k').map (·.2) = (r.find? fun kv => kv.1 = k').map (·.2) := by
          intro r
          induction r with
          | nil => rfl
          | cons q r ihr =>
            obtain ⟨i, b⟩ := q
            simp only [List.map_cons, List.find?_cons]
            by_cases hi : i = j
            · subst hi; simp [h']; simpa using ihr
            · rw [if_neg hi]
              by_cases hik : i = k'
              · simp [hik]
              · simp [hik]; simpa using ihr
        simp only [List.any_cons, decide_true, Bool.true_or, if_true, List.map_cons, List.find?_cons, h', decide_false, if_neg h]
        exact key r
    · simp only [List.any_cons, hj, decide_false, Bool.false_or] at ih ⊢
      split
      · rename_i hany
        rw [if_pos hany] at ih
        simp only [List.map_cons, if_neg hj, List.find?_cons]
        by_cases hjk : j = k'
        · subst hjk; simp [hj]
        · simp only [hjk, decide_false]; exact ih
      · rename_i hany
        rw [if_neg hany] at ih
        simp only [List.cons_append, List.find?_cons]
        by_cases hjk : j = k'
        · subst hjk; simp [hj]
        · simp only [hjk, decide_false]; exact ih
theorem storeA_len {es : List (Int × AVal)} {k : Int} {v : AVal} : (storeA es k v).length ≤ es.length + 1 := by
  unfold storeA
  split <;> simp
/-- one locator and what was written -/
structure L1 (σ : AHeap) (a d : Addr) (n : Nat) (as : List (Str × AVal)) (es : List (Int × AVal)) : Prop where
  inst : σ a = some (.inst 52 as)
  dict : σ d = some (.dict es)
  low : (d == sysModules) = false
  same : ∀ i : Nat, i < 8 → valA es i = (getA (nm i) as).map fun v => .lst [v]
  meth : getA (Str.ofString "getColumnNumber") as = none ∧ getA (Str.ofString "getLineNumber") as = none ∧ getA (Str.ofString "getPublicId") as = none ∧ getA (Str.ofString "getSystemId") as = none
  ok : ∀ i v, i < 8 → getA (nm i) as = some v → okV v
  la : as.length ≤ n
  le : es.length ≤ n
theorem L1.off {σ : AHeap} {a d b : Addr} {n : Nat} {as : List (Str × AVal)} {es : List (Int × AVal)} {o : AObj} (h : L1 σ a d n as es) (h1 : a ≠ b) (h2 : d ≠ b) : L1 (σ.set b o) a d n as es :=
  ⟨(AHeap.set_ne _ _ h1).trans h.inst, (AHeap.set_ne _ _ h2).trans h.dict, h.low, h.same, h.meth, h.ok, h.la, h.le⟩
theorem L1.more {σ : AHeap} {a d : Addr} {n : Nat} {as : List (Str × AVal)} {es : List (Int × AVal)} (h : L1 σ a d n as es) : L1 σ a d (n + 1) as es :=
  ⟨h.inst, h.dict, h.low, h.same, h.meth, h.ok, Nat.le_succ_of_le h.la, Nat.le_succ_of_le h.le⟩
theorem L1.ne {σ : AHeap} {a d a' d' : Addr} {n n' : Nat} {as as' : List (Str × AVal)} {es es' : List (Int × AVal)} (h : L1 σ a d n as es) (h' : L1 σ a' d' n' as' es') : a ≠ d' := fun q => by
  have := h.inst; rw [q, h'.dict] at this; cases this
theorem L1.loc {σ : AHeap} {a d : Addr} {n : Nat} {as : List (Str × AVal)} {es : List (Int × AVal)} (h : L1 σ a d n as es) : isLoc σ (.obj a) := .inr ⟨a, as, rfl, h.inst, h.meth⟩
theorem L1.put {σ : AHeap} {a d : Addr} {n k : Nat} {as : List (Str × AVal)} {es : List (Int × AVal)} {v : AVal} (h : L1 σ a d n as es) (hk : k < 8) (hv : okV v) :
    L1 ((σ.set a (.inst 52 (setA (nm k) v as))).set d (.dict (storeA es k (.lst [v])))) a d (n + 1) (setA (nm k) v as) (storeA es k (.lst [v])) := by
  have had : a ≠ d := h.ne h
  obtain ⟨n1, n2, n3, n4⟩ := nm_not k hk
  refine ⟨(AHeap.set_ne _ _ had).trans (AHeap.set_same ..), AHeap.set_same .., h.low, fun i hi => ?_, ?_, fun i w hi hw => ?_, ?_, ?_⟩
  · rw [valA_store, getA_setA]
    by_cases e : i = k
    · subst e; simp
    · rw [if_neg (by omega), if_neg (fun q => e (nm_inj i hi k hk q)), h.same i hi]
  · simp only [getA_setA]
    rw [if_neg (fun q => n1 q.symm), if_neg (fun q => n2 q.symm), if_neg (fun q => n3 q.symm), if_neg (fun q => n4 q.symm)]
    exact h.meth
  · rw [getA_setA] at hw
    by_cases e : nm i = nm k
    · rw [if_pos e] at hw; cases hw; exact hv
    · rw [if_neg e] at hw; exact h.ok i w hi hw
  · have := setA_len (x := nm k) (v := v) (m := as); have := h.la; omega
  · have := storeA_len (es := es) (k := k) (v := .lst [v]); have := h.le; omega
/-- all three -/
structure G1 (σ : AHeap) (la ld : Nat → Addr) (n : Nat) : Prop where
  each : ∀ i, i < 3 → ∃ as es, L1 σ (la i) (ld i) n as es
  ia : ∀ i j, i < 3 → j < 3 → la i = la j → i = j
  id : ∀ i j, i < 3 → j < 3 → ld i = ld j → i = j
theorem G1.more {σ : AHeap} {la ld : Nat → Addr} {n : Nat} (h : G1 σ la ld n) : G1 σ la ld (n + 1) := ⟨fun i hi => by obtain ⟨as, es, x⟩ := h.each i hi; exact ⟨as, es, x.more⟩, h.ia, h.id⟩
theorem G1.put {σ : AHeap} {la ld : Nat → Addr} {n i k : Nat} {as : List (Str × AVal)} {es : List (Int × AVal)} {v : AVal} (h : G1 σ la ld n) (hi : i < 3) (x : L1 σ (la i) (ld i) n as es) (hk : k < 8) (hv : okV v) :
    G1 ((σ.set (la i) (.inst 52 (setA (nm k) v as))).set (ld i) (.dict (storeA es k (.lst [v])))) la ld (n + 1) := by
  refine ⟨fun j hj => ?_, h.ia, h.id⟩
  by_cases e : j = i
  · subst e; exact ⟨_, _, x.put hk hv⟩
  · obtain ⟨as', es', y⟩ := h.each j hj
    exact ⟨as', es', (((y.off (fun q => e (h.ia j i hj hi q)) (fun q => x.ne y q.symm)).off (fun q => y.ne x q) (fun q => e (h.id j i hj hi q)))).more⟩
theorem same_read {σ : AHeap} {a d : Addr} {n k : Nat} {as : List (Str × AVal)} {es : List (Int × AVal)} (h : L1 σ a d n as es) (hk : k < 8) : (valA es k).getD (.lst []) = .lst (readA as k) ∧ ∃ ds, Rd σ (.lst (readA as k)) (.list ds) ∧ Dk 2 (.list ds) := by
  rw [h.same k hk]
  unfold readA
  cases q : getA (nm k) as with
  | none => exact ⟨rfl, [], .lst .nil, Dk.list fun d hd => nomatch hd⟩
  | some v =>
    obtain ⟨d', r, hd⟩ := (h.ok k v hk q).rd σ
    exact ⟨rfl, [d'], .lst (.cons r .nil), Dk.list fun d hd' => by rw [List.mem_singleton.mp hd']; exact hd⟩
def Lx (la : Nat → Addr) : AVal := .lst [.obj (la 0), .obj (la 1), .obj (la 2)]
theorem Lx_get {la : Nat → Addr} {i : Int} (h0 : 0 ≤ i) (h1 : i < 3) : ([.obj (la 0), .obj (la 1), .obj (la 2)] : List AVal)[i.toNat]? = some (.obj (la i.toNat)) := by
  obtain rfl | rfl | rfl : i = 0 ∨ i = 1 ∨ i = 2 := by omega
  all_goals rfl
theorem pickV {x i : Int} (h0 : 0 ≤ i) (h1 : i < 4) : ∃ v, okV v ∧ ([.int x, .none, .str (Str.ofString "a"), .lst [.int x]] : List AVal)[i.toNat]? = some v := by
  obtain rfl | rfl | rfl | rfl : i = 0 ∨ i = 1 ∨ i = 2 ∨ i = 3 := by omega
  · exact ⟨_, .inr (.inl ⟨x, rfl⟩), rfl⟩
  · exact ⟨_, .inl rfl, rfl⟩
  · exact ⟨_, .inr (.inr (.inl rfl)), rfl⟩
  · exact ⟨_, .inr (.inr (.inr ⟨x, rfl⟩)), rfl⟩
def pick3 (a b c : Addr) : Nat → Addr
  | 0 => a
  | 1 => b
  | _ => c
theorem pick3_inj {a b c : Addr} (h1 : a ≠ b) (h2 : a ≠ c) (h3 : b ≠ c) : ∀ i j, i < 3 → j < 3 → pick3 a b c i = pick3 a b c j → i = j := by
  intro i j hi hj e
  obtain rfl | rfl | rfl : i = 0 ∨ i = 1 ∨ i = 2 := by omega
  all_goals obtain rfl | rfl | rfl : j = 0 ∨ j = 1 ∨ j = 2 := by omega
  all_goals first | rfl | exact absurd e h1 | exact absurd e h2 | exact absurd e h3 | exact absurd e.symm h1 | exact absurd e.symm h2 | exact absurd e.symm h3
theorem L1.init {σ : AHeap} {a d : Addr} (h1 : σ a = some (.inst 52 [])) (h2 : σ d = some (.dict [])) (h3 : (d == sysModules) = false) : L1 σ a d 0 [] [] :=
  ⟨h1, h2, h3, fun i hi => rfl, ⟨rfl, rfl, rfl, rfl⟩, (fun i v hi hv => by cases hv), Nat.le_refl _, Nat.le_refl _⟩
def Inv01 (S : AVal) (la ld : Nat → Addr) (xs : List AVal) (m : AEnv) (σ : AHeap) : Prop :=
  ∃ (ns : List Int) (n : Nat), xs = ns.map .int ∧ n + ns.length ≤ 68 ∧ G1 σ la ld n ∧ m = [(Str.ofString "script", S), (Str.ofString "locators", Lx la), (Str.ofString "written", Lx ld)]
section
variable {C : Cx}
set_option maxHeartbeats 4000000 in
theorem step01 (K : K01 C) {u : Int} {S : AVal} {la ld : Nat → Addr} {n : Nat} {σ : AHeap} (G : G1 σ la ld n) (hn : n ≤ 68) :
    Seg PySem.Challenge.pw_dn0301_01 6 [(2, 0)] 0 fun scope ss => ∀ A₀ A base h₀ L fa cdv pin, WS C 20 ⟨A₀, A, base, h₀, [], L, fa, Str.ofString "law", scope, cdv, [], pin, none⟩ ss
      [(Str.ofString "script", S), (Str.ofString "locators", Lx la), (Str.ofString "written", Lx ld), (Str.ofString "x", .int u)] σ
      fun fl m' σ₁ => fl = .next ∧ G1 σ₁ la ld (n + 1) ∧ Has m' [(Str.ofString "script", S), (Str.ofString "locators", Lx la), (Str.ofString "written", Lx ld)] := by
  refine seg_intro (by rfl) ?_
  intro A₀ A base h₀ L fa cdv pin
  have K' := K
  cases K'
  obtain ⟨hi0, hi1⟩ := fmod_range u (y := 3) (by decide)
  obtain ⟨hk0, hk1⟩ := fmod_range (u.fdiv 3) (y := 8) (by decide)
  obtain ⟨hv0, hv1⟩ := fmod_range (u.fdiv 192) (y := 4) (by decide)
  generalize hie : u.fmod 3 = i at hi0 hi1
  generalize hke : (u.fdiv 3).fmod 8 = k at hk0 hk1
  obtain ⟨i, rfl⟩ : ∃ i' : Nat, i = i' := ⟨i.toNat, by omega⟩
  obtain ⟨k, rfl⟩ : ∃ k' : Nat, k = k' := ⟨k.toNat, by omega⟩
  obtain ⟨as, es, x⟩ := G.each i (by omega)
  obtain ⟨v, hv, hve⟩ := pickV (x := (u.fdiv 192).fmod 100) hv0 hv1
  have hix : ∀ la : Nat → Addr, ([.obj (la 0), .obj (la 1), .obj (la 2)] : List AVal)[((i : Int)).toNat]? = some (.obj (la i)) := fun la => Lx_get (i := i) hi0 hi1
  have hsp : ∀ σ', isLoc σ' (.fin 52) := fun _ => .inl rfl
  have hlen := x.la
  have hlenE := x.le
  with_reducible refine ws_cons ?_
  with_reducible refine w1_assignS (names := [Str.ofString "locator", Str.ofString "name"]) ?_ ?hw ?hs
  case hw => rfl
  case hs => rfl
  repeat walk_at "fw"
  rw [hie]
  refine t2_item (y := .obj (la i)) rfl (by omega) (by omega) (hix la) ?_
  repeat walk_at "fw"
  rw [hke]
  refine ⟨_, rfl, rfl, tss_cons (ts_local rfl (tss_cons (ts_local rfl (tss_nil ?_))))⟩
  with_reducible show WS _ _ _ _ _ _ _
  with_reducible refine WS.weaken (m' := [(Str.ofString "script", S), (Str.ofString "locators", Lx la), (Str.ofString "written", Lx ld), (Str.ofString "x", .int u), (Str.ofString "locator", .obj (la i)), (Str.ofString "name", .int k)]) ?h1 (AHeap.le_refl _) ?_
  case h1 => exact Has.sub ⟨rfl, rfl, rfl, rfl, rfl, rfl, trivial⟩
  with_reducible refine ws_cons ?_
  with_reducible refine' W1.cut (P := fun fl m' σ₁ => fl = .next ∧ G1 σ₁ la ld (n + 1) ∧ Has m' [(Str.ofString "script", S), (Str.ofString "locators", Lx la), (Str.ofString "written", Lx ld), (Str.ofString "x", .int u), (Str.ofString "locator", .obj (la i))]) ?h1 ?_
  case h1 =>
    repeat walk_at "fw"
    · refine t2_item (y := v) rfl (by omega) (by omega) hve ?_
      repeat walk_at "fw"
      refine tc_fn (by assumption) (write01 K (by omega) x.inst (by omega) ?_)
      repeat walk_at "fw"
      rw [hie]
      refine t2_item (y := .obj (ld i)) rfl (by omega) (by omega) (hix ld) ?_
      repeat walk_at "fw"
      refine tu_dict ((AHeap.set_ne _ _ (fun q => x.ne x q.symm)).trans x.dict) (by rw [sizeLine_eq]; omega) ?_
      repeat walk_at "fw"
      exact ⟨rfl, G.put (by omega) x (by omega) hv, rfl, rfl, rfl, rfl, rfl, trivial⟩
    · refine tc_fn1 (by assumption) rfl (read01 K (by omega) x.inst (fun v => x.ok k v (by omega)) ?_)
      repeat walk_at "fw"
      rw [hie]
      refine t2_item (y := .obj (ld i)) rfl (by omega) (by omega) (hix ld) ?_
      refine tg_dictGet x.dict ?_
      repeat walk_at "fw"
      refine tc_dictGet2 x.dict x.low ?_
      obtain ⟨e1, ds, r, hd⟩ := same_read x (k := k) (by omega)
      rw [e1]
      refine t2_neS r r hd ?_
      repeat walk_at "fw"
      exact ⟨rfl, G.more, rfl, rfl, rfl, rfl, rfl, trivial⟩
  clear x hlen hlenE G
  rintro fl m' σ₁ ⟨rfl, G, hm⟩
  obtain ⟨as, es, x⟩ := G.each i (by omega)
  with_reducible show WS _ _ _ _ _ _ _
  with_reducible refine WS.weaken (Has.sub hm) (AHeap.le_refl _) ?_
  repeat walk_at "fw"
  with_reducible refine wt_value ?_ ?hwv
  case hwv => intro _; rfl
  repeat walk_at "fw"
  refine tc_fn (by assumption) (plain01 K x.loc ?_)
  repeat walk_at "fw"
  with_reducible refine wt_value ?_ ?hwv
  case hwv => intro _; rfl
  repeat walk_at "fw"
  refine tc_fn (by assumption) (plain01 K (hsp _) ?_)
  repeat walk_at "fw"
  exact ⟨rfl, G, rfl, rfl, rfl, trivial⟩
set_option maxHeartbeats 4000000 in
theorem end01 (K : K01 C) {S : AVal} {la ld : Nat → Addr} {n : Nat} {σ : AHeap} (G : G1 σ la ld n) :
    Seg PySem.Challenge.pw_dn0301_01 6 [] 3 fun scope ss => ∀ A₀ A base h₀ L fa cdv pin, WS C 20 ⟨A₀, A, base, h₀, [], L, fa, Str.ofString "law", scope, cdv, [], pin, none⟩ ss
      [(Str.ofString "script", S), (Str.ofString "locators", Lx la), (Str.ofString "written", Lx ld)] σ
      fun fl m' σ₁ => fl = .ret (.bool true) := by
  refine seg_intro (by rfl) ?_
  intro A₀ A base h₀ L fa cdv pin
  have K' := K
  cases K'
  with_reducible refine ws_cons ?_
  with_reducible refine w1_for (fun rest m' σ' => σ' = σ ∧ (∃ j, rest = (rngL 0 1 3).drop j) ∧ m' = [(Str.ofString "script", S), (Str.ofString "locators", Lx la), (Str.ofString "written", Lx ld)]) ?_ ?_ ?_ ?hs
  case hs => intro _; rfl
  · refine wi ?_
    repeat walk_at "fw"
    refine tc_range1 ?_
    exact ti_rng (k := 3) (rng_small1 (by omega) (by omega)) (rng_size1' (k := 3)) ⟨rfl, rfl, ⟨0, by simp⟩, rfl⟩
  · rintro pin x xs m' σ' ⟨rfl, ⟨i, h1⟩, rfl⟩
    obtain ⟨hi, rfl, rfl⟩ := rngL_cons h1
    rw [show (0 + (i : Int) * 1) = i by omega]
    obtain ⟨as, es, x⟩ := G.each i (by omega)
    have hix : ∀ la : Nat → Addr, ([.obj (la 0), .obj (la 1), .obj (la 2)] : List AVal)[((i : Int)).toNat]? = some (.obj (la i)) := fun la => Lx_get (i := i) (by omega) (by omega)
    walk_at "fw"
    dsimp only [Fm.withPin]
    with_reducible refine ws_cons ?_
    with_reducible refine W1.weaken (m' := [(Str.ofString "script", S), (Str.ofString "locators", Lx la), (Str.ofString "written", Lx ld), (Str.ofString "k", .int i)]) ?hm (AHeap.le_refl _) ?_
    case hm => exact Has.sub ⟨rfl, rfl, rfl, rfl, trivial⟩
    with_reducible refine w1_for (fun rest m' σ'' => σ'' = σ' ∧ (∃ j, rest = (rngL 0 1 8).drop j) ∧ m' = [(Str.ofString "script", S), (Str.ofString "locators", Lx la), (Str.ofString "written", Lx ld), (Str.ofString "k", .int i)]) ?_ ?_ ?_ ?hs
    case hs => intro _; rfl
    · refine wi ?_
      repeat walk_at "fw"
      refine tc_range1 ?_
      exact ti_rng (k := 8) (rng_small1 (by omega) (by omega)) (rng_size1' (k := 8)) ⟨rfl, rfl, ⟨0, by simp⟩, rfl⟩
    · rintro pin y xs m' σ'' ⟨rfl, ⟨k, h1⟩, rfl⟩
      obtain ⟨hk, rfl, rfl⟩ := rngL_cons h1
      rw [show (0 + (k : Int) * 1) = k by omega]
      walk_at "fw"
      dsimp only [Fm.withPin]
      repeat walk_at "fw"
      refine t2_item (y := .obj (la i)) rfl (by omega) (by omega) (hix la) ?_
      repeat walk_at "fw"
      refine tc_fn1 (by assumption) rfl (read01 K (by omega) x.inst (fun v => x.ok k v (by omega)) ?_)
      repeat walk_at "fw"
      refine t2_item (y := .obj (ld i)) rfl (by omega) (by omega) (hix ld) ?_
      refine tg_dictGet x.dict ?_
      repeat walk_at "fw"
      refine tc_dictGet2 x.dict x.low ?_
      obtain ⟨e1, ds, r, hd⟩ := same_read x (k := k) (by omega)
      rw [e1]
      refine t2_neS r r hd ?_
      repeat walk_at "fw"
      exact ⟨[(Str.ofString "script", S), (Str.ofString "locators", Lx la), (Str.ofString "written", Lx ld), (Str.ofString "k", .int i)], _, Has.sub ⟨rfl, rfl, rfl, rfl, trivial⟩, AHeap.le_refl _, rfl, ⟨k + 1, rfl⟩, rfl⟩
    · rintro m' σ'' ⟨rfl, ⟨j, h1⟩, rfl⟩
      repeat walk_at "fw"
      exact ⟨[(Str.ofString "script", S), (Str.ofString "locators", Lx la), (Str.ofString "written", Lx ld)], _, Has.sub ⟨rfl, rfl, rfl, trivial⟩, AHeap.le_refl _, rfl, ⟨i + 1, rfl⟩, rfl⟩
  · rintro m' σ' ⟨rfl, ⟨j, h1⟩, rfl⟩
    repeat walk_at "fw"
    rfl
end
end Mine

open PySem PySem.W PyProof.Rows PySem.Calls
open Mine

set_option maxHeartbeats 8000000 in
theorem PySem.Challenge.cw_dn0301_01_holds : PySem.Challenge.rw_dn0301_01.Holds :=
  Mine.hd01 (by
  w_strict (k_go0
            refine' Mine.enter1 (by assumption) (by assumption) (by assumption) (by assumption) (by assumption) (by assumption) rfl (by omega) ?_ ?_
            · intro A₀ A base h₀ ns hns
              generalize hC : Mine.Cx.mk _ _ _ _ _ _ _ _ _ = C
              have K : Mine.K01 C := by subst hC; exact Mine.k01 rfl
              clear hC
              have K' := K
              cases K'
              dsimp only
              refine ws_cons ?_
              refine w1_assign ?_ rfl
              refine we_lst ?_
              iterate 4 walk_at "fw"
              refine tc_inst0 (c := 52) (by assumption) (by assumption) (by assumption) fun a0 p0 => ?_
              iterate 4 walk_at "fw"
              refine tc_inst0 (c := 52) (by assumption) (by assumption) (by assumption) fun a1 p1 => ?_
              iterate 4 walk_at "fw"
              refine tc_inst0 (c := 52) (by assumption) (by assumption) (by assumption) fun a2 p2 => ?_
              have e01 : a0 ≠ a1 := hp_ne (AHeap.set_same ..) p1
              have e12 : a1 ≠ a2 := hp_ne (AHeap.set_same ..) p2
              have e02 : a0 ≠ a2 := hp_ne (o := .inst 52 []) (by walk_at "hp") p2
              repeat walk_at "fw"
              refine we_dictM fun d0 q0 l0 => ?_
              repeat walk_at "fw"
              refine we_dictM fun d1 q1 l1 => ?_
              repeat walk_at "fw"
              refine we_dictM fun d2 q2 l2 => ?_
              have g0 : a0 ≠ d0 := hp_ne (o := .inst 52 []) (by walk_at "hp") q0
              have g1 : a1 ≠ d0 := hp_ne (o := .inst 52 []) (by walk_at "hp") q0
              have g2 : a2 ≠ d0 := hp_ne (o := .inst 52 []) (by walk_at "hp") q0
              have g3 : a0 ≠ d1 := hp_ne (o := .inst 52 []) (by walk_at "hp") q1
              have g4 : a1 ≠ d1 := hp_ne (o := .inst 52 []) (by walk_at "hp") q1
              have g5 : a2 ≠ d1 := hp_ne (o := .inst 52 []) (by walk_at "hp") q1
              have g6 : d0 ≠ d1 := hp_ne (o := .dict []) (by walk_at "hp") q1
              have g7 : a0 ≠ d2 := hp_ne (o := .inst 52 []) (by walk_at "hp") q2
              have g8 : a1 ≠ d2 := hp_ne (o := .inst 52 []) (by walk_at "hp") q2
              have g9 : a2 ≠ d2 := hp_ne (o := .inst 52 []) (by walk_at "hp") q2
              have gA : d0 ≠ d2 := hp_ne (o := .dict []) (by walk_at "hp") q2
              have gB : d1 ≠ d2 := hp_ne (o := .dict []) (by walk_at "hp") q2
              repeat walk_at "fw"
              with_reducible refine W1.weaken (m' := [(Str.ofString "script", .lst (ns.map .int)), (Str.ofString "locators", Lx (pick3 a0 a1 a2)), (Str.ofString "written", Lx (pick3 d0 d1 d2))]) ?h1 (AHeap.le_refl _) ?_
              case h1 => exact Has.sub ⟨rfl, rfl, rfl, trivial⟩
              with_reducible refine w1_for (Inv01 (.lst (ns.map .int)) (pick3 a0 a1 a2) (pick3 d0 d1 d2)) ?_ ?_ ?_ ?hs
              case hs => intro _; rfl
              · refine wi ?_
                repeat walk_at "fw"
                refine t2_cat rfl rfl (by simp [sizeLine_eq]; omega) ?_
                refine ti_lst ⟨rfl, [768, 1011, 1254, 169, 1209] ++ ns, 0, by simp, by simp; omega, ⟨fun i hi => ⟨[], [], ?_⟩, pick3_inj e01 e02 e12, pick3_inj g6 gA gB⟩, rfl⟩
                obtain rfl | rfl | rfl : i = 0 ∨ i = 1 ∨ i = 2 := by omega
                · exact .init (show _ = some (AObj.inst 52 []) by walk_at "hp") (show _ = some (AObj.dict []) by walk_at "hp") l0
                · exact .init (show _ = some (AObj.inst 52 []) by walk_at "hp") (show _ = some (AObj.dict []) by walk_at "hp") l1
                · exact .init (show _ = some (AObj.inst 52 []) by walk_at "hp") (show _ = some (AObj.dict []) by walk_at "hp") l2
              · rintro pin x xs m' σ' ⟨us, n, he, hn, G, rfl⟩
                cases us with
                | nil => cases he
                | cons u us =>
                  cases he
                  walk_at "fw"
                  dsimp only [Fm.withPin]
                  have hn' : n + us.length + 1 ≤ 68 := by simpa [Nat.add_assoc] using hn
                  with_reducible show WS _ _ _ _ _ _ _
                  with_reducible refine WS.mono (Q := fun fl m' σ₁ => fl = .next ∧ G1 σ₁ (pick3 a0 a1 a2) (pick3 d0 d1 d2) (n + 1) ∧ Has m' [(Str.ofString "script", .lst (ns.map .int)), (Str.ofString "locators", Lx (pick3 a0 a1 a2)), (Str.ofString "written", Lx (pick3 d0 d1 d2))]) ?h1 ?_
                  case h1 => exact seg_elim (Mine.step01 K G (by omega)) rfl _ _ _ _ _ _ _ _
                  rintro fl m' σ₁ ⟨rfl, G, hm⟩
                  exact ⟨_, _, Has.sub hm, AHeap.le_refl _, us, n + 1, rfl, by omega, G, rfl⟩
              · rintro m' σ' ⟨us, n, he, hn, G, rfl⟩
                exact seg_elim (Mine.end01 K G) rfl _ _ _ _ _ _ _ _
            · intro h' tk mc' F'
              wrow_close))

