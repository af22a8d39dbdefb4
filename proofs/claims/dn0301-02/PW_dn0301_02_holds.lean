import PyProof.Rows.All
import Wide.All
import OpenK.AllK
import Wide.FinOn
import Lean
import PySem.Challenge.RW_dn0301_02
open PySem PySem.W PyProof.Rows PySem.Calls
set_option Elab.async false
set_option maxRecDepth 100000
set_option linter.unusedVariables false
namespace Mine

/-! ## abstract values, objects, contexts -/
inductive AVal where
  | none
  | bool (b : Bool)
  | int (i : Int)
  | str (s : Str)
  | bytes (b : Array UInt8)
  | raw (v : Value)
  | obj (a : Addr)
  | fin (C : Addr)
  | lst (xs : List AVal)
  | tup (xs : List AVal)
  | rng (a b c : Int)

inductive AObj where
  | inst (C : Addr) (as : List (Str × AVal))
  | list (xs : List AVal)
  | dict (es : List (Int × AVal))
  | cell (v : Option AVal)
  | ns (as : List (Str × AVal))

structure Cx where
  prog : Program
  w : World
  K : Frag
  vp : Program
  loose : List Str
  mean : ExcName → Option Value
  mg : Str → Option Value
  mb : Str → Option Value
  H : Heap

abbrev Fz := List (Addr × Obj)
def At (C : Cx) (fz : Fz) (a : Addr) (o : Obj) : Prop := (a, o) ∈ fz ∨ C.H.get? a = some o
theorem At.mono {C : Cx} {fz fz' : Fz} (h : ∀ p ∈ fz, p ∈ fz') {a : Addr} {o : Obj} (x : At C fz a o) : At C fz' a o := x.imp (h _) id

abbrev tupOf (vs : List Value) : Obj := { cls := .type "tuple", data := .seq vs.toArray }

mutual
inductive V (P : Addr → Obj → Prop) : Value → AVal → Prop
  | none : V P .none .none
  | bool (b : Bool) : V P (.bool b) (.bool b)
  | int (i : Int) (t : Tok) : V P (.int i t) (.int i)
  | str (x : Str) (t : Tok) : V P (.str x t) (.str x)
  | bytes (b : Array UInt8) (t : Tok) : V P (.bytes b t) (.bytes b)
  | raw (v : Value) : V P v (.raw v)
  | obj (a : Addr) : V P (.ref a) (.obj a)
  | fin {a d C : Addr} : P a (instObj C d) → P d (dictOf [] 0) → V P (.ref a) (.fin C)
  | lst {a : Addr} {o : Obj} {n : Nat} {vs : List Value} {xs : List AVal} : P a o → o.cls = .type "list" → o.data = .seq vs.toArray n → Vs P vs xs → V P (.ref a) (.lst xs)
  | tup {a : Addr} {o : Obj} {n : Nat} {vs : List Value} {xs : List AVal} : P a o → o.cls = .type "tuple" → o.data = .seq vs.toArray n → Vs P vs xs → V P (.ref a) (.tup xs)
  | rng {r : Addr} {a b c : Int} {t u v : Tok} : P r { cls := .type "range", dict := none, data := .fields #[.int a t, .int b u, .int c v], slots := #[] } → V P (.ref r) (.rng a b c)
inductive Vs (P : Addr → Obj → Prop) : List Value → List AVal → Prop
  | nil : Vs P [] []
  | cons {v : Value} {av : AVal} {vs : List Value} {xs : List AVal} : V P v av → Vs P vs xs → Vs P (v :: vs) (av :: xs)
end

mutual
theorem V.mono {P P' : Addr → Obj → Prop} (k : ∀ a o, P a o → P' a o) : ∀ {v : Value} {x : AVal}, V P v x → V P' v x
  | _, _, .none => .none
  | _, _, .bool b => .bool b
  | _, _, .int i t => .int i t
  | _, _, .str x t => .str x t
  | _, _, .bytes b t => .bytes b t
  | _, _, .raw v => .raw v
  | _, _, .obj a => .obj a
  | _, _, .fin h1 h2 => .fin (k _ _ h1) (k _ _ h2)
  | _, _, .lst h1 h2 h3 h4 => .lst (k _ _ h1) h2 h3 (Vs.mono k h4)
  | _, _, .tup h1 h2 h3 h4 => .tup (k _ _ h1) h2 h3 (Vs.mono k h4)
  | _, _, .rng h1 => .rng (k _ _ h1)
theorem Vs.mono {P P' : Addr → Obj → Prop} (k : ∀ a o, P a o → P' a o) : ∀ {vs : List Value} {xs : List AVal}, Vs P vs xs → Vs P' vs xs
  | _, _, .nil => .nil
  | _, _, .cons h1 h2 => .cons (V.mono k h1) (Vs.mono k h2)
end
theorem V.up {C : Cx} {fz fz' : Fz} (h : ∀ p ∈ fz, p ∈ fz') {v : Value} {x : AVal} (a : V (At C fz) v x) : V (At C fz') v x := a.mono fun _ _ => At.mono h
theorem Vs.up {C : Cx} {fz fz' : Fz} (h : ∀ p ∈ fz, p ∈ fz') {v : List Value} {x : List AVal} (a : Vs (At C fz) v x) : Vs (At C fz') v x := a.mono fun _ _ => At.mono h
theorem Vs.length {P : Addr → Obj → Prop} : ∀ {vs : List Value} {xs : List AVal}, Vs P vs xs → vs.length = xs.length
  | _, _, .nil => rfl
  | _, _, .cons _ h => by simp [h.length]
theorem Vs.append {P : Addr → Obj → Prop} : ∀ {vs : List Value} {xs : List AVal} {ws : List Value} {ys : List AVal}, Vs P vs xs → Vs P ws ys → Vs P (vs ++ ws) (xs ++ ys)
  | _, _, _, _, .nil, h => h
  | _, _, _, _, .cons a b, h => .cons a (b.append h)
theorem Vs.get {P : Addr → Obj → Prop} : ∀ {vs : List Value} {xs : List AVal}, Vs P vs xs → ∀ {i : Nat} {x : AVal}, xs[i]? = some x → ∃ v, vs[i]? = some v ∧ V P v x
  | _, _, .nil, _, _, e => by simp at e
  | _, _, .cons a b, 0, _, e => by simp at e; subst e; exact ⟨_, rfl, a⟩
  | _, _, .cons a b, i + 1, _, e => by simp at e; obtain ⟨v, h1, h2⟩ := b.get e; exact ⟨v, by simpa using h1, h2⟩
theorem Vs.set {P : Addr → Obj → Prop} : ∀ {vs : List Value} {xs : List AVal}, Vs P vs xs → ∀ (i : Nat) {v : Value} {x : AVal}, V P v x → Vs P (vs.set i v) (xs.set i x)
  | _, _, .nil, _, _, _, _ => .nil
  | _, _, .cons a b, 0, _, _, h => .cons h b
  | _, _, .cons a b, i + 1, _, _, h => .cons a (b.set i h)
theorem Vs.take {P : Addr → Obj → Prop} : ∀ {vs : List Value} {xs : List AVal}, Vs P vs xs → ∀ (i : Nat), Vs P (vs.take i) (xs.take i)
  | _, _, _, 0 => by simp; exact .nil
  | _, _, .nil, _ + 1 => .nil
  | _, _, .cons a b, i + 1 => .cons a (b.take i)
theorem Vs.drop {P : Addr → Obj → Prop} : ∀ {vs : List Value} {xs : List AVal}, Vs P vs xs → ∀ (i : Nat), Vs P (vs.drop i) (xs.drop i)
  | _, _, h, 0 => h
  | _, _, .nil, _ + 1 => .nil
  | _, _, .cons a b, i + 1 => b.drop i
theorem Vs.reverse {P : Addr → Obj → Prop} : ∀ {vs : List Value} {xs : List AVal}, Vs P vs xs → Vs P vs.reverse xs.reverse
  | _, _, .nil => .nil
  | _, _, .cons a b => by simp only [List.reverse_cons]; exact b.reverse.append (.cons a .nil)

/-! ## attribute dicts -/
inductive Es (P : Addr → Obj → Prop) : List DictEntry → List (Str × AVal) → Prop
  | nil : Es P [] []
  | cons {h : Int} {x : Str} {t : Tok} {v : Value} {av : AVal} {es : List DictEntry} {as : List (Str × AVal)} : V P v av → Es P es as → Es P (⟨h, .str x t, v⟩ :: es) ((x, av) :: as)
def getA (x : Str) : List (Str × AVal) → Option AVal
  | [] => none
  | (y, a) :: r => if y == x then some a else getA x r
def setA (x : Str) (v : AVal) : List (Str × AVal) → List (Str × AVal)
  | [] => [(x, v)]
  | (y, a) :: r => if y == x then (y, v) :: r else (y, a) :: setA x v r
theorem Es.mono {P P' : Addr → Obj → Prop} (k : ∀ a o, P a o → P' a o) : ∀ {es : List DictEntry} {as : List (Str × AVal)}, Es P es as → Es P' es as
  | _, _, .nil => .nil
  | _, _, .cons a b => .cons (a.mono k) (b.mono k)
theorem Es.length {P : Addr → Obj → Prop} : ∀ {es : List DictEntry} {as : List (Str × AVal)}, Es P es as → es.length = as.length
  | _, _, .nil => rfl
  | _, _, .cons _ b => by simp [b.length]
theorem Es.noRef {P : Addr → Obj → Prop} : ∀ {es : List DictEntry} {as : List (Str × AVal)}, Es P es as → es.any (·.refKey) = false
  | _, _, .nil => rfl
  | _, _, .cons _ b => by rw [List.any_cons, b.noRef]; rfl
theorem getL_cons_hit {x : Str} {e : DictEntry} {es : List DictEntry} (h : e.key.isStr x = true) : getL x (e :: es) = some (some e.val) := by
  unfold getL; rw [List.find?_cons, h]
theorem Es.get_some {P : Addr → Obj → Prop} {x : Str} : ∀ {es : List DictEntry} {as : List (Str × AVal)}, Es P es as → ∀ {a : AVal}, getA x as = some a → ∃ v, getL x es = some (some v) ∧ V P v a
  | _, _, .nil, _, e => by cases e
  | _, _, .cons (h := hh) (x := y) (t := t) (v := v) (es := es) (as := as) q b, a, e => by
    unfold getA at e
    by_cases hy : (y == x) = true
    · rw [if_pos hy] at e; cases e
      exact ⟨v, getL_cons_hit hy, q⟩
    · rw [if_neg hy] at e
      obtain ⟨u, h1, h2⟩ := b.get_some e
      refine ⟨u, ?_, h2⟩
      have hy' : Value.isStr (.str y t) x = false := by show (y == x) = false; exact Bool.eq_false_iff.mpr hy
      unfold getL at h1 ⊢
      rw [List.find?_cons]
      simp only [hy']
      revert h1
      cases List.find? (fun x_1 => x_1.key.isStr x) es with
      | none => intro h1; rw [List.any_cons]; revert h1; cases es.any (·.refKey) <;> intro h1 <;> cases h1
      | some e' => exact id
theorem Es.get_none {P : Addr → Obj → Prop} {x : Str} : ∀ {es : List DictEntry} {as : List (Str × AVal)}, Es P es as → getA x as = none → getL x es = some none
  | _, _, .nil, _ => rfl
  | _, _, .cons (h := hh) (x := y) (t := t) (v := v) (es := es) (as := as) q b, e => by
    unfold getA at e
    by_cases hy : (y == x) = true
    · rw [if_pos hy] at e; cases e
    · rw [if_neg hy] at e
      have h1 := b.get_none e
      have hy' : Value.isStr (.str y t) x = false := by show (y == x) = false; exact Bool.eq_false_iff.mpr hy
      unfold getL at h1 ⊢
      rw [List.find?_cons]
      simp only [hy']
      revert h1
      cases List.find? (fun x_1 => x_1.key.isStr x) es with
      | none => rw [List.any_cons, b.noRef]; intro _; rfl
      | some e' => exact id
theorem Es.isSome {P : Addr → Obj → Prop} {x : Str} {es : List DictEntry} {as : List (Str × AVal)} (h : Es P es as) : (getL x es).isSome = true := by
  cases q : getA x as with
  | none => rw [h.get_none q]; rfl
  | some a => obtain ⟨v, e, _⟩ := h.get_some q; rw [e]; rfl
theorem Es.put {P : Addr → Obj → Prop} {x : Str} {hh : Int} {t : Tok} {v : Value} {a : AVal} (hv : V P v a) : ∀ {es : List DictEntry} {as : List (Str × AVal)}, Es P es as → Es P (putL x hh (.str x t) v es) (setA x a as)
  | _, _, .nil => .cons hv .nil
  | _, _, .cons (h := h') (x := y) (t := t') (v := v') (es := es) (as := as) q b => by
    unfold putL setA
    by_cases hy : (y == x) = true
    · have hy' : Value.isStr (.str y t') x = true := hy
      rw [if_pos hy, if_pos hy']; exact .cons hv b
    · have hy' : ¬ Value.isStr (.str y t') x = true := hy
      rw [if_neg hy, if_neg hy']; exact .cons q (b.put hv)

/-! ## abstract heap -/
abbrev AHeap := Addr → Option AObj
def AHeap.set (σ : AHeap) (a : Addr) (o : AObj) : AHeap := fun b => if b = a then some o else σ b
@[simp] theorem AHeap.set_same (σ : AHeap) (a : Addr) (o : AObj) : σ.set a o a = some o := if_pos rfl
theorem AHeap.set_ne (σ : AHeap) {a b : Addr} (o : AObj) (h : b ≠ a) : σ.set a o b = σ b := if_neg h
def AHeap.le (σ σ' : AHeap) : Prop := ∀ a o, σ a = some o → σ' a = some o

/-- what stands under names -/
def ER (P : Addr → Obj → Prop) (m : List (Str × AVal)) (mc : Str → Option Value) : Prop := ∀ x a, getA x m = some a → ∃ v, mc x = some v ∧ V P v a
theorem ER.mono {P P' : Addr → Obj → Prop} (k : ∀ a o, P a o → P' a o) {m : List (Str × AVal)} {mc : Str → Option Value} (h : ER P m mc) : ER P' m mc := fun x a e => by obtain ⟨v, h1, h2⟩ := h x a e; exact ⟨v, h1, h2.mono k⟩
/-- a dict with whole numbers as keys -/
inductive Ks (P : Addr → Obj → Prop) : List (Int × Value) → List (Int × AVal) → Prop
  | nil : Ks P [] []
  | cons {k : Int} {v : Value} {a : AVal} {kvs : List (Int × Value)} {es : List (Int × AVal)} : V P v a → Ks P kvs es → Ks P ((k, v) :: kvs) ((k, a) :: es)
theorem Ks.mono {P P' : Addr → Obj → Prop} (k : ∀ a o, P a o → P' a o) : ∀ {kvs : List (Int × Value)} {es : List (Int × AVal)}, Ks P kvs es → Ks P' kvs es
  | _, _, .nil => .nil
  | _, _, .cons a b => .cons (a.mono k) (b.mono k)
def OR (P : Addr → Obj → Prop) (news : List (Addr × Obj)) (d a : Addr) : AObj → Prop
  | .inst C as => (a, instObj C d) ∈ news ∧ ∃ es n, (d, dictOf es n) ∈ news ∧ Es P es as
  | .list xs => ∃ vs n, (a, listOf vs.toArray n) ∈ news ∧ Vs P vs xs
  | .dict es => ∃ o kvs, (a, o) ∈ news ∧ (∀ prog w, o.IsDictOf (intKind prog w) kvs) ∧ Ks P kvs es
  | .ns as => ∃ o mc, (a, o) ∈ news ∧ LCg.NsObj o mc ∧ ER P as mc
  | .cell none => ∃ o, (a, o) ∈ news ∧ o.data = .cell none
  | .cell (some x) => ∃ o v, (a, o) ∈ news ∧ o.data = .cell (some v) ∧ V P v x

structure HR (C : Cx) (fz pin : Fz) (σ : AHeap) (δ : Addr → Addr) (news : List (Addr × Obj)) : Prop where
  sub : ∀ p ∈ fz ++ pin, p ∈ news
  apart : ∀ p ∈ fz, ∀ q ∈ pin, p.1 ≠ q.1
  ob : ∀ a ao, σ a = some ao → OR (At C fz) news (δ a) a ao
  off : ∀ a ao, σ a = some ao → ∀ p ∈ fz ++ pin, p.1 ≠ a
  doff : ∀ a c as, σ a = some (.inst c as) → ∀ p ∈ fz ++ pin, p.1 ≠ δ a
  dσ : ∀ a c as, σ a = some (.inst c as) → σ (δ a) = none
  dinj : ∀ a c as b c' bs, σ a = some (.inst c as) → σ b = some (.inst c' bs) → δ a = δ b → a = b

theorem OR.key {P : Addr → Obj → Prop} {news : List (Addr × Obj)} {d a : Addr} {o : AObj} (h : OR P news d a o) : ∃ o', (a, o') ∈ news := by
  cases o with
  | inst C as => exact ⟨_, h.1⟩
  | list xs => obtain ⟨vs, n, h, _⟩ := h; exact ⟨_, h⟩
  | dict es => obtain ⟨o, kvs, h, _⟩ := h; exact ⟨o, h⟩
  | ns as => obtain ⟨o, mc, h, _⟩ := h; exact ⟨o, h⟩
  | cell v => cases v with
    | none => obtain ⟨o, h, _⟩ := h; exact ⟨o, h⟩
    | some v => obtain ⟨o, _, h, _⟩ := h; exact ⟨o, h⟩
theorem OR.mono {P P' : Addr → Obj → Prop} {news news' : List (Addr × Obj)} {d a : Addr} {o : AObj} (k : ∀ a o, P a o → P' a o) (h : OR P news d a o) (hn : ∀ o', (a, o') ∈ news → (a, o') ∈ news') (hd : ∀ c as, o = .inst c as → ∀ o', (d, o') ∈ news → (d, o') ∈ news') : OR P' news' d a o := by
  cases o with
  | inst C as => obtain ⟨h1, es, n, h2, h3⟩ := h; exact ⟨hn _ h1, es, n, hd _ _ rfl _ h2, h3.mono k⟩
  | list xs => obtain ⟨vs, n, h1, h2⟩ := h; exact ⟨vs, n, hn _ h1, h2.mono k⟩
  | dict es => obtain ⟨o, kvs, h1, h2, h3⟩ := h; exact ⟨o, kvs, hn _ h1, h2, h3.mono k⟩
  | ns as => obtain ⟨o, mc, h1, h2, h3⟩ := h; exact ⟨o, mc, hn _ h1, h2, h3.mono k⟩
  | cell v => cases v with
    | none => obtain ⟨o, h1, h2⟩ := h; exact ⟨o, hn _ h1, h2⟩
    | some v => obtain ⟨o, v, h1, h2, h3⟩ := h; exact ⟨o, v, hn _ h1, h2, h3.mono k⟩

/-! ## frames, the state -/
structure Fm where
  A₀ : Around
  A : Around
  base : Heap
  h₀ : Heap
  outer : List Env
  L : Addr
  a : Addr
  cn : Str
  cs : Scope
  ccd : Value
  cl : List (Str × Addr)
  pin : Fz
  comp : Option (Scope × List (Str × Addr) × Addr)
@[reducible] def Fm.withPin (f : Fm) (p : Fz) : Fm := { f with pin := p }
/-- the function's own surroundings -/
@[reducible] def Fm.fenv (f : Fm) : Env := envX f.cn f.cs f.L f.a f.ccd f.cl
/-- those of a row built in it -/
@[reducible] def Fm.envOn (f : Fm) : Option (Scope × List (Str × Addr) × Addr) → Env
  | none => f.fenv
  | some (sc, cl, c) => compEnvC sc cl c f.fenv
@[reducible] def Fm.env (f : Fm) : Env := f.envOn f.comp
@[reducible] def Fm.withComp (f : Fm) (k : Option (Scope × List (Str × Addr) × Addr)) (p : Fz) : Fm := { f with comp := k, pin := p }

structure Fm.Ok (C : Cx) (n : Nat) (f : Fm) : Prop where
  below : Below f.A₀ f.base f.outer f.h₀
  kin : C.K.In f.h₀
  top : Top C.vp C.loose C.mean C.mg C.mb f.h₀
  hk : ∀ b o, C.H.get? b = some o → f.h₀.get? b = some o
  stack : f.A.frames = some (f.fenv :: f.outer)
  handled : f.A.handled = none
  guards : f.A.guards = some []
  depth : f.A.depth + 3 * n < recursionLimit
  units : f.A.units + 10 * n + 100 < cLine
  kind : f.cs.kind = .function
  ckind : f.env.scope.kind = .function

abbrev AEnv := List (Str × AVal)
def AEnv.get (m : AEnv) (x : Str) : Option AVal := getA x m
def AEnv.set (m : AEnv) (x : Str) (v : AVal) : AEnv := setA x v m
theorem getA_setA {x y : Str} {v : AVal} : ∀ {m : List (Str × AVal)}, getA y (setA x v m) = if y = x then some v else getA y m
  | [] => by
    unfold setA getA
    by_cases h : y = x
    · simp [h]
    · have : ¬ (x = y) := fun e => h e.symm
      simp [h, this, getA]
  | (z, a) :: r => by
    unfold setA
    by_cases hz : (z == x) = true
    · rw [if_pos hz]
      have hz' : z = x := by simpa using hz
      subst hz'
      unfold getA
      by_cases h : y = z
      · simp [h]
      · have : ¬ (z = y) := fun e => h e.symm
        simp [h, this]
    · rw [if_neg hz]
      unfold getA
      by_cases h : (z == y) = true
      · rw [if_pos h, if_pos h]
        have hz' : z = y := by simpa using h
        subst hz'
        have : ¬ z = x := by simpa using hz
        rw [if_neg this]
      · rw [if_neg h, if_neg h]; exact getA_setA
def SR (C : Cx) (f : Fm) (fz : Fz) (m : AEnv) (σ : AHeap) (s : Shared) : Prop :=
  ∃ mc news δ, Fr f.h₀ f.L s.heap mc ∧ News f.h₀ f.L s.heap news ∧ HR C fz f.pin σ δ news ∧ ER (At C fz) m mc
def Same (s s' : Shared) : Prop := ∃ h tk, s' = { s with heap := h, toks := tk }
theorem Same.rfl {s : Shared} : Same s s := ⟨s.heap, s.toks, by cases s; exact Eq.refl _⟩
theorem Same.mk {s : Shared} {h : Heap} {tk : Nat} : Same s { s with heap := h, toks := tk } := ⟨h, tk, Eq.refl _⟩
theorem Same.trans {s s₁ s₂ : Shared} (a : Same s s₁) (b : Same s₁ s₂) : Same s s₂ := by
  obtain ⟨h, t, e⟩ := a; obtain ⟨h', t', e'⟩ := b; subst e; subst e'; exact ⟨h', t', Eq.refl _⟩

section
variable {C : Cx} {f : Fm} {fz : Fz} {m : AEnv} {σ : AHeap} {s : Shared}
theorem SR.toks {t : Nat} (x : SR C f fz m σ s) : SR C f fz m σ { s with toks := t } := x
theorem SR.at_ {n : Nat} (ok : f.Ok C n) (x : SR C f fz m σ s) {a : Addr} {o : Obj} (h : At C fz a o) : s.heap.get? a = some o := by
  obtain ⟨mc, news, δ, F, N, R, _⟩ := x
  rcases h with h | h
  · exact (N _ (R.sub _ (List.mem_append_left _ h))).1
  · exact F.keep _ _ (ok.hk _ _ h)
theorem SR.weaken (x : SR C f fz m σ s) {m' : AEnv} {σ' : AHeap} (hm : ∀ y a, m'.get y = some a → m.get y = some a) (hσ : σ'.le σ) : SR C f fz m' σ' s := by
  obtain ⟨mc, news, δ, F, N, R, e⟩ := x
  refine ⟨mc, news, δ, F, N, ⟨R.sub, R.apart, fun a o h => R.ob a o (hσ _ _ h), fun a o h => R.off a o (hσ _ _ h), fun a c as h => R.doff a c as (hσ _ _ h), fun a c as h => ?_, fun a c as b c' bs h1 h2 => R.dinj a c as b c' bs (hσ _ _ h1) (hσ _ _ h2)⟩, fun y a h => e y a (hm _ _ h)⟩
  cases q : σ' (δ a) with
  | none => rfl
  | some o => have := hσ _ _ q; rw [R.dσ a c as (hσ _ _ h)] at this; cases this
theorem news_lt {h₀ h : Heap} {L : Addr} {news : List (Addr × Obj)} (N : News h₀ L h news) {p : Addr × Obj} (hp : p ∈ news) : p.1 < h.objs.size := Heap.lt_size (N p hp).1

/-- a heap that only grew -/
theorem SR.grow (x : SR C f fz m σ s) {h' : Heap} {t : Nat} (k : ∀ b o, s.heap.get? b = some o → h'.get? b = some o) : SR C f fz m σ { s with heap := h', toks := t } := by
  obtain ⟨mc, news, δ, F, N, R, e⟩ := x
  exact ⟨mc, news, δ, F.grownK k, fun p hp => ⟨k _ _ (N p hp).1, (N p hp).2⟩, R, e⟩

/-- new objects, frozen from the start -/
theorem SR.freeze (x : SR C f fz m σ s) {h' : Heap} {t : Nat} (k : ∀ b o, s.heap.get? b = some o → h'.get? b = some o) (new : List (Addr × Obj)) (hn : ∀ p ∈ new, s.heap.get? p.1 = none ∧ s.heap.objs.size ≤ p.1 ∧ h'.get? p.1 = some p.2) :
    SR C f (new ++ fz) m σ { s with heap := h', toks := t } := by
  obtain ⟨mc, news, δ, F, N, R, e⟩ := x
  have key : ∀ a ao, σ a = some ao → a < s.heap.objs.size := fun a ao h => by obtain ⟨o, h⟩ := (R.ob a ao h).key; exact news_lt N h
  have dkey : ∀ a c as, σ a = some (.inst c as) → δ a < s.heap.objs.size := fun a c as h => by obtain ⟨_, es, n, h, _⟩ := R.ob a _ h; exact news_lt N h
  have up : ∀ p ∈ fz, p ∈ new ++ fz := fun p hp => List.mem_append_right _ hp
  have split : ∀ p ∈ (new ++ fz) ++ f.pin, p ∈ new ∨ p ∈ fz ++ f.pin := fun p hp => by
    rw [List.append_assoc] at hp; exact List.mem_append.mp hp
  refine ⟨mc, new ++ news, δ, F.grownK k, fun p hp => ?_, ⟨fun p hp => ?_, fun p hp q hq => ?_, fun a ao h => ?_, fun a ao h p hp => ?_, fun a c as h p hp => ?_, R.dσ, R.dinj⟩, fun y a h => ?_⟩
  · rcases List.mem_append.mp hp with hp | hp
    · obtain ⟨h1, h2, h3⟩ := hn p hp
      refine ⟨h3, fun q => ?_, ?_⟩
      · obtain ⟨oL, _, _, hL, _⟩ := F.ns; rw [q, hL] at h1; cases h1
      · cases q : f.h₀.get? p.1 with
        | none => rfl
        | some o => rw [F.keep _ _ q] at h1; cases h1
    · exact ⟨k _ _ (N p hp).1, (N p hp).2⟩
  · rcases split p hp with hp | hp
    · exact List.mem_append_left _ hp
    · exact List.mem_append_right _ (R.sub _ hp)
  · rcases List.mem_append.mp hp with hp | hp
    · exact fun e => absurd (news_lt N (R.sub _ (List.mem_append_right _ hq))) (Nat.not_lt.mpr (e ▸ (hn p hp).2.1))
    · exact R.apart p hp q hq
  · exact (R.ob a ao h).mono (fun _ _ => At.mono up) (fun _ q => List.mem_append_right _ q) fun _ _ _ _ q => List.mem_append_right _ q
  · rcases split p hp with hp | hp
    · exact fun q => absurd (key a ao h) (Nat.not_lt.mpr (q ▸ (hn p hp).2.1))
    · exact R.off a ao h p hp
  · rcases split p hp with hp | hp
    · exact fun q => absurd (dkey a c as h) (Nat.not_lt.mpr (q ▸ (hn p hp).2.1))
    · exact R.doff a c as h p hp
  · obtain ⟨v, h1, h2⟩ := e y a h; exact ⟨v, h1, h2.up up⟩
end
end Mine

open PySem PySem.W PyProof.Rows PySem.Calls
namespace Mine
def upd (news : List (Addr × Obj)) (D : Addr) (o : Obj) : List (Addr × Obj) := (D, o) :: news.filter (fun p => decide (p.1 ≠ D))
theorem mem_upd {news : List (Addr × Obj)} {D : Addr} {o : Obj} {p : Addr × Obj} (h : p ∈ news) (hn : p.1 ≠ D) : p ∈ upd news D o :=
  List.mem_cons_of_mem _ (List.mem_filter.mpr ⟨h, by simpa using hn⟩)
theorem news_upd' {h₀ h h' : Heap} {L D : Addr} {news : List (Addr × Obj)} {o o' : Obj} (N : News h₀ L h news) (hD : (D, o) ∈ news) (hs : Heap.SameBut D h h') (ho : h'.get? D = some o') : News h₀ L h' (upd news D o') := by
  intro p hp
  rcases List.mem_cons.mp hp with rfl | hp
  · exact ⟨ho, (N _ hD).2⟩
  · obtain ⟨h1, h2⟩ := List.mem_filter.mp hp
    have h2 : p.1 ≠ D := by simpa using h2
    exact ⟨(hs.2 _ h2).trans (N p h1).1, (N p h1).2⟩

section
variable {C : Cx} {f : Fm} {fz : Fz} {m : AEnv} {σ : AHeap} {s : Shared}

theorem SR.list (x : SR C f fz m σ s) {a : Addr} {xs : List AVal} (h : σ a = some (.list xs)) : ∃ vs n, s.heap.get? a = some (listOf vs.toArray n) ∧ Vs (At C fz) vs xs := by
  obtain ⟨mc, news, δ, F, N, R, e⟩ := x
  obtain ⟨vs, n, h1, h2⟩ := R.ob a _ h
  exact ⟨vs, n, (N _ h1).1, h2⟩
theorem SR.inst (x : SR C f fz m σ s) {a c : Addr} {as : List (Str × AVal)} (h : σ a = some (.inst c as)) : ∃ d es n, s.heap.get? a = some (instObj c d) ∧ s.heap.get? d = some (dictOf es n) ∧ Es (At C fz) es as := by
  obtain ⟨mc, news, δ, F, N, R, e⟩ := x
  obtain ⟨h1, es, n, h2, h3⟩ := R.ob a _ h
  exact ⟨_, es, n, (N _ h1).1, (N _ h2).1, h3⟩
theorem SR.cell (x : SR C f fz m σ s) {a : Addr} {v : AVal} (h : σ a = some (.cell (some v))) : ∃ o u, s.heap.get? a = some o ∧ o.data = .cell (some u) ∧ V (At C fz) u v := by
  obtain ⟨mc, news, δ, F, N, R, e⟩ := x
  obtain ⟨o, u, h1, h2, h3⟩ := R.ob a _ h
  exact ⟨o, u, (N _ h1).1, h2, h3⟩
theorem SR.lt (x : SR C f fz m σ s) {a : Addr} {o : AObj} (h : σ a = some o) : a < s.heap.objs.size := by
  obtain ⟨mc, news, δ, F, N, R, e⟩ := x
  obtain ⟨o, h⟩ := (R.ob a _ h).key; exact news_lt N h
theorem SR.fresh (x : SR C f fz m σ s) {a : Addr} (h : s.heap.objs.size ≤ a) : σ a = none := by
  cases q : σ a with
  | none => rfl
  | some o => exact absurd (x.lt q) (Nat.not_lt.mpr h)

/-- a list's, a cell's object is changed -/
theorem SR.change (x : SR C f fz m σ s) {a : Addr} {ao ao' : AObj} {h' : Heap} {t : Nat} {o' : Obj} (h : σ a = some ao) (hn : ∀ c as, ao ≠ .inst c as) (hn' : ∀ c as, ao' ≠ .inst c as) (hs : Heap.SameBut a s.heap h') (ho : h'.get? a = some o')
    (hr : ∀ news d, (a, o') ∈ news → OR (At C fz) news d a ao') : SR C f fz m (σ.set a ao') { s with heap := h', toks := t } := by
  obtain ⟨mc, news, δ, F, N, R, e⟩ := x
  obtain ⟨o, hm⟩ := (R.ob a _ h).key
  have dn : ∀ b c as, σ b = some (.inst c as) → δ b ≠ a := fun b c as hb q => by have := R.dσ b c as hb; rw [q, h] at this; cases this
  have keep : ∀ {b c as}, σ.set a ao' b = some (.inst c as) → b ≠ a ∧ σ b = some (.inst c as) := fun {b c as} hb => by
    by_cases q : b = a
    · subst q; rw [AHeap.set_same] at hb; exact absurd (Option.some.inj hb) (hn' c as)
    · rw [AHeap.set_ne _ _ q] at hb; exact ⟨q, hb⟩
  refine ⟨mc, upd news a o', δ, F.change hs (N _ hm).2.1 (N _ hm).2.2, news_upd' N hm hs ho, ⟨fun p hp => mem_upd (R.sub p hp) (R.off a _ h p hp), R.apart, fun b bo hb => ?_, fun b bo hb p hp => ?_, fun b c as hb p hp => R.doff b c as (keep hb).2 p hp, fun b c as hb => ?_, fun b c as b' c' bs h1 h2 => R.dinj b c as b' c' bs (keep h1).2 (keep h2).2⟩, e⟩
  · by_cases q : b = a
    · subst q; rw [AHeap.set_same] at hb; cases hb; exact hr _ _ (List.mem_cons_self ..)
    · rw [AHeap.set_ne _ _ q] at hb
      exact (R.ob b bo hb).mono (fun _ _ x => x) (fun _ hm => mem_upd hm q) fun c as eb _ hm => mem_upd hm (dn b c as (eb ▸ hb))
  · by_cases q : b = a
    · subst q; exact R.off b _ h p hp
    · rw [AHeap.set_ne _ _ q] at hb; exact R.off b bo hb p hp
  · rw [AHeap.set_ne _ _ (dn b c as (keep hb).2)]; exact R.dσ b c as (keep hb).2
theorem SR.setList (x : SR C f fz m σ s) {a : Addr} {xs xs' : List AVal} {h' : Heap} {t n : Nat} {vs' : List Value} (h : σ a = some (.list xs)) (hs : Heap.SameBut a s.heap h') (ho : h'.get? a = some (listOf vs'.toArray n)) (hv : Vs (At C fz) vs' xs') :
    SR C f fz m (σ.set a (.list xs')) { s with heap := h', toks := t } := x.change h (fun _ _ => nofun) (fun _ _ => nofun) hs ho fun _ _ hm => ⟨_, _, hm, hv⟩
theorem SR.setCell (x : SR C f fz m σ s) {a : Addr} {v₀ : Option AVal} {v : AVal} {u : Value} {h' : Heap} {t : Nat} {o' : Obj} (h : σ a = some (.cell v₀)) (hs : Heap.SameBut a s.heap h') (ho : h'.get? a = some o') (hd : o'.data = .cell (some u)) (hv : V (At C fz) u v) :
    SR C f fz m (σ.set a (.cell (some v))) { s with heap := h', toks := t } := x.change h (fun _ _ => nofun) (fun _ _ => nofun) hs ho fun _ _ hm => ⟨_, _, hm, hd, hv⟩

/-- an attribute dict is changed -/
theorem SR.setInst (x : SR C f fz m σ s) {a c : Addr} {as as' : List (Str × AVal)} (h : σ a = some (.inst c as)) :
    ∃ d es n, s.heap.get? a = some (instObj c d) ∧ s.heap.get? d = some (dictOf es n) ∧ Es (At C fz) es as ∧ (∃ mc news, Fr f.h₀ f.L s.heap mc ∧ News f.h₀ f.L s.heap news ∧ (d, dictOf es n) ∈ news) ∧
      ∀ h' t es' n', Heap.SameBut d s.heap h' → h'.get? d = some (dictOf es' n') → Es (At C fz) es' as' → SR C f fz m (σ.set a (.inst c as')) { s with heap := h', toks := t } := by
  obtain ⟨mc, news, δ, F, N, R, e⟩ := x
  obtain ⟨h1, es, n, h2, h3⟩ := R.ob a _ h
  refine ⟨δ a, es, n, (N _ h1).1, (N _ h2).1, h3, ⟨mc, news, F, N, h2⟩, fun h' t es' n' hs ho hE => ?_⟩
  have an : ∀ b bo, σ b = some bo → b ≠ δ a := fun b bo hb q => by have := R.dσ a c as h; rw [← q, hb] at this; cases this
  have keep : ∀ {b c₁ bs}, σ.set a (.inst c as') b = some (.inst c₁ bs) → ∃ bs', σ b = some (.inst c₁ bs') := fun {b c₁ bs} hb => by
    by_cases q : b = a
    · subst q; rw [AHeap.set_same] at hb; cases hb; exact ⟨_, h⟩
    · rw [AHeap.set_ne _ _ q] at hb; exact ⟨_, hb⟩
  refine ⟨mc, upd news (δ a) (dictOf es' n'), δ, F.change hs (N _ h2).2.1 (N _ h2).2.2, news_upd' N h2 hs ho, ⟨fun p hp => mem_upd (R.sub p hp) (R.doff a _ _ h p hp), R.apart, fun b bo hb => ?_, fun b bo hb p hp => ?_, fun b c₁ bs hb p hp => ?_, fun b c₁ bs hb => ?_, fun b c₁ bs b' c' bs' h1 h2 => ?_⟩, e⟩
  · by_cases q : b = a
    · subst q; rw [AHeap.set_same] at hb; cases hb
      exact ⟨mem_upd h1 (an b _ h), es', n', List.mem_cons_self .., hE⟩
    · rw [AHeap.set_ne _ _ q] at hb
      exact (R.ob b bo hb).mono (fun _ _ x => x) (fun _ hm => mem_upd hm (an b bo hb)) fun c₁ bs eb _ hm => mem_upd hm fun e => q (R.dinj b c₁ bs a c as (eb ▸ hb) h e)
  · by_cases q : b = a
    · subst q; exact R.off b _ h p hp
    · rw [AHeap.set_ne _ _ q] at hb; exact R.off b bo hb p hp
  · obtain ⟨bs', hb'⟩ := keep hb; exact R.doff b c₁ bs' hb' p hp
  · obtain ⟨bs', hb'⟩ := keep hb
    have := R.dσ b c₁ bs' hb'
    rw [AHeap.set_ne _ _ (fun q => by rw [q, h] at this; cases this)]; exact this
  · obtain ⟨_, h1⟩ := keep h1; obtain ⟨_, h2⟩ := keep h2; exact R.dinj b _ _ b' _ _ h1 h2

/-- new mutable things -/
theorem SR.newThing (x : SR C f fz m σ s) {a : Addr} {ao : AObj} {h' : Heap} {t : Nat} {o : Obj} (hn : ∀ c as, ao ≠ .inst c as) (k : ∀ b o, s.heap.get? b = some o → h'.get? b = some o) (ha : s.heap.objs.size ≤ a) (ho : h'.get? a = some o)
    (hr : ∀ news d, (a, o) ∈ news → OR (At C fz) news d a ao) : SR C f fz m (σ.set a ao) { s with heap := h', toks := t } := by
  have hσ := x.fresh ha
  obtain ⟨mc, news, δ, F, N, R, e⟩ := x
  have hnone : s.heap.get? a = none := by
    cases q : s.heap.get? a with
    | none => rfl
    | some o => exact absurd (Heap.lt_size q) (Nat.not_lt.mpr ha)
  have nn : ∀ p ∈ news, p.1 ≠ a := fun p hp q => absurd (news_lt N hp) (Nat.not_lt.mpr (q ▸ ha))
  have keep : ∀ {b c as}, σ.set a ao b = some (.inst c as) → b ≠ a ∧ σ b = some (.inst c as) := fun {b c as} hb => by
    by_cases q : b = a
    · subst q; rw [AHeap.set_same] at hb; exact absurd (Option.some.inj hb) (hn c as)
    · rw [AHeap.set_ne _ _ q] at hb; exact ⟨q, hb⟩
  have dn : ∀ b c as, σ b = some (.inst c as) → δ b ≠ a := fun b c as hb => by obtain ⟨_, es, n, h, _⟩ := R.ob b _ hb; exact nn _ h
  refine ⟨mc, (a, o) :: news, δ, F.grownK k, fun p hp => ?_, ⟨fun p hp => .tail _ (R.sub p hp), R.apart, fun b bo hb => ?_, fun b bo hb p hp => ?_, fun b c as hb p hp => R.doff b c as (keep hb).2 p hp, fun b c as hb => ?_, fun b c as b' c' bs h1 h2 => R.dinj b c as b' c' bs (keep h1).2 (keep h2).2⟩, e⟩
  · rcases List.mem_cons.mp hp with rfl | hp
    · refine ⟨ho, fun q => ?_, ?_⟩
      · obtain ⟨oL, _, _, hL, _⟩ := F.ns; dsimp only at q; rw [q, hL] at hnone; cases hnone
      · cases q : f.h₀.get? a with
        | none => rfl
        | some o => rw [F.keep _ _ q] at hnone; cases hnone
    · exact ⟨k _ _ (N p hp).1, (N p hp).2⟩
  · by_cases q : b = a
    · subst q; rw [AHeap.set_same] at hb; cases hb; exact hr _ _ (List.mem_cons_self ..)
    · rw [AHeap.set_ne _ _ q] at hb
      exact (R.ob b bo hb).mono (fun _ _ x => x) (fun _ hm => .tail _ hm) fun c as eb _ hm => .tail _ hm
  · by_cases q : b = a
    · subst q; exact nn _ (R.sub p hp)
    · rw [AHeap.set_ne _ _ q] at hb; exact R.off b bo hb p hp
  · rw [AHeap.set_ne _ _ (dn b c as (keep hb).2)]; exact R.dσ b c as (keep hb).2
theorem SR.newList (x : SR C f fz m σ s) {a : Addr} {xs : List AVal} {h' : Heap} {t n : Nat} {vs : List Value} (k : ∀ b o, s.heap.get? b = some o → h'.get? b = some o) (ha : s.heap.objs.size ≤ a) (ho : h'.get? a = some (listOf vs.toArray n)) (hv : Vs (At C fz) vs xs) :
    SR C f fz m (σ.set a (.list xs)) { s with heap := h', toks := t } := x.newThing (fun _ _ => nofun) k ha ho fun _ _ hm => ⟨_, _, hm, hv⟩
theorem SR.newInst (x : SR C f fz m σ s) {a d c : Addr} {h' : Heap} {t : Nat} (k : ∀ b o, s.heap.get? b = some o → h'.get? b = some o) (ha : s.heap.objs.size ≤ a) (hd : s.heap.objs.size ≤ d) (hne : a ≠ d) (ho : h'.get? a = some (instObj c d)) (ho' : h'.get? d = some (dictOf [] 0)) :
    SR C f fz m (σ.set a (.inst c [])) { s with heap := h', toks := t } := by
  have hσ := x.fresh ha
  have hσd := x.fresh hd
  obtain ⟨mc, news, δ, F, N, R, e⟩ := x
  have none_of : ∀ a, s.heap.objs.size ≤ a → s.heap.get? a = none := fun a ha => by
    cases q : s.heap.get? a with
    | none => rfl
    | some o => exact absurd (Heap.lt_size q) (Nat.not_lt.mpr ha)
  have nn : ∀ a, s.heap.objs.size ≤ a → ∀ p ∈ news, p.1 ≠ a := fun a ha p hp q => absurd (news_lt N hp) (Nat.not_lt.mpr (q ▸ ha))
  have new : ∀ a o, s.heap.objs.size ≤ a → h'.get? a = some o → h'.get? a = some o ∧ a ≠ f.L ∧ f.h₀.get? a = none := fun a o ha ho => by
    refine ⟨ho, fun q => ?_, ?_⟩
    · obtain ⟨oL, _, _, hL, _⟩ := F.ns; have := none_of _ ha; rw [q, hL] at this; cases this
    · cases q : f.h₀.get? a with
      | none => rfl
      | some o => have := none_of _ ha; rw [F.keep _ _ q] at this; cases this
  have dn : ∀ b c as, σ b = some (.inst c as) → ∀ a, s.heap.objs.size ≤ a → δ b ≠ a := fun b c as hb a ha => by obtain ⟨_, es, n, h, _⟩ := R.ob b _ hb; exact nn a ha _ h
  have bn : ∀ b bo, σ b = some bo → ∀ a, s.heap.objs.size ≤ a → b ≠ a := fun b bo hb a ha => by obtain ⟨o, h⟩ := (R.ob b bo hb).key; exact nn a ha _ h
  refine ⟨mc, (a, instObj c d) :: (d, dictOf [] 0) :: news, fun b => if b = a then d else δ b, F.grownK k, fun p hp => ?_, ⟨fun p hp => .tail _ (.tail _ (R.sub p hp)), R.apart, fun b bo hb => ?_, fun b bo hb p hp => ?_, fun b c₁ as hb p hp => ?_, fun b c₁ as hb => ?_, fun b c₁ as b' c' bs h1 h2 => ?_⟩, e⟩
  · rcases List.mem_cons.mp hp with rfl | hp
    · exact new _ _ ha ho
    · rcases List.mem_cons.mp hp with rfl | hp
      · exact new _ _ hd ho'
      · exact ⟨k _ _ (N p hp).1, (N p hp).2⟩
  · by_cases q : b = a
    · subst q; rw [AHeap.set_same] at hb; cases hb
      rw [if_pos rfl]
      exact ⟨List.mem_cons_self .., [], 0, .tail _ (List.mem_cons_self ..), .nil⟩
    · rw [AHeap.set_ne _ _ q] at hb
      rw [if_neg q]
      exact (R.ob b bo hb).mono (fun _ _ x => x) (fun _ hm => .tail _ (.tail _ hm)) fun c as eb _ hm => .tail _ (.tail _ hm)
  · by_cases q : b = a
    · subst q; exact nn _ ha _ (R.sub p hp)
    · rw [AHeap.set_ne _ _ q] at hb; exact R.off b bo hb p hp
  · by_cases q : b = a
    · rw [if_pos q]; exact nn _ hd _ (R.sub p hp)
    · rw [AHeap.set_ne _ _ q] at hb; rw [if_neg q]; exact R.doff b c₁ as hb p hp
  · by_cases q : b = a
    · rw [if_pos q, AHeap.set_ne _ _ (Ne.symm hne)]; exact hσd
    · rw [AHeap.set_ne _ _ q] at hb; rw [if_neg q, AHeap.set_ne _ _ (dn b c₁ as hb a ha)]; exact R.dσ b c₁ as hb
  · by_cases q : b = a <;> by_cases q' : b' = a
    · intro _; rw [q, q']
    · rw [AHeap.set_ne _ _ q'] at h2; rw [if_pos q, if_neg q']; exact fun e => absurd e.symm (dn b' c' bs h2 d hd)
    · rw [AHeap.set_ne _ _ q] at h1; rw [if_neg q, if_pos q']; exact fun e => absurd e (dn b c₁ as h1 d hd)
    · rw [AHeap.set_ne _ _ q] at h1; rw [AHeap.set_ne _ _ q'] at h2; rw [if_neg q, if_neg q']; exact R.dinj b c₁ as b' c' bs h1 h2
/-- a name of the frame is stored -/
theorem SR.store (x : SR C f fz m σ s) {y : Str} {v : Value} {a : AVal} (hv : V (At C fz) v a) :
    ∃ mc news, Fr f.h₀ f.L s.heap mc ∧ News f.h₀ f.L s.heap news ∧ ∀ h' t, Fr f.h₀ f.L h' (fun z => if z = y then some v else mc z) → News f.h₀ f.L h' news → SR C f fz (m.set y a) σ { s with heap := h', toks := t } := by
  obtain ⟨mc, news, δ, F, N, R, e⟩ := x
  refine ⟨mc, news, F, N, fun h' t F' N' => ⟨_, news, δ, F', N', R, fun z b hz => ?_⟩⟩
  unfold AEnv.get AEnv.set at hz
  rw [getA_setA] at hz
  by_cases q : z = y
  · rw [if_pos q] at hz; cases hz; exact ⟨v, if_pos q, hv⟩
  · rw [if_neg q] at hz; obtain ⟨u, h1, h2⟩ := e z b hz; exact ⟨u, (if_neg q).trans h1, h2⟩
end
end Mine

open PySem PySem.W PyProof.Rows PySem.Calls
namespace Mine
abbrev Md (C : Cx) : Model := model C.prog C.w

def PV (C : Cx) (f : Fm) (m : AEnv) (fz : Fz) (s : Shared) (Q : AVal → AHeap → Prop) (v : Value) (s' : Shared) : Prop :=
  ∃ fz' σ' a, (∀ p ∈ fz, p ∈ fz') ∧ Same s s' ∧ SR C f fz' m σ' s' ∧ V (At C fz') v a ∧ Q a σ'
def PL (C : Cx) (f : Fm) (m : AEnv) (fz : Fz) (s : Shared) (Q : List AVal → AHeap → Prop) (v : List Value) (s' : Shared) : Prop :=
  ∃ fz' σ' a, (∀ p ∈ fz, p ∈ fz') ∧ Same s s' ∧ SR C f fz' m σ' s' ∧ Vs (At C fz') v a ∧ Q a σ'
def PB (C : Cx) (f : Fm) (m : AEnv) (fz : Fz) (s : Shared) (Q : Bool → AHeap → Prop) (b : Bool) (s' : Shared) : Prop :=
  ∃ fz' σ', (∀ p ∈ fz, p ∈ fz') ∧ Same s s' ∧ SR C f fz' m σ' s' ∧ Q b σ'
inductive AFlow where
  | next | brk | cont
  | ret (a : AVal)
def FV (P : Addr → Obj → Prop) : Flow → AFlow → Prop
  | .next, .next => True
  | .brk, .brk => True
  | .cont, .cont => True
  | .ret v, .ret a => V P v a
  | _, _ => False
def PS (C : Cx) (f : Fm) (fz : Fz) (s : Shared) (Q : AFlow → AEnv → AHeap → Prop) (fl : Flow) (s' : Shared) : Prop :=
  ∃ fz' σ' m' a, (∀ p ∈ fz, p ∈ fz') ∧ Same s s' ∧ SR C f fz' m' σ' s' ∧ FV (At C fz') fl a ∧ Q a m' σ'

def WE (C : Cx) (n : Nat) (f : Fm) (e : Expr) (m : AEnv) (σ : AHeap) (Q : AVal → AHeap → Prop) : Prop :=
  f.Ok C n → ∀ fz s E, SR C f fz m σ s → wpAny (Md C) f.A (eval e f.env) (PV C f m fz s Q) E s
def WL (C : Cx) (n : Nat) (f : Fm) (es : List Expr) (pos : Pos) (m : AEnv) (σ : AHeap) (Q : List AVal → AHeap → Prop) : Prop :=
  f.Ok C n → ∀ fz s E, SR C f fz m σ s → wpAny (Md C) f.A (spliced (backTo pos (starEach es f.env))) (PL C f m fz s Q) E s
def WT (C : Cx) (n : Nat) (f : Fm) (e : Expr) (m : AEnv) (σ : AHeap) (Q : Bool → AHeap → Prop) : Prop :=
  f.Ok C n → ∀ fz s E, SR C f fz m σ s → wpAny (Md C) f.A (isTrue e f.env (eval e f.env)) (PB C f m fz s Q) E s
/-- trees over one, two, many values -/
def T1 (C : Cx) (n : Nat) (f : Fm) (t : Value → Sem Value) (a : AVal) (m : AEnv) (σ : AHeap) (Q : AVal → AHeap → Prop) : Prop :=
  f.Ok C n → ∀ fz s E v, SR C f fz m σ s → V (At C fz) v a → wpAny (Md C) f.A (t v) (PV C f m fz s Q) E s
def T2 (C : Cx) (n : Nat) (f : Fm) (t : Value → Value → Sem Value) (a b : AVal) (m : AEnv) (σ : AHeap) (Q : AVal → AHeap → Prop) : Prop :=
  f.Ok C n → ∀ fz s E v w, SR C f fz m σ s → V (At C fz) v a → V (At C fz) w b → wpAny (Md C) f.A (t v w) (PV C f m fz s Q) E s
def TL (C : Cx) (n : Nat) (f : Fm) (t : List Value → Sem Value) (as : List AVal) (m : AEnv) (σ : AHeap) (Q : AVal → AHeap → Prop) : Prop :=
  f.Ok C n → ∀ fz s E vs, SR C f fz m σ s → Vs (At C fz) vs as → wpAny (Md C) f.A (t vs) (PV C f m fz s Q) E s
def TB (C : Cx) (n : Nat) (f : Fm) (t : Value → Sem Bool) (a : AVal) (m : AEnv) (σ : AHeap) (Q : Bool → AHeap → Prop) : Prop :=
  f.Ok C n → ∀ fz s E v, SR C f fz m σ s → V (At C fz) v a → wpAny (Md C) f.A (t v) (PB C f m fz s Q) E s
def W1 (C : Cx) (n : Nat) (f : Fm) (st : Stmt) (m : AEnv) (σ : AHeap) (Q : AFlow → AEnv → AHeap → Prop) : Prop :=
  f.Ok C n → ∀ fz s E, SR C f fz m σ s → wpAny (Md C) f.A (exec st f.env) (PS C f fz s Q) E s
def WS (C : Cx) (n : Nat) (f : Fm) (ss : List Stmt) (m : AEnv) (σ : AHeap) (Q : AFlow → AEnv → AHeap → Prop) : Prop :=
  f.Ok C n → ∀ fz s E, SR C f fz m σ s → wpAny (Md C) f.A (execs ss f.env) (PS C f fz s Q) E s

section
variable {C : Cx} {n : Nat} {f : Fm} {m : AEnv} {σ : AHeap} {s s₁ s' : Shared} {fz fz₁ : Fz}
theorem sub_refl {fz : Fz} : ∀ p ∈ fz, p ∈ fz := fun _ h => h
theorem PV.up {Q : AVal → AHeap → Prop} {v : Value} (h : ∀ p ∈ fz, p ∈ fz₁) (hs : Same s s₁) (x : PV C f m fz₁ s₁ Q v s') : PV C f m fz s Q v s' := by
  obtain ⟨fz', σ', a, h1, h2, h3, h4, h5⟩ := x
  exact ⟨fz', σ', a, fun p hp => h1 p (h p hp), hs.trans h2, h3, h4, h5⟩
theorem PL.up {Q : List AVal → AHeap → Prop} {v : List Value} (h : ∀ p ∈ fz, p ∈ fz₁) (hs : Same s s₁) (x : PL C f m fz₁ s₁ Q v s') : PL C f m fz s Q v s' := by
  obtain ⟨fz', σ', a, h1, h2, h3, h4, h5⟩ := x
  exact ⟨fz', σ', a, fun p hp => h1 p (h p hp), hs.trans h2, h3, h4, h5⟩
theorem PB.up {Q : Bool → AHeap → Prop} {v : Bool} (h : ∀ p ∈ fz, p ∈ fz₁) (hs : Same s s₁) (x : PB C f m fz₁ s₁ Q v s') : PB C f m fz s Q v s' := by
  obtain ⟨fz', σ', h1, h2, h3, h5⟩ := x
  exact ⟨fz', σ', fun p hp => h1 p (h p hp), hs.trans h2, h3, h5⟩
theorem PS.up {Q : AFlow → AEnv → AHeap → Prop} {v : Flow} (h : ∀ p ∈ fz, p ∈ fz₁) (hs : Same s s₁) (x : PS C f fz₁ s₁ Q v s') : PS C f fz s Q v s' := by
  obtain ⟨fz', σ', m', a, h1, h2, h3, h4, h5⟩ := x
  exact ⟨fz', σ', m', a, fun p hp => h1 p (h p hp), hs.trans h2, h3, h4, h5⟩
theorem PV.here {Q : AVal → AHeap → Prop} {v : Value} {a : AVal} (x : SR C f fz m σ s) (hv : V (At C fz) v a) (q : Q a σ) : PV C f m fz s Q v s := ⟨fz, σ, a, sub_refl, .rfl, x, hv, q⟩
theorem PV.tok {Q : AVal → AHeap → Prop} {v : Value} {a : AVal} {t : Nat} (x : SR C f fz m σ s) (hv : V (At C fz) v a) (q : Q a σ) : PV C f m fz s Q v { s with toks := t } := ⟨fz, σ, a, sub_refl, .mk, x, hv, q⟩

/-! ## consequence -/
theorem WE.mono {e : Expr} {Q Q' : AVal → AHeap → Prop} (h : WE C n f e m σ Q) (k : ∀ a σ, Q a σ → Q' a σ) : WE C n f e m σ Q' :=
  fun ok fz s E x => wpAny_mono (h ok fz s E x) (fun v s' ⟨fz', σ', a, h1, h2, h3, h4, h5⟩ => ⟨fz', σ', a, h1, h2, h3, h4, k _ _ h5⟩) fun _ _ x => x
theorem WS.mono {ss : List Stmt} {Q Q' : AFlow → AEnv → AHeap → Prop} (h : WS C n f ss m σ Q) (k : ∀ a m σ, Q a m σ → Q' a m σ) : WS C n f ss m σ Q' :=
  fun ok fz s E x => wpAny_mono (h ok fz s E x) (fun v s' ⟨fz', σ', m', a, h1, h2, h3, h4, h5⟩ => ⟨fz', σ', m', a, h1, h2, h3, h4, k _ _ _ h5⟩) fun _ _ x => x
theorem WS.weaken {ss : List Stmt} {m' : AEnv} {σ' : AHeap} {Q : AFlow → AEnv → AHeap → Prop} (hm : ∀ y a, m'.get y = some a → m.get y = some a) (hσ : σ'.le σ) (h : WS C n f ss m' σ' Q) : WS C n f ss m σ Q :=
  fun ok fz s E x => h ok fz s E (x.weaken hm hσ)

/-! ## expressions -/
theorem we_int {i : Int} {k : Nat} {pos : Pos} {Q : AVal → AHeap → Prop} (h : Q (.int i) σ) : WE C n f (.Constant (.int i) k pos) m σ Q :=
  fun ok fz s E x => wpAny_Constant_int (.tok x (.int _ _) h)
theorem we_str {i : Str} {k : Nat} {pos : Pos} {Q : AVal → AHeap → Prop} (h : Q (.str i) σ) : WE C n f (.Constant (.str i) k pos) m σ Q :=
  fun ok fz s E x => wpAny_Constant_str (.tok x (.str _ _) h)
theorem we_none {k : Nat} {pos : Pos} {Q : AVal → AHeap → Prop} (h : Q .none σ) : WE C n f (.Constant .none k pos) m σ Q :=
  fun ok fz s E x => wpAny_Constant_none (.here x .none h)
theorem we_bool {b : Bool} {k : Nat} {pos : Pos} {Q : AVal → AHeap → Prop} (h : Q (.bool b) σ) : WE C n f (.Constant (.bool b) k pos) m σ Q :=
  fun ok fz s E x => wpAny_Constant_bool (.here x (.bool b) h)
theorem we_local {y : Str} {pos : Pos} {a : AVal} {Q : AVal → AHeap → Prop} (hl : f.fenv.kindOf y = some .local) (hv : m.get y = some a) (h : Q a σ) (hd : (y == ("__debug__" : Str)) = false := by decide) (hcm : f.comp = none := by rfl) : WE C n f (.Name y pos) m σ Q := fun ok fz s E x => by
  have x' := x
  obtain ⟨mc, news, δ, F, N, R, e⟩ := x
  obtain ⟨v, h1, h2⟩ := e y a hv
  have he : f.env = f.fenv := by unfold Fm.env; rw [hcm]
  rw [he]
  exact nameX_L F h1 (.here x' h2 h) ok.kind hl hd
/-- a name of a row that is being built -/
theorem we_clocal {y : Str} {pos : Pos} {sc : Scope} {cl : List (Str × Addr)} {c : Addr} {as : List (Str × AVal)} {a : AVal} {Q : AVal → AHeap → Prop} (hcm : f.comp = some (sc, cl, c)) (hl : f.env.kindOf y = some .local) (hc : σ c = some (.ns as)) (hv : getA y as = some a) (h : Q a σ) (hd : (y == ("__debug__" : Str)) = false := by decide) : WE C n f (.Name y pos) m σ Q := fun ok fz s E x => by
  have x' := x
  obtain ⟨mc, news, δ, F, N, R, e⟩ := x
  obtain ⟨o, mc', h1, h2, h3⟩ := R.ob c _ hc
  obtain ⟨v, h4, h5⟩ := h3 y a hv
  have hL : f.env.locals = c := by unfold Fm.env; rw [hcm]; rfl
  exact wpAny_Name (wpAny_loadName_local ok.ckind hl (by rw [hL]; exact h2.ns (N _ h1).1) h4 (.here x' h5 h)) hd
theorem we_cell {y : Str} {pos : Pos} {c : Addr} {a : AVal} {Q : AVal → AHeap → Prop} (hl : f.env.kindOf y = some .cell) (hc : f.env.cells.lookup y = some c) (hv : σ c = some (.cell (some a))) (h : Q a σ) (hd : (y == ("__debug__" : Str)) = false := by decide) : WE C n f (.Name y pos) m σ Q := fun ok fz s E x => by
  have x' := x
  obtain ⟨mc, news, δ, F, N, R, e⟩ := x
  obtain ⟨o, v, h1, h2, h3⟩ := R.ob c _ hv
  exact wpAny_Name (wpAny_loadName_cell ok.ckind hl hc ⟨o, N.get h1, h2⟩ (.here x' h3 h)) hd
theorem we_global {y : Str} {pos : Pos} {v : Value} {Q : AVal → AHeap → Prop} (hl : f.env.kindOf y = some .globalImplicit) (hv : nsIn C.K mainGlobals y = some (some v)) (h : Q (.raw v) σ) (hd : (y == ("__debug__" : Str)) = false := by decide) : WE C n f (.Name y pos) m σ Q := fun ok fz s E x => by
  have x' := x
  obtain ⟨mc, news, δ, F, N, R, e⟩ := x
  have hg : f.env.globals = mainGlobals := by unfold Fm.env; cases f.comp <;> rfl
  have T := topRead_of ok.top
  exact Name_function_global ok.ckind hl (loadGlobal_global (env := f.env) (by rw [hg]; exact T.g.keeps F.keep) (mg_of ok.kin T.g hv) (.here x' (.raw v) h)) hd
theorem we_builtin {y : Str} {pos : Pos} {v : Value} {Q : AVal → AHeap → Prop} (hl : f.env.kindOf y = some .globalImplicit) (hv : nsIn C.K mainGlobals y = some none) (hb : bootBuiltins y = some v) (h : Q (.raw v) σ) (hn : y ≠ "__name__" := by decide) (hd : (y == ("__debug__" : Str)) = false := by decide) :
    WE C n f (.Name y pos) m σ Q := fun ok fz s E x => by
  have x' := x
  obtain ⟨mc, news, δ, F, N, R, e⟩ := x
  have hg : f.env.globals = mainGlobals := by unfold Fm.env; cases f.comp <;> rfl
  have hbb : f.env.builtins = builtinsNs := by unfold Fm.env; cases f.comp <;> rfl
  have T := topRead_of ok.top
  exact Name_function_global ok.ckind hl (loadGlobal_builtin (env := f.env) (by rw [hg]; exact T.g.keeps F.keep) (mg_none_of ok.kin T.g hv) (by rw [hbb]; exact T.b.keeps F.keep) ((T.builtins y hn).trans hb) (.here x' (.raw v) h)) hd
theorem we_binop {l r : Expr} {op : Operator} {pos : Pos} {Q : AVal → AHeap → Prop} (h : WE C n f l m σ fun a σ₁ => WE C n f r m σ₁ fun b σ₂ => T2 C n f (binaryOp op) a b m σ₂ Q) : WE C n f (.BinOp l op r pos) m σ Q := fun ok fz s E x => by
  refine wpAny_BinOp (wpAny_mono (h ok fz s E x) (fun v s₁ ⟨fz₁, σ₁, a, u1, e1, x1, va, q1⟩ => wpAny_mono (q1 ok fz₁ s₁ E x1) (fun w s₂ ⟨fz₂, σ₂, b, u2, e2, x2, vb, q2⟩ => ?_) fun _ _ x => x) fun _ _ x => x)
  exact wpAny_mono (q2 ok fz₂ s₂ E v w x2 (va.up u2) vb) (fun r s₃ p => .up (fun p hp => u2 p (u1 p hp)) (e1.trans e2) p) fun _ _ x => x
theorem we_compare {l r : Expr} {op : CmpOp} {pos : Pos} {Q : AVal → AHeap → Prop} (h : WE C n f l m σ fun a σ₁ => WE C n f r m σ₁ fun b σ₂ => T2 C n f (compareOp op) a b m σ₂ Q) (hm : behindInMarks op r = false := by rfl) :
    WE C n f (.Compare l [op] [r] pos) m σ Q := fun ok fz s E x => by
  refine wpAny_Compare1 (wpAny_mono (h ok fz s E x) (fun v s₁ ⟨fz₁, σ₁, a, u1, e1, x1, va, q1⟩ => wpAny_mono (q1 ok fz₁ s₁ E x1) (fun w s₂ ⟨fz₂, σ₂, b, u2, e2, x2, vb, q2⟩ => ?_) fun _ _ x => x) fun _ _ x => x) hm
  exact wpAny_mono (q2 ok fz₂ s₂ E v w x2 (va.up u2) vb) (fun r s₃ p => .up (fun p hp => u2 p (u1 p hp)) (e1.trans e2) p) fun _ _ x => x
theorem we_unary {l : Expr} {op : UnaryOp} {pos : Pos} {Q : AVal → AHeap → Prop} (h : WE C n f l m σ fun a σ₁ => T1 C n f (unaryOp op) a m σ₁ Q) : WE C n f (.UnaryOp op l pos) m σ Q := fun ok fz s E x => by
  refine wpAny_UnaryOp (wpAny_mono (h ok fz s E x) (fun v s₁ ⟨fz₁, σ₁, a, u1, e1, x1, va, q1⟩ => ?_) fun _ _ x => x)
  exact wpAny_mono (q1 ok fz₁ s₁ E v x1 va) (fun r s₃ p => .up u1 e1 p) fun _ _ x => x
theorem we_ifexp {t b o : Expr} {pos : Pos} {Q : AVal → AHeap → Prop} (h : WT C n f t m σ fun c σ₁ => (c = true → WE C n f b m σ₁ Q) ∧ (c = false → WE C n f o m σ₁ Q)) : WE C n f (.IfExp t b o pos) m σ Q := fun ok fz s E x => by
  refine wpAny_IfExp (wpAny_mono (h ok fz s E x) (fun c s₁ ⟨fz₁, σ₁, u1, e1, x1, q1⟩ => ?_) fun _ _ x => x)
  cases c with
  | true => exact wpAny_mono (q1.1 rfl ok fz₁ s₁ E x1) (fun r s₃ p => .up u1 e1 p) fun _ _ x => x
  | false => exact wpAny_mono (q1.2 rfl ok fz₁ s₁ E x1) (fun r s₃ p => .up u1 e1 p) fun _ _ x => x
theorem we_and {a b : Expr} {pos : Pos} {Q : AVal → AHeap → Prop} (h : WE C n f a m σ fun v σ₁ => TB C n f truthy v m σ₁ fun c σ₂ => (c = true → WE C n f b m σ₂ Q) ∧ (c = false → Q v σ₂)) : WE C n f (.BoolOp .And [a, b] pos) m σ Q := fun ok fz s E x => by
  refine wpAny_And2 (wpAny_mono (h ok fz s E x) (fun v s₁ ⟨fz₁, σ₁, av, u1, e1, x1, va, q1⟩ => wpAny_mono (q1 ok fz₁ s₁ E v x1 va) (fun c s₂ ⟨fz₂, σ₂, u2, e2, x2, q2⟩ => ?_) fun _ _ x => x) fun _ _ x => x)
  cases c with
  | true => exact wpAny_mono (q2.1 rfl ok fz₂ s₂ E x2) (fun r s₃ p => .up (fun p hp => u2 p (u1 p hp)) (e1.trans e2) p) fun _ _ x => x
  | false => exact ⟨fz₂, σ₂, av, fun p hp => u2 p (u1 p hp), e1.trans e2, x2, va.up u2, q2.2 rfl⟩
theorem we_or {a b : Expr} {pos : Pos} {Q : AVal → AHeap → Prop} (h : WE C n f a m σ fun v σ₁ => TB C n f truthy v m σ₁ fun c σ₂ => (c = true → Q v σ₂) ∧ (c = false → WE C n f b m σ₂ Q)) : WE C n f (.BoolOp .Or [a, b] pos) m σ Q := fun ok fz s E x => by
  refine wpAny_Or2 (wpAny_mono (h ok fz s E x) (fun v s₁ ⟨fz₁, σ₁, av, u1, e1, x1, va, q1⟩ => wpAny_mono (q1 ok fz₁ s₁ E v x1 va) (fun c s₂ ⟨fz₂, σ₂, u2, e2, x2, q2⟩ => ?_) fun _ _ x => x) fun _ _ x => x)
  cases c with
  | false => exact wpAny_mono (q2.2 rfl ok fz₂ s₂ E x2) (fun r s₃ p => .up (fun p hp => u2 p (u1 p hp)) (e1.trans e2) p) fun _ _ x => x
  | true => exact ⟨fz₂, σ₂, av, fun p hp => u2 p (u1 p hp), e1.trans e2, x2, va.up u2, q2.1 rfl⟩

/-! ## rows of expressions -/
theorem wl_nil {pos : Pos} {Q : List AVal → AHeap → Prop} (h : Q [] σ) : WL C n f [] pos m σ Q := fun ok fz s E x => wpAny_items_nil ⟨fz, σ, [], sub_refl, .rfl, x, .nil, h⟩
theorem wl_cons {e : Expr} {es : List Expr} {pos : Pos} {Q : List AVal → AHeap → Prop} (h : WE C n f e m σ fun a σ₁ => WL C n f es pos m σ₁ fun as σ₂ => Q (a :: as) σ₂)
    (he : starEach (e :: es) f.env = (false, eval e f.env) :: starEach es f.env := by rfl) : WL C n f (e :: es) pos m σ Q := fun ok fz s E x => by
  refine wpAny_items_cons (wpAny_mono (h ok fz s E x) (fun v s₁ ⟨fz₁, σ₁, a, u1, e1, x1, va, q1⟩ => wpAny_mono (q1 ok fz₁ s₁ E x1) (fun w s₂ ⟨fz₂, σ₂, b, u2, e2, x2, vb, q2⟩ => ?_) fun _ _ x => x) fun _ _ x => x) he
  exact ⟨fz₂, σ₂, a :: b, fun p hp => u2 p (u1 p hp), e1.trans e2, x2, .cons (va.up u2) vb, q2⟩
/-- a list display, frozen; and one that may change -/
theorem we_lst {es : List Expr} {pos : Pos} {Q : AVal → AHeap → Prop} (h : WL C n f es pos m σ fun as σ₁ => as.length ≤ sizeLine ∧ Q (.lst as) σ₁) : WE C n f (.List es pos) m σ Q := fun ok fz s E x => by
  refine wpAny_List (wpAny_mono (h ok fz s E x) (fun vs s₁ ⟨fz₁, σ₁, as, u1, e1, x1, va, q0, q1⟩ => ⟨by rw [va.length]; exact q0, ?_⟩) fun _ _ x => x)
  have hs : s₁.heap.get? s₁.heap.objs.size = none := by
    cases q : s₁.heap.get? s₁.heap.objs.size with
    | none => rfl
    | some o => exact absurd (Heap.lt_size q) (Nat.lt_irrefl _)
  refine ⟨[(s₁.heap.objs.size, listOf vs.toArray 0)] ++ fz₁, σ₁, .lst as, fun p hp => List.mem_append_right _ (u1 p hp), e1.trans ⟨_, _, rfl⟩, x1.freeze (t := s₁.toks) (fun b o e => Heap.get?_push_of_some _ e) _ ?_, .lst (.inl (List.mem_append_left _ (List.mem_singleton.mpr rfl))) rfl rfl (va.up fun p hp => List.mem_append_right _ hp), q1⟩
  intro p hp
  rw [List.mem_singleton.mp hp]
  exact ⟨hs, Nat.le_refl _, Heap.get?_push_size _ rfl⟩
theorem we_tup {es : List Expr} {k : Nat} {pos : Pos} {Q : AVal → AHeap → Prop} (h : WL C n f es pos m σ fun as σ₁ => as.length ≤ sizeLine ∧ Q (.tup as) σ₁) : WE C n f (.Tuple es k pos) m σ Q := fun ok fz s E x => by
  refine wpAny_Tuple (wpAny_mono (h ok fz s E x) (fun vs s₁ ⟨fz₁, σ₁, as, u1, e1, x1, va, q0, q1⟩ => ⟨by rw [va.length]; exact q0, ?_⟩) fun _ _ x => x)
  have hs : s₁.heap.get? s₁.heap.objs.size = none := by
    cases q : s₁.heap.get? s₁.heap.objs.size with
    | none => rfl
    | some o => exact absurd (Heap.lt_size q) (Nat.lt_irrefl _)
  refine ⟨[(s₁.heap.objs.size, tupOf vs)] ++ fz₁, σ₁, .tup as, fun p hp => List.mem_append_right _ (u1 p hp), e1.trans ⟨_, _, rfl⟩, x1.freeze (t := s₁.toks) (fun b o e => Heap.get?_push_of_some _ e) _ ?_, .tup (.inl (List.mem_append_left _ (List.mem_singleton.mpr rfl))) rfl rfl (va.up fun p hp => List.mem_append_right _ hp), q1⟩
  intro p hp
  rw [List.mem_singleton.mp hp]
  exact ⟨hs, Nat.le_refl _, Heap.get?_push_size _ rfl⟩
theorem we_listM {es : List Expr} {pos : Pos} {Q : AVal → AHeap → Prop} (h : WL C n f es pos m σ fun as σ₁ => as.length ≤ sizeLine ∧ ∀ a, σ₁ a = none → Q (.obj a) (σ₁.set a (.list as))) : WE C n f (.List es pos) m σ Q := fun ok fz s E x => by
  refine wpAny_List (wpAny_mono (h ok fz s E x) (fun vs s₁ ⟨fz₁, σ₁, as, u1, e1, x1, va, q0, q1⟩ => ⟨by rw [va.length]; exact q0, ?_⟩) fun _ _ x => x)
  exact ⟨fz₁, _, .obj s₁.heap.objs.size, u1, e1.trans ⟨_, _, rfl⟩, x1.newList (t := s₁.toks) (fun b o e => Heap.get?_push_of_some _ e) (Nat.le_refl _) (Heap.get?_push_size _ rfl) va, .obj _, q1 _ (x1.fresh (Nat.le_refl _))⟩

/-! ## tests -/
theorem wt_compare {l r : Expr} {op : CmpOp} {pos : Pos} {Q : Bool → AHeap → Prop} (h : WE C n f l m σ fun a σ₁ => WE C n f r m σ₁ fun b σ₂ => T2 C n f (compareOp op) a b m σ₂ fun c σ₃ => TB C n f truthy c m σ₃ Q) (hm : behindInMarks op r = false := by rfl) :
    WT C n f (.Compare l [op] [r] pos) m σ Q := fun ok fz s E x => by
  refine wpAny_isTrue_Compare1 (wpAny_mono (h ok fz s E x) (fun v s₁ ⟨fz₁, σ₁, a, u1, e1, x1, va, q1⟩ => wpAny_mono (q1 ok fz₁ s₁ E x1) (fun w s₂ ⟨fz₂, σ₂, b, u2, e2, x2, vb, q2⟩ => ?_) fun _ _ x => x) fun _ _ x => x) hm
  refine wpAny_mono (q2 ok fz₂ s₂ E v w x2 (va.up u2) vb) (fun r s₃ ⟨fz₃, σ₃, c, u3, e3, x3, vc, q3⟩ => ?_) fun _ _ x => x
  exact wpAny_mono (q3 ok fz₃ s₃ E r x3 vc) (fun b s₄ p => .up (fun p hp => u3 p (u2 p (u1 p hp))) ((e1.trans e2).trans e3) p) fun _ _ x => x
theorem wt_not {t : Expr} {pos : Pos} {Q : Bool → AHeap → Prop} (h : WT C n f t m σ fun b σ₁ => Q (!b) σ₁) : WT C n f (.UnaryOp .Not t pos) m σ Q := fun ok fz s E x =>
  wpAny_isTrue_Not (wpAny_mono (h ok fz s E x) (fun v s₁ ⟨fz₁, σ₁, u1, e1, x1, q1⟩ => ⟨fz₁, σ₁, u1, e1, x1, q1⟩) fun _ _ x => x)
theorem wt_value {e : Expr} {Q : Bool → AHeap → Prop} (h : WE C n f e m σ fun a σ₁ => TB C n f truthy a m σ₁ Q) (he : ∀ whole, isTrue e f.env whole = (do let v ← whole; standAt e.pos; holding [v] (truthy v)) := by intro _; rfl) : WT C n f e m σ Q := fun ok fz s E x => by
  refine wpAny_isTrue_value (wpAny_mono (h ok fz s E x) (fun v s₁ ⟨fz₁, σ₁, a, u1, e1, x1, va, q1⟩ => ?_) fun _ _ x => x) (he _)
  exact wpAny_mono (q1 ok fz₁ s₁ E v x1 va) (fun b s₄ p => .up u1 e1 p) fun _ _ x => x
/-- a chain of tests in a condition -/
def WA (C : Cx) (n : Nat) (f : Fm) (op : BoolOp) (es : List Expr) (m : AEnv) (σ : AHeap) (Q : Bool → AHeap → Prop) : Prop :=
  f.Ok C n → ∀ fz s E, SR C f fz m σ s → wpAny (Md C) f.A (allTrue op es f.env) (PB C f m fz s Q) E s
theorem wt_bool {op : BoolOp} {es : List Expr} {pos : Pos} {Q : Bool → AHeap → Prop} (h : WA C n f op es m σ Q) : WT C n f (.BoolOp op es pos) m σ Q := fun ok fz s E x => wpAny_isTrue_BoolOp (h ok fz s E x)
theorem wa_and_nil {Q : Bool → AHeap → Prop} (h : Q true σ) : WA C n f .And [] m σ Q := fun ok fz s E x => wpAny_allTrue_And_nil ⟨fz, σ, sub_refl, .rfl, x, h⟩
theorem wa_or_nil {Q : Bool → AHeap → Prop} (h : Q false σ) : WA C n f .Or [] m σ Q := fun ok fz s E x => wpAny_allTrue_Or_nil ⟨fz, σ, sub_refl, .rfl, x, h⟩
theorem wa_and {e : Expr} {es : List Expr} {Q : Bool → AHeap → Prop} (h : WT C n f e m σ fun b σ₁ => (b = true → WA C n f .And es m σ₁ Q) ∧ (b = false → Q false σ₁)) : WA C n f .And (e :: es) m σ Q := fun ok fz s E x => by
  refine wpAny_allTrue_And_cons (wpAny_mono (h ok fz s E x) (fun c s₁ ⟨fz₁, σ₁, u1, e1, x1, q1⟩ => ?_) fun _ _ x => x)
  cases c with
  | true => exact wpAny_mono (q1.1 rfl ok fz₁ s₁ E x1) (fun r s₃ p => .up u1 e1 p) fun _ _ x => x
  | false => exact ⟨fz₁, σ₁, u1, e1, x1, q1.2 rfl⟩
theorem wa_or {e : Expr} {es : List Expr} {Q : Bool → AHeap → Prop} (h : WT C n f e m σ fun b σ₁ => (b = true → Q true σ₁) ∧ (b = false → WA C n f .Or es m σ₁ Q)) : WA C n f .Or (e :: es) m σ Q := fun ok fz s E x => by
  refine wpAny_allTrue_Or_cons (wpAny_mono (h ok fz s E x) (fun c s₁ ⟨fz₁, σ₁, u1, e1, x1, q1⟩ => ?_) fun _ _ x => x)
  cases c with
  | false => exact wpAny_mono (q1.2 rfl ok fz₁ s₁ E x1) (fun r s₃ p => .up u1 e1 p) fun _ _ x => x
  | true => exact ⟨fz₁, σ₁, u1, e1, x1, q1.1 rfl⟩
theorem tb_bool {b : Bool} {Q : Bool → AHeap → Prop} (h : Q b σ) : TB C n f truthy (.bool b) m σ Q := fun ok fz s E v x hv => by
  cases hv; exact wpAny_truthy_bool ⟨fz, σ, sub_refl, .rfl, x, h⟩

/-! ## statements -/
theorem ws_nil {Q : AFlow → AEnv → AHeap → Prop} (h : Q .next m σ) : WS C n f [] m σ Q := fun ok fz s E x => wpAny_execs_nil ⟨fz, σ, m, .next, sub_refl, .rfl, x, trivial, h⟩
theorem ws_cons {st : Stmt} {ss : List Stmt} {Q : AFlow → AEnv → AHeap → Prop} (h : W1 C n f st m σ fun a m' σ' => match a with | .next => WS C n f ss m' σ' Q | a => Q a m' σ') : WS C n f (st :: ss) m σ Q := fun ok fz s E x => by
  refine wpAny_execs_cons (wpAny_mono (h ok fz s E x) (fun fl s₁ ⟨fz₁, σ₁, m₁, a, u1, e1, x1, va, q1⟩ => ?_) fun _ _ x => x)
  cases fl with
  | next =>
    cases a with
    | next => exact wpAny_mono (q1 ok fz₁ s₁ E x1) (fun r s₃ p => .up u1 e1 p) fun _ _ x => x
    | _ => exact va.elim
  | brk => cases a <;> first | exact ⟨fz₁, σ₁, m₁, _, u1, e1, x1, va, q1⟩ | exact va.elim
  | cont => cases a <;> first | exact ⟨fz₁, σ₁, m₁, _, u1, e1, x1, va, q1⟩ | exact va.elim
  | ret v => cases a <;> first | exact ⟨fz₁, σ₁, m₁, _, u1, e1, x1, va, q1⟩ | exact va.elim
theorem w1_return {e : Expr} {pos : Pos} {Q : AFlow → AEnv → AHeap → Prop} (h : WE C n f e m σ fun a σ₁ => Q (.ret a) m σ₁) : W1 C n f (.Return (some e) pos) m σ Q := fun ok fz s E x =>
  wpAny_Return_some (wpAny_mono (h ok fz s E x) (fun v s₁ ⟨fz₁, σ₁, a, u1, e1, x1, va, q1⟩ => ⟨fz₁, σ₁, m, .ret a, u1, e1, x1, va, q1⟩) fun _ _ x => x)
theorem w1_if {t : Expr} {b o : List Stmt} {pos : Pos} {Q : AFlow → AEnv → AHeap → Prop} (h : WT C n f t m σ fun c σ₁ => (c = true → WS C n f b m σ₁ Q) ∧ (c = false → WS C n f o m σ₁ Q)) : W1 C n f (.If t b o pos) m σ Q := fun ok fz s E x => by
  refine wpAny_If (wpAny_mono (h ok fz s E x) (fun c s₁ ⟨fz₁, σ₁, u1, e1, x1, q1⟩ => ?_) fun _ _ x => x)
  cases c with
  | true => exact wpAny_mono (q1.1 rfl ok fz₁ s₁ E x1) (fun r s₃ p => .up u1 e1 p) fun _ _ x => x
  | false => exact wpAny_mono (q1.2 rfl ok fz₁ s₁ E x1) (fun r s₃ p => .up u1 e1 p) fun _ _ x => x
/-- storing a value under a name: as a tree -/
def TS (C : Cx) (n : Nat) (f : Fm) (y : Str) (a : AVal) (m : AEnv) (σ : AHeap) (Q : AEnv → AHeap → Prop) : Prop :=
  f.Ok C n → ∀ fz s E v, SR C f fz m σ s → V (At C fz) v a → wpAny (Md C) f.A (storeName f.env y v) (fun _ s' => ∃ fz' σ' m', (∀ p ∈ fz, p ∈ fz') ∧ Same s s' ∧ SR C f fz' m' σ' s' ∧ Q m' σ') E s
theorem ts_local {y : Str} {a : AVal} {Q : AEnv → AHeap → Prop} (hl : f.fenv.kindOf y = some .local) (h : Q (m.set y a) σ) (hcm : f.comp = none := by rfl) : TS C n f y a m σ Q := fun ok fz s E v x hv => by
  have he : f.env = f.fenv := by unfold Fm.env; rw [hcm]
  rw [he]
  obtain ⟨mc, news, F, N, k⟩ := x.store (y := y) hv
  exact storeX_L F N (fun h' F' N' => ⟨fz, σ, _, sub_refl, .mk, k h' _ F' N', h⟩) ok.kind hl
theorem ts_cell {y : Str} {a : AVal} {c : Addr} {v₀ : Option AVal} {Q : AEnv → AHeap → Prop} (hl : f.env.kindOf y = some .cell) (hc : f.env.cells.lookup y = some c) (hv : σ c = some (.cell v₀)) (h : Q m (σ.set c (.cell (some a)))) : TS C n f y a m σ Q := fun ok fz s E v x va => by
  have x' := x
  obtain ⟨mc, news, δ, F, N, R, e⟩ := x
  obtain ⟨o, u, ho, hd⟩ : ∃ o u, (c, o) ∈ news ∧ o.data = .cell u := by
    cases v₀ with
    | none => obtain ⟨o, h1, h2⟩ := R.ob c _ hv; exact ⟨o, _, h1, h2⟩
    | some a => obtain ⟨o, u, h1, h2, _⟩ := R.ob c _ hv; exact ⟨o, _, h1, h2⟩
  refine wpAny_storeName_cell ok.ckind hl hc ⟨o, (N _ ho).1, hd⟩ fun h' hv' hs => ?_
  obtain ⟨o', ho', hd'⟩ := hv'
  exact ⟨fz, _, m, sub_refl, ⟨_, _, rfl⟩, x'.setCell (t := s.toks) hv hs ho' hd' va, h⟩
theorem w1_assign {y : Str} {py : Pos} {e : Expr} {pos : Pos} {Q : AFlow → AEnv → AHeap → Prop} (h : WE C n f e m σ fun a σ₁ => TS C n f y a m σ₁ fun m' σ' => Q .next m' σ')
    (hs : swapsWith e (some (.Name y py)) pos.line f.env = pure false := by rfl) : W1 C n f (.Assign [.Name y py] e pos) m σ Q := fun ok fz s E x => by
  refine wpAny_Assign_Name (wpAny_mono (h ok fz s E x) (fun v s₁ ⟨fz₁, σ₁, a, u1, e1, x1, va, q1⟩ => ?_) fun _ _ x => x) hs
  exact wpAny_mono (q1 ok fz₁ s₁ E v x1 va) (fun _ s₂ ⟨fz₂, σ₂, m₂, u2, e2, x2, q2⟩ => ⟨fz₂, σ₂, m₂, .next, fun p hp => u2 p (u1 p hp), e1.trans e2, x2, trivial, q2⟩) fun _ _ x => x
end
end Mine

open PySem PySem.W PyProof.Rows PySem.Calls
namespace Mine
def Near (f : Fm) (A : Around) : Prop := A.frames = f.A.frames ∧ A.handled = f.A.handled ∧ A.guards = f.A.guards ∧ A.depth ≤ f.A.depth + 2 ∧ A.units ≤ f.A.units + 4
theorem Near.refl {f : Fm} : Near f f.A := ⟨rfl, rfl, rfl, by omega, by omega⟩
def RV (C : Cx) (f : Fm) (m : AEnv) (fz : Fz) (s : Shared) (Q : AVal → AHeap → Prop) (r : Result) (s' : Shared) : Prop := ∃ v, r = .ok (.ret v) ∧ PV C f m fz s Q v s'
/-- what a call of a def of the text does -/
def Fn (C : Cx) (n : Nat) (fa : Addr) (as : List AVal) (σ : AHeap) (Q : AVal → AHeap → Prop) : Prop :=
  ∀ f m A, f.Ok C n → Near f A → ∀ fz s vs, SR C f fz m σ s → Vs (At C fz) vs as → codeAny (Md C) A (.call (.ref fa) ⟨vs, []⟩) (RV C f m fz s Q) s
theorem Fn.mono {C : Cx} {n : Nat} {fa : Addr} {as : List AVal} {σ : AHeap} {Q Q' : AVal → AHeap → Prop} (h : Fn C n fa as σ Q) (k : ∀ a σ, Q a σ → Q' a σ) : Fn C n fa as σ Q' :=
  fun f m A ok hn fz s vs x hv => codeAny_mono (h f m A ok hn fz s vs x hv) fun r s' ⟨v, e, fz', σ', a, h1, h2, h3, h4, h5⟩ => ⟨v, e, fz', σ', a, h1, h2, h3, h4, k _ _ h5⟩

def Keep (C : Cx) (h : Heap) (v : Value) : Prop := ∃ k, (k = Keeper.frame ∨ k = Keeper.machine ∨ k = Keeper.boundFrame) ∧ Looks (Md C) h (keeperOf v) k
/-- a call -/
def TC (C : Cx) (n : Nat) (f : Fm) (fv : AVal) (as : List AVal) (m : AEnv) (σ : AHeap) (Q : AVal → AHeap → Prop) : Prop :=
  f.Ok C n → ∀ fz s E v vs, SR C f fz m σ s → V (At C fz) v fv → Vs (At C fz) vs as → Keep C s.heap v ∧ wpAny (Md C) f.A (call v vs) (PV C f m fz s Q) E s
/-- a method looked up -/
def TG (C : Cx) (n : Nat) (f : Fm) (name : Str) (ov : AVal) (m : AEnv) (σ : AHeap) (Q : AVal → List AVal → AHeap → Prop) : Prop :=
  f.Ok C n → ∀ fz s E v pl, SR C f fz m σ s → V (At C fz) v ov → wpAny (Md C) f.A (getMethod v name pl) (fun fx s' => ∃ fz' σ' fa as, (∀ p ∈ fz, p ∈ fz') ∧ Same s s' ∧ SR C f fz' m σ' s' ∧ V (At C fz') fx.1 fa ∧ Vs (At C fz') fx.2 as ∧ Q fa as σ') E s

section
variable {C : Cx} {n : Nat} {f : Fm} {m : AEnv} {σ : AHeap}
theorem cw {pos : Pos} {v : Value} {first : List Value} {args : List Expr} {s : Shared} {E : Value → Shared → Prop} {Q : Value → Shared → Prop}
    (h : wpAny (Md C) f.A (spliced (backTo pos (starEach args f.env))) (fun vs s₁ => Keep C s₁.heap v ∧ wpAny (Md C) f.A (call v (first ++ vs)) Q E s₁) E s)
    (hplain : (backTo pos (starEach args f.env)).any (·.1) = false := by rfl) : wpAny (Md C) f.A (callWith pos v first (backTo pos (starEach args f.env)) (backToKw pos (keywordEach [] f.env))) Q E s := by
  show wpAny (Md C) f.A (callWith pos v first (backTo pos (starEach args f.env)) []) Q E s
  revert h hplain
  generalize backTo pos (starEach args f.env) = l
  intro h hplain
  refine callWith_of (P := fun h => Keep C h v) (by rw [hplain]; rfl) (fun h k => k) ?_
  cases l with
  | nil =>
    unfold evalArgs
    show wpAny _ _ (spliced [] >>= _) _ E s
    exact wpAny_bind (wpAny_mono h (fun vs s₁ h₁ => wpAny_bind (wpAny_pure (wpAny_holding (wpAny_bind (wpAny_pure (wpAny_bind (wpAny_pure (wpAny_pure h₁)))))))) fun _ _ x => x)
  | cons p l => 
    obtain ⟨b, x⟩ := p
    cases b with
    | true => cases hplain
    | false => exact evalArgs_plain h
theorem we_call {g : Str} {gp : Pos} {args : List Expr} {pos : Pos} {Q : AVal → AHeap → Prop} (h : WE C n f (.Name g gp) m σ fun fv σ₁ => WL C n f args pos m σ₁ fun as σ₂ => TC C n f fv as m σ₂ Q)
    (hplain : (backTo pos (starEach args f.env)).any (·.1) = false := by rfl) : WE C n f (.Call (.Name g gp) args [] pos) m σ Q := fun ok fz s E x => by
  refine wpAny_Call_ofName (wpAny_mono (h ok fz s E x) (fun v s₁ ⟨fz₁, σ₁, a, u1, e1, x1, va, q1⟩ => cw (wpAny_mono (q1 ok fz₁ s₁ E x1) (fun vs s₂ ⟨fz₂, σ₂, as, u2, e2, x2, vs', q2⟩ => ?_) fun _ _ x => x) hplain) fun _ _ x => x)
  obtain ⟨k, c⟩ := q2 ok fz₂ s₂ E v vs x2 (va.up u2) vs'
  exact ⟨k, wpAny_mono c (fun r s₃ p => .up (fun p hp => u2 p (u1 p hp)) (e1.trans e2) p) fun _ _ x => x⟩
theorem we_callE {g : Expr} {args : List Expr} {pos : Pos} {Q : AVal → AHeap → Prop} (h : WE C n f g m σ fun fv σ₁ => WL C n f args pos m σ₁ fun as σ₂ => TC C n f fv as m σ₂ Q)
    (he : eval (.Call g args [] pos) f.env = (do callWith pos (← eval g f.env) [] (backTo pos (starEach args f.env)) (backToKw pos (keywordEach [] f.env))) := by rfl)
    (hplain : (backTo pos (starEach args f.env)).any (·.1) = false := by rfl) : WE C n f (.Call g args [] pos) m σ Q := fun ok fz s E x => by
  rw [he]
  refine wpAny_bind (wpAny_mono (h ok fz s E x) (fun v s₁ ⟨fz₁, σ₁, a, u1, e1, x1, va, q1⟩ => cw (wpAny_mono (q1 ok fz₁ s₁ E x1) (fun vs s₂ ⟨fz₂, σ₂, as, u2, e2, x2, vs', q2⟩ => ?_) fun _ _ x => x) hplain) fun _ _ x => x)
  obtain ⟨k, c⟩ := q2 ok fz₂ s₂ E v vs x2 (va.up u2) vs'
  exact ⟨k, wpAny_mono c (fun r s₃ p => .up (fun p hp => u2 p (u1 p hp)) (e1.trans e2) p) fun _ _ x => x⟩
theorem we_method {o : Expr} {name : Str} {apos pos : Pos} {args : List Expr} {pl : Sem Bool} {Q : AVal → AHeap → Prop}
    (h : WE C n f o m σ fun ov σ₁ => TG C n f name ov m σ₁ fun fv first σ₂ => WL C n f args pos m σ₂ fun as σ₃ => TC C n f fv (first ++ as) m σ₃ Q)
    (he : eval (.Call (.Attribute o name apos) args [] pos) f.env = (do
      let ov ← eval o f.env
      standAt apos.atName
      let (g, first) ← holding [ov] (getMethod ov name pl)
      callWith pos g first (backTo pos (starEach args f.env)) (backToKw pos (keywordEach [] f.env))) := by rfl)
    (hplain : (backTo pos (starEach args f.env)).any (·.1) = false := by rfl) : WE C n f (.Call (.Attribute o name apos) args [] pos) m σ Q := fun ok fz s E x => by
  refine methodCall_KW (pl := pl) (wpAny_mono (h ok fz s E x) (fun v s₁ ⟨fz₁, σ₁, a, u1, e1, x1, va, q1⟩ => wpAny_mono (q1 ok fz₁ s₁ E v pl x1 va) (fun fx s₂ ⟨fz₂, σ₂, fa, fs, u2, e2, x2, vf, vfs, q2⟩ => cw (wpAny_mono (q2 ok fz₂ s₂ E x2) (fun vs s₃ ⟨fz₃, σ₃, as, u3, e3, x3, vs', q3⟩ => ?_) fun _ _ x => x) hplain) fun _ _ x => x) fun _ _ x => x) he
  obtain ⟨k, c⟩ := q3 ok fz₃ s₃ E fx.1 (fx.2 ++ vs) x3 (vf.up u3) ((vfs.up u3).append vs')
  exact ⟨k, wpAny_mono c (fun r s₄ p => .up (fun p hp => u3 p (u2 p (u1 p hp))) ((e1.trans e2).trans e3) p) fun _ _ x => x⟩

/-! ## methods of own instances -/
theorem tg_inst {a c g : Addr} {as : List (Str × AVal)} {name : Str} {Q : AVal → List AVal → AHeap → Prop} (hσ : σ a = some (.inst c as)) (hn : getA name as = none) (hg : plainGet C.K c name = true)
    (hf : findIn C.K (.ref c) name = some (some (.ref g))) (ht : isFn C.K (.ref g) = true) (h : Q (.raw (.ref g)) [.obj a] σ) : TG C n f name (.obj a) m σ Q := fun ok fz s E v pl x hv => by
  cases hv
  obtain ⟨d, es, k, h1, h2, h3⟩ := x.inst hσ
  have x' := x
  obtain ⟨mc, news, δ, F, N, R, e⟩ := x
  exact method_inst F ok.kin (⟨h1, rfl, rfl, h2⟩ : InstAt s.heap a (instObj c d) c (some (dictOf es k))) hg hf ht (h3.get_none hn) ⟨fz, σ, _, _, sub_refl, .rfl, x', .raw _, .cons (.obj a) .nil, h⟩
theorem tg_fin {c g : Addr} {name : Str} {Q : AVal → List AVal → AHeap → Prop} (hg : plainGet C.K c name = true)
    (hf : findIn C.K (.ref c) name = some (some (.ref g))) (ht : isFn C.K (.ref g) = true) (h : Q (.raw (.ref g)) [.fin c] σ) : TG C n f name (.fin c) m σ Q := fun ok fz s E v pl x hv => by
  have hv' := hv
  cases hv with
  | fin p1 p2 =>
    have h1 := x.at_ ok p1
    have h2 := x.at_ ok p2
    have x' := x
    obtain ⟨mc, news, δ, F, N, R, e⟩ := x
    exact method_inst F ok.kin (⟨h1, rfl, rfl, h2⟩ : InstAt s.heap _ (instObj c _) c (some (dictOf [] 0))) hg hf ht rfl ⟨fz, σ, _, _, sub_refl, .rfl, x', .raw _, .cons hv' .nil, h⟩
theorem keep_K {g : Value} (ok : f.Ok C n) {fz : Fz} {s : Shared} (x : SR C f fz m σ s) (hk : keepIn C.K g = true) : Keep C s.heap g := by
  obtain ⟨mc, news, δ, F, N, R, e⟩ := x
  exact keeps_K hk _ (ok.kin.keeps F.keep)
theorem tc_fn {g : Addr} {as : List AVal} {Q : AVal → AHeap → Prop} (hk : keepIn C.K (.ref g) = true) (h : Fn C n g as σ Q) : TC C n f (.raw (.ref g)) as m σ Q := fun ok fz s E v vs x hv hvs => by
  cases hv
  refine ⟨keep_K ok x hk, wpAny_call (codeAny_mono (h f m f.A ok .refl fz s vs x hvs) fun r s' ⟨v, e, p⟩ => ?_)⟩
  subst e; exact p

/-! ## a def of the text, without cells -/
def retOf : AFlow → AVal
  | .ret a => a
  | _ => .none
theorem lookup_nd {β : Type} : ∀ {l : List (Str × β)}, (l.map (·.1)).Nodup → ∀ {y : Str} {v : β}, (y, v) ∈ l → l.lookup y = some v
  | [], _, _, _, h => nomatch h
  | (z, u) :: l, nd, y, v, h => by
    rw [List.map_cons, List.nodup_cons] at nd
    rcases List.mem_cons.mp h with e | h
    · cases e; simp
    · have : y ≠ z := fun e => nd.1 (List.mem_map.mpr ⟨_, h, e⟩)
      rw [List.lookup_cons]
      have hb : (y == z) = false := by simpa using this
      rw [hb]
      exact lookup_nd nd.2 h
theorem lookup_zip {P : Addr → Obj → Prop} : ∀ {ns : List Str} {vs : List Value} {as : List AVal}, Vs P vs as → ns.Nodup → ∀ {y : Str} {a : AVal}, getA y (ns.zip as) = some a → ∃ v, (ns.zip vs).reverse.lookup y = some v ∧ V P v a := by
  intro ns vs as h
  have key : ∀ {ns : List Str} {vs : List Value} {as : List AVal}, Vs P vs as → ns.Nodup → ∀ {y : Str} {a : AVal}, getA y (ns.zip as) = some a → ∃ v, (y, v) ∈ ns.zip vs ∧ V P v a := by
    intro ns
    induction ns with
    | nil => intro vs as _ _ y a e; cases as <;> cases e
    | cons z ns ih =>
      intro vs as h hd y a e
      cases h with
      | nil => cases e
      | cons hv h =>
        rw [List.zip_cons_cons] at e
        unfold getA at e
        by_cases q : (z == y) = true
        · rw [if_pos q] at e; cases e
          have : z = y := by simpa using q
          subst this
          exact ⟨_, List.mem_cons_self .., hv⟩
        · rw [if_neg q] at e
          obtain ⟨v, h1, h2⟩ := ih h (List.nodup_cons.mp hd).2 e
          exact ⟨v, List.mem_cons_of_mem _ h1, h2⟩
  intro hd y a e
  obtain ⟨v, h1, h2⟩ := key h hd e
  refine ⟨v, ?_, h2⟩
  have nd : ((ns.zip vs).reverse.map (·.1)).Nodup := by
    rw [List.map_reverse]
    refine List.pairwise_reverse.mpr (List.Pairwise.imp (fun h => Ne.symm h) ?_)
    have : (ns.zip vs).map (·.1) = ns.take vs.length := by
      clear h hd e h1 h2 key
      induction ns generalizing vs with
      | nil => simp
      | cons z ns ih => cases vs with
        | nil => simp
        | cons v vs => simp [ih]
    rw [this]
    exact List.Nodup.sublist (List.take_sublist ..) hd
  exact lookup_nd nd (List.mem_reverse.mpr h1)

theorem fn_plain {fa : Addr} {name qual : Str} {params : Arguments} {body : List Stmt} {scope : Scope} {dV kV doc pm cdv ct oc : Value} {an od : Option Addr} {osl : Array (Option Value)} {as da : List AVal} {ns : List Str} {dv : List Value} {Q : AVal → AHeap → Prop}
    (ho : C.K.lookup fa = some ⟨oc, od, .func (fnOf name qual params body scope dV kV doc pm an cdv ct), osl⟩) (hcd : codeIn C.K cdv qual = true)
    (hbind : ∀ S vs, vs.length = as.length → peek C.K S (bindArgs (fnOf name qual params body scope dV kV doc pm an cdv ct) ⟨vs, []⟩) = some (ns.zip (vs ++ dv)))
    (hd : ∀ P, Vs P dv da) (hnd : ns.Nodup) (hloc : ∀ y ∈ ns, scope.names.lookup y = some .local)
    (h : ∀ A₀ A base h₀ outer L pin, WS C n ⟨A₀, A, base, h₀, outer, L, fa, qual, scope, cdv, [], pin, none⟩ body (ns.zip (as ++ da)) σ fun fl _ σ' => ∃ σ₂ : AHeap, σ₂.le σ' ∧ Q (retOf fl) σ₂)
    (hco : scope.isCoroutine = false := by rfl) (hgen : scope.isGenerator = false := by rfl) (hk : scope.kind = .function := by rfl) (hcell : ∀ x ∈ scope.names, x.2 ≠ .cell := by decide) :
    Fn C (n + 1) fa as σ Q := fun f m A ok hn fz s vs x hvs => by
  obtain ⟨mc, news, δ, F, N, R, e⟩ := x
  have X := ok.kin.keeps F.keep
  have e2 := ok.depth
  have e3 := ok.units
  obtain ⟨n1, n2, n3, n4, n5⟩ := hn
  have hlen := hvs.length
  refine code_def (env := f.fenv) (binds := ns.zip (vs ++ dv)) ok.below F ok.kin N ok.top (n1.trans ok.stack) rfl ok.kind ho hcd (by omega) (kp_binds X fun S => hbind S vs hlen) (fun y hy => hloc _ (List.of_mem_zip hy).1) (fun g L' h₁ FG F' N' B' KG TG => ?_) hco hgen hk hcell
  let f' : Fm := ⟨A, A.deeper (envOf qual scope L' fa cdv), f.base, g, f.fenv :: f.outer, L', fa, qual, scope, cdv, [], f.pin, none⟩
  have hkH : ∀ b o, C.H.get? b = some o → g.get? b = some o := fun b o hb => FG.keep b o (ok.hk b o hb)
  have ok' : f'.Ok C n := ⟨B', KG, TG, hkH, Around.frames_deeper B'.stack, n2.trans ok.handled, n3.trans ok.guards, by show A.depth + 1 + 3 * n < _; omega, by show A.units + 3 + 10 * n + 100 < _; omega, hk, hk⟩
  have hz := hvs.append (hd (At C fz))
  have x' : SR C f' fz (ns.zip (as ++ da)) σ { s with heap := h₁, toks := s.toks + (ns.zip (vs ++ dv)).length } :=
    ⟨_, news, δ, F', N', R, fun y a hy => lookup_zip hz hnd hy⟩
  refine wpAny_mono (h A _ f.base g (f.fenv :: f.outer) L' f.pin ok' fz _ _ x') (fun fl s' ⟨fz', σ', m', a, u, es, x2, va, σ₂, hle, q⟩ => ?_) fun _ _ z => z
  obtain ⟨mc', news', δ', F2, N2, R2, e2⟩ := x2.weaken (fun _ _ h => h) hle
  refine leaveK_ F2 N2 fun FK NK => ⟨_, rfl, fz', σ₂, retOf a, u, ?_, ⟨mc, news', δ', FK, NK, R2, fun y b hy => ?_⟩, ?_, q⟩
  · obtain ⟨hh, tt, ee⟩ := es; exact ⟨hh, tt, ee⟩
  · obtain ⟨v, h1, h2⟩ := e y b hy; exact ⟨v, h1, h2.up u⟩
  · cases fl <;> cases a <;> first | exact va.elim | exact .none | exact va
end
end Mine

open PySem PySem.W PyProof.Rows PySem.Calls
namespace Mine
/-! ## storing -/
def PU (C : Cx) (f : Fm) (fz : Fz) (s : Shared) (Q : AEnv → AHeap → Prop) (s' : Shared) : Prop := ∃ fz' σ' m', (∀ p ∈ fz, p ∈ fz') ∧ Same s s' ∧ SR C f fz' m' σ' s' ∧ Q m' σ'
def TA (C : Cx) (n : Nat) (f : Fm) (t : Expr) (a : AVal) (m : AEnv) (σ : AHeap) (Q : AEnv → AHeap → Prop) : Prop :=
  f.Ok C n → ∀ fz s E v, SR C f fz m σ s → V (At C fz) v a → wpAny (Md C) f.A (assign t f.env v) (fun _ => PU C f fz s Q) E s
def TAs (C : Cx) (n : Nat) (f : Fm) (ts : List Expr) (as : List AVal) (m : AEnv) (σ : AHeap) (Q : AEnv → AHeap → Prop) : Prop :=
  f.Ok C n → ∀ fz s E vs, SR C f fz m σ s → Vs (At C fz) vs as → wpAny (Md C) f.A (assignInOrder ((assignEach ts f.env).map (·.2)) vs) (fun _ => PU C f fz s Q) E s
def TSs (C : Cx) (n : Nat) (f : Fm) (ys : List Str) (as : List AVal) (m : AEnv) (σ : AHeap) (Q : AEnv → AHeap → Prop) : Prop :=
  f.Ok C n → ∀ fz s E vs, SR C f fz m σ s → Vs (At C fz) vs as → wpAny (Md C) f.A (assignInOrder (ys.map fun y => bindName f.env y) vs) (fun _ => PU C f fz s Q) E s
section
variable {C : Cx} {n : Nat} {f : Fm} {m : AEnv} {σ : AHeap}
theorem PU.up {s s₁ s' : Shared} {fz fz₁ : Fz} {Q : AEnv → AHeap → Prop} (h : ∀ p ∈ fz, p ∈ fz₁) (hs : Same s s₁) (x : PU C f fz₁ s₁ Q s') : PU C f fz s Q s' := by
  obtain ⟨fz', σ', m', h1, h2, h3, h4⟩ := x
  exact ⟨fz', σ', m', fun p hp => h1 p (h p hp), hs.trans h2, h3, h4⟩
theorem ta_name {y : Str} {pos : Pos} {a : AVal} {Q : AEnv → AHeap → Prop} (h : TS C n f y a m σ Q) : TA C n f (.Name y pos) a m σ Q := fun ok fz s E v x hv => assign_Name (h ok fz s E v x hv)
theorem tas_nil {Q : AEnv → AHeap → Prop} (h : Q m σ) : TAs C n f [] [] m σ Q := fun ok fz s E vs x hv => by cases hv; exact wpAny_assignInOrder_none ⟨fz, σ, m, sub_refl, .rfl, x, h⟩
theorem tas_cons {t : Expr} {ts : List Expr} {a : AVal} {as : List AVal} {Q : AEnv → AHeap → Prop} (h : TA C n f t a m σ fun m' σ' => TAs C n f ts as m' σ' Q)
    (he : (assignEach (t :: ts) f.env).map (·.2) = assign t f.env :: (assignEach ts f.env).map (·.2) := by rfl) : TAs C n f (t :: ts) (a :: as) m σ Q := fun ok fz s E vs x hv => by
  cases hv with
  | cons hv hvs =>
    rw [he]
    refine wpAny_assignInOrder_more (wpAny_mono (h ok fz s E _ x hv) (fun _ s₁ ⟨fz₁, σ₁, m₁, u1, e1, x1, q1⟩ => ?_) fun _ _ x => x)
    exact wpAny_mono (q1 ok fz₁ s₁ E _ x1 (hvs.up u1)) (fun _ s₂ p => .up u1 e1 p) fun _ _ x => x
theorem tss_nil {Q : AEnv → AHeap → Prop} (h : Q m σ) : TSs C n f [] [] m σ Q := fun ok fz s E vs x hv => by cases hv; exact wpAny_assignInOrder_none ⟨fz, σ, m, sub_refl, .rfl, x, h⟩
theorem tss_cons {y : Str} {ys : List Str} {a : AVal} {as : List AVal} {Q : AEnv → AHeap → Prop} (h : TS C n f y a m σ fun m' σ' => TSs C n f ys as m' σ' Q) : TSs C n f (y :: ys) (a :: as) m σ Q := fun ok fz s E vs x hv => by
  cases hv with
  | cons hv hvs =>
    refine wpAny_assignInOrder_more (wpAny_bindName (wpAny_mono (h ok fz s E _ x hv) (fun _ s₁ ⟨fz₁, σ₁, m₁, u1, e1, x1, q1⟩ => ?_) fun _ _ x => x))
    exact wpAny_mono (q1 ok fz₁ s₁ E _ x1 (hvs.up u1)) (fun _ s₂ p => .up u1 e1 p) fun _ _ x => x
theorem ext_keeps {h h' : Heap} (e : Heap.ExtBut h.objs.size h h') : ∀ b o, h.get? b = some o → h'.get? b = some o := fun b o q => e b o (Nat.ne_of_lt (Heap.lt_size q)) q
theorem V.tuple_ {fz : Fz} {s : Shared} (ok : f.Ok C n) (x : SR C f fz m σ s) {v : Value} {xs : List AVal} (h : V (At C fz) v (.tup xs)) : ∃ t vs, v = .ref t ∧ s.heap.IsTuple t vs.toArray ∧ Vs (At C fz) vs xs := by
  cases h with
  | tup h1 h2 h3 h4 => exact ⟨_, _, rfl, ⟨_, x.at_ ok h1, h2, _, h3⟩, h4⟩
theorem V.list_ {fz : Fz} {s : Shared} (ok : f.Ok C n) (x : SR C f fz m σ s) {v : Value} {xs : List AVal} (h : V (At C fz) v (.lst xs)) : ∃ t vs, v = .ref t ∧ s.heap.IsList t vs.toArray ∧ Vs (At C fz) vs xs := by
  cases h with
  | lst h1 h2 h3 h4 => exact ⟨_, _, rfl, ⟨_, x.at_ ok h1, h2, _, h3⟩, h4⟩
theorem ta_tup {ts : List Expr} {k : Nat} {pos : Pos} {as : List AVal} {Q : AEnv → AHeap → Prop} (h : TAs C n f ts as m σ Q) (hn : (assignEach ts f.env).length = as.length := by rfl) (hstar : (assignEach ts f.env).findIdx? (·.1) = none := by rfl) :
    TA C n f (.Tuple ts k pos) (.tup as) m σ Q := fun ok fz s E v x hv => by
  obtain ⟨t, vs, rfl, ht, hvs⟩ := hv.tuple_ ok x
  refine wpAny_assign_Tuple ok.handled ht (by rw [hn, List.size_toArray, hvs.length]) hstar fun h' he => ?_
  exact wpAny_mono (h ok fz { s with heap := h' } E vs (x.grow (t := s.toks) (ext_keeps he)) hvs) (fun _ s₂ p => .up sub_refl ⟨h', s.toks, rfl⟩ p) fun _ _ x => x
theorem ta_lst {ts : List Expr} {k : Nat} {pos : Pos} {as : List AVal} {Q : AEnv → AHeap → Prop} (h : TAs C n f ts as m σ Q) (hn : (assignEach ts f.env).length = as.length := by rfl) (hstar : (assignEach ts f.env).findIdx? (·.1) = none := by rfl) :
    TA C n f (.Tuple ts k pos) (.lst as) m σ Q := fun ok fz s E v x hv => by
  obtain ⟨t, vs, rfl, ht, hvs⟩ := hv.list_ ok x
  rw [assign_Tuple]
  refine wpAny_bind (wpAny_standAt ?_)
  unfold unpack
  have hlen : (assignEach ts f.env).length = vs.toArray.size := by rw [hn, List.size_toArray, hvs.length]
  rw [hlen, hstar]
  refine wpAny_bind (wpAny_holding (kun_itemsOf ok.handled ht fun h' he => ?_))
  exact wpAny_mono (h ok fz { s with heap := h' } E vs (x.grow (t := s.toks) (ext_keeps he)) hvs) (fun _ s₂ p => .up sub_refl ⟨h', s.toks, rfl⟩ p) fun _ _ x => x
theorem w1_assignT {ts : List Expr} {k : Nat} {tp : Pos} {e : Expr} {pos : Pos} {Q : AFlow → AEnv → AHeap → Prop} (h : WE C n f e m σ fun a σ₁ => TA C n f (.Tuple ts k tp) a m σ₁ fun m' σ' => Q .next m' σ')
    (hs : swapsWithSole [.Tuple ts k tp] e pos.line f.env = pure false := by rfl) (hw : swappedStores [.Tuple ts k tp] e f.env = pure none := by rfl) : W1 C n f (.Assign [.Tuple ts k tp] e pos) m σ Q := fun ok fz s E x => by
  refine Assign_Tuple (wpAny_mono (h ok fz s E x) (fun v s₁ ⟨fz₁, σ₁, a, u1, e1, x1, va, q1⟩ => ?_) fun _ _ x => x) hs hw
  exact wpAny_mono (q1 ok fz₁ s₁ E v x1 va) (fun _ s₂ ⟨fz₂, σ₂, m₂, u2, e2, x2, q2⟩ => ⟨fz₂, σ₂, m₂, .next, fun p hp => u2 p (u1 p hp), e1.trans e2, x2, trivial, q2⟩) fun _ _ x => x
theorem w1_assignS {ts : List Expr} {k : Nat} {tp : Pos} {e : Expr} {pos : Pos} {names : List Str} {Q : AFlow → AEnv → AHeap → Prop} (h : WE C n f e m σ fun a σ₁ => ∃ as, a = .tup as ∧ as.length = names.length ∧ TSs C n f names.reverse as.reverse m σ₁ fun m' σ' => Q .next m' σ')
    (hw : swappedStores [.Tuple ts k tp] e f.env = pure (some names)) (hs : swapsWithSole [.Tuple ts k tp] e pos.line f.env = pure false := by rfl) : W1 C n f (.Assign [.Tuple ts k tp] e pos) m σ Q := fun ok fz s E x => by
  refine Assign_Tuple_swapped (wpAny_mono (h ok fz s E x) (fun v s₁ ⟨fz₁, σ₁, a, u1, e1, x1, va, as, ea, hl, q1⟩ => ?_) fun _ _ x => x) hs hw
  subst ea
  obtain ⟨t, vs, rfl, ht, hvs⟩ := va.tuple_ ok x1
  have hlen : names.length = vs.toArray.size := by rw [List.size_toArray, hvs.length, hl]
  rw [hlen]
  refine wpAny_unpackItems_tuple ok.handled ht fun h' he => ?_
  exact wpAny_mono (q1 ok fz₁ { s₁ with heap := h' } E vs.reverse (x1.grow (t := s₁.toks) (ext_keeps he)) hvs.reverse) (fun _ s₂ ⟨fz₂, σ₂, m₂, u2, e2, x2, q2⟩ => ⟨fz₂, σ₂, m₂, .next, fun p hp => u2 p (u1 p hp), (e1.trans ⟨h', s₁.toks, rfl⟩).trans e2, x2, trivial, q2⟩) fun _ _ x => x

/-! ## loops -/
/-- the state, with some addresses kept apart -/
def SX (C : Cx) (f : Fm) (fz : Fz) (m : AEnv) (σ : AHeap) (wr : List Addr) (s : Shared) : Prop :=
  ∃ mc news δ, Fr f.h₀ f.L s.heap mc ∧ News f.h₀ f.L s.heap news ∧ HR C fz f.pin σ δ news ∧ ER (At C fz) m mc ∧ (∀ p ∈ news, p.1 ∉ wr) ∧ f.L ∉ wr ∧ ∀ b ∈ wr, f.h₀.get? b = none
theorem SX.sr {fz : Fz} {wr : List Addr} {s : Shared} (x : SX C f fz m σ wr s) : SR C f fz m σ s := by
  obtain ⟨mc, news, δ, F, N, R, e, _⟩ := x; exact ⟨mc, news, δ, F, N, R, e⟩
theorem SX.step {fz : Fz} {wr : List Addr} {s : Shared} {h' : Heap} {t : Nat} (x : SX C f fz m σ wr s) (k : ∀ b o, b ∉ wr → s.heap.get? b = some o → h'.get? b = some o) : SX C f fz m σ wr { s with heap := h', toks := t } := by
  obtain ⟨mc, news, δ, F, N, R, e, h1, h2, h3⟩ := x
  refine ⟨mc, news, δ, ⟨F.ns.at' fun o q => k _ o h2 q, fun b o q => k b o (fun hb => by rw [h3 b hb] at q; cases q) (F.keep b o q), F.above⟩, fun p hp => ⟨k _ _ (h1 p hp) (N p hp).1, (N p hp).2⟩, R, e, h1, h2, h3⟩
def ownP (wr : List Addr) (h : Heap) : Fz := wr.filterMap fun b => (h.get? b).map fun o => (b, o)
theorem mem_ownP {wr : List Addr} {h : Heap} {p : Addr × Obj} : p ∈ ownP wr h ↔ p.1 ∈ wr ∧ h.get? p.1 = some p.2 := by
  unfold ownP
  rw [List.mem_filterMap]
  constructor
  · rintro ⟨b, hb, e⟩
    obtain ⟨o, ho, rfl⟩ := Option.map_eq_some_iff.mp e
    exact ⟨hb, ho⟩
  · rintro ⟨h1, h2⟩
    exact ⟨p.1, h1, by rw [h2]; rfl⟩
theorem SX.pin {fz : Fz} {wr : List Addr} {s : Shared} (x : SX C f fz m σ wr s) : SR C (f.withPin (ownP wr s.heap ++ f.pin)) fz m σ s := by
  obtain ⟨mc, news, δ, F, N, R, e, h1, h2, h3⟩ := x
  have off : ∀ {p : Addr × Obj}, p ∈ ownP wr s.heap → p.1 ∈ wr := fun hp => (mem_ownP.mp hp).1
  have three : ∀ p ∈ fz ++ (ownP wr s.heap ++ f.pin), p ∈ ownP wr s.heap ∨ p ∈ fz ++ f.pin := fun p hp => by
    rcases List.mem_append.mp hp with hp | hp
    · exact .inr (List.mem_append_left _ hp)
    · rcases List.mem_append.mp hp with hp | hp
      · exact .inl hp
      · exact .inr (List.mem_append_right _ hp)
  refine ⟨mc, ownP wr s.heap ++ news, δ, F, fun p hp => ?_, ⟨fun p hp => ?_, fun p hp q hq => ?_, fun a ao h => (R.ob a ao h).mono (fun _ _ z => z) (fun _ q => List.mem_append_right _ q) fun _ _ _ _ q => List.mem_append_right _ q, fun a ao h p hp => ?_, fun a c as h p hp => ?_, R.dσ, R.dinj⟩, e⟩
  · rcases List.mem_append.mp hp with hp | hp
    · obtain ⟨a, b⟩ := mem_ownP.mp hp
      exact ⟨b, fun q => h2 (q ▸ a), h3 _ a⟩
    · exact N p hp
  · rcases three p hp with hp | hp
    · exact List.mem_append_left _ hp
    · exact List.mem_append_right _ (R.sub p hp)
  · rcases List.mem_append.mp hq with hq | hq
    · exact fun q' => h1 p (R.sub p (List.mem_append_left _ hp)) (q' ▸ off hq)
    · exact R.apart p hp q hq
  · rcases three p hp with hp | hp
    · obtain ⟨o, ho⟩ := (R.ob a ao h).key
      exact fun q => h1 _ ho (by show a ∈ wr; rw [← q]; exact off hp)
    · exact R.off a ao h p hp
  · rcases three p hp with hp | hp
    · obtain ⟨_, es, k, ho, _⟩ := R.ob a _ h
      exact fun q => h1 _ ho (by show δ a ∈ wr; rw [← q]; exact off hp)
    · exact R.doff a c as h p hp
theorem SX.unpin {fz : Fz} {wr : List Addr} {s : Shared} {own : Fz} (hl : ∀ b ∈ wr, ∃ o, (b, o) ∈ own) (hp : ∀ p ∈ f.pin, p.1 ∉ wr) (h2 : f.L ∉ wr) (h3 : ∀ b ∈ wr, f.h₀.get? b = none) (x : SR C (f.withPin (own ++ f.pin)) fz m σ s) : SX C f fz m σ wr s := by
  obtain ⟨mc, news, δ, F, N, R, e⟩ := x
  have inpin : ∀ {b o}, (b, o) ∈ own → (b, o) ∈ fz ++ (own ++ f.pin) := fun h => List.mem_append_right _ (List.mem_append_left _ h)
  have keepM : ∀ {p : Addr × Obj}, p ∈ news → p.1 ∉ wr → p ∈ news.filter (fun p => decide (p.1 ∉ wr)) := fun h q => List.mem_filter.mpr ⟨h, by simpa using q⟩
  have anw : ∀ a ao, σ a = some ao → a ∉ wr := fun a ao h q => by obtain ⟨o, ho⟩ := hl a q; exact R.off a ao h _ (inpin ho) rfl
  have dnw : ∀ a c as, σ a = some (.inst c as) → δ a ∉ wr := fun a c as h q => by obtain ⟨o, ho⟩ := hl _ q; exact R.doff a c as h _ (inpin ho) rfl
  have up : ∀ p ∈ fz ++ f.pin, p ∈ fz ++ (own ++ f.pin) := fun p hp => (List.mem_append.mp hp).elim (fun h => List.mem_append_left _ h) fun h => List.mem_append_right _ (List.mem_append_right _ h)
  refine ⟨mc, news.filter (fun p => decide (p.1 ∉ wr)), δ, F, fun p hp => N p (List.mem_filter.mp hp).1, ⟨fun p hp' => keepM (R.sub p (up p hp')) ?_, fun p hp q hq => R.apart p hp q (List.mem_append_right _ hq), fun a ao h => (R.ob a ao h).mono (fun _ _ z => z) (fun _ q => keepM q (anw a ao h)) fun c as ea _ q => keepM q (dnw a c as (ea ▸ h)), fun a ao h p hp => R.off a ao h p (up p hp), fun a c as h p hp => R.doff a c as h p (up p hp), R.dσ, R.dinj⟩, e, fun p hp => by simpa using (List.mem_filter.mp hp).2, h2, h3⟩
  rcases List.mem_append.mp hp' with h | h
  · intro q
    obtain ⟨o, ho⟩ := hl _ q
    exact R.apart p h _ (List.mem_append_left _ ho) rfl
  · exact hp p h
theorem Fm.Ok.pin {n : Nat} {p : Fz} (ok : f.Ok C n) : (f.withPin p).Ok C n := ⟨ok.below, ok.kin, ok.top, ok.hk, ok.stack, ok.handled, ok.guards, ok.depth, ok.units, ok.kind, ok.ckind⟩

/-- what a value yields when it is walked -/
structure Wk (C : Cx) (f : Fm) (fz : Fz) (I : Addr) (wr : List Addr) (xs : List AVal) (St : Nat → Heap → Prop) (Lent : Heap → Prop) (back : AHeap → AHeap) : Prop where
  go : ∀ i (s : Shared) (Q : Option Value → Shared → Prop) (E : Value → Shared → Prop) x, xs[i]? = some x → St i s.heap →
    (∀ v h' tk, V (At C fz) v x → St (i + 1) h' → (∀ b o, b ∉ wr → s.heap.get? b = some o → h'.get? b = some o) → Q (some v) { s with heap := h', toks := tk }) → wpAny (Md C) f.A (pyNext (.ref I)) Q E s
  done : ∀ (s : Shared) (Q : Option Value → Shared → Prop) (E : Value → Shared → Prop), St xs.length s.heap →
    (∀ h' tk, (∀ b o, b ∉ wr → s.heap.get? b = some o → h'.get? b = some o) → Lent h' → Q none { s with heap := h', toks := tk }) → wpAny (Md C) f.A (pyNext (.ref I)) Q E s
  live : ∀ i h, St i h → ∀ b ∈ wr, ∃ o, h.get? b = some o
  frame : ∀ i h h', St i h → (∀ b ∈ wr, ∀ o, h.get? b = some o → h'.get? b = some o) → (∀ b o, At C fz b o ∨ (b, o) ∈ f.pin → h'.get? b = some o) → St i h'
  lent : ∀ i h, St i h → Lent h
  back : ∀ fz' m' σ' s', (∀ p ∈ fz, p ∈ fz') → SX C f fz' m' σ' wr s' → Lent s'.heap → SR C f fz' m' (back σ') s'
  self : ∀ i (s : Shared) (Q : Value → Shared → Prop) (E : Value → Shared → Prop), St i s.heap → Q (.ref I) s → wpAny (Md C) f.A (pyIter (.ref I)) Q E s
  lentF : ∀ (h h' : Heap), Lent h → (∀ b ∈ wr, ∀ o, h.get? b = some o → h'.get? b = some o) → Lent h'
structure WkT (C : Cx) (f : Fm) (fz : Fz) (I : Addr) (wr : List Addr) (xs : List (List AVal)) (St : Nat → Heap → Prop) (Lent : Heap → Prop) (back : AHeap → AHeap) : Prop where
  go : ∀ i (s : Shared) (Q : Option Value → Shared → Prop) (E : Value → Shared → Prop) x, xs[i]? = some x → St i s.heap →
    (∀ T vs h' tk, Vs (At C fz) vs x → h'.IsTuple T vs.toArray → T ∉ wr → (∀ b o, b ∉ wr → s.heap.get? b = some o → h'.get? b = some o) →
      (∀ ts k pos (s₂ : Shared) (Q₂ : Unit → Shared → Prop) (E₂ : Value → Shared → Prop), s₂.heap = h' → (∀ h₂, St (i + 1) h₂ → (∀ b o, b ∉ wr → h'.get? b = some o → h₂.get? b = some o) → Q₂ () { s₂ with heap := h₂ }) → wpAny (Md C) f.A (letOwnedTupleGo (.Tuple ts k pos) (.ref I) (.ref T)) Q₂ E₂ s₂) →
      Q (some (.ref T)) { s with heap := h', toks := tk }) → wpAny (Md C) f.A (pyNext (.ref I)) Q E s
  done : ∀ (s : Shared) (Q : Option Value → Shared → Prop) (E : Value → Shared → Prop), St xs.length s.heap →
    (∀ h' tk, (∀ b o, b ∉ wr → s.heap.get? b = some o → h'.get? b = some o) → Lent h' → Q none { s with heap := h', toks := tk }) → wpAny (Md C) f.A (pyNext (.ref I)) Q E s
  live : ∀ i h, St i h → ∀ b ∈ wr, ∃ o, h.get? b = some o
  frame : ∀ i h h', St i h → (∀ b ∈ wr, ∀ o, h.get? b = some o → h'.get? b = some o) → (∀ b o, At C fz b o ∨ (b, o) ∈ f.pin → h'.get? b = some o) → St i h'
  lent : ∀ i h, St i h → Lent h
  back : ∀ fz' m' σ' s', (∀ p ∈ fz, p ∈ fz') → SX C f fz' m' σ' wr s' → Lent s'.heap → SR C f fz' m' (back σ') s'
/-- the head of a for: the value and its iterator -/
def WI (C : Cx) (n : Nat) (f : Fm) (e : Expr) (m : AEnv) (σ : AHeap) (Q : (AHeap → AHeap) → List AVal → AHeap → Prop) : Prop :=
  f.Ok C n → ∀ fz s E, SR C f fz m σ s → wpAny (Md C) f.A (eval e f.env) (fun v s₁ => wpAny (Md C) f.A (pyIter v) (fun it s' => ∃ fz' σ' I wr xs St Lent back, it = .ref I ∧ (∀ p ∈ fz, p ∈ fz') ∧ Same s s' ∧ SX C f fz' m σ' wr s' ∧ Wk C f fz' I wr xs St Lent back ∧ St 0 s'.heap ∧ Q back xs σ') E s₁) E s
def WIT (C : Cx) (n : Nat) (f : Fm) (e : Expr) (m : AEnv) (σ : AHeap) (Q : (AHeap → AHeap) → List (List AVal) → AHeap → Prop) : Prop :=
  f.Ok C n → ∀ fz s E, SR C f fz m σ s → wpAny (Md C) f.A (eval e f.env) (fun v s₁ => wpAny (Md C) f.A (pyIter v) (fun it s' => ∃ fz' σ' I wr xs St Lent back, it = .ref I ∧ (∀ p ∈ fz, p ∈ fz') ∧ Same s s' ∧ SX C f fz' m σ' wr s' ∧ WkT C f fz' I wr xs St Lent back ∧ St 0 s'.heap ∧ Q back xs σ') E s₁) E s
def TI (C : Cx) (n : Nat) (f : Fm) (a : AVal) (m : AEnv) (σ : AHeap) (Q : (AHeap → AHeap) → List AVal → AHeap → Prop) : Prop :=
  f.Ok C n → ∀ fz s E v, SR C f fz m σ s → V (At C fz) v a → wpAny (Md C) f.A (pyIter v) (fun it s' => ∃ fz' σ' I wr xs St Lent back, it = .ref I ∧ (∀ p ∈ fz, p ∈ fz') ∧ Same s s' ∧ SX C f fz' m σ' wr s' ∧ Wk C f fz' I wr xs St Lent back ∧ St 0 s'.heap ∧ Q back xs σ') E s
theorem wi {e : Expr} {Q : (AHeap → AHeap) → List AVal → AHeap → Prop} (h : WE C n f e m σ fun a σ₁ => TI C n f a m σ₁ Q) : WI C n f e m σ Q := fun ok fz s E x =>
  wpAny_mono (h ok fz s E x) (fun v s₁ ⟨fz₁, σ₁, a, u1, e1, x1, va, q1⟩ => wpAny_mono (q1 ok fz₁ s₁ E v x1 va) (fun it s₂ ⟨fz₂, σ₂, I, wr, xs, St, Lent, back, ei, u2, e2, r⟩ => ⟨fz₂, σ₂, I, wr, xs, St, Lent, back, ei, fun p hp => u2 p (u1 p hp), e1.trans e2, r⟩) fun _ _ x => x) fun _ _ x => x
/-- one turn: what must hold behind the body -/
def Turn (back : AHeap → AHeap) (Inv : AEnv → AHeap → Prop) (Q : AFlow → AEnv → AHeap → Prop) : AFlow → AEnv → AHeap → Prop
  | .next, m, σ => ∃ m' σ', (∀ y a, AEnv.get m' y = some a → AEnv.get m y = some a) ∧ AHeap.le σ' σ ∧ Inv m' σ'
  | .cont, m, σ => ∃ m' σ', (∀ y a, AEnv.get m' y = some a → AEnv.get m y = some a) ∧ AHeap.le σ' σ ∧ Inv m' σ'
  | .brk, m, σ => Q .next m (back σ)
  | .ret a, m, σ => Q (.ret a) m (back σ)
theorem w1_forB {y : Str} {py : Pos} {iter : Expr} {body : List Stmt} {pos : Pos} {Q : AFlow → AEnv → AHeap → Prop} (Inv : (AHeap → AHeap) → List AVal → AEnv → AHeap → Prop)
    (h : WI C n f iter m σ fun back xs σ₂ => Inv back xs m σ₂)
    (turn : ∀ back pin x xs m' σ', Inv back (x :: xs) m' σ' → TS C n (f.withPin pin) y x m' σ' fun m₁ σ₁ => WS C n (f.withPin pin) body m₁ σ₁ (Turn back (Inv back xs) Q))
    (done : ∀ back m' σ', Inv back [] m' σ' → Q .next m' (back σ')) (hs : ∀ x, foldedSetIterable iter f.env x = pure x := by intro _; rfl) : W1 C n f (.For (.Name y py) iter body [] pos) m σ Q := fun ok fz s E x => by
  refine wpAny_For (wpAny_mono (h ok fz s E x) (fun v s₁ q1 => wpAny_mono q1 (fun it s₂ ⟨fz₂, σ₂, I, wr, xs, St, Lent, back, ei, u2, e2, x2, W, st, q2⟩ => ?_) fun _ _ x => x) fun _ _ x => x) hs
  subst ei
  have hpin : ∀ p ∈ f.pin, p.1 ∉ wr := by
    obtain ⟨mc, news, δ, F, N, R, e, h1, h2, h3⟩ := x2
    exact fun p hp => h1 p (R.sub p (List.mem_append_right _ hp))
  have hL : f.L ∉ wr := by obtain ⟨mc, news, δ, F, N, R, e, h1, h2, h3⟩ := x2; exact h2
  have h0 : ∀ b ∈ wr, f.h₀.get? b = none := by obtain ⟨mc, news, δ, F, N, R, e, h1, h2, h3⟩ := x2; exact h3
  refine codeAny_forLoop (fun k s' => ∃ fz' m' σ' i, (∀ p ∈ fz₂, p ∈ fz') ∧ Same s₂ s' ∧ SX C f fz' m' σ' wr s' ∧ St i s'.heap ∧ Inv back (xs.drop i) m' σ' ∧ i ≤ xs.length ∧ k = xs.length - i) ?_ (xs.length) ⟨fz₂, m, σ₂, 0, sub_refl, .rfl, x2, st, q2, Nat.zero_le _, rfl⟩
  rintro k s' ⟨fz', m', σ', i, u3, e3, x3, st3, q3, hi, rfl⟩
  have uu : ∀ p ∈ fz, p ∈ fz' := fun p hp => u3 p (u2 p hp)
  cases hx : xs[i]? with
  | none =>
    have hlen : i = xs.length := by have := List.getElem?_eq_none_iff.mp hx; omega
    subst hlen
    refine W.done _ _ _ st3 fun h' tk k hl => wpAny_execs_nil ?_
    rw [List.drop_length] at q3
    exact ⟨fz', back σ', m', .next, uu, (e2.trans e3).trans ⟨_, _, rfl⟩, W.back _ _ _ _ u3 (x3.step (t := tk) k) hl, trivial, done _ _ _ q3⟩
  | some b =>
    obtain ⟨hlt, hb⟩ := List.getElem?_eq_some_iff.mp hx
    have hd : xs.drop i = b :: xs.drop (i + 1) := by rw [List.drop_eq_getElem_cons hlt, hb]
    rw [hd] at q3
    refine W.go i _ _ _ b hx st3 fun v h' tk hv st' k => ?_
    have x4 := x3.step (t := tk) k
    have x5 := x4.pin
    refine PyProof.Rows.assign_Name (wpAny_mono (turn back (ownP wr h' ++ f.pin) b _ m' σ' q3 ok.pin fz' _ _ v x5 (hv.up u3)) (fun _ s₅ ⟨fz₅, σ₅, m₅, u5, e5, x6, q5⟩ => ?_) fun _ _ x => x)
    refine wpAny_mono (q5 ok.pin fz₅ s₅ _ x6) (fun fl s₆ ⟨fz₆, σ₆, m₆, a₆, u6, e6, x7, va6, q6⟩ => ?_) fun _ _ x => x
    have es : Same s s₆ := ((((e2.trans e3).trans ⟨_, _, rfl⟩).trans e5).trans e6)
    have us : ∀ p ∈ fz, p ∈ fz₆ := fun p hp => u6 p (u5 p (uu p hp))
    have u26 : ∀ p ∈ fz₂, p ∈ fz₆ := fun p hp => u6 p (u5 p (u3 p hp))
    have un : ∀ {m' : AEnv} {σ' : AHeap}, SR C (f.withPin (ownP wr h' ++ f.pin)) fz₆ m' σ' s₆ → SX C f fz₆ m' σ' wr s₆ := fun x => SX.unpin (fun b hb => by obtain ⟨o, ho⟩ := W.live _ _ st' b hb; exact ⟨o, (mem_ownP (p := (b, o))).mpr ⟨hb, ho⟩⟩) hpin hL h0 x
    have st6 : St (i + 1) s₆.heap := by
      refine W.frame _ _ _ st' (fun b hb o ho => ?_) fun b o q => ?_
      · obtain ⟨mc, news, δ, F, N, R, e⟩ := x7
        exact (N _ (R.sub _ (List.mem_append_right _ (List.mem_append_left _ ((mem_ownP (p := (b, o))).mpr ⟨hb, ho⟩))))).1
      · rcases q with q | q
        · exact (x7.at_ ok.pin (q.mono u26))
        · obtain ⟨mc, news, δ, F, N, R, e⟩ := x7
          exact (N _ (R.sub _ (List.mem_append_right _ (List.mem_append_right _ q)))).1
    have bk := W.back _ _ _ _ u26 (un x7) (W.lent _ _ st6)
    have next : Turn back (Inv back (xs.drop (i + 1))) Q .next m₆ σ₆ → ∃ m, m < xs.length - i ∧ ∃ fz' m' σ' i, (∀ p ∈ fz₂, p ∈ fz') ∧ Same s₂ s₆ ∧ SX C f fz' m' σ' wr s₆ ∧ St i s₆.heap ∧ Inv back (xs.drop i) m' σ' ∧ i ≤ xs.length ∧ m = xs.length - i := by
      rintro ⟨m₇, σ₇, hm, hσ, q7⟩
      exact ⟨xs.length - (i + 1), by omega, fz₆, m₇, σ₇, i + 1, u26, ((e3.trans ⟨_, _, rfl⟩).trans e5).trans e6, un (x7.weaken hm hσ), st6, q7, hlt, rfl⟩
    cases fl with
    | next => cases a₆ <;> first | exact next q6 | exact va6.elim
    | cont => cases a₆ <;> first | exact next q6 | exact va6.elim
    | brk => cases a₆ <;> first | exact ⟨fz₆, back σ₆, m₆, .next, us, es, bk, trivial, q6⟩ | exact va6.elim
    | ret r => cases a₆ <;> first | exact ⟨fz₆, back σ₆, m₆, .ret _, us, es, bk, va6, q6⟩ | exact va6.elim
theorem w1_forTB {ts : List Expr} {tk : Nat} {tp : Pos} {iter : Expr} {body : List Stmt} {pos : Pos} {Q : AFlow → AEnv → AHeap → Prop} (Inv : (AHeap → AHeap) → List (List AVal) → AEnv → AHeap → Prop)
    (h : WIT C n f iter m σ fun back xs σ₂ => Inv back xs m σ₂)
    (turn : ∀ back pin x xs m' σ', Inv back (x :: xs) m' σ' → (assignEach ts f.env).length = x.length ∧ TAs C n (f.withPin pin) ts x m' σ' fun m₁ σ₁ => WS C n (f.withPin pin) body m₁ σ₁ (Turn back (Inv back xs) Q))
    (done : ∀ back m' σ', Inv back [] m' σ' → Q .next m' (back σ')) (hstar : (assignEach ts f.env).findIdx? (·.1) = none := by rfl) (hs : ∀ x, foldedSetIterable iter f.env x = pure x := by intro _; rfl) : W1 C n f (.For (.Tuple ts tk tp) iter body [] pos) m σ Q := fun ok fz s E x => by
  refine wpAny_For (wpAny_mono (h ok fz s E x) (fun v s₁ q1 => wpAny_mono q1 (fun it s₂ ⟨fz₂, σ₂, I, wr, xs, St, Lent, back, ei, u2, e2, x2, W, st, q2⟩ => ?_) fun _ _ x => x) fun _ _ x => x) hs
  subst ei
  have hpin : ∀ p ∈ f.pin, p.1 ∉ wr := by
    obtain ⟨mc, news, δ, F, N, R, e, h1, h2, h3⟩ := x2
    exact fun p hp => h1 p (R.sub p (List.mem_append_right _ hp))
  have hL : f.L ∉ wr := by obtain ⟨mc, news, δ, F, N, R, e, h1, h2, h3⟩ := x2; exact h2
  have h0 : ∀ b ∈ wr, f.h₀.get? b = none := by obtain ⟨mc, news, δ, F, N, R, e, h1, h2, h3⟩ := x2; exact h3
  refine codeAny_forLoop_any (fun k s' => ∃ fz' m' σ' i, (∀ p ∈ fz₂, p ∈ fz') ∧ Same s₂ s' ∧ SX C f fz' m' σ' wr s' ∧ St i s'.heap ∧ Inv back (xs.drop i) m' σ' ∧ i ≤ xs.length ∧ k = xs.length - i) ?_ (xs.length) ⟨fz₂, m, σ₂, 0, sub_refl, .rfl, x2, st, q2, Nat.zero_le _, rfl⟩
  rintro k s' ⟨fz', m', σ', i, u3, e3, x3, st3, q3, hi, rfl⟩
  have uu : ∀ p ∈ fz, p ∈ fz' := fun p hp => u3 p (u2 p hp)
  cases hx : xs[i]? with
  | none =>
    have hlen : i = xs.length := by have := List.getElem?_eq_none_iff.mp hx; omega
    subst hlen
    refine W.done _ _ _ st3 fun h' tk k hl => wpAny_execs_nil ?_
    rw [List.drop_length] at q3
    exact ⟨fz', back σ', m', .next, uu, (e2.trans e3).trans ⟨_, _, rfl⟩, W.back _ _ _ _ u3 (x3.step (t := tk) k) hl, trivial, done _ _ _ q3⟩
  | some b =>
    obtain ⟨hlt, hb⟩ := List.getElem?_eq_some_iff.mp hx
    have hd : xs.drop i = b :: xs.drop (i + 1) := by rw [List.drop_eq_getElem_cons hlt, hb]
    rw [hd] at q3
    refine W.go i _ _ _ b hx st3 fun T vs h₁ tk₁ hvs hT hTw k₁ hgo => ?_
    refine hgo _ _ _ _ _ _ rfl fun h' st' k₂ => ?_
    have x4 := (x3.step (t := tk₁) k₁).step (t := tk₁) k₂
    have x5 := x4.pin
    obtain ⟨hn, tn⟩ := turn back (ownP wr h' ++ f.pin) b _ m' σ' q3
    have hT' : h'.IsTuple T vs.toArray := by obtain ⟨o, ho, r⟩ := hT; exact ⟨o, k₂ _ _ hTw ho, r⟩
    refine wpAny_assign_Tuple ok.handled hT' (by rw [hn, List.size_toArray, hvs.length]) hstar fun h'' he => ?_
    have x5' := x5.grow (t := tk₁) (ext_keeps he)
    refine wpAny_mono (tn ok.pin fz' { s' with heap := h'', toks := tk₁ } _ vs x5' (hvs.up u3)) (fun _ s₅ ⟨fz₅, σ₅, m₅, u5, e5, x6, q5⟩ => ?_) fun _ _ x => x
    refine wpAny_mono (q5 ok.pin fz₅ s₅ _ x6) (fun fl s₆ ⟨fz₆, σ₆, m₆, a₆, u6, e6, x7, va6, q6⟩ => ?_) fun _ _ x => x
    have e35 : Same s₂ s₆ := ((e3.trans ⟨h'', tk₁, rfl⟩).trans e5).trans e6
    have us : ∀ p ∈ fz, p ∈ fz₆ := fun p hp => u6 p (u5 p (uu p hp))
    have u26 : ∀ p ∈ fz₂, p ∈ fz₆ := fun p hp => u6 p (u5 p (u3 p hp))
    have un : ∀ {m' : AEnv} {σ' : AHeap}, SR C (f.withPin (ownP wr h' ++ f.pin)) fz₆ m' σ' s₆ → SX C f fz₆ m' σ' wr s₆ := fun x => SX.unpin (fun b hb => by obtain ⟨o, ho⟩ := W.live _ _ st' b hb; exact ⟨o, (mem_ownP (p := (b, o))).mpr ⟨hb, ho⟩⟩) hpin hL h0 x
    have st6 : St (i + 1) s₆.heap := by
      refine W.frame _ _ _ st' (fun b hb o ho => ?_) fun b o q => ?_
      · obtain ⟨mc, news, δ, F, N, R, e⟩ := x7
        exact (N _ (R.sub _ (List.mem_append_right _ (List.mem_append_left _ ((mem_ownP (p := (b, o))).mpr ⟨hb, ho⟩))))).1
      · rcases q with q | q
        · exact (x7.at_ ok.pin (q.mono u26))
        · obtain ⟨mc, news, δ, F, N, R, e⟩ := x7
          exact (N _ (R.sub _ (List.mem_append_right _ (List.mem_append_right _ q)))).1
    have bk := W.back _ _ _ _ u26 (un x7) (W.lent _ _ st6)
    have next : Turn back (Inv back (xs.drop (i + 1))) Q .next m₆ σ₆ → ∃ m, m < xs.length - i ∧ ∃ fz' m' σ' i, (∀ p ∈ fz₂, p ∈ fz') ∧ Same s₂ s₆ ∧ SX C f fz' m' σ' wr s₆ ∧ St i s₆.heap ∧ Inv back (xs.drop i) m' σ' ∧ i ≤ xs.length ∧ m = xs.length - i := by
      rintro ⟨m₇, σ₇, hm, hσ, q7⟩
      exact ⟨xs.length - (i + 1), by omega, fz₆, m₇, σ₇, i + 1, u26, e35, un (x7.weaken hm hσ), st6, q7, hlt, rfl⟩
    cases fl with
    | next => cases a₆ <;> first | exact next q6 | exact va6.elim
    | cont => cases a₆ <;> first | exact next q6 | exact va6.elim
    | brk => cases a₆ <;> first | exact ⟨fz₆, back σ₆, m₆, .next, us, e2.trans e35, bk, trivial, q6⟩ | exact va6.elim
    | ret r => cases a₆ <;> first | exact ⟨fz₆, back σ₆, m₆, .ret _, us, e2.trans e35, bk, va6, q6⟩ | exact va6.elim
end
end Mine

open PySem PySem.W PyProof.Rows PySem.Calls
namespace Mine
section
variable {C : Cx} {n : Nat} {f : Fm} {m : AEnv} {σ : AHeap}
theorem size_none (h : Heap) : h.get? h.objs.size = none := by
  cases q : h.get? h.objs.size with
  | none => rfl
  | some o => exact absurd (Heap.lt_size q) (Nat.lt_irrefl _)
theorem ge_none {h : Heap} {a : Addr} (ha : h.objs.size ≤ a) : h.get? a = none := by
  cases q : h.get? a with
  | none => rfl
  | some o => exact absurd (Heap.lt_size q) (Nat.not_lt.mpr ha)
/-- one new frozen object -/
theorem PV.new {fz : Fz} {s : Shared} {Q : AVal → AHeap → Prop} {a : AVal} {h' : Heap} {t : Nat} {b : Addr} {o : Obj} (x : SR C f fz m σ s) (k : ∀ b o, s.heap.get? b = some o → h'.get? b = some o) (hb : s.heap.objs.size ≤ b) (ho : h'.get? b = some o)
    (hv : ∀ fz', (b, o) ∈ fz' → (∀ p ∈ fz, p ∈ fz') → V (At C fz') (.ref b) a) (q : Q a σ) : PV C f m fz s Q (.ref b) { s with heap := h', toks := t } :=
  ⟨[(b, o)] ++ fz, σ, a, fun p hp => List.mem_append_right _ hp, .mk, x.freeze (t := t) k _ (fun p hp => by rw [List.mem_singleton.mp hp]; exact ⟨ge_none hb, hb, ho⟩), hv _ (List.mem_append_left _ (List.mem_singleton.mpr rfl)) (fun p hp => List.mem_append_right _ hp), q⟩
theorem PV.push {fz : Fz} {s : Shared} {Q : AVal → AHeap → Prop} {a : AVal} {t : Nat} {o : Obj} (x : SR C f fz m σ s) (hf : o.isFreed = false) (hv : ∀ fz', (s.heap.objs.size, o) ∈ fz' → (∀ p ∈ fz, p ∈ fz') → V (At C fz') (.ref s.heap.objs.size) a) (q : Q a σ) :
    PV C f m fz s Q (.ref s.heap.objs.size) { s with heap := s.heap.push o, toks := t } := .new x (fun b o e => Heap.get?_push_of_some _ e) (Nat.le_refl _) (Heap.get?_push_size _ hf) hv q
theorem PV.grow {fz : Fz} {s : Shared} {Q : AVal → AHeap → Prop} {v : Value} {a : AVal} {h' : Heap} {t : Nat} (x : SR C f fz m σ s) (k : ∀ b o, s.heap.get? b = some o → h'.get? b = some o) (hv : V (At C fz) v a) (q : Q a σ) : PV C f m fz s Q v { s with heap := h', toks := t } :=
  ⟨fz, σ, a, sub_refl, .mk, x.grow (t := t) k, hv, q⟩

/-! ## ints -/
section
variable {Q : AVal → AHeap → Prop} {a b : Int}
theorem t2_add (h : Q (.int (a + b)) σ) : T2 C n f (binaryOp .Add) (.int a) (.int b) m σ Q := fun ok fz s E v w x hv hw => by cases hv; cases hw; exact add_int (.tok x (.int _ _) h)
theorem t2_sub (h : Q (.int (a - b)) σ) : T2 C n f (binaryOp .Sub) (.int a) (.int b) m σ Q := fun ok fz s E v w x hv hw => by cases hv; cases hw; exact sub_int (.tok x (.int _ _) h)
theorem t2_mul (hm : IntMulOk a b) (h : Q (.int (a * b)) σ) : T2 C n f (binaryOp .Mult) (.int a) (.int b) m σ Q := fun ok fz s E v w x hv hw => by cases hv; cases hw; exact PyProof.Rows.mul_int (.tok x (.int _ _) h) hm
theorem t2_div (hb : b ≠ 0) (hs : b.natAbs < 1073741824) (h : Q (.int (a.fdiv b)) σ) : T2 C n f (binaryOp .FloorDiv) (.int a) (.int b) m σ Q := fun ok fz s E v w x hv hw => by cases hv; cases hw; exact floordiv_int hb (.tok x (.int _ _) h) (.inl (PyProof.noPylong_small hs))
theorem t2_mod (hb : b ≠ 0) (hs : b.natAbs < 1073741824) (h : Q (.int (a.fmod b)) σ) : T2 C n f (binaryOp .Mod) (.int a) (.int b) m σ Q := fun ok fz s E v w x hv hw => by cases hv; cases hw; exact mod_int' hb (.tok x (.int _ _) h)
theorem t2_and (h : Q (.int (Builtin.bitAnd a b)) σ) : T2 C n f (binaryOp .BitAnd) (.int a) (.int b) m σ Q := fun ok fz s E v w x hv hw => by cases hv; cases hw; exact and_int (.tok x (.int _ _) h)
theorem t2_or (h : Q (.int (Builtin.bitOr a b)) σ) : T2 C n f (binaryOp .BitOr) (.int a) (.int b) m σ Q := fun ok fz s E v w x hv hw => by cases hv; cases hw; exact or_int (.tok x (.int _ _) h)
theorem t2_xor (h : Q (.int (Builtin.bitXor a b)) σ) : T2 C n f (binaryOp .BitXor) (.int a) (.int b) m σ Q := fun ok fz s E v w x hv hw => by cases hv; cases hw; exact xor_int (.tok x (.int _ _) h)
theorem t2_pow (hn : 0 ≤ b) (hb : b ≤ 1000000) (ha : a.natAbs < 2 ^ 64) (h : Q (.int (a ^ b.toNat)) σ) : T2 C n f (binaryOp .Pow) (.int a) (.int b) m σ Q := fun ok fz s E v w x hv hw => by cases hv; cases hw; exact pow_int_small hn hb ha (.tok x (.int _ _) h)
theorem t2_shl (hn : 0 ≤ b) (hb : b ≤ 1000000) (ha : a.natAbs < 2 ^ 64) (h : Q (.int (a * 2 ^ b.toNat)) σ) : T2 C n f (binaryOp .LShift) (.int a) (.int b) m σ Q := fun ok fz s E v w x hv hw => by cases hv; cases hw; exact lshift_int_small hn hb ha (.tok x (.int _ _) h)
theorem t2_shr (hn : 0 ≤ b) (h : Q (.int (a.fdiv (2 ^ b.toNat))) σ) : T2 C n f (binaryOp .RShift) (.int a) (.int b) m σ Q := fun ok fz s E v w x hv hw => by cases hv; cases hw; exact rshift_int hn (.tok x (.int _ _) h)
theorem t1_neg (h : Q (.int (-a)) σ) : T1 C n f (unaryOp .USub) (.int a) m σ Q := fun ok fz s E v x hv => by cases hv; exact PyProof.Rows.neg_int (.tok x (.int _ _) h)
theorem t2_eq (h : Q (.bool (a == b)) σ) : T2 C n f (compareOp .Eq) (.int a) (.int b) m σ Q := fun ok fz s E v w x hv hw => by cases hv; cases hw; exact PyProof.Rows.eq_int (.here x (.bool _) h)
theorem t2_ne (h : Q (.bool (a != b)) σ) : T2 C n f (compareOp .NotEq) (.int a) (.int b) m σ Q := fun ok fz s E v w x hv hw => by cases hv; cases hw; exact PyProof.Rows.ne_int (.here x (.bool _) h)
theorem t2_lt (h : Q (.bool (decide (a < b))) σ) : T2 C n f (compareOp .Lt) (.int a) (.int b) m σ Q := fun ok fz s E v w x hv hw => by cases hv; cases hw; exact PyProof.Rows.lt_int (.here x (.bool _) h)
theorem t2_gt (h : Q (.bool (decide (b < a))) σ) : T2 C n f (compareOp .Gt) (.int a) (.int b) m σ Q := fun ok fz s E v w x hv hw => by cases hv; cases hw; exact PyProof.Rows.gt_int (.here x (.bool _) h)
end

/-! ## None -/
def isNone : AVal → Option Bool
  | .none => some true
  | .raw _ => Option.none
  | _ => some false
theorem isNone_ok {P : Addr → Obj → Prop} {v : Value} {a : AVal} {b : Bool} (h : V P v a) (e : isNone a = some b) : (v == Value.none) = b := by
  cases h <;> simp [isNone] at e <;> subst e <;> rfl
theorem t2_isNone {a : AVal} {b : Bool} {Q : AVal → AHeap → Prop} (e : isNone a = some b) (h : Q (.bool b) σ) : T2 C n f (compareOp .Is) a .none m σ Q := fun ok fz s E v w x hv hw => by
  have := isNone_ok hv e
  cases hw; exact is_none (by rw [this]; exact .here x (.bool _) h)
theorem t2_isNotNone {a : AVal} {b : Bool} {Q : AVal → AHeap → Prop} (e : isNone a = some b) (h : Q (.bool (!b)) σ) : T2 C n f (compareOp .IsNot) a .none m σ Q := fun ok fz s E v w x hv hw => by
  have := isNone_ok hv e
  cases hw; exact isNot_none (by rw [this]; exact .here x (.bool _) h)

/-! ## builtins called -/
theorem keep_builtin {h : Heap} {i : String} : Keep C h (.builtin i) := ⟨.machine, .inr (.inl rfl), Looks.of_pure rfl⟩
theorem keep_type {h : Heap} {i : String} : Keep C h (.type i) := ⟨.machine, .inr (.inl rfl), Looks.of_pure rfl⟩
theorem tc_range1 {a : Int} {Q : AVal → AHeap → Prop} (h : Q (.rng 0 a 1) σ) : TC C n f (.raw (.type "range")) [.int a] m σ Q := fun ok fz s E v vs x hv hvs => by
  cases hv; obtain _ | ⟨h1, h2⟩ := hvs; cases h2; cases h1
  exact ⟨keep_type, call_range_1 (.push x rfl (fun fz' h _ => .rng (.inl h)) h)⟩
theorem tc_range2 {a b : Int} {Q : AVal → AHeap → Prop} (h : Q (.rng a b 1) σ) : TC C n f (.raw (.type "range")) [.int a, .int b] m σ Q := fun ok fz s E v vs x hv hvs => by
  cases hv; obtain _ | ⟨h1, h2⟩ := hvs; obtain _ | ⟨h2, h3⟩ := h2; cases h3; cases h1; cases h2
  exact ⟨keep_type, call_range_2 (.push x rfl (fun fz' h _ => .rng (.inl h)) h)⟩
theorem tc_range3 {a b c : Int} {Q : AVal → AHeap → Prop} (hc : c ≠ 0) (hs : c.natAbs < 1073741824) (h : Q (.rng a b c) σ) : TC C n f (.raw (.type "range")) [.int a, .int b, .int c] m σ Q := fun ok fz s E v vs x hv hvs => by
  cases hv; obtain _ | ⟨h1, h2⟩ := hvs; obtain _ | ⟨h2, h3⟩ := h2; obtain _ | ⟨h3, h4⟩ := h3; cases h4; cases h1; cases h2; cases h3
  exact ⟨keep_type, call_range_3 hc (.push x rfl (fun fz' h _ => .rng (.inl h)) h) (.inl (PyProof.noPylong_small hs))⟩

/-! ## iterators -/
theorem SX.ofPush {fz : Fz} {s : Shared} {o : Obj} {t : Nat} (x : SR C f fz m σ s) : SX C f fz m σ [s.heap.objs.size] { s with heap := s.heap.push o, toks := t } := by
  obtain ⟨mc, news, δ, F, N, R, e⟩ := x
  obtain ⟨oL, a1, a2, hL, a3⟩ := id F.ns
  refine ⟨mc, news, δ, F.push o, fun p hp => ⟨Heap.get?_push_of_some _ (N p hp).1, (N p hp).2⟩, R, e, fun p hp hm => ?_, fun hm => ?_, fun b hb => ?_⟩
  · exact absurd (news_lt N hp) (by rw [List.mem_singleton.mp hm]; exact Nat.lt_irrefl _)
  · exact absurd (Heap.lt_size hL) (by rw [List.mem_singleton.mp hm]; exact Nat.lt_irrefl _)
  · rw [List.mem_singleton.mp hb]
    cases q : f.h₀.get? s.heap.objs.size with
    | none => rfl
    | some o => exact absurd (Heap.lt_size (F.keep _ _ q)) (Nat.lt_irrefl _)
theorem ti_lst {xs : List AVal} {Q : (AHeap → AHeap) → List AVal → AHeap → Prop} (h : Q id xs σ) : TI C n f (.lst xs) m σ Q := fun ok fz s E v x hv => by
  cases hv with
  | lst p1 p2 p3 p4 =>
    rename_i l o k vs
    have ho := x.at_ ok p1
    have hl : s.heap.IsList l vs.toArray := ⟨_, ho, p2, _, p3⟩
    have hne : l ≠ s.heap.objs.size := Nat.ne_of_lt (Heap.lt_size ho)
    refine wpAny_pyIter_list hl ?_
    have W := Walks.list (prog := C.prog) (w := C.w) ok.handled s.heap.objs.size l hne vs.toArray
    refine ⟨fz, σ, s.heap.objs.size, [s.heap.objs.size], xs, fun i h => h.IsListIter s.heap.objs.size l i ∧ h.IsList l vs.toArray, fun _ => True, id, rfl, sub_refl, ⟨_, s.toks, rfl⟩, SX.ofPush (t := s.toks) x, ⟨?_, ?_, ?_, ?_, fun _ _ _ => trivial, fun _ _ _ _ _ x _ => x.sr, fun i s Q E h q => W.self i s Q E h q, fun _ _ _ _ => trivial⟩, ⟨⟨_, Heap.get?_push_size _ rfl, rfl, rfl⟩, hl.at fun o e => Heap.get?_push_of_some _ e⟩, h⟩
    · intro i s Q E y hy hs hQ
      have hi : i < vs.toArray.size := by rw [List.size_toArray, p4.length]; exact (List.getElem?_eq_some_iff.mp hy).1
      refine W.item i s Q E hi hs fun v h' tk hv => hQ v h' tk ?_
      obtain ⟨u, h1, h2⟩ := p4.get hy
      have : vs[i]? = some v := by simpa using hv
      rw [h1] at this; cases this; exact h2
    · intro s Q E hs hQ
      have hz : vs.toArray.size = xs.length := by rw [List.size_toArray, p4.length]
      refine W.done s Q E (by rw [hz]; exact hs) fun h' tk k => hQ h' tk k trivial
    · intro i h hs b hb
      rw [List.mem_singleton.mp hb]
      obtain ⟨o, h1, _⟩ := hs.1; exact ⟨o, h1⟩
    · intro i h h' hs hw hp
      exact ⟨hs.1.at fun o e => hw _ (List.mem_singleton.mpr rfl) o e, ⟨_, hp _ _ (.inl p1), p2, _, p3⟩⟩
def rngL (a c : Int) (k : Nat) : List AVal := (List.range k).map fun (i : Nat) => AVal.int (a + (i : Int) * c)
theorem ti_rng {a b c : Int} {k : Nat} {Q : (AHeap → AHeap) → List AVal → AHeap → Prop} (hsmall : Builtin.Range.small a b c = true) (hk : Builtin.Range.rangeSize a b c = (k : Int)) (h : Q id (rngL a c k) σ) : TI C n f (.rng a b c) m σ Q := fun ok fz s E v x hv => by
  cases hv with
  | rng p1 =>
    have ho := x.at_ ok p1
    refine wpAny_pyIter_range ho hsmall ?_
    have W := Walks.range (prog := C.prog) (w := C.w) ok.handled s.heap.objs.size a c k
    have hlen : (rngL a c k).length = k := by simp [rngL]
    refine ⟨fz, σ, s.heap.objs.size, [s.heap.objs.size], rngL a c k, fun i h => IsRangeIter h s.heap.objs.size (a + (i : Nat) * c) ((k : Int) - (i : Nat)) c, fun _ => True, id, rfl, sub_refl, ⟨_, s.toks, rfl⟩, SX.ofPush (t := s.toks) x, ⟨?_, ?_, ?_, ?_, fun _ _ _ => trivial, fun _ _ _ _ _ x _ => x.sr, fun i s Q E h q => W.self i s Q E h q, fun _ _ _ _ => trivial⟩, ?_, h⟩
    · intro i s Q E y hy hs hQ
      have hi : i < k := by have := (List.getElem?_eq_some_iff.mp hy).1; omega
      refine W.item i s Q E hi hs fun v h' tk hv => hQ v h' tk ?_
      obtain ⟨t, rfl⟩ := hv
      have : y = .int (a + i * c) := by simp [rngL, hi] at hy; exact hy.symm
      subst this
      exact .int _ _
    · intro s Q E hs hQ
      exact W.done s Q E (by rw [hlen] at hs; exact hs) fun h' tk k => hQ h' tk k trivial
    · intro i h hs b hb
      rw [List.mem_singleton.mp hb]
      exact ⟨_, hs⟩
    · intro i h h' hs hw hp
      exact hw _ (List.mem_singleton.mpr rfl) _ hs
    · show IsRangeIter _ _ _ _ _
      rw [hk]
      simpa using Heap.get?_push_size s.heap (o := { cls := .type "range_iterator", data := .fields #[rawInt a, rawInt k, rawInt c] }) rfl
theorem w1_for {y : Str} {py : Pos} {iter : Expr} {body : List Stmt} {pos : Pos} {Q : AFlow → AEnv → AHeap → Prop} (Inv : List AVal → AEnv → AHeap → Prop)
    (h : WI C n f iter m σ fun back xs σ₂ => back = id ∧ Inv xs m σ₂)
    (turn : ∀ pin x xs m' σ', Inv (x :: xs) m' σ' → TS C n (f.withPin pin) y x m' σ' fun m₁ σ₁ => WS C n (f.withPin pin) body m₁ σ₁ (Turn id (Inv xs) Q))
    (done : ∀ m' σ', Inv [] m' σ' → Q .next m' σ') (hs : ∀ x, foldedSetIterable iter f.env x = pure x := by intro _; rfl) : W1 C n f (.For (.Name y py) iter body [] pos) m σ Q := by
  refine w1_forB (fun back xs m σ => back = id ∧ Inv xs m σ) h (fun back pin x xs m' σ' ⟨e, q⟩ => ?_) (fun back m' σ' ⟨e, q⟩ => by subst e; exact done _ _ q) hs
  subst e
  have key : Turn id (Inv xs) Q = Turn id (fun m σ => id = (id : AHeap → AHeap) ∧ Inv xs m σ) Q := by
    funext a m σ; cases a <;> simp [Turn]
  rw [← key]
  exact turn pin x xs m' σ' q
end
end Mine

open PySem PySem.W PyProof.Rows PySem.Calls
namespace Mine
section
variable {C : Cx} {n : Nat} {f : Fm} {m : AEnv} {σ : AHeap}
theorem HR.addFz {fz pin : Fz} {δ : Addr → Addr} {news : List (Addr × Obj)} (R : HR C fz pin σ δ news) (new : Fz) (hn : ∀ p ∈ new, ∀ q ∈ news, q.1 ≠ p.1) : HR C (new ++ fz) pin σ δ (new ++ news) := by
  have up : ∀ p ∈ fz, p ∈ new ++ fz := fun p hp => List.mem_append_right _ hp
  have split : ∀ p ∈ (new ++ fz) ++ pin, p ∈ new ∨ p ∈ fz ++ pin := fun p hp => by rw [List.append_assoc] at hp; exact List.mem_append.mp hp
  refine ⟨fun p hp => ?_, fun p hp q hq => ?_, fun a ao h => (R.ob a ao h).mono (fun _ _ => At.mono up) (fun _ q => List.mem_append_right _ q) fun _ _ _ _ q => List.mem_append_right _ q, fun a ao h p hp => ?_, fun a c as h p hp => ?_, R.dσ, R.dinj⟩
  · rcases split p hp with hp | hp
    · exact List.mem_append_left _ hp
    · exact List.mem_append_right _ (R.sub _ hp)
  · rcases List.mem_append.mp hp with hp | hp
    · exact fun e => hn p hp q (R.sub _ (List.mem_append_right _ hq)) e.symm
    · exact R.apart p hp q hq
  · rcases split p hp with hp | hp
    · obtain ⟨o, ho⟩ := (R.ob a ao h).key; exact fun q => hn p hp _ ho q.symm
    · exact R.off a ao h p hp
  · rcases split p hp with hp | hp
    · obtain ⟨_, es, k, ho, _⟩ := R.ob a _ h; exact fun q => hn p hp _ ho q.symm
    · exact R.doff a c as h p hp
theorem ER.up {fz fz' : Fz} {mc : Str → Option Value} (h : ∀ p ∈ fz, p ∈ fz') (e : ER (At C fz) m mc) : ER (At C fz') m mc := fun y a hy => by obtain ⟨v, h1, h2⟩ := e y a hy; exact ⟨v, h1, h2.up h⟩

/-! ## things of a class -/
theorem tc_fin {c : Addr} {Q : AVal → AHeap → Prop} (hk : keepIn C.K (.ref c) = true) (hm : makesIn C.K c = true) (hi : findIn C.K (.ref c) "__init__" = some (some (.builtin "object.__init__"))) (h : Q (.fin c) σ) : TC C n f (.raw (.ref c)) [] m σ Q := fun ok fz s E v vs x hv hvs => by
  cases hv; cases hvs
  refine ⟨keep_K ok x hk, ?_⟩
  obtain ⟨mc, news, δ, F, N, R, e⟩ := x
  refine call_cls0 F ok.kin N hm hi fun y d h' F' N' l1 l2 => ?_
  have hn : ∀ p ∈ [(y, instObj c d), (d, dictOf [] 0)], ∀ q ∈ news, q.1 ≠ p.1 := fun p hp q hq => by
    have := l1 q hq
    rcases List.mem_cons.mp hp with rfl | hp
    · exact Nat.ne_of_lt (Nat.lt_trans this l2)
    · rw [List.mem_singleton.mp hp]; exact Nat.ne_of_lt this
  have up : ∀ p ∈ fz, p ∈ [(y, instObj c d), (d, dictOf [] 0)] ++ fz := fun p hp => List.mem_append_right _ hp
  exact ⟨[(y, instObj c d), (d, dictOf [] 0)] ++ fz, σ, .fin c, up, ⟨h', s.toks, rfl⟩, ⟨mc, _, δ, F', N', R.addFz _ hn, e.up up⟩, .fin (.inl (List.mem_append_left _ (List.mem_cons_self ..))) (.inl (List.mem_append_left _ (List.mem_cons_of_mem _ (List.mem_cons_self ..)))), h⟩
theorem HR.addInst {fz pin : Fz} {δ : Addr → Addr} {news : List (Addr × Obj)} {y d c : Addr} (R : HR C fz pin σ δ news) (l1 : ∀ q ∈ news, q.1 < d) (l2 : d < y) :
    HR C fz pin (σ.set y (.inst c [])) (fun b => if b = y then d else δ b) ((y, instObj c d) :: (d, dictOf [] 0) :: news) := by
  have ny : ∀ q ∈ news, q.1 ≠ y := fun q hq => Nat.ne_of_lt (Nat.lt_trans (l1 q hq) l2)
  have nd : ∀ q ∈ news, q.1 ≠ d := fun q hq => Nat.ne_of_lt (l1 q hq)
  have ky : ∀ b bo, σ b = some bo → b ≠ y ∧ b ≠ d := fun b bo hb => by obtain ⟨o, h⟩ := (R.ob b bo hb).key; exact ⟨ny _ h, nd _ h⟩
  have kd : ∀ b c as, σ b = some (.inst c as) → δ b ≠ y ∧ δ b ≠ d := fun b c as hb => by obtain ⟨_, es, k, h, _⟩ := R.ob b _ hb; exact ⟨ny _ h, nd _ h⟩
  have hσd : σ d = none := by
    cases q : σ d with
    | none => rfl
    | some o => exact absurd rfl (ky d o q).2
  have hne : y ≠ d := Nat.ne_of_gt l2
  refine ⟨fun p hp => .tail _ (.tail _ (R.sub p hp)), R.apart, fun b bo hb => ?_, fun b bo hb p hp => ?_, fun b c₁ as hb p hp => ?_, fun b c₁ as hb => ?_, fun b c₁ as b' c' bs h1 h2 => ?_⟩
  · by_cases q : b = y
    · subst q; rw [AHeap.set_same] at hb; cases hb
      rw [if_pos rfl]
      exact ⟨List.mem_cons_self .., [], 0, .tail _ (List.mem_cons_self ..), .nil⟩
    · rw [AHeap.set_ne _ _ q] at hb
      rw [if_neg q]
      exact (R.ob b bo hb).mono (fun _ _ x => x) (fun _ hm => .tail _ (.tail _ hm)) fun c as eb _ hm => .tail _ (.tail _ hm)
  · by_cases q : b = y
    · subst q; exact ny _ (R.sub p hp)
    · rw [AHeap.set_ne _ _ q] at hb; exact R.off b bo hb p hp
  · by_cases q : b = y
    · rw [if_pos q]; exact nd _ (R.sub p hp)
    · rw [AHeap.set_ne _ _ q] at hb; rw [if_neg q]; exact R.doff b c₁ as hb p hp
  · by_cases q : b = y
    · rw [if_pos q, AHeap.set_ne _ _ (Ne.symm hne)]; exact hσd
    · rw [AHeap.set_ne _ _ q] at hb; rw [if_neg q, AHeap.set_ne _ _ (kd b c₁ as hb).1]; exact R.dσ b c₁ as hb
  · by_cases q : b = y <;> by_cases q' : b' = y
    · intro _; rw [q, q']
    · rw [AHeap.set_ne _ _ q'] at h2; rw [if_pos q, if_neg q']; exact fun e => absurd e.symm (kd b' c' bs h2).2
    · rw [AHeap.set_ne _ _ q] at h1; rw [if_neg q, if_pos q']; exact fun e => absurd e (kd b c₁ as h1).2
    · rw [AHeap.set_ne _ _ q] at h1; rw [AHeap.set_ne _ _ q'] at h2; rw [if_neg q, if_neg q']; exact R.dinj b c₁ as b' c' bs h1 h2
theorem HR.noneAt {fz pin : Fz} {δ : Addr → Addr} {news : List (Addr × Obj)} {y : Addr} (R : HR C fz pin σ δ news) (l : ∀ q ∈ news, q.1 ≠ y) : σ y = none := by
  cases q : σ y with
  | none => rfl
  | some o => obtain ⟨o, h⟩ := (R.ob y o q).key; exact absurd rfl (l _ h)
/-- a thing of a class without __init__, that may change -/
theorem tc_inst0 {c : Addr} {Q : AVal → AHeap → Prop} (hk : keepIn C.K (.ref c) = true) (hm : makesIn C.K c = true) (hi : findIn C.K (.ref c) "__init__" = some (some (.builtin "object.__init__"))) (h : ∀ a, σ a = none → Q (.obj a) (σ.set a (.inst c []))) :
    TC C n f (.raw (.ref c)) [] m σ Q := fun ok fz s E v vs x hv hvs => by
  cases hv; cases hvs
  refine ⟨keep_K ok x hk, ?_⟩
  obtain ⟨mc, news, δ, F, N, R, e⟩ := x
  refine call_cls0 F ok.kin N hm hi fun y d h' F' N' l1 l2 => ?_
  exact ⟨fz, _, .obj y, sub_refl, ⟨h', s.toks, rfl⟩, ⟨mc, _, _, F', N', R.addInst l1 l2, e⟩, .obj y, h y (R.noneAt fun q hq => Nat.ne_of_lt (Nat.lt_trans (l1 q hq) l2))⟩
/-- a thing of a class with an own __init__ -/
theorem tc_inst {c g : Addr} {as : List AVal} {Q : AVal → AHeap → Prop} (hk : keepIn C.K (.ref c) = true) (hm : makesIn C.K c = true) (hi : findIn C.K (.ref c) "__init__" = some (some (.ref g))) (hf : isFn C.K (.ref g) = true)
    (h : ∀ a, σ a = none → Fn C n g (.obj a :: as) (σ.set a (.inst c [])) fun r σ' => r = .none ∧ Q (.obj a) σ') : TC C n f (.raw (.ref c)) as m σ Q := fun ok fz s E v vs x hv hvs => by
  cases hv
  refine ⟨keep_K ok x hk, ?_⟩
  obtain ⟨mc, news, δ, F, N, R, e⟩ := x
  refine call_cls F ok.kin N hm hi hf fun y d h' F' N' l1 l2 => ?_
  have x' : SR C f fz m (σ.set y (.inst c [])) { s with heap := h' } := ⟨mc, _, _, F', N', R.addInst l1 l2, e⟩
  have hn : Near f (f.A.under (.builtin "type.__call__" ⟨.ref c :: vs, []⟩)) := ⟨rfl, rfl, rfl, by show f.A.depth + 1 ≤ _; omega, by show f.A.units + 1 ≤ _; omega⟩
  refine codeAny_mono (h y (R.noneAt fun q hq => Nat.ne_of_lt (Nat.lt_trans (l1 q hq) l2)) f m _ ok hn fz _ (.ref y :: vs) x' (.cons (.obj y) hvs)) fun r s' ⟨v, er, fz', σ', a, u, es, x2, va, q0, q⟩ => ?_
  subst er; subst q0
  cases va
  exact ⟨rfl, fz', σ', .obj y, u, Same.trans ⟨h', s.toks, rfl⟩ es, x2, .obj y, q⟩

/-! ## type, is -/
theorem tc_type_int {i : Int} {Q : AVal → AHeap → Prop} (h : Q (.raw (.type "int")) σ) : TC C n f (.raw (.type "type")) [.int i] m σ Q := fun ok fz s E v vs x hv hvs => by
  cases hv; obtain _ | ⟨h1, h2⟩ := hvs; cases h2; cases h1
  exact ⟨keep_type, call_type_of (typeIs_int s _ _) (by decide) (.here x (.raw _) h)⟩
theorem t2_isRaw {a b : Value} {Q : AVal → AHeap → Prop} (hp : plainIs a b = true) (h : Q (.bool (a == b)) σ) : T2 C n f (compareOp .Is) (.raw a) (.raw b) m σ Q := fun ok fz s E v w x hv hw => by
  cases hv; cases hw; exact wpAny_is_plain hp (.here x (.bool _) h)
theorem t2_isNotRaw {a b : Value} {Q : AVal → AHeap → Prop} (hp : plainIs a b = true) (h : Q (.bool (!(a == b))) σ) : T2 C n f (compareOp .IsNot) (.raw a) (.raw b) m σ Q := fun ok fz s E v w x hv hw => by
  cases hv; cases hw; exact wpAny_isNot_plain hp (.here x (.bool _) h)

/-! ## functions of ints -/
theorem tc_divmod {a b : Int} {Q : AVal → AHeap → Prop} (hb : b ≠ 0) (hs : b.natAbs < 1073741824) (h : Q (.tup [.int (a.fdiv b), .int (a.fmod b)]) σ) : TC C n f (.raw (.builtin "divmod")) [.int a, .int b] m σ Q := fun ok fz s E v vs x hv hvs => by
  cases hv; obtain _ | ⟨h1, h2⟩ := hvs; obtain _ | ⟨h2, h3⟩ := h2; cases h3; cases h1; cases h2
  refine ⟨keep_builtin, divmod_int hb ?_ (.inl (PyProof.noPylong_small hs))⟩
  exact PV.push (t := s.toks + 1 + 1) x rfl (fun fz' hm _ => .tup (vs := [.int (a.fdiv b) s.toks, .int (a.fmod b) (s.toks + 1)]) (.inl hm) rfl rfl (.cons (.int _ _) (.cons (.int _ _) .nil))) h
theorem tc_max {a b : Int} {Q : AVal → AHeap → Prop} (h : Q (.int (if b > a then b else a)) σ) : TC C n f (.raw (.builtin "max")) [.int a, .int b] m σ Q := fun ok fz s E v vs x hv hvs => by
  cases hv; obtain _ | ⟨h1, h2⟩ := hvs; obtain _ | ⟨h2, h3⟩ := h2; cases h3; cases h1; cases h2
  refine ⟨keep_builtin, max_two_ints ok.handled fun h' tk k => ?_⟩
  refine PV.grow x k ?_ h
  split <;> exact .int _ _
theorem tc_min {a b : Int} {Q : AVal → AHeap → Prop} (h : Q (.int (if b < a then b else a)) σ) : TC C n f (.raw (.builtin "min")) [.int a, .int b] m σ Q := fun ok fz s E v vs x hv hvs => by
  cases hv; obtain _ | ⟨h1, h2⟩ := hvs; obtain _ | ⟨h2, h3⟩ := h2; cases h3; cases h1; cases h2
  refine ⟨keep_builtin, min_two_ints ok.handled fun h' tk k => ?_⟩
  refine PV.grow x k ?_ h
  split <;> exact .int _ _

/-! ## lists -/
theorem SR.newFz {fz : Fz} {s : Shared} (x : SR C f fz m σ s) : ∃ mc news, Fr f.h₀ f.L s.heap mc ∧ News f.h₀ f.L s.heap news ∧
    ∀ h' t o, Fr f.h₀ f.L h' mc → News f.h₀ f.L h' ((s.heap.objs.size, o) :: news) → SR C f ([(s.heap.objs.size, o)] ++ fz) m σ { s with heap := h', toks := t } := by
  obtain ⟨mc, news, δ, F, N, R, e⟩ := x
  refine ⟨mc, news, F, N, fun h' t o F' N' => ⟨mc, _, δ, F', N', R.addFz [(s.heap.objs.size, o)] fun p hp q hq => ?_, e.up fun p hp => List.mem_append_right _ hp⟩⟩
  rw [List.mem_singleton.mp hp]
  exact Nat.ne_of_lt (news_lt N hq)
theorem SR.newL {fz : Fz} {s : Shared} (x : SR C f fz m σ s) : ∃ mc news, Fr f.h₀ f.L s.heap mc ∧ News f.h₀ f.L s.heap news ∧ σ s.heap.objs.size = none ∧
    ∀ h' t vs k xs, Fr f.h₀ f.L h' mc → News f.h₀ f.L h' ((s.heap.objs.size, listOf vs.toArray k) :: news) → Vs (At C fz) vs xs → SR C f fz m (σ.set s.heap.objs.size (.list xs)) { s with heap := h', toks := t } := by
  have hf := x.fresh (Nat.le_refl _)
  obtain ⟨mc, news, δ, F, N, R, e⟩ := x
  refine ⟨mc, news, F, N, hf, fun h' t vs k xs F' N' hv => ⟨mc, (s.heap.objs.size, listOf vs.toArray k) :: news, δ, F', N', ?_, e⟩⟩
  have nn : ∀ q ∈ news, q.1 ≠ s.heap.objs.size := fun q hq => Nat.ne_of_lt (news_lt N hq)
  have keep : ∀ {b c as}, σ.set s.heap.objs.size (.list xs) b = some (.inst c as) → b ≠ s.heap.objs.size ∧ σ b = some (.inst c as) := fun {b c as} hb => by
    by_cases q : b = s.heap.objs.size
    · subst q; rw [AHeap.set_same] at hb; cases hb
    · rw [AHeap.set_ne _ _ q] at hb; exact ⟨q, hb⟩
  have dn : ∀ b c as, σ b = some (.inst c as) → δ b ≠ s.heap.objs.size := fun b c as hb => by obtain ⟨_, es, n, h, _⟩ := R.ob b _ hb; exact nn _ h
  refine ⟨fun p hp => .tail _ (R.sub p hp), R.apart, fun b bo hb => ?_, fun b bo hb p hp => ?_, fun b c as hb p hp => R.doff b c as (keep hb).2 p hp, fun b c as hb => ?_, fun b c as b' c' bs h1 h2 => R.dinj b c as b' c' bs (keep h1).2 (keep h2).2⟩
  · by_cases q : b = s.heap.objs.size
    · subst q; rw [AHeap.set_same] at hb; cases hb; exact ⟨vs, k, List.mem_cons_self .., hv⟩
    · rw [AHeap.set_ne _ _ q] at hb
      exact (R.ob b bo hb).mono (fun _ _ x => x) (fun _ hm => .tail _ hm) fun c as eb _ hm => .tail _ hm
  · by_cases q : b = s.heap.objs.size
    · subst q; exact nn _ (R.sub p hp)
    · rw [AHeap.set_ne _ _ q] at hb; exact R.off b bo hb p hp
  · rw [AHeap.set_ne _ _ (dn b c as (keep hb).2)]; exact R.dσ b c as (keep hb).2
/-- a list, frozen or not: its items now -/
def items (σ : AHeap) : AVal → Option (List AVal)
  | .lst xs => some xs
  | .obj a => match σ a with
    | some (.list xs) => some xs
    | _ => none
  | _ => none
theorem V.items {fz : Fz} {s : Shared} (ok : f.Ok C n) (x : SR C f fz m σ s) {v : Value} {a : AVal} {xs : List AVal} (h : V (At C fz) v a) (e : items σ a = some xs) : ∃ l vs, v = .ref l ∧ s.heap.IsList l vs.toArray ∧ Vs (At C fz) vs xs := by
  cases h with
  | obj a =>
    have e' : (match σ a with | some (.list xs) => some xs | _ => Option.none) = some xs := e
    split at e'
    · rename_i ys hs; cases e'
      obtain ⟨vs, k, h1, h2⟩ := x.list hs
      exact ⟨a, vs, rfl, ⟨_, h1, rfl, _, rfl⟩, h2⟩
    · cases e'
  | lst h1 h2 h3 h4 => cases e; exact ⟨_, _, rfl, ⟨_, x.at_ ok h1, h2, _, h3⟩, h4⟩
  | _ => cases e
theorem t2_cat {a b : AVal} {xs ys : List AVal} {Q : AVal → AHeap → Prop} (ha : items σ a = some xs) (hb : items σ b = some ys) (hl : xs.length + ys.length ≤ sizeLine) (h : Q (.lst (xs ++ ys)) σ) : T2 C n f (binaryOp .Add) a b m σ Q := fun ok fz s E v w x hv hw => by
  obtain ⟨l, vs, rfl, hlv, hvs⟩ := hv.items ok x ha
  obtain ⟨l', ws, rfl, hlw, hws⟩ := hw.items ok x hb
  obtain ⟨mc, news, F, N, k⟩ := x.newFz
  refine add_lists F N hlv hlw (fun h' F' N' => ?_) (by rw [hvs.length, hws.length]; exact hl)
  exact ⟨_, σ, .lst (xs ++ ys), fun p hp => List.mem_append_right _ hp, ⟨h', s.toks, rfl⟩, k h' s.toks _ F' N', .lst (.inl (List.mem_append_left _ (List.mem_singleton.mpr rfl))) rfl rfl ((hvs.append hws).up fun p hp => List.mem_append_right _ hp), h⟩
theorem t2_catM {a b : AVal} {xs ys : List AVal} {Q : AVal → AHeap → Prop} (ha : items σ a = some xs) (hb : items σ b = some ys) (hl : xs.length + ys.length ≤ sizeLine) (h : ∀ l, σ l = none → Q (.obj l) (σ.set l (.list (xs ++ ys)))) : T2 C n f (binaryOp .Add) a b m σ Q := fun ok fz s E v w x hv hw => by
  obtain ⟨l, vs, rfl, hlv, hvs⟩ := hv.items ok x ha
  obtain ⟨l', ws, rfl, hlw, hws⟩ := hw.items ok x hb
  obtain ⟨mc, news, F, N, hno, k⟩ := x.newL
  refine add_lists F N hlv hlw (fun h' F' N' => ?_) (by rw [hvs.length, hws.length]; exact hl)
  exact ⟨fz, _, .obj s.heap.objs.size, sub_refl, ⟨h', s.toks, rfl⟩, k h' s.toks _ 0 _ F' N' (hvs.append hws), .obj _, h _ hno⟩
theorem tc_len {a : AVal} {xs : List AVal} {Q : AVal → AHeap → Prop} (ha : items σ a = some xs) (hl : xs.length < 2 ^ 62) (h : Q (.int xs.length) σ) : TC C n f (.raw (.builtin "len")) [a] m σ Q := fun ok fz s E v vs x hv hvs => by
  cases hv; obtain _ | ⟨h1, h2⟩ := hvs; cases h2
  obtain ⟨l, us, rfl, hlv, hus⟩ := h1.items ok x ha
  have e : us.toArray.size = xs.length := by rw [List.size_toArray, hus.length]
  refine ⟨keep_builtin, len_list hlv (by rw [e]; omega) ?_⟩
  rw [e]
  exact .tok x (.int _ _) h
theorem carried_rng {P : Addr → Obj → Prop} : ∀ {ys : List Value} {is : List Int}, CarriedAll ys (is.map .int) → Vs P ys (is.map .int)
  | _, [], h => by cases h; exact .nil
  | _, i :: is, h => by
    cases h with
    | cons h1 h2 => cases h1; exact .cons (.int _ _) (carried_rng h2)
theorem tc_list_rng {a b c : Int} {k : Nat} {Q : AVal → AHeap → Prop} (hsmall : Builtin.Range.small a b c = true) (hk : Builtin.Range.rangeSize a b c = (k : Int)) (hl : k ≤ 2 ^ 24) (h : Q (.lst ((rangeInts a c k).map .int)) σ) : TC C n f (.raw (.type "list")) [.rng a b c] m σ Q := fun ok fz s E v vs x hv hvs => by
  cases hv; obtain _ | ⟨h1, h2⟩ := hvs; cases h2
  cases h1 with
  | rng p1 =>
    have ho := x.at_ ok p1
    refine ⟨keep_type, ?_⟩
    have x' := x
    obtain ⟨mc, news, δ, F, N, R, e⟩ := x
    refine list_rangeD ok.handled F N ho hsmall hk hl fun h' tk ys F' N' kk hn hL hP hc => ?_
    obtain ⟨o, ho', hc', nn, hd'⟩ := hL
    exact PV.new (t := tk) x' kk (Nat.le_refl _) ho' (fun fz' hm hu => .lst (.inl hm) hc' hd' (carried_rng hc)) h
end
end Mine

open PySem PySem.W PyProof.Rows PySem.Calls
namespace Mine
section
variable {C : Cx} {n : Nat} {f : Fm} {m : AEnv} {σ : AHeap}
theorem SX.ofFresh {fz : Fz} {s : Shared} {h' : Heap} {t : Nat} {wr : List Addr} (x : SR C f fz m σ s) (k : ∀ b o, s.heap.get? b = some o → h'.get? b = some o) (hw : ∀ b ∈ wr, s.heap.objs.size ≤ b) : SX C f fz m σ wr { s with heap := h', toks := t } := by
  obtain ⟨mc, news, δ, F, N, R, e⟩ := x
  obtain ⟨oL, a1, a2, hL, a3⟩ := id F.ns
  refine ⟨mc, news, δ, F.grownK k, fun p hp => ⟨k _ _ (N p hp).1, (N p hp).2⟩, R, e, fun p hp hm => ?_, fun hm => ?_, fun b hb => ?_⟩
  · exact absurd (news_lt N hp) (Nat.not_lt.mpr (hw _ hm))
  · exact absurd (Heap.lt_size hL) (Nat.not_lt.mpr (hw _ hm))
  · cases q : f.h₀.get? b with
    | none => rfl
    | some o => exact absurd (Heap.lt_size (F.keep _ _ q)) (Nat.not_lt.mpr (hw _ hb))
theorem V.lstD {P : Addr → Obj → Prop} {v : Value} {xs : List AVal} (h : V P v (.lst xs)) : ∃ l o k us, v = .ref l ∧ P l o ∧ o.cls = .type "list" ∧ o.data = .seq (List.toArray us) k ∧ Vs P us xs := by
  cases h with
  | lst p1 p2 p3 p4 => exact ⟨_, _, _, _, rfl, p1, p2, p3, p4⟩
def enumFrom (k : Nat) : List AVal → List (List AVal)
  | [] => []
  | x :: xs => [.int k, x] :: enumFrom (k + 1) xs
theorem enumFrom_length : ∀ {xs : List AVal} {k : Nat}, (enumFrom k xs).length = xs.length
  | [], _ => rfl
  | _ :: xs, k => by simp [enumFrom, enumFrom_length (xs := xs)]
theorem enumFrom_get : ∀ {xs : List AVal} {k i : Nat} {y : List AVal}, (enumFrom k xs)[i]? = some y → ∃ x, xs[i]? = some x ∧ y = [.int ((k + i : Nat) : Int), x]
  | [], _, _, _, h => by simp [enumFrom] at h
  | x :: xs, k, 0, y, h => by simp [enumFrom] at h; exact ⟨x, rfl, by simp [h]⟩
  | x :: xs, k, i + 1, y, h => by
    simp [enumFrom] at h
    obtain ⟨z, h1, h2⟩ := enumFrom_get h
    exact ⟨z, by simpa using h1, by rw [h2, show k + 1 + i = k + (i + 1) by omega]⟩
theorem wit_enum {g : Str} {gp : Pos} {src : Expr} {cp : Pos} {Q : (AHeap → AHeap) → List (List AVal) → AHeap → Prop}
    (h : WE C n f (.Name g gp) m σ fun fv σ₁ => fv = .raw (.type "enumerate") ∧ WL C n f [src] cp m σ₁ fun as σ₂ => ∃ xs, as = [.lst xs] ∧ Q id (enumFrom 0 xs) σ₂)
    (hplain : (backTo cp (starEach [src] f.env)).any (·.1) = false := by rfl) : WIT C n f (.Call (.Name g gp) [src] [] cp) m σ Q := fun ok fz s E x => by
  refine wpAny_Call_ofName (wpAny_mono (h ok fz s E x) (fun v s₁ ⟨fz₁, σ₁, a, u1, e1, x1, va, ea, q1⟩ => ?_) fun _ _ x => x)
  subst ea; cases va
  refine cw (wpAny_mono (q1 ok fz₁ s₁ E x1) (fun vs s₂ ⟨fz₂, σ₂, as, u2, e2, x2, hvs, xs, es, q2⟩ => ?_) fun _ _ x => x) hplain
  subst es
  obtain _ | ⟨h1, h2⟩ := hvs; cases h2
  refine ⟨keep_type, ?_⟩
  obtain ⟨l, o, k, us, rfl, p1, p2, p3, p4⟩ := h1.lstD
  · have ho := x2.at_ ok p1
    have hl : s₂.heap.IsList l us.toArray := ⟨_, ho, p2, _, p3⟩
    have hll : l < s₂.heap.objs.size := Heap.lt_size ho
    refine call_enumerate_list hl fun h' he hit hsz kk => ?_
    have W := (WalksT.enumerate (prog := C.prog) (w := C.w) ok.handled (s₂.heap.objs.size + 1) s₂.heap.objs.size l (Nat.succ_ne_self _) (Nat.ne_of_lt (Nat.lt_succ_of_lt hll)) (Nat.ne_of_lt hll) us.toArray).toU
    have hl' : h'.IsList l us.toArray := hl.at fun o e => kk _ o e
    have st0 : (∃ old, IsEnum h' (s₂.heap.objs.size + 1) s₂.heap.objs.size ((0 : Nat) : Int) old) ∧ h'.IsListIter s₂.heap.objs.size l 0 ∧ h'.IsList l us.toArray := ⟨⟨_, he⟩, hit, hl'⟩
    refine W.self 0 _ _ _ st0 ⟨fz₂, σ₂, s₂.heap.objs.size + 1, [s₂.heap.objs.size + 1, s₂.heap.objs.size], enumFrom 0 xs, (fun i h => (∃ old, IsEnum h (s₂.heap.objs.size + 1) s₂.heap.objs.size i old) ∧ h.IsListIter s₂.heap.objs.size l i ∧ h.IsList l us.toArray), fun _ => True, id, rfl, fun p hp => u2 p (u1 p hp), (e1.trans e2).trans ⟨h', s₂.toks, rfl⟩, SX.ofFresh (t := s₂.toks) x2 kk ?_, ⟨?_, ?_, ?_, ?_, fun _ _ _ => trivial, fun _ _ _ _ _ x _ => x.sr⟩, st0, q2⟩
    · intro b hb
      rcases List.mem_cons.mp hb with rfl | hb
      · omega
      · rw [List.mem_singleton.mp hb]; exact Nat.le_refl _
    · intro i s Q E y hy hs hQ
      obtain ⟨z, hz, rfl⟩ := enumFrom_get hy
      have hi : i < us.toArray.size := by rw [List.size_toArray, p4.length]; exact (List.getElem?_eq_some_iff.mp hz).1
      refine W.item i s Q E hi hs fun T vals h' tk hP hT hm hk => ?_
      obtain ⟨t, u, hu, rfl⟩ := hP
      obtain ⟨w', g1, g2⟩ := p4.get hz
      have hu' : us[i]? = some u := by simpa using hu
      have hwu : w' = u := by rw [g1] at hu'; exact Option.some.inj hu'
      subst hwu
      refine hQ T [.int i t, w'] h' tk (.cons (by simpa using V.int (i : Int) t) (.cons g2 .nil)) hT (W.apart i T h' hm) hk fun ts k pos s₂ Q₂ E₂ e2 hQ2 => ?_
      subst e2
      exact W.go ts k pos i T s₂ Q₂ E₂ hm hQ2
    · intro s Q E hs hQ
      have hz : us.toArray.size = (enumFrom 0 xs).length := by rw [List.size_toArray, p4.length, enumFrom_length]
      exact W.done s Q E (by rw [hz]; exact hs) fun h' tk k => hQ h' tk k trivial
    · intro i h hs b hb
      rcases List.mem_cons.mp hb with rfl | hb
      · obtain ⟨old, h1⟩ := hs.1; exact ⟨_, h1⟩
      · rw [List.mem_singleton.mp hb]; obtain ⟨o, h1, _⟩ := hs.2.1; exact ⟨o, h1⟩
    · intro i h h' hs hw hp
      obtain ⟨⟨old, h1⟩, h2, h3⟩ := hs
      exact ⟨⟨old, hw _ (List.mem_cons_self ..) _ h1⟩, h2.at fun o e => hw _ (List.mem_cons_of_mem _ (List.mem_singleton.mpr rfl)) o e, ⟨_, hp _ _ (.inl p1), p2, _, p3⟩⟩
theorem w1_forT {ts : List Expr} {tk : Nat} {tp : Pos} {iter : Expr} {body : List Stmt} {pos : Pos} {Q : AFlow → AEnv → AHeap → Prop} (Inv : List (List AVal) → AEnv → AHeap → Prop)
    (h : WIT C n f iter m σ fun back xs σ₂ => back = id ∧ Inv xs m σ₂)
    (turn : ∀ pin x xs m' σ', Inv (x :: xs) m' σ' → (assignEach ts f.env).length = x.length ∧ TAs C n (f.withPin pin) ts x m' σ' fun m₁ σ₁ => WS C n (f.withPin pin) body m₁ σ₁ (Turn id (Inv xs) Q))
    (done : ∀ m' σ', Inv [] m' σ' → Q .next m' σ') (hstar : (assignEach ts f.env).findIdx? (·.1) = none := by rfl) (hs : ∀ x, foldedSetIterable iter f.env x = pure x := by intro _; rfl) : W1 C n f (.For (.Tuple ts tk tp) iter body [] pos) m σ Q := by
  refine w1_forTB (fun back xs m σ => back = id ∧ Inv xs m σ) h (fun back pin x xs m' σ' ⟨e, q⟩ => ?_) (fun back m' σ' ⟨e, q⟩ => by subst e; exact done _ _ q) hstar hs
  subst e
  have key : Turn id (Inv xs) Q = Turn id (fun m σ => id = (id : AHeap → AHeap) ∧ Inv xs m σ) Q := by
    funext a m σ; cases a <;> simp [Turn]
  rw [← key]
  exact turn pin x xs m' σ' q
end
end Mine
namespace Mine
section
variable {C : Cx} {n : Nat} {f : Fm} {m : AEnv} {σ : AHeap}
/-! ## methods of lists -/
theorem tg_list {a : Addr} {xs : List AVal} {name : Str} {id : String} {Q : AVal → List AVal → AHeap → Prop} (slot : Slot "list" name id) (hty : typeOf (.builtin id) = pure (.type "method_descriptor")) (ha : σ a = some (.list xs)) (h : Q (.raw (.builtin id)) [.obj a] σ) : TG C n f name (.obj a) m σ Q := fun ok fz s E v pl x hv => by
  cases hv
  obtain ⟨vs, k, h1, h2⟩ := x.list ha
  exact getMethod_list_of slot hty ⟨_, h1, rfl, _, rfl⟩ ⟨_, h1, rfl⟩ ⟨fz, σ, _, _, sub_refl, .rfl, x, .raw _, .cons (.obj a) .nil, h⟩
def scalar : AVal → Bool
  | .none => true
  | .bool _ => true
  | .int _ => true
  | .str _ => true
  | _ => false
def notNone : AVal → Bool
  | .none => false
  | _ => true
theorem tc_indexNone {a : Addr} {xs : List AVal} {j : Nat} {Q : AVal → AHeap → Prop} (ha : σ a = some (.list xs)) (hs : xs.all scalar = true) (hj : xs[j]? = some .none) (hno' : (xs.take j).all notNone = true) (hl : xs.length < 2 ^ 62) (h : Q (.int j) σ) : TC C n f (.raw (.builtin "list.index")) [.obj a, .none] m σ Q := fun ok fz s E v vs x hv hvs => by
  cases hv; obtain _ | ⟨h1, h2⟩ := hvs; obtain _ | ⟨h2, h3⟩ := h2; cases h3; cases h2; cases h1
  obtain ⟨us, k, ho, p4⟩ := x.list ha
  have hlen := p4.length
  have hno : ∀ i, i < j → xs[i]? ≠ some .none := fun i hi e => by
    have := List.all_eq_true.mp hno' .none (List.mem_of_getElem? (i := i) (by rw [List.getElem?_take, if_pos hi]; exact e))
    cases this
  have hjl : j < xs.length := (List.getElem?_eq_some_iff.mp hj).1
  have val : ∀ (i : Nat) (x : AVal), xs[i]? = some x → ∃ u, us[i]? = some u ∧ (u == Value.none) = (match x with | AVal.none => true | _ => false) ∧ SeqAt.EqAt f.A.in1 s u Value.none (u == Value.none) := by
    intro i x hx
    obtain ⟨u, g1, g2⟩ := p4.get hx
    have hsx : scalar x = true := List.all_eq_true.mp hs x (List.mem_of_getElem? hx)
    refine ⟨u, g1, ?_⟩
    cases g2 <;> first | cases hsx | skip
    · exact ⟨rfl, SeqAt.EqAt.same _⟩
    · exact ⟨rfl, SeqAt.EqAt.bool_none _⟩
    · exact ⟨rfl, SeqAt.EqAt.int_none _ _⟩
    · exact ⟨rfl, SeqAt.EqAt.str_none _ _⟩
  refine ⟨keep_builtin, call_meets PySem.F.slot_list_index ⟨_, ho, rfl⟩ PySem.F.entry_list_index (PySem.F.args_list_index_2 _ _)
    (SeqAt.list_indexAt a us.toArray k none #[] .none (fun y => y == Value.none) j (by rw [List.size_toArray]; omega) (by omega) ?_ ?_) ⟨ho, fun y hy => ?_, .tok x (.int _ _) h⟩⟩
  · obtain ⟨u, g1, g2, _⟩ := val j _ hj
    have : us.toArray[j]'(by rw [List.size_toArray]; omega) = u := by
      have := List.getElem?_eq_some_iff.mp g1; simpa using this.2
    rw [this, g2]
  · intro i hi hlt
    have hix : i < xs.length := by rw [List.size_toArray] at hi; omega
    obtain ⟨u, g1, g2, _⟩ := val i xs[i] (List.getElem?_eq_getElem hix)
    have : us.toArray[i] = u := by
      have := List.getElem?_eq_some_iff.mp g1; simpa using this.2
    rw [this, g2]
    have hne := hno i hlt
    rw [List.getElem?_eq_getElem hix] at hne
    split
    · rename_i e; rw [e] at hne; exact absurd rfl hne
    · rfl
  · have hy' : y ∈ us := by simpa using hy
    obtain ⟨i, hi, e⟩ := List.getElem_of_mem hy'
    obtain ⟨u, g1, _, g3⟩ := val i xs[i] (List.getElem?_eq_getElem (by omega))
    have : u = y := by rw [List.getElem?_eq_getElem hi] at g1; rw [← e]; exact (Option.some.inj g1).symm
    subst this
    exact g3
end
end Mine

open PySem PySem.W PyProof.Rows PySem.Calls
namespace Mine
theorem enter {prog : Program} {w : World} {K : Frag} {vp : Program} {loose : List Str} {mean : ExcName → Option Value} {mg mb : Str → Option Value} {H : Heap} {L fa : Addr} {mc : Str → Option Value} {qual : Str} {scope : Scope} {cdv : Value} {body : List Stmt} {s : Shared} {Q : Flow → Shared → Prop} {E : Value → Shared → Prop} {m : AEnv}
    (B : Below callerA H [] H) (X : K.In H) (T : Top vp loose mean mg mb H) (F : Fr H L s.heap mc) (hE : ER (At ⟨prog, w, K, vp, loose, mean, mg, mb, H⟩ []) m mc) (hk : scope.kind = .function)
    (h : ∀ A₀ A base h₀ outer, WS ⟨prog, w, K, vp, loose, mean, mg, mb, H⟩ 20 ⟨A₀, A, base, h₀, outer, L, fa, qual, scope, cdv, [], [], none⟩ body m (fun _ => none) fun fl _ _ => fl = .ret (.bool true))
    (hQ : ∀ h' tk mc', Fr H L h' mc' → Q (.ret (.bool true)) { s with heap := h', toks := tk }) :
    wpAny (model prog w) (callerA.deeper (envOf qual scope L fa cdv)) (execs body (envOf qual scope L fa cdv)) Q E s := by
  have ok : Fm.Ok ⟨prog, w, K, vp, loose, mean, mg, mb, H⟩ 20 ⟨callerA, callerA.deeper (envOf qual scope L fa cdv), H, H, [], L, fa, qual, scope, cdv, [], [], none⟩ :=
    ⟨B, X, T, fun _ _ h => h, rfl, rfl, rfl, (show 1 + claimMargin + 1 + 3 * 20 < recursionLimit by decide), (show 4 + 3 + 10 * 20 + 100 < cLine by decide), hk, hk⟩
  have x : SR ⟨prog, w, K, vp, loose, mean, mg, mb, H⟩ ⟨callerA, callerA.deeper (envOf qual scope L fa cdv), H, H, [], L, fa, qual, scope, cdv, [], [], none⟩ [] m (fun _ => none) s :=
    ⟨mc, [], id, F, News.nil, ⟨fun p hp => (nomatch hp), fun p hp => (nomatch hp), fun a ao e => (nomatch e), fun a ao e => (nomatch e), fun a c as e => (nomatch e), fun a c as e => (nomatch e), fun a c as b c' bs e => (nomatch e)⟩, hE⟩
  refine wpAny_mono (h callerA _ H H [] ok [] s E x) (fun fl s' ⟨fz', σ', m', a, u, es, x2, va, q⟩ => ?_) fun _ _ z => z
  subst q
  cases fl with
  | ret v =>
    cases va
    obtain ⟨h', tk, rfl⟩ := es
    obtain ⟨mc', news, δ, F', N', R, e⟩ := x2
    exact hQ h' tk mc' F'
  | _ => exact va.elim
end Mine
namespace Mine
theorem vs_ints {P : Addr → Obj → Prop} : ∀ {vs : List Value} {ns : List Int}, IntsAre vs ns → Vs P vs (ns.map .int)
  | _, _, .nil => .nil
  | _, _, .cons n t r => .cons (.int n t) (vs_ints r)
theorem enter_law {prog : Program} {w : World} {K : Frag} {vp : Program} {loose : List Str} {mean : ExcName → Option Value} {mg mb : Str → Option Value} {H : Heap} {L fa a : Addr} {vs : List Value} {ns : List Int} {qual : Str} {scope : Scope} {cdv : Value} {body : List Stmt} {s : Shared} {Q : Flow → Shared → Prop} {E : Value → Shared → Prop}
    (B : Below callerA H [] H) (X : K.In H) (T : Top vp loose mean mg mb H) (hL : H.IsList a vs.toArray) (hI : IntsAre vs ns) (F : Fr H L s.heap (fun x => List.lookup x [(Str.ofString "script", Value.ref a)].reverse)) (hk : scope.kind = .function) (hn : ns.length ≤ 63)
    (h : ∀ A₀ A base h₀ outer (ns : List Int), ns.length ≤ 63 → WS ⟨prog, w, K, vp, loose, mean, mg, mb, H⟩ 20 ⟨A₀, A, base, h₀, outer, L, fa, qual, scope, cdv, [], [], none⟩ body [(Str.ofString "script", .lst (ns.map .int))] (fun _ => none) fun fl _ _ => fl = .ret (.bool true))
    (hQ : ∀ h' tk mc', Fr H L h' mc' → Q (.ret (.bool true)) { s with heap := h', toks := tk }) :
    wpAny (model prog w) (callerA.deeper (envOf qual scope L fa cdv)) (execs body (envOf qual scope L fa cdv)) Q E s := by
  refine enter B X T F (fun y v hy => ?_) hk (fun A₀ A base h₀ outer => h A₀ A base h₀ outer ns hn) hQ
  unfold AEnv.get getA at hy
  by_cases q : (Str.ofString "script" == y) = true
  · rw [if_pos q] at hy; cases hy
    have : Str.ofString "script" = y := by simpa using q
    subst this
    obtain ⟨o, h1, h2, k, h3⟩ := hL
    exact ⟨.ref a, by simp, .lst (.inr h1) h2 h3 (vs_ints hI)⟩
  · rw [if_neg q] at hy; cases hy
end Mine

open PySem PySem.W PyProof.Rows PySem.Calls
namespace Mine
section
variable {C : Cx} {n : Nat} {f : Fm} {m : AEnv} {σ : AHeap}
theorem WE.cut {e : Expr} {Q P : AVal → AHeap → Prop} (h : WE C n f e m σ P) (k : ∀ a σ₁, P a σ₁ → Q a σ₁) : WE C n f e m σ Q := fun ok fz s E x =>
  wpAny_mono (h ok fz s E x) (fun v s₁ ⟨fz₁, σ₁, a, u1, e1, x1, va, q1⟩ => ⟨fz₁, σ₁, a, u1, e1, x1, va, k _ _ q1⟩) fun _ _ x => x

/-! ## items by place -/
theorem we_sub {value slice : Expr} {pos : Pos} {Q : AVal → AHeap → Prop} (h : WE C n f value m σ fun a σ₁ => WE C n f slice m σ₁ fun b σ₂ => T2 C n f (subscriptTail value slice) a b m σ₂ Q) : WE C n f (.Subscript value slice pos) m σ Q := fun ok fz s E x => by
  refine Subscript_ (wpAny_mono (h ok fz s E x) (fun v s₁ ⟨fz₁, σ₁, a, u1, e1, x1, va, q1⟩ => wpAny_mono (q1 ok fz₁ s₁ E x1) (fun w s₂ ⟨fz₂, σ₂, b, u2, e2, x2, vb, q2⟩ => ?_) fun _ _ x => x) fun _ _ x => x)
  exact wpAny_mono (q2 ok fz₂ s₂ E v w x2 (va.up u2) vb) (fun r s₃ p => .up (fun p hp => u2 p (u1 p hp)) (e1.trans e2) p) fun _ _ x => x
theorem t2_item {value slice : Expr} {a : AVal} {i : Int} {xs : List AVal} {y : AVal} {Q : AVal → AHeap → Prop} (ha : items σ a = some xs) (h0 : 0 ≤ i) (hf : i < 2 ^ 63) (hy : xs[i.toNat]? = some y) (h : Q y σ)
    (hs : ∀ l u, subscripted slice false (.ref l) (.int i u) = operate [.ref l, .int i u] (getItem (.ref l) (.int i u)) := by intro _ _; rfl) : T2 C n f (subscriptTail value slice) a (.int i) m σ Q := fun ok fz s E v w x hv hw => by
  cases hw
  obtain ⟨l, vs, rfl, hl, hvs⟩ := hv.items ok x ha
  obtain ⟨u, g1, g2⟩ := hvs.get hy
  exact tail_any hl.typeIs slot_list_getitem.lookup (wpAny_getItem_list (x := u) hl h0 hf (by simpa using g1) (.here x g2 h)) (hs _ _)
theorem t2_itemN {value slice : Expr} {a : AVal} {i : Int} {xs : List AVal} {y : AVal} {Q : AVal → AHeap → Prop} (ha : items σ a = some xs) (h0 : i < 0) (h1 : -(xs.length : Int) ≤ i) (hf : -(2 ^ 63) ≤ i) (hy : xs[(i + xs.length).toNat]? = some y) (h : Q y σ)
    (hs : ∀ l u, subscripted slice false (.ref l) (.int i u) = operate [.ref l, .int i u] (getItem (.ref l) (.int i u)) := by intro _ _; rfl) : T2 C n f (subscriptTail value slice) a (.int i) m σ Q := fun ok fz s E v w x hv hw => by
  cases hw
  obtain ⟨l, vs, rfl, hl, hvs⟩ := hv.items ok x ha
  obtain ⟨u, g1, g2⟩ := hvs.get hy
  have hz : vs.toArray.size = xs.length := by rw [List.size_toArray, hvs.length]
  exact tail_any hl.typeIs slot_list_getitem.lookup (wpAny_getItem_list_neg (x := u) hl h0 (by rw [hz]; exact h1) hf (by rw [hz]; simpa using g1) (.here x g2 h)) (hs _ _)

/-! ## slices -/
def WO (C : Cx) (n : Nat) (f : Fm) (e : Option Expr) (m : AEnv) (σ : AHeap) (Q : AVal → AHeap → Prop) : Prop :=
  f.Ok C n → ∀ fz s E, SR C f fz m σ s → wpAny (Md C) f.A (evalPart e f.env) (PV C f m fz s Q) E s
theorem wo_none {Q : AVal → AHeap → Prop} (h : Q .none σ) : WO C n f none m σ Q := fun ok fz s E x => wpAny_pure (.here x .none h)
theorem wo_some {e : Expr} {Q : AVal → AHeap → Prop} (h : WE C n f e m σ Q) : WO C n f (some e) m σ Q := fun ok fz s E x => h ok fz s E x
def part : AVal → Option (Option Int)
  | .none => some none
  | .int i => some (some i)
  | _ => none
theorem V.part {P : Addr → Obj → Prop} {v : Value} {a : AVal} {p : Option Int} (h : V P v a) (e : part a = some p) : IsPart v p := by
  cases h <;> cases e
  · exact .none
  · exact .int _ _
def pickA (xs : List AVal) (lo hi st : Option Int) : List AVal :=
  (sliceRange (sliceBounds lo hi st xs.length).1 (sliceBounds lo hi st xs.length).2.1 (sliceBounds lo hi st xs.length).2.2).filterMap (xs[·]?)
theorem Vs.pickAll {P : Addr → Obj → Prop} {vs : List Value} {xs : List AVal} (h : Vs P vs xs) : ∀ ks : List Nat, Vs P (ks.filterMap (vs[·]?)) (ks.filterMap (xs[·]?))
  | [] => .nil
  | k :: ks => by
    have ih := h.pickAll ks
    cases e : xs[k]? with
    | none =>
      have : vs[k]? = none := by rw [List.getElem?_eq_none_iff] at e ⊢; rw [h.length]; exact e
      simpa [List.filterMap_cons, e, this] using ih
    | some x =>
      obtain ⟨v, h1, h2⟩ := h.get e
      simpa [List.filterMap_cons, e, h1] using Vs.cons h2 ih
theorem Vs.pick {P : Addr → Obj → Prop} {vs : List Value} {xs : List AVal} (h : Vs P vs xs) (lo hi st : Option Int) : Vs P (slicePick vs.toArray lo hi st).toList (pickA xs lo hi st) := by
  unfold slicePick pickA
  simp only [List.size_toArray, h.length, List.getElem?_toArray, List.toList_toArray]
  exact h.pickAll _
theorem pickA_plain (xs : List AVal) (lo hi : Option Int) : pickA xs lo hi none = (xs.drop (lo.elim 0 (clipAt xs.length))).take (hi.elim xs.length (clipAt xs.length) - lo.elim 0 (clipAt xs.length)) := by
  unfold pickA
  rw [sliceBounds_plain]
  have := pick_run (xs.toArray)
  simp only [List.getElem?_toArray, List.toList_toArray] at this
  simp only [sliceRange_one]
  exact this _ _
theorem pickA_rev (xs : List AVal) : pickA xs none none (some (-1)) = xs.reverse := by
  have e : sliceRange ((xs.length : Int) - 1) (-1) (-1) = (List.range xs.length).map fun k => xs.length - 1 - k := by
    unfold sliceRange
    have h0 : ¬ ((-1 : Int) > 0) := by decide
    simp only [h0, if_false]
    by_cases h : (xs.length : Int) - 1 > -1
    · have h2 : ((xs.length : Int) - 1 - -1 - -1 - 1) / (- -1) = (xs.length : Int) := by
        rw [show (- -1 : Int) = 1 by decide, Int.ediv_one]; omega
      rw [if_pos h, h2, Int.toNat_natCast]
      apply List.map_congr_left
      intro k _
      omega
    · have : xs.length = 0 := by omega
      simp [this]
  have h0 : ¬ ((-1 : Int) > 0) := by decide
  unfold pickA
  simp only [sliceBounds, Option.getD_some, h0, if_false]
  rw [e]
  apply List.ext_getElem?
  intro i
  rw [List.filterMap_map]
  have key : ∀ k, k ≤ xs.length → (List.range k).filterMap ((fun x => xs[x]?) ∘ fun k => xs.length - 1 - k) = xs.reverse.take k := by
    intro k
    induction k with
    | zero => intro _; simp
    | succ k ih =>
      intro hk
      rw [List.range_succ, List.filterMap_append, ih (by omega), List.take_add_one, List.getElem?_reverse (by omega)]
      congr 1
  rw [key _ (Nat.le_refl _), List.take_of_length_le (by simp)]
theorem sub_slice {st : Option Expr} {lower upper : Option Expr} {p : Pos} {o i : Value} : ∃ ops, subscripted (.Slice lower upper st p) false o i = operate ops (getItem o i) := by
  cases st with
  | none => exact ⟨_, rfl⟩
  | some e => exact ⟨_, rfl⟩
theorem slice_core {value : Expr} {lower upper step : Option Expr} {p pos : Pos} {fz : Fz} {s : Shared} {E : Value → Shared → Prop} {R : Value → Shared → Prop} (ok : f.Ok C n) (x : SR C f fz m σ s)
    (h : WE C n f value m σ fun a σ₁ => WO C n f lower m σ₁ fun l σ₂ => WO C n f upper m σ₂ fun u σ₃ => WO C n f step m σ₃ fun st σ₄ =>
      ∃ xs lo hi sp, items σ₄ a = some xs ∧ part l = some lo ∧ part u = some hi ∧ part st = some sp ∧ sp ≠ some 0 ∧ xs.length ≤ sizeLine ∧
        ∀ fz' s' vs h', (∀ p ∈ fz, p ∈ fz') → Same s s' → SR C f fz' m σ₄ s' → Vs (At C fz') vs (pickA xs lo hi sp) → (∀ b o, s'.heap.get? b = some o → h'.get? b = some o) → h'.get? (s'.heap.objs.size + 1) = some (listOf vs.toArray 0) → R (.ref (s'.heap.objs.size + 1)) { s' with heap := h' }) :
    wpAny (Md C) f.A (eval (.Subscript value (.Slice lower upper step p) pos) f.env) R E s := by
  refine Subscript_ (wpAny_mono (h ok fz s E x) (fun v s₁ ⟨fz₁, σ₁, a, u1, e1, x1, va, q1⟩ => wpAny_Slice (wpAny_mono (q1 ok fz₁ s₁ E x1) (fun l s₂ ⟨fz₂, σ₂, al, u2, e2, x2, vl, q2⟩ => wpAny_mono (q2 ok fz₂ s₂ E x2) (fun u s₃ ⟨fz₃, σ₃, au, u3, e3, x3, vu, q3⟩ => wpAny_mono (q3 ok fz₃ s₃ E x3) (fun st s₄ ⟨fz₄, σ₄, ast, u4, e4, x4, vst, xs, lo, hi, sp, hx, hlo, hhi, hsp, h0, hz, k⟩ => ?_) fun _ _ x => x) fun _ _ x => x) fun _ _ x => x)) fun _ _ x => x)
  obtain ⟨b, vs, rfl, hl, hvs⟩ := (((va.up u2).up u3).up u4).items ok x4 hx
  have hl' : (s₄.heap.push { cls := .type "slice", data := .fields #[l, u, st] }).IsList b vs.toArray := hl.push _
  obtain ⟨ops, hs⟩ := sub_slice (st := step) (lower := lower) (upper := upper) (p := p) (o := .ref b) (i := .ref s₄.heap.objs.size)
  refine tail_any hl'.typeIs slot_list_getitem.lookup (wpAny_getItem_list_slice hl' (Heap.IsSliceOf.new ..) (vl.part hlo) (vu.part hhi) (vst.part hsp) h0 ?_ (by rw [List.size_toArray, hvs.length]; exact hz)) hs
  rw [Heap.size_push]
  have hp := hvs.pick lo hi sp
  have e : slicePick vs.toArray lo hi sp = (slicePick vs.toArray lo hi sp).toList.toArray := by simp
  refine k fz₄ s₄ (slicePick vs.toArray lo hi sp).toList _ (fun p hp => u4 p (u3 p (u2 p (u1 p hp)))) (((e1.trans e2).trans e3).trans e4) x4 hp (fun b o e => Heap.get?_push_of_some _ (Heap.get?_push_of_some _ e)) ?_
  rw [← e]
  have := Heap.get?_push_size (s₄.heap.push { cls := .type "slice", data := .fields #[l, u, st] }) (o := { cls := .type "list", data := .seq (slicePick vs.toArray lo hi sp) }) rfl
  rw [Heap.size_push] at this
  exact this
theorem we_slice {value : Expr} {lower upper step : Option Expr} {p pos : Pos} {Q : AVal → AHeap → Prop}
    (h : WE C n f value m σ fun a σ₁ => WO C n f lower m σ₁ fun l σ₂ => WO C n f upper m σ₂ fun u σ₃ => WO C n f step m σ₃ fun st σ₄ =>
      ∃ xs lo hi sp, items σ₄ a = some xs ∧ part l = some lo ∧ part u = some hi ∧ part st = some sp ∧ sp ≠ some 0 ∧ xs.length ≤ sizeLine ∧ Q (.lst (pickA xs lo hi sp)) σ₄) :
    WE C n f (.Subscript value (.Slice lower upper step p) pos) m σ Q := fun ok fz s E x => by
  refine slice_core ok x (WE.cut h fun a σ₁ h1 ok fz s E x => wpAny_mono (h1 ok fz s E x) (fun v s₁ ⟨fz₁, σ₁, a, u1, e1, x1, va, q1⟩ => ⟨fz₁, σ₁, a, u1, e1, x1, va, fun ok fz s E x => wpAny_mono (q1 ok fz s E x) (fun v s₁ ⟨fz₁, σ₁, a, u1, e1, x1, va, q1⟩ => ⟨fz₁, σ₁, a, u1, e1, x1, va, fun ok fz s E x => wpAny_mono (q1 ok fz s E x) (fun v s₁ ⟨fz₁, σ₁, a, u1, e1, x1, va, q1⟩ => ⟨fz₁, σ₁, a, u1, e1, x1, va, ?_⟩) fun _ _ x => x⟩) fun _ _ x => x⟩) fun _ _ x => x)
  obtain ⟨xs, lo, hi, sp, h1, h2, h3, h4, h5, h6, q⟩ := q1
  exact ⟨xs, lo, hi, sp, h1, h2, h3, h4, h5, h6, fun fz' s' vs h' u e x' hv k ho => PV.up u e (PV.new (t := s'.toks) x' k (Nat.le_succ _) ho (fun fz'' hm hu => .lst (.inl hm) rfl rfl (hv.up hu)) q)⟩
theorem we_sliceM {value : Expr} {lower upper step : Option Expr} {p pos : Pos} {Q : AVal → AHeap → Prop}
    (h : WE C n f value m σ fun a σ₁ => WO C n f lower m σ₁ fun l σ₂ => WO C n f upper m σ₂ fun u σ₃ => WO C n f step m σ₃ fun st σ₄ =>
      ∃ xs lo hi sp, items σ₄ a = some xs ∧ part l = some lo ∧ part u = some hi ∧ part st = some sp ∧ sp ≠ some 0 ∧ xs.length ≤ sizeLine ∧ ∀ l, σ₄ l = none → Q (.obj l) (σ₄.set l (.list (pickA xs lo hi sp)))) :
    WE C n f (.Subscript value (.Slice lower upper step p) pos) m σ Q := fun ok fz s E x => by
  refine slice_core ok x (WE.cut h fun a σ₁ h1 ok fz s E x => wpAny_mono (h1 ok fz s E x) (fun v s₁ ⟨fz₁, σ₁, a, u1, e1, x1, va, q1⟩ => ⟨fz₁, σ₁, a, u1, e1, x1, va, fun ok fz s E x => wpAny_mono (q1 ok fz s E x) (fun v s₁ ⟨fz₁, σ₁, a, u1, e1, x1, va, q1⟩ => ⟨fz₁, σ₁, a, u1, e1, x1, va, fun ok fz s E x => wpAny_mono (q1 ok fz s E x) (fun v s₁ ⟨fz₁, σ₁, a, u1, e1, x1, va, q1⟩ => ⟨fz₁, σ₁, a, u1, e1, x1, va, ?_⟩) fun _ _ x => x⟩) fun _ _ x => x⟩) fun _ _ x => x)
  obtain ⟨xs, lo, hi, sp, h1, h2, h3, h4, h5, h6, q⟩ := q1
  exact ⟨xs, lo, hi, sp, h1, h2, h3, h4, h5, h6, fun fz' s' vs h' u e x' hv k ho => ⟨fz', _, .obj _, u, e.trans ⟨h', s'.toks, rfl⟩, x'.newList (t := s'.toks) k (Nat.le_succ _) ho hv, .obj _, q _ (x'.fresh (Nat.le_succ _))⟩⟩

/-! ## changing a list -/
theorem mapSeq_listOf (g : Array Value → Array Value) (its : Array Value) (k : Nat) : ∃ k', Obj.mapSeq g (listOf its k) = listOf (g its) k' := ⟨_, rfl⟩
theorem SR.updList {fz : Fz} {s : Shared} {a : Addr} {xs xs' : List AVal} {vs : List Value} {k : Nat} (x : SR C f fz m σ s) (h : σ a = some (.list xs)) (ho : s.heap.get? a = some (listOf vs.toArray k)) (g : Array Value → Array Value) (hg : Vs (At C fz) (g vs.toArray).toList xs') (t : Nat) :
    SR C f fz m (σ.set a (.list xs')) { s with heap := s.heap.update a (Obj.mapSeq g), toks := t } := by
  obtain ⟨k', e⟩ := mapSeq_listOf g vs.toArray k
  have ho' : (s.heap.update a (Obj.mapSeq g)).get? a = some (listOf (g vs.toArray).toList.toArray k') := by
    rw [Heap.get?_update_self _ ho (by rw [e]; rfl), e]
  exact x.setList (t := t) h (Heap.SameBut.update ..) ho' hg
theorem tg_listM {a : Addr} {xs : List AVal} {name : Str} {id : String} {Q : AVal → List AVal → AHeap → Prop} (ha : σ a = some (.list xs)) (slot : Slot "list" name id) (hty : typeOf (.builtin id) = pure (.type "method_descriptor")) (h : Q (.raw (.builtin id)) [.obj a] σ) : TG C n f name (.obj a) m σ Q :=
  tg_list slot hty ha h
theorem tc_append {a : Addr} {xs : List AVal} {y : AVal} {Q : AVal → AHeap → Prop} (ha : σ a = some (.list xs)) (hl : xs.length ≤ sizeLine) (h : Q .none (σ.set a (.list (xs ++ [y])))) : TC C n f (.raw (.builtin "list.append")) [.obj a, y] m σ Q := fun ok fz s E v vs x hv hvs => by
  cases hv; obtain _ | ⟨h1, h2⟩ := hvs; obtain _ | ⟨h2, h3⟩ := h2; cases h3; cases h1
  obtain ⟨us, k, ho, p4⟩ := x.list ha
  refine ⟨keep_builtin, append_at ho (fun h' hs ho' => ?_) (by rw [List.size_toArray, p4.length]; exact hl)⟩
  rename_i w
  refine ⟨fz, _, .none, sub_refl, ⟨h', s.toks, rfl⟩, x.setList (t := s.toks) (vs' := us ++ [w]) ha hs (by simpa using ho') (p4.append (.cons h2 .nil)), .none, h⟩
theorem tc_insert {a : Addr} {xs : List AVal} {i : Int} {y : AVal} {j : Nat} {Q : AVal → AHeap → Prop} (ha : σ a = some (.list xs)) (hf : Builtin.List.listFitsIndex i = true) (hj : (if i < 0 then (i + (xs.length : Int)).toNat else min i.toNat xs.length) = j) (hl : xs.length ≤ sizeLine) (h : Q .none (σ.set a (.list (xs.take j ++ y :: xs.drop j)))) : TC C n f (.raw (.builtin "list.insert")) [.obj a, .int i, y] m σ Q := fun ok fz s E v vs x hv hvs => by
  cases hv; obtain _ | ⟨h1, h2⟩ := hvs; obtain _ | ⟨h2, h3⟩ := h2; obtain _ | ⟨h3, h4⟩ := h3; cases h4; cases h1; cases h2
  rename_i w t
  obtain ⟨us, k, ho, p4⟩ := x.list ha
  refine ⟨keep_builtin, call_meets PySem.F.slot_list_insert ⟨_, ho, rfl⟩ PySem.F.entry_list_insert (PySem.F.args_list_insert_3 _ _ _) (AutoSeq1.list_insert_list_int_val_1 a us.toArray k i t w (by rw [hf]; decide) (by rw [List.size_toArray, p4.length]; exact hl)) ⟨ho, ?_⟩⟩
  refine ⟨fz, _, .none, sub_refl, ⟨_, s.toks, rfl⟩, x.updList ha ho _ ?_ s.toks, .none, h⟩
  simp only [List.size_toArray, p4.length, hj]
  have := ((p4.take j).append (.cons h3 (p4.drop j)))
  have e : List.take (xs.length - j) (List.drop j us) = List.drop j us := List.take_of_length_le (by simp [p4.length])
  simpa [e, p4.length] using this
theorem Vs.eraseIdx {P : Addr → Obj → Prop} : ∀ {vs : List Value} {xs : List AVal}, Vs P vs xs → ∀ (i : Nat), Vs P (vs.eraseIdx i) (xs.eraseIdx i)
  | _, _, .nil, _ => .nil
  | _, _, .cons a b, 0 => b
  | _, _, .cons a b, i + 1 => .cons a (b.eraseIdx i)
theorem tc_pop {a : Addr} {xs : List AVal} {i : Int} {y : AVal} {j : Nat} {Q : AVal → AHeap → Prop} (ha : σ a = some (.list xs)) (hf : Builtin.List.listFitsIndex i = true) (hj : seqIndex? i xs.length = some j) (hy : xs[j]? = some y) (hl : xs.length ≤ sizeLine) (h : Q y (σ.set a (.list (xs.eraseIdx j)))) : TC C n f (.raw (.builtin "list.pop")) [.obj a, .int i] m σ Q := fun ok fz s E v vs x hv hvs => by
  cases hv; obtain _ | ⟨h1, h2⟩ := hvs; obtain _ | ⟨h2, h3⟩ := h2; cases h3; cases h1; cases h2
  rename_i t
  obtain ⟨us, k, ho, p4⟩ := x.list ha
  obtain ⟨u, g1, g2⟩ := p4.get hy
  refine ⟨keep_builtin, call_meets PySem.F.slot_list_pop ⟨_, ho, rfl⟩ PySem.F.entry_list_pop (PySem.F.args_list_pop_2 _ _) (PySem.MeetsSeq.list_pop_at a us.toArray k i t j u hf (by rw [List.size_toArray, p4.length]; exact hj) (by simpa using g1) (by rw [List.size_toArray, p4.length]; exact hl)) ⟨ho, ?_⟩⟩
  refine ⟨fz, _, y, sub_refl, ⟨_, s.toks, rfl⟩, x.updList ha ho _ ?_ s.toks, g2, h⟩
  have := p4.eraseIdx j
  simpa using this
/-- storing at a place: as a tree -/
def TU (C : Cx) (n : Nat) (f : Fm) (o i y : AVal) (m : AEnv) (σ : AHeap) (Q : AHeap → Prop) : Prop :=
  f.Ok C n → ∀ fz s E vo vi vy, SR C f fz m σ s → V (At C fz) vo o → V (At C fz) vi i → V (At C fz) vy y → wpAny (Md C) f.A (setItem vo vi vy) (fun _ s' => ∃ fz' σ', (∀ p ∈ fz, p ∈ fz') ∧ Same s s' ∧ SR C f fz' m σ' s' ∧ Q σ') E s
theorem tu_list {a : Addr} {xs : List AVal} {i : Int} {y : AVal} {Q : AHeap → Prop} (ha : σ a = some (.list xs)) (h0 : 0 ≤ i) (hl : i < xs.length) (hf : i < 2 ^ 63) (h : Q (σ.set a (.list (xs.set i.toNat y)))) : TU C n f (.obj a) (.int i) y m σ Q := fun ok fz s E vo vi vy x ho hi hy => by
  cases ho; cases hi
  obtain ⟨us, k, ho, p4⟩ := x.list ha
  refine ki_setAt ho h0 hf (by rw [List.size_toArray, p4.length]; exact hl) ⟨fz, _, sub_refl, ⟨_, s.toks, rfl⟩, x.updList ha ho _ ?_ s.toks, h⟩
  have := p4.set i.toNat hy
  simpa using this
theorem tu_listN {a : Addr} {xs : List AVal} {i : Int} {y : AVal} {Q : AHeap → Prop} (ha : σ a = some (.list xs)) (h0 : i < 0) (hl : -(xs.length : Int) ≤ i) (hf : -(2 ^ 63) ≤ i) (h : Q (σ.set a (.list (xs.set (i + xs.length).toNat y)))) : TU C n f (.obj a) (.int i) y m σ Q := fun ok fz s E vo vi vy x ho hi hy => by
  cases ho; cases hi
  obtain ⟨us, k, ho, p4⟩ := x.list ha
  refine ki_setBack ho h0 (by rw [List.size_toArray, p4.length]; exact hl) hf ⟨fz, _, sub_refl, ⟨_, s.toks, rfl⟩, x.updList ha ho _ ?_ s.toks, h⟩
  have := p4.set (i + xs.length).toNat hy
  simpa [p4.length] using this
theorem w1_setItem {o i : Expr} {tp : Pos} {e : Expr} {pos : Pos} {Q : AFlow → AEnv → AHeap → Prop} (h : WE C n f e m σ fun y σ₁ => WE C n f o m σ₁ fun ov σ₂ => WE C n f i m σ₂ fun iv σ₃ => TU C n f ov iv y m σ₃ fun σ₄ => Q .next m σ₄)
    (hs : swapsWith e (some (.Subscript o i tp)) pos.line f.env = pure false := by rfl) : W1 C n f (.Assign [.Subscript o i tp] e pos) m σ Q := fun ok fz s E x => by
  refine wpAny_Assign_Subscript (wpAny_mono (h ok fz s E x) (fun v s₁ ⟨fz₁, σ₁, a, u1, e1, x1, va, q1⟩ => wpAny_mono (q1 ok fz₁ s₁ E x1) (fun ov s₂ ⟨fz₂, σ₂, b, u2, e2, x2, vb, q2⟩ => wpAny_mono (q2 ok fz₂ s₂ E x2) (fun iv s₃ ⟨fz₃, σ₃, c, u3, e3, x3, vc, q3⟩ => ?_) fun _ _ x => x) fun _ _ x => x) fun _ _ x => x) hs
  exact wpAny_mono (q3 ok fz₃ s₃ E ov iv v x3 (vb.up u3) vc ((va.up u2).up u3)) (fun _ s₄ ⟨fz₄, σ₄, u4, e4, x4, q4⟩ => ⟨fz₄, σ₄, m, .next, fun p hp => u4 p (u3 p (u2 p (u1 p hp))), ((e1.trans e2).trans e3).trans e4, x4, trivial, q4⟩) fun _ _ x => x
/-- as a target among others -/
theorem ta_sub {o i : Expr} {tp : Pos} {y : AVal} {Q : AEnv → AHeap → Prop} (h : WE C n f o m σ fun ov σ₂ => WE C n f i m σ₂ fun iv σ₃ => TU C n f ov iv y m σ₃ fun σ₄ => Q m σ₄) : TA C n f (.Subscript o i tp) y m σ Q := fun ok fz s E v x hv => by
  have hh : wpAny (Md C) f.A (eval o f.env) (fun ov s₂ => wpAny (Md C) f.A (eval i f.env) (fun iv s₃ => wpAny (Md C) f.A (setItem ov iv v) (fun _ => PU C f fz s Q) E s₃) E s₂) E s := by
    refine wpAny_mono (h ok fz s E x) (fun ov s₂ ⟨fz₂, σ₂, b, u2, e2, x2, vb, q2⟩ => wpAny_mono (q2 ok fz₂ s₂ E x2) (fun iv s₃ ⟨fz₃, σ₃, c, u3, e3, x3, vc, q3⟩ => ?_) fun _ _ x => x) fun _ _ x => x
    exact wpAny_mono (q3 ok fz₃ s₃ E ov iv v x3 (vb.up u3) vc ((hv.up u2).up u3)) (fun _ s₄ ⟨fz₄, σ₄, u4, e4, x4, q4⟩ => ⟨fz₄, σ₄, m, fun p hp => u4 p (u3 p (u2 p hp)), (e2.trans e3).trans e4, x4, q4⟩) fun _ _ x => x
  intro Γ p hΓ
  simp only [assign_Subscript, Sem.wp_bind', Sem.wp_holding, Sem.wp_cmd_standAt, Sem.wp_release, Sem.wp_pure']
  exact Sem.wp_mono _ Γ _ (fun ov p₂ s₂ h₂ => Sem.wp_mono _ Γ _ (fun iv _ s₃ h₃ => h₃ Γ _ hΓ) (fun _ _ _ h' => h') _ _ (h₂ Γ p₂ hΓ)) (fun _ _ _ h' => h') _ _ (hh Γ _ hΓ)
theorem w1_expr {e : Expr} {pos : Pos} {Q : AFlow → AEnv → AHeap → Prop} (h : WE C n f e m σ fun _ σ₁ => Q .next m σ₁) (hi : interactive f.env = false := by rfl) (hs : swapsWith e none pos.line f.env = pure false := by rfl) : W1 C n f (.Expr e pos) m σ Q := fun ok fz s E x => by
  refine wpAny_Expr_any (hi := hi) (hs := hs) (wpAny_mono (h ok fz s E x) (fun v s₁ ⟨fz₁, σ₁, a, u1, e1, x1, va, q1⟩ => ⟨fz₁, σ₁, m, .next, u1, e1, x1, trivial, q1⟩) fun _ _ x => x)
end
end Mine

open PySem PySem.W PyProof.Rows PySem.Calls
namespace Mine
section
variable {C : Cx} {n : Nat} {f : Fm} {m : AEnv} {σ : AHeap}
/-! ## rows built by a comprehension -/
def WQ (C : Cx) (n : Nat) (f : Fm) (ifs : List Expr) (m : AEnv) (σ : AHeap) (Q : Bool → AHeap → Prop) : Prop :=
  f.Ok C n → ∀ fz s E, SR C f fz m σ s → wpAny (Md C) f.A (forIn ifs true fun c r => if r = true then do let ok ← isTrue c f.env (eval c f.env); pure (ForInStep.yield ok) else pure (ForInStep.yield r)) (PB C f m fz s Q) E s
theorem wq_nil {Q : Bool → AHeap → Prop} (h : Q true σ) : WQ C n f [] m σ Q := fun ok fz s E x => wpAny_tests_nil ⟨fz, σ, sub_refl, .rfl, x, h⟩
theorem wq_one {c : Expr} {Q : Bool → AHeap → Prop} (h : WT C n f c m σ Q) : WQ C n f [c] m σ Q := fun ok fz s E x => wpAny_tests_one (h ok fz s E x)

theorem SX.sub {fz : Fz} {wr wr' : List Addr} {s : Shared} (h : ∀ b ∈ wr', b ∈ wr) (x : SX C f fz m σ wr s) : SX C f fz m σ wr' s := by
  obtain ⟨mc, news, δ, F, N, R, e, h1, h2, h3⟩ := x
  exact ⟨mc, news, δ, F, N, R, e, fun p hp q => h1 p hp (h _ q), fun q => h2 (h _ q), fun b hb => h3 b (h _ hb)⟩
theorem SX.wide {fz : Fz} {wr : List Addr} {s : Shared} {h' : Heap} {t : Nat} (x : SX C f fz m σ wr s) (new : List Addr) (k : ∀ b o, s.heap.get? b = some o → h'.get? b = some o) (hw : ∀ b ∈ new, s.heap.objs.size ≤ b) : SX C f fz m σ (new ++ wr) { s with heap := h', toks := t } := by
  obtain ⟨mc, news, δ, F, N, R, e, h1, h2, h3⟩ := x
  obtain ⟨oL, a1, a2, hL, a3⟩ := id F.ns
  refine ⟨mc, news, δ, F.grownK k, fun p hp => ⟨k _ _ (N p hp).1, (N p hp).2⟩, R, e, fun p hp hm => ?_, fun hm => ?_, fun b hb => ?_⟩
  · rcases List.mem_append.mp hm with hm | hm
    · exact absurd (news_lt N hp) (Nat.not_lt.mpr (hw _ hm))
    · exact h1 p hp hm
  · rcases List.mem_append.mp hm with hm | hm
    · exact absurd (Heap.lt_size hL) (Nat.not_lt.mpr (hw _ hm))
    · exact h2 hm
  · rcases List.mem_append.mp hb with hm | hm
    · cases q : f.h₀.get? b with
      | none => rfl
      | some o => exact absurd (Heap.lt_size (F.keep _ _ q)) (Nat.not_lt.mpr (hw _ hm))
    · exact h3 b hm
/-- an address that was kept apart becomes a frozen thing -/
theorem SX.ice {fz : Fz} {wr : List Addr} {s : Shared} {D : Addr} {o : Obj} (x : SX C f fz m σ (D :: wr) s) (hD : D ∉ wr) (ho : s.heap.get? D = some o) : SX C f ([(D, o)] ++ fz) m σ wr s := by
  obtain ⟨mc, news, δ, F, N, R, e, h1, h2, h3⟩ := x
  refine ⟨mc, [(D, o)] ++ news, δ, F, fun p hp => ?_, R.addFz [(D, o)] (fun p hp q hq => ?_), e.up fun p hp => List.mem_append_right _ hp, fun p hp q => ?_, fun q => h2 (List.mem_cons_of_mem _ q), fun b hb => h3 b (List.mem_cons_of_mem _ hb)⟩
  · rcases List.mem_append.mp hp with hp | hp
    · rw [List.mem_singleton.mp hp]; exact ⟨ho, fun q => h2 (by rw [← q]; exact List.mem_cons_self ..), h3 D (List.mem_cons_self ..)⟩
    · exact N p hp
  · rw [List.mem_singleton.mp hp]; exact fun e => h1 q hq (by rw [e]; exact List.mem_cons_self ..)
  · rcases List.mem_append.mp hp with hp | hp
    · rw [List.mem_singleton.mp hp] at q; exact hD q
    · exact h1 p hp (List.mem_cons_of_mem _ q)
theorem SX.thaw {fz : Fz} {wr : List Addr} {s : Shared} {D : Addr} {vs : List Value} {k : Nat} {ys : List AVal} (x : SX C f fz m σ (D :: wr) s) (hD : D ∉ wr) (ho : s.heap.get? D = some (listOf vs.toArray k)) (hv : Vs (At C fz) vs ys) : σ D = none ∧ SX C f fz m (σ.set D (.list ys)) wr s := by
  obtain ⟨mc, news, δ, F, N, R, e, h1, h2, h3⟩ := x
  have nn : ∀ q ∈ news, q.1 ≠ D := fun q hq e => h1 q hq (by rw [e]; exact List.mem_cons_self ..)
  have hno : σ D = none := R.noneAt nn
  have keep : ∀ {b c as}, σ.set D (.list ys) b = some (.inst c as) → b ≠ D ∧ σ b = some (.inst c as) := fun {b c as} hb => by
    by_cases q : b = D
    · subst q; rw [AHeap.set_same] at hb; cases hb
    · rw [AHeap.set_ne _ _ q] at hb; exact ⟨q, hb⟩
  have dn : ∀ b c as, σ b = some (.inst c as) → δ b ≠ D := fun b c as hb => by obtain ⟨_, es, n, h, _⟩ := R.ob b _ hb; exact nn _ h
  refine ⟨hno, mc, (D, listOf vs.toArray k) :: news, δ, F, fun p hp => ?_, ⟨fun p hp => .tail _ (R.sub p hp), R.apart, fun b bo hb => ?_, fun b bo hb p hp => ?_, fun b c as hb p hp => R.doff b c as (keep hb).2 p hp, fun b c as hb => ?_, fun b c as b' c' bs h1 h2 => R.dinj b c as b' c' bs (keep h1).2 (keep h2).2⟩, e, fun p hp q => ?_, fun q => h2 (List.mem_cons_of_mem _ q), fun b hb => h3 b (List.mem_cons_of_mem _ hb)⟩
  · rcases List.mem_cons.mp hp with rfl | hp
    · exact ⟨ho, fun q => h2 (by rw [← q]; exact List.mem_cons_self ..), h3 D (List.mem_cons_self ..)⟩
    · exact N p hp
  · by_cases q : b = D
    · subst q; rw [AHeap.set_same] at hb; cases hb; exact ⟨vs, k, List.mem_cons_self .., hv⟩
    · rw [AHeap.set_ne _ _ q] at hb
      exact (R.ob b bo hb).mono (fun _ _ x => x) (fun _ hm => .tail _ hm) fun c as eb _ hm => .tail _ hm
  · by_cases q : b = D
    · subst q; exact nn _ (R.sub p hp)
    · rw [AHeap.set_ne _ _ q] at hb; exact R.off b bo hb p hp
  · rw [AHeap.set_ne _ _ (dn b c as (keep hb).2)]; exact R.dσ b c as (keep hb).2
  · rcases List.mem_cons.mp hp with rfl | hp
    · exact hD q
    · exact h1 p hp (List.mem_cons_of_mem _ q)
/-- the row's own names become a thing of the state -/
theorem SX.names {fz : Fz} {wr : List Addr} {s : Shared} {c : Addr} {mc' : Str → Option Value} {as : List (Str × AVal)} {k : Option (Scope × List (Str × Addr) × Addr)} (x : SX C f fz m σ (c :: wr) s) (hc : c ∉ wr) (hns : s.heap.Ns c mc') (he : ER (At C fz) as mc') :
    σ c = none ∧ SR C (f.withComp k (ownP wr s.heap ++ f.pin)) fz m (σ.set c (.ns as)) s := by
  obtain ⟨o, ho, hn⟩ := LCg.ns_obj hns
  have hwr := (SX.sub (wr' := wr) (fun b hb => List.mem_cons_of_mem _ hb) x)
  obtain ⟨mc, news, δ, F, N, R, e, h1, h2, h3⟩ := x
  have nn : ∀ q ∈ news, q.1 ≠ c := fun q hq e => h1 q hq (by rw [e]; exact List.mem_cons_self ..)
  have hno : σ c = none := R.noneAt nn
  have off : ∀ {p : Addr × Obj}, p ∈ ownP wr s.heap → p.1 ∈ wr := fun hp => (mem_ownP.mp hp).1
  have three : ∀ p ∈ fz ++ (ownP wr s.heap ++ f.pin), p ∈ ownP wr s.heap ∨ p ∈ fz ++ f.pin := fun p hp => by
    rcases List.mem_append.mp hp with hp | hp
    · exact .inr (List.mem_append_left _ hp)
    · rcases List.mem_append.mp hp with hp | hp
      · exact .inl hp
      · exact .inr (List.mem_append_right _ hp)
  have keep : ∀ {b c' as'}, σ.set c (.ns as) b = some (.inst c' as') → b ≠ c ∧ σ b = some (.inst c' as') := fun {b c' as'} hb => by
    by_cases q : b = c
    · subst q; rw [AHeap.set_same] at hb; cases hb
    · rw [AHeap.set_ne _ _ q] at hb; exact ⟨q, hb⟩
  have dn : ∀ b c' as', σ b = some (.inst c' as') → δ b ≠ c := fun b c' as' hb => by obtain ⟨_, es, n, h, _⟩ := R.ob b _ hb; exact nn _ h
  have up : ∀ {p}, p ∈ news → p ∈ (c, o) :: (ownP wr s.heap ++ news) := fun h => .tail _ (List.mem_append_right _ h)
  refine ⟨hno, mc, (c, o) :: (ownP wr s.heap ++ news), δ, F, fun p hp => ?_, ⟨fun p hp => ?_, fun p hp q hq => ?_, fun b bo hb => ?_, fun b bo hb p hp => ?_, fun b c' as' hb p hp => ?_, fun b c' as' hb => ?_, fun b c' as' b' c'' bs g1 g2 => R.dinj b c' as' b' c'' bs (keep g1).2 (keep g2).2⟩, e⟩
  · rcases List.mem_cons.mp hp with rfl | hp
    · exact ⟨ho, fun q => h2 (by rw [← q]; exact List.mem_cons_self ..), h3 c (List.mem_cons_self ..)⟩
    · rcases List.mem_append.mp hp with hp | hp
      · obtain ⟨a, b⟩ := mem_ownP.mp hp
        exact ⟨b, fun q => h2 (List.mem_cons_of_mem _ (q ▸ a)), h3 _ (List.mem_cons_of_mem _ a)⟩
      · exact N p hp
  · rcases three p hp with hp | hp
    · exact .tail _ (List.mem_append_left _ hp)
    · exact up (R.sub p hp)
  · rcases List.mem_append.mp hq with hq | hq
    · exact fun q' => h1 p (R.sub p (List.mem_append_left _ hp)) (List.mem_cons_of_mem _ (q' ▸ off hq))
    · exact R.apart p hp q hq
  · by_cases q : b = c
    · subst q; rw [AHeap.set_same] at hb; cases hb; exact ⟨o, mc', List.mem_cons_self .., hn, he⟩
    · rw [AHeap.set_ne _ _ q] at hb
      exact (R.ob b bo hb).mono (fun _ _ x => x) (fun _ hm => up hm) fun _ _ eb _ hm => up hm
  · by_cases q : b = c
    · rcases three p hp with hp | hp
      · exact fun q' => hc (by rw [← q, ← q']; exact off hp)
      · rw [q]; exact nn _ (R.sub p hp)
    · rw [AHeap.set_ne _ _ q] at hb
      rcases three p hp with hp | hp
      · obtain ⟨o, ho⟩ := (R.ob b bo hb).key
        exact fun q => h1 _ ho (List.mem_cons_of_mem _ (by show b ∈ wr; rw [← q]; exact off hp))
      · exact R.off b bo hb p hp
  · rcases three p hp with hp | hp
    · obtain ⟨_, es, k, ho, _⟩ := R.ob b _ (keep hb).2
      exact fun q => h1 _ ho (List.mem_cons_of_mem _ (by show δ b ∈ wr; rw [← q]; exact off hp))
    · exact R.doff b c' as' (keep hb).2 p hp
  · rw [AHeap.set_ne _ _ (dn b c' as' (keep hb).2)]; exact R.dσ b c' as' (keep hb).2
theorem SX.unname {fz : Fz} {wr : List Addr} {s : Shared} {own : Fz} {c : Addr} {as : List (Str × AVal)} {σ' : AHeap} {k : Option (Scope × List (Str × Addr) × Addr)} (hl : ∀ b ∈ wr, ∃ o, (b, o) ∈ own) (hp : ∀ p ∈ f.pin, p.1 ∉ wr) (h2 : f.L ∉ wr) (h3 : ∀ b ∈ wr, f.h₀.get? b = none)
    (x : SR C (f.withComp k (own ++ f.pin)) fz m σ s) (hc : σ c = some (.ns as)) (hσ : σ'.le σ) (hσc : σ' c = none) : SX C f fz m σ' (c :: wr) s ∧ ∃ mc', s.heap.Ns c mc' := by
  have x' : SR C (f.withPin (own ++ f.pin)) fz m σ s := x
  have x'' := SX.unpin hl hp h2 h3 x'
  obtain ⟨mc, news, δ, F, N, R, e, g1, g2, g3⟩ := x''
  obtain ⟨o, mc', hm, hn, _⟩ := R.ob c _ hc
  have hN := N _ hm
  have inst : ∀ {a c' as'}, σ' a = some (.inst c' as') → σ a = some (.inst c' as') := fun h => hσ _ _ h
  have dc : ∀ a c' as', σ a = some (.inst c' as') → δ a ≠ c := fun a c' as' h q => by have := R.dσ a c' as' h; rw [q, hc] at this; cases this
  have keepM : ∀ {p : Addr × Obj}, p ∈ news → p.1 ≠ c → p ∈ news.filter (fun p => decide (p.1 ≠ c)) := fun h q => List.mem_filter.mpr ⟨h, by simpa using q⟩
  have ne : ∀ {a ao}, σ' a = some ao → a ≠ c := fun h q => by rw [q, hσc] at h; cases h
  refine ⟨⟨mc, news.filter (fun p => decide (p.1 ≠ c)), δ, F, fun p hp => N p (List.mem_filter.mp hp).1, ⟨fun p hp => keepM (R.sub p hp) (R.off c _ hc p hp), R.apart, fun a ao h => (R.ob a ao (hσ _ _ h)).mono (fun _ _ z => z) (fun _ q => keepM q (ne h)) fun c' as' ea _ q => keepM q (dc a c' as' (inst (ea ▸ h))), fun a ao h => R.off a ao (hσ _ _ h), fun a c' as' h => R.doff a c' as' (inst h), fun a c' as' h => ?_, fun a c' as' b c'' bs q1 q2 => R.dinj a c' as' b c'' bs (inst q1) (inst q2)⟩, e, fun p hp q => ?_, fun q => ?_, fun b hb => ?_⟩, mc', hn.ns hN.1⟩
  · cases q : σ' (δ a) with
    | none => rfl
    | some o => have := hσ _ _ q; rw [R.dσ a c' as' (inst h)] at this; cases this
  · obtain ⟨q1, q2⟩ := List.mem_filter.mp hp
    rcases List.mem_cons.mp q with q | q
    · exact (by simpa using q2 : p.1 ≠ c) q
    · exact g1 p q1 q
  · rcases List.mem_cons.mp q with q | q
    · exact hN.2.1 q.symm
    · exact g2 q
  · rcases List.mem_cons.mp hb with rfl | hb
    · exact hN.2.2
    · exact g3 b hb
theorem Fm.Ok.comp {n : Nat} {sc : Scope} {cl : List (Str × Addr)} {c : Addr} {p : Fz} (ok : f.Ok C n) (hk : sc.kind = .function) : (f.withComp (some (sc, cl, c)) p).Ok C n := ⟨ok.below, ok.kin, ok.top, ok.hk, ok.stack, ok.handled, ok.guards, ok.depth, ok.units, ok.kind, hk⟩

theorem comp_block {elt iter : Expr} {x : Str} {px : Pos} {ifs : List Expr} {scope : Scope} {cl : List (Str × Addr)} {pos : Pos} {fz₂ : Fz} {σ₂ : AHeap} {I : Addr} {wr : List Addr} {xs : List AVal} {St : Nat → Heap → Prop} {Lent : Heap → Prop} {back : AHeap → AHeap} {s₂ : Shared} {E : Value → Shared → Prop} {RR : Value → Addr → Result → Shared → Prop}
    (Inv : List AVal → List AVal → AHeap → Prop) (ok : f.Ok C n) (hcf : f.comp = none) (hcell : ∀ y ∈ scope.names, y.2 ≠ .cell) (hkind : scope.kind = .function) (hx : scope.names.lookup x = some .local)
    (x2 : SX C f fz₂ m σ₂ wr s₂) (W : Wk C f fz₂ I wr xs St Lent back) (st : St 0 s₂.heap) (hz : xs.length ≤ sizeLine) (q2 : Inv xs [] σ₂)
    (turn : ∀ pin c v xs ys σ', Inv (v :: xs) ys σ' → σ' c = none → WQ C n (f.withComp (some (scope, cl, c)) pin) ifs m (σ'.set c (.ns [(x, v)])) fun b σ₁ => if b = true then WE C n (f.withComp (some (scope, cl, c)) pin) elt m σ₁ fun y σ₂ => (∃ as, σ₂ c = some (.ns as)) ∧ ∃ σ₃ : AHeap, σ₃.le σ₂ ∧ σ₃ c = none ∧ Inv xs (ys ++ [y]) σ₃ else (∃ as, σ₁ c = some (.ns as)) ∧ ∃ σ₃ : AHeap, σ₃.le σ₁ ∧ σ₃ c = none ∧ Inv xs ys σ₃)
    (done : ∀ c D fz' σ' ys vs k h tk mc', (∀ p ∈ fz₂, p ∈ fz') → SX C f fz' m σ' (c :: D :: wr) { s₂ with heap := h, toks := tk } → c ∉ wr → D ∉ wr → c ≠ D → h.Ns c mc' → h.get? D = some (listOf vs.toArray k) → Vs (At C fz') vs ys → Lent h → Inv [] ys σ' → RR (.ref D) c (.ok .next) { s₂ with heap := h, toks := tk }) :
    wpAny (Md C) f.A (newList []) (fun acc s₃ => wpAny (Md C) f.A (newFunctionEnv scope f.env.globals cl [] f.env.qual none .none (some f.env)) (fun cenv s₄ =>
      codeAny (Md C) f.A (.compStart (.ListComp elt [⟨.Name x px, iter, ifs, 0⟩] scope pos) 0 (.ref I) acc { cenv with scope := relabel scope f.env }) (RR acc cenv.locals) s₄) E s₃) E s₂ := by
  have hfe : f.env = f.fenv := by unfold Fm.env; rw [hcf]
  refine wpAny_newObj_type (wpAny_newFunctionEnv hcell (by intro y hy; simp at hy) (fun h₁ hns₁ hsb₁ => ?_) hkind)
  dsimp only at hns₁ hsb₁ ⊢
  generalize hH2 : s₂.heap.push { cls := .type "list", dict := none, data := .seq ([] : List Value).toArray } = H2 at hns₁ hsb₁ ⊢
  have hC : H2.objs.size = s₂.heap.objs.size + 1 := by rw [← hH2, Heap.size_push]
  have hDC : s₂.heap.objs.size ≠ H2.objs.size := by rw [hC]; exact Nat.ne_of_lt (Nat.lt_succ_self _)
  have below : ∀ b, b < s₂.heap.objs.size → b ≠ H2.objs.size ∧ b ≠ s₂.heap.objs.size := fun b hb => ⟨by rw [hC]; exact Nat.ne_of_lt (Nat.lt_succ_of_lt hb), Nat.ne_of_lt hb⟩
  have old : ∀ b o, s₂.heap.get? b = some o → h₁.get? b = some o := fun b o e => hsb₁.extBut b o (below b (Heap.lt_size e)).1 (Heap.get?_push_of_some _ (hH2 ▸ Heap.get?_push_of_some _ e))
  have hacc : h₁.get? s₂.heap.objs.size = some (listOf ([] : List Value).toArray 0) := hsb₁.extBut _ _ hDC (Heap.get?_push_of_some _ (hH2 ▸ Heap.get?_push_size _ rfl))
  generalize hD : s₂.heap.objs.size = D at *
  generalize hCc : H2.objs.size = c at *
  have wlt : ∀ b ∈ wr, b < D := fun b hb => by obtain ⟨o, ho⟩ := W.live _ _ st b hb; rw [← hD]; exact Heap.lt_size ho
  have hDw : D ∉ wr := fun q => Nat.lt_irrefl _ (wlt _ q)
  have hcw : c ∉ wr := fun q => by exact absurd (wlt _ q) (by rw [hC]; exact Nat.not_lt.mpr (Nat.le_succ _))
  have hst₁ : St 0 h₁ := W.frame _ _ _ st (fun b _ o e => old b o e) fun b o q => by
    rcases q with q | q
    · exact old _ _ (x2.sr.at_ ok q)
    · obtain ⟨mc, news, δ, F, N, R, e, _⟩ := x2
      exact old _ _ (N _ (R.sub _ (List.mem_append_right _ q))).1
  have x3 : SX C f fz₂ m σ₂ (c :: D :: wr) { s₂ with heap := h₁, toks := s₂.toks + ([] : List (Str × Value)).length } := x2.wide (t := s₂.toks + ([] : List (Str × Value)).length) [c, D] old (fun b hb => by
    rcases List.mem_cons.mp hb with rfl | hb
    · rw [hC, hD]; exact Nat.le_succ _
    · rw [List.mem_singleton.mp hb, hD]; exact Nat.le_refl _)
  have hpin : ∀ p ∈ f.pin, p.1 ∉ D :: wr := by
    obtain ⟨mc, news, δ, F, N, R, e, h1, h2, h3⟩ := x3
    exact fun p hp q => h1 p (R.sub p (List.mem_append_right _ hp)) (List.mem_cons_of_mem _ q)
  have hL : f.L ∉ D :: wr := by obtain ⟨mc, news, δ, F, N, R, e, h1, h2, h3⟩ := x3; exact fun q => h2 (List.mem_cons_of_mem _ q)
  have h0 : ∀ b ∈ D :: wr, f.h₀.get? b = none := by obtain ⟨mc, news, δ, F, N, R, e, h1, h2, h3⟩ := x3; exact fun b hb => h3 b (List.mem_cons_of_mem _ hb)
  have hcD : c ∉ D :: wr := fun q => by
    rcases List.mem_cons.mp q with q | q
    · exact hDC q.symm
    · exact hcw q
  have loop : ∀ s₃ : Shared, s₃ = { s₂ with heap := h₁, toks := s₂.toks + ([] : List (Str × Value)).length } →
      codeAny (Md C) f.A (.compLoop (.ListComp elt [⟨.Name x px, iter, ifs, 0⟩] scope pos) 0 (.ref I) (.ref D) (compEnvC scope cl c f.env)) (RR (.ref D) c) s₃ := by
    rintro s₃ rfl
    refine codeAny_compLoop_tests (fun k s' => ∃ fz' σ' i h tk ys vs kk mc', s' = { s₂ with heap := h, toks := tk } ∧ (∀ p ∈ fz₂, p ∈ fz') ∧ SX C f fz' m σ' (c :: D :: wr) s' ∧ h.Ns c mc' ∧ h.get? D = some (listOf vs.toArray kk) ∧ Vs (At C fz') vs ys ∧ ys.length ≤ i ∧ St i h ∧ Inv (xs.drop i) ys σ' ∧ i ≤ xs.length ∧ k = xs.length - i) ?_ xs.length
      ⟨fz₂, σ₂, 0, h₁, _, [], [], 0, _, rfl, sub_refl, x3, hns₁, hacc, .nil, Nat.le_refl _, hst₁, q2, Nat.zero_le _, rfl⟩
    rintro k s' ⟨fz', σ', i, h, tk, ys, vs, kk, mc', rfl, u3, x4, hns, hD4, hvs, hyl, st4, q4, hi, rfl⟩
    cases hxi : xs[i]? with
    | none =>
      have hlen : i = xs.length := by have := List.getElem?_eq_none_iff.mp hxi; omega
      subst hlen
      refine W.done _ _ _ st4 fun h' tk' kp hl => ?_
      rw [List.drop_length] at q4
      exact done c D fz' σ' ys vs kk h' tk' mc' u3 (x4.step (t := tk') fun b o hb e => kp b o (fun q => hb (List.mem_cons_of_mem _ (List.mem_cons_of_mem _ q))) e) hcw hDw (Ne.symm hDC) (hns.at' fun o e => kp _ o hcw e) (kp _ _ hDw hD4) hvs hl q4
    | some b =>
      obtain ⟨hlt, hb⟩ := List.getElem?_eq_some_iff.mp hxi
      have hd : xs.drop i = b :: xs.drop (i + 1) := by rw [List.drop_eq_getElem_cons hlt, hb]
      rw [hd] at q4
      refine W.go i _ _ _ b hxi st4 fun v h₂ tk₂ hv st5 kp => ?_
      refine wpAny_assign_Name (wpAny_storeName_local (lookup_relabel_local hx) (hns.at' fun o e => kp _ o hcw e) (fun h₃ hn₃ hs₃ => ?_) (by simp [compEnvC, relabel, hkind]))
      have x5 : SX C f fz' m σ' (c :: D :: wr) { s₂ with heap := h₃, toks := tk₂ + 1 } := x4.step (t := tk₂ + 1) fun b o hb e => hs₃.extBut b o (fun q => hb (by rw [q]; exact List.mem_cons_self ..)) (kp b o (fun q => hb (List.mem_cons_of_mem _ (List.mem_cons_of_mem _ q))) e)
      have hD5 : h₃.get? D = some (listOf vs.toArray kk) := hs₃.extBut _ _ hDC (kp _ _ hDw hD4)
      have st6 : St (i + 1) h₃ := by
        refine W.frame _ _ _ st5 (fun b hb o e => hs₃.extBut b o (fun q => hcw (by have q' : b = c := q; rw [← q']; exact hb)) e) fun b o q => ?_
        rcases q with q | q
        · exact x5.sr.at_ ok (q.mono u3)
        · obtain ⟨mc, news, δ, F, N, R, e, _⟩ := x5
          exact (N _ (R.sub _ (List.mem_append_right _ q))).1
      have he : ER (At C fz') [(x, b)] (fun y => if y = x then some v else mc' y) := fun y a hy => by
        unfold getA at hy
        by_cases q : (x == y) = true
        · rw [if_pos q] at hy; cases hy
          have : x = y := by simpa using q
          exact ⟨v, if_pos this.symm, hv.up u3⟩
        · rw [if_neg q] at hy; cases hy
      obtain ⟨hcn, x6⟩ := SX.names (k := some (scope, cl, c)) x5 hcD hn₃ he
      have hee : compEnvC scope cl c f.env = (f.withComp (some (scope, cl, c)) (ownP (D :: wr) h₃ ++ f.pin)).env := by rw [hfe]
      have live : ∀ b ∈ D :: wr, ∃ o, (b, o) ∈ ownP (D :: wr) h₃ := fun b hb => by
        rcases List.mem_cons.mp hb with rfl | hb'
        · exact ⟨_, mem_ownP.mpr ⟨hb, hD5⟩⟩
        · obtain ⟨o, ho⟩ := W.live _ _ st6 b hb'; exact ⟨o, mem_ownP.mpr ⟨hb, ho⟩⟩
      have after : ∀ {fz₇ σ₇ s₇}, (∀ p ∈ fz', p ∈ fz₇) → SR C (f.withComp (some (scope, cl, c)) (ownP (D :: wr) h₃ ++ f.pin)) fz₇ m σ₇ s₇ → St (i + 1) s₇.heap ∧ s₇.heap.get? D = some (listOf vs.toArray kk) := by
        intro fz₇ σ₇ s₇ u7 x7
        have pinned : ∀ {b o}, (b, o) ∈ ownP (D :: wr) h₃ ++ f.pin → s₇.heap.get? b = some o := fun {b o} hm => by
          obtain ⟨mc, news, δ, F, N, R, e⟩ := x7
          exact (N _ (R.sub _ (List.mem_append_right _ hm))).1
        refine ⟨W.frame _ _ _ st6 (fun b hb o ho => pinned (List.mem_append_left _ (mem_ownP.mpr ⟨List.mem_cons_of_mem _ hb, ho⟩))) fun b o q => ?_, pinned (List.mem_append_left _ (mem_ownP.mpr ⟨List.mem_cons_self .., hD5⟩))⟩
        rcases q with q | q
        · exact x7.at_ (ok.comp hkind) ((q.mono u3).mono u7)
        · exact pinned (List.mem_append_right _ q)
      rw [hee]
      refine wpAny_mono (turn (ownP (D :: wr) h₃ ++ f.pin) c b _ ys σ' q4 hcn (ok.comp hkind) fz' _ _ x6) (fun bb s₇ ⟨fz₇, σ₇, u7, e7, x7, q7⟩ => ?_) fun _ _ x => x
      cases bb with
      | false =>
        rw [if_neg (by decide)] at q7 ⊢
        obtain ⟨⟨as, has⟩, σ₃, hle, hσc, q7⟩ := q7
        obtain ⟨x8, mc8, hn8⟩ := SX.unname live hpin hL h0 x7 has hle hσc
        obtain ⟨st8, hD8⟩ := after u7 x7
        obtain ⟨hh, tt, ee⟩ := e7
        subst ee
        exact ⟨xs.length - (i + 1), by omega, fz₇, σ₃, i + 1, hh, tt, ys, vs, kk, mc8, rfl, fun p hp => u7 p (u3 p hp), x8, hn8, hD8, hvs.up u7, by omega, st8, q7, hlt, rfl⟩
      | true =>
        rw [if_pos rfl] at q7 ⊢
        refine wpAny_mono (q7 (ok.comp hkind) fz₇ s₇ _ x7) (fun y s₈ ⟨fz₈, σ₈, ya, u8, e8, x8, vy, q8⟩ => ?_) fun _ _ x => x
        obtain ⟨⟨as, has⟩, σ₃, hle, hσc, q8⟩ := q8
        obtain ⟨x9, mc9, hn9⟩ := SX.unname live hpin hL h0 x8 has hle hσc
        obtain ⟨st9, hD9⟩ := after (fun p hp => u8 p (u7 p hp)) x8
        obtain ⟨hh, tt, ee⟩ := e7.trans e8
        subst ee
        refine append_at (hsz := by rw [List.size_toArray, hvs.length]; omega) hD9 fun h₅ hs₅ hD₅ => ?_
        refine ⟨xs.length - (i + 1), by omega, fz₈, σ₃, i + 1, h₅, tt, ys ++ [ya], vs ++ [y], kk + 1, mc9, rfl, fun p hp => u8 p (u7 p (u3 p hp)), x9.step (t := tt) fun b o hb e => hs₅.extBut b o (fun q => hb (by rw [q]; exact List.mem_cons_of_mem _ (List.mem_cons_self ..))) e, hn9.sameBut hs₅ (Ne.symm hDC), by simpa using hD₅, ((hvs.up u7).up u8).append (.cons vy .nil), by simp; omega, ?_, q8, hlt, rfl⟩
        refine W.frame _ _ _ st9 (fun b hb o e => hs₅.extBut b o (fun q => hDw (q ▸ hb)) e) fun b o q => ?_
        have ne : b ≠ D := fun e => by
          rcases q with q | q
          · rcases q with q | q
            · obtain ⟨mc, news, δ, F, N, R, e', g1, g2, g3⟩ := x2.wide (t := s₂.toks) [c, D] old (fun b hb => by
                rcases List.mem_cons.mp hb with rfl | hb
                · rw [hC, hD]; exact Nat.le_succ _
                · rw [List.mem_singleton.mp hb, hD]; exact Nat.le_refl _)
              exact g1 _ (R.sub _ (List.mem_append_left _ q)) (by rw [e]; exact List.mem_cons_of_mem _ (List.mem_cons_self ..))
            · have := ok.hk _ _ q; rw [e, h0 D (List.mem_cons_self ..)] at this; cases this
          · exact hpin _ q (by rw [e]; exact List.mem_cons_self ..)
        have : hh.get? b = some o := by
          rcases q with q | q
          · exact x8.at_ (ok.comp hkind) (((q.mono u3).mono u7).mono u8)
          · obtain ⟨mc, news, δ, F, N, R, e⟩ := x8
            exact (N _ (R.sub _ (List.mem_append_right _ (List.mem_append_right _ q)))).1
        exact hs₅.extBut b o ne this
  exact codeAny_compStart_list (loop _ rfl) (W.self 0 _ _ _ hst₁ (loop _ rfl))

/-- a row built from a walk: as a value -/
theorem we_compB {elt iter : Expr} {x : Str} {px : Pos} {ifs : List Expr} {scope : Scope} {cl : List (Str × Addr)} {pos : Pos} {Q : AVal → AHeap → Prop} (Inv : (AHeap → AHeap) → List AVal → List AVal → AHeap → Prop)
    (hclos : closureFor scope f.env = pure cl)
    (h : WI C n f iter m σ fun back xs σ₂ => xs.length ≤ sizeLine ∧ Inv back xs [] σ₂)
    (turn : ∀ back pin c v xs ys σ', Inv back (v :: xs) ys σ' → σ' c = none → WQ C n (f.withComp (some (scope, cl, c)) pin) ifs m (σ'.set c (.ns [(x, v)])) fun b σ₁ => if b = true then WE C n (f.withComp (some (scope, cl, c)) pin) elt m σ₁ fun y σ₂ => (∃ as, σ₂ c = some (.ns as)) ∧ ∃ σ₃ : AHeap, σ₃.le σ₂ ∧ σ₃ c = none ∧ Inv back xs (ys ++ [y]) σ₃ else (∃ as, σ₁ c = some (.ns as)) ∧ ∃ σ₃ : AHeap, σ₃.le σ₁ ∧ σ₃ c = none ∧ Inv back xs ys σ₃)
    (done : ∀ back ys σ', Inv back [] ys σ' → Q (.lst ys) (back σ'))
    (hcf : f.comp = none := by rfl) (hcell : ∀ y ∈ scope.names, y.2 ≠ .cell := by decide) (hkind : scope.kind = .function := by rfl) (hnames : ∀ y ∈ scope.names, y.2 = .local → scope.names.lookup y.1 = some .local := by decide) (hx : scope.names.lookup x = some .local := by rfl)
    (hs : ∀ x, foldedSetIterable iter f.env x = pure x := by intro _; rfl) : WE C n f (.ListComp elt [⟨.Name x px, iter, ifs, 0⟩] scope pos) m σ Q := fun ok fz s E x0 => by
  rw [eval_ListComp]
  refine wpAny_comprehension_free (use := none) rfl hs hclos hkind hnames (wpAny_mono (h ok fz s E x0) (fun v s₁ q1 => wpAny_mono q1 (fun it s₂ ⟨fz₂, σ₂, I, wr, xs, St, Lent, back, ei, u2, e2, x2, W, st, hz, q2⟩ => ?_) fun _ _ x => x) fun _ _ x => x)
  subst ei
  refine comp_block (RR := fun acc c => compPost (Md C) f.A E none (PV C f m fz s Q) acc c) (Inv back) ok hcf hcell hkind hx x2 W st hz q2 (fun pin c v xs ys σ' => turn back pin c v xs ys σ') ?_
  intro c D fz' σ' ys vs k h tk mc' u3 x3 hcw hDw hcD hns hD hvs hl q3
  refine ⟨mc', hns, fun h'' hs'' => ?_⟩
  have hk : ∀ b o, b ∉ c :: D :: wr → h.get? b = some o → h''.get? b = some o := fun b o hb e => hs''.extBut b o (fun q => hb (by rw [q]; exact List.mem_cons_self ..)) e
  have x4 : SX C f fz' m σ' (c :: D :: wr) { s₂ with heap := h'', toks := tk } := x3.step (t := tk) hk
  have x5 : SX C f fz' m σ' (D :: wr) { s₂ with heap := h'', toks := tk } := x4.sub fun b hb => List.mem_cons_of_mem _ hb
  have hD' : h''.get? D = some (listOf vs.toArray k) := hs''.extBut _ _ (Ne.symm hcD) hD
  have x6 := x5.ice hDw hD'
  have x7 := W.back _ _ _ _ (fun p hp => List.mem_append_right _ (u3 p hp)) x6 (W.lentF _ _ hl fun b hb o e => hs''.extBut b o (fun q => hcw (q ▸ hb)) e)
  exact ⟨_, _, .lst ys, fun p hp => List.mem_append_right _ (u3 p (u2 p hp)), e2.trans ⟨_, _, rfl⟩, x7, .lst (.inl (List.mem_append_left _ (List.mem_singleton.mpr rfl))) rfl rfl (hvs.up fun p hp => List.mem_append_right _ hp), done _ _ _ q3⟩
/-- a row built from a walk: as a list that may change -/
theorem we_compM {elt iter : Expr} {x : Str} {px : Pos} {ifs : List Expr} {scope : Scope} {cl : List (Str × Addr)} {pos : Pos} {Q : AVal → AHeap → Prop} (Inv : (AHeap → AHeap) → List AVal → List AVal → AHeap → Prop)
    (hclos : closureFor scope f.env = pure cl)
    (h : WI C n f iter m σ fun back xs σ₂ => xs.length ≤ sizeLine ∧ Inv back xs [] σ₂)
    (turn : ∀ back pin c v xs ys σ', Inv back (v :: xs) ys σ' → σ' c = none → WQ C n (f.withComp (some (scope, cl, c)) pin) ifs m (σ'.set c (.ns [(x, v)])) fun b σ₁ => if b = true then WE C n (f.withComp (some (scope, cl, c)) pin) elt m σ₁ fun y σ₂ => (∃ as, σ₂ c = some (.ns as)) ∧ ∃ σ₃ : AHeap, σ₃.le σ₂ ∧ σ₃ c = none ∧ Inv back xs (ys ++ [y]) σ₃ else (∃ as, σ₁ c = some (.ns as)) ∧ ∃ σ₃ : AHeap, σ₃.le σ₁ ∧ σ₃ c = none ∧ Inv back xs ys σ₃)
    (done : ∀ back ys σ' D, Inv back [] ys σ' → σ' D = none → Q (.obj D) (back (σ'.set D (.list ys))))
    (hcf : f.comp = none := by rfl) (hcell : ∀ y ∈ scope.names, y.2 ≠ .cell := by decide) (hkind : scope.kind = .function := by rfl) (hnames : ∀ y ∈ scope.names, y.2 = .local → scope.names.lookup y.1 = some .local := by decide) (hx : scope.names.lookup x = some .local := by rfl)
    (hs : ∀ x, foldedSetIterable iter f.env x = pure x := by intro _; rfl) : WE C n f (.ListComp elt [⟨.Name x px, iter, ifs, 0⟩] scope pos) m σ Q := fun ok fz s E x0 => by
  rw [eval_ListComp]
  refine wpAny_comprehension_free (use := none) rfl hs hclos hkind hnames (wpAny_mono (h ok fz s E x0) (fun v s₁ q1 => wpAny_mono q1 (fun it s₂ ⟨fz₂, σ₂, I, wr, xs, St, Lent, back, ei, u2, e2, x2, W, st, hz, q2⟩ => ?_) fun _ _ x => x) fun _ _ x => x)
  subst ei
  refine comp_block (RR := fun acc c => compPost (Md C) f.A E none (PV C f m fz s Q) acc c) (Inv back) ok hcf hcell hkind hx x2 W st hz q2 (fun pin c v xs ys σ' => turn back pin c v xs ys σ') ?_
  intro c D fz' σ' ys vs k h tk mc' u3 x3 hcw hDw hcD hns hD hvs hl q3
  refine ⟨mc', hns, fun h'' hs'' => ?_⟩
  have hk : ∀ b o, b ∉ c :: D :: wr → h.get? b = some o → h''.get? b = some o := fun b o hb e => hs''.extBut b o (fun q => hb (by rw [q]; exact List.mem_cons_self ..)) e
  have x4 : SX C f fz' m σ' (c :: D :: wr) { s₂ with heap := h'', toks := tk } := x3.step (t := tk) hk
  have x5 : SX C f fz' m σ' (D :: wr) { s₂ with heap := h'', toks := tk } := x4.sub fun b hb => List.mem_cons_of_mem _ hb
  have hD' : h''.get? D = some (listOf vs.toArray k) := hs''.extBut _ _ (Ne.symm hcD) hD
  obtain ⟨hno, x6⟩ := x5.thaw hDw hD' hvs
  have x7 := W.back _ _ _ _ u3 x6 (W.lentF _ _ hl fun b hb o e => hs''.extBut b o (fun q => hcw (q ▸ hb)) e)
  exact ⟨_, _, .obj D, fun p hp => u3 p (u2 p hp), e2.trans ⟨_, _, rfl⟩, x7, .obj D, done _ _ _ _ q3 hno⟩
/-- a row built from a walk, under a name at once -/
theorem w1_assignComp {elt iter : Expr} {x y : Str} {px py : Pos} {ifs : List Expr} {scope : Scope} {cl : List (Str × Addr)} {pos spos : Pos} {Q : AFlow → AEnv → AHeap → Prop} (Inv : List AVal → List AVal → AHeap → Prop)
    (hclos : closureFor scope f.env = pure cl)
    (h : WI C n f iter m σ fun back xs σ₂ => back = id ∧ xs.length ≤ sizeLine ∧ Inv xs [] σ₂)
    (turn : ∀ pin c v xs ys σ', Inv (v :: xs) ys σ' → σ' c = none → WQ C n (f.withComp (some (scope, cl, c)) pin) ifs m (σ'.set c (.ns [(x, v)])) fun b σ₁ => if b = true then WE C n (f.withComp (some (scope, cl, c)) pin) elt m σ₁ fun y σ₂ => (∃ as, σ₂ c = some (.ns as)) ∧ ∃ σ₃ : AHeap, σ₃.le σ₂ ∧ σ₃ c = none ∧ Inv xs (ys ++ [y]) σ₃ else (∃ as, σ₁ c = some (.ns as)) ∧ ∃ σ₃ : AHeap, σ₃.le σ₁ ∧ σ₃ c = none ∧ Inv xs ys σ₃)
    (done : ∀ pin ys σ', Inv [] ys σ' → TS C n (f.withPin pin) y (.lst ys) m σ' fun m' σ'' => Q .next m' σ'')
    (hsw : swapsWith (.ListComp elt [⟨.Name x px, iter, ifs, 0⟩] scope pos) (some (.Name y py)) spos.line f.env = pure true := by rfl)
    (hcf : f.comp = none := by rfl) (hcell : ∀ y ∈ scope.names, y.2 ≠ .cell := by decide) (hkind : scope.kind = .function := by rfl) (hnames : ∀ y ∈ scope.names, y.2 = .local → scope.names.lookup y.1 = some .local := by decide) (hx : scope.names.lookup x = some .local := by rfl)
    (hs : ∀ x, foldedSetIterable iter f.env x = pure x := by intro _; rfl) : W1 C n f (.Assign [.Name y py] (.ListComp elt [⟨.Name x px, iter, ifs, 0⟩] scope pos) spos) m σ Q := fun ok fz s E x0 => by
  rw [exec_Assign_Name_used _ _ _ _ hsw]
  refine wpAny_bind (wpAny_standAt (wpAny_bind ?_))
  show wpAny _ f.A (do let _ ← comprehension (.ListComp elt [⟨.Name x px, iter, ifs, 0⟩] scope pos) scope f.env _ (newList []) false (eval iter f.env) (some (assign (.Name y py) f.env))) _ _ s
  refine wpAny_bind (wpAny_mono (wpAny_comprehension_free (use := some (assign (.Name y py) f.env)) (Q := fun _ s' => PS C f fz s Q .next s') rfl hs hclos hkind hnames
    (wpAny_mono (h ok fz s E x0) (fun v s₁ q1 => wpAny_mono q1 (fun it s₂ ⟨fz₂, σ₂, I, wr, xs, St, Lent, back, ei, u2, e2, x2, W, st, eb, hz, q2⟩ => ?_) fun _ _ x => x) fun _ _ x => x)) (fun _ s' hq => wpAny_pure (wpAny_pure hq)) fun _ _ e => e)
  subst ei
  refine comp_block (RR := fun acc c => compPost (Md C) f.A E (some (assign (.Name y py) f.env)) (fun _ s' => PS C f fz s Q .next s') acc c) Inv ok hcf hcell hkind hx x2 W st hz q2 turn ?_
  intro c D fz' σ' ys vs k h tk mc' u3 x3 hcw hDw hcD hns hD hvs hl q3
  obtain ⟨oc, hoc, hnc⟩ := LCg.ns_obj hns
  have x6 : SX C f ([(D, listOf vs.toArray k)] ++ fz') m σ' (c :: wr) { s₂ with heap := h, toks := tk } := by
    have x5 : SX C f fz' m σ' (D :: c :: wr) { s₂ with heap := h, toks := tk } := x3.sub fun b hb => by
      rcases List.mem_cons.mp hb with rfl | hb
      · exact List.mem_cons_of_mem _ (List.mem_cons_self ..)
      · rcases List.mem_cons.mp hb with rfl | hb
        · exact List.mem_cons_self ..
        · exact List.mem_cons_of_mem _ (List.mem_cons_of_mem _ hb)
    exact x5.ice (fun q => by rcases List.mem_cons.mp q with q | q; exact hcD q.symm; exact hDw q) hD
  have hpin : ∀ p ∈ f.pin, p.1 ∉ [c] := by
    obtain ⟨mc, news, δ, F, N, R, e, h1, h2, h3⟩ := x6
    exact fun p hp q => h1 p (R.sub p (List.mem_append_right _ hp)) (by rw [List.mem_singleton.mp q]; exact List.mem_cons_self ..)
  have hcL : f.L ∉ [c] := by
    obtain ⟨mc, news, δ, F, N, R, e, h1, h2, h3⟩ := x6
    exact fun q => h2 (by rw [List.mem_singleton.mp q]; exact List.mem_cons_self ..)
  have hc0 : ∀ b ∈ [c], f.h₀.get? b = none := by
    obtain ⟨mc, news, δ, F, N, R, e, h1, h2, h3⟩ := x6
    exact fun b q => h3 b (by rw [List.mem_singleton.mp q]; exact List.mem_cons_self ..)
  have x7 : SX C f ([(D, listOf vs.toArray k)] ++ fz') m σ' [c] { s₂ with heap := h, toks := tk } := x6.sub fun b hb => by rw [List.mem_singleton.mp hb]; exact List.mem_cons_self ..
  have x8 := x7.pin
  refine wpAny_assign_Name (wpAny_mono (done (ownP [c] h ++ f.pin) _ _ q3 ok.pin _ _ _ _ x8 (.lst (.inl (List.mem_append_left _ (List.mem_singleton.mpr rfl))) rfl rfl (hvs.up fun p hp => List.mem_append_right _ hp))) (fun _ s₈ ⟨fz₈, σ₈, m₈, u8, e8, x9, q9⟩ => ?_) fun _ _ x => x)
  have hoc8 : s₈.heap.get? c = some oc := by
    obtain ⟨mc, news, δ, F, N, R, e⟩ := x9
    exact (N _ (R.sub _ (List.mem_append_right _ (List.mem_append_left _ ((mem_ownP (p := (c, oc))).mpr ⟨List.mem_singleton.mpr rfl, hoc⟩))))).1
  have x10 : SX C f fz₈ m₈ σ₈ [c] s₈ := SX.unpin (own := ownP [c] h) (fun b hb => by rw [List.mem_singleton.mp hb]; exact ⟨oc, mem_ownP.mpr ⟨List.mem_singleton.mpr rfl, hoc⟩⟩) hpin hcL hc0 x9
  refine ⟨mc', hnc.ns hoc8, fun h'' hs'' => ?_⟩
  have x11 := x10.step (t := s₈.toks) (h' := h'') fun b o hb e => hs''.extBut b o (fun q => hb (by rw [q]; exact List.mem_singleton.mpr rfl)) e
  exact ⟨fz₈, σ₈, m₈, .next, fun p hp => u8 p (List.mem_append_right _ (u3 p (u2 p hp))), (e2.trans (Same.trans ⟨_, _, rfl⟩ e8)).trans ⟨_, _, rfl⟩, x11.sr, trivial, q9⟩
end
end Mine

open PySem PySem.W PyProof.Rows PySem.Calls
namespace Mine
section
variable {C : Cx} {n : Nat} {f : Fm} {m : AEnv} {σ : AHeap}
theorem HR.addThing {fz pin : Fz} {δ : Addr → Addr} {news : List (Addr × Obj)} {D : Addr} {o : Obj} {ao : AObj} (R : HR C fz pin σ δ news) (hn : ∀ c as, ao ≠ .inst c as) (nn : ∀ q ∈ news, q.1 ≠ D) (hr : ∀ news d, (D, o) ∈ news → OR (At C fz) news d D ao) : HR C fz pin (σ.set D ao) δ ((D, o) :: news) := by
  have keep : ∀ {b c as}, σ.set D ao b = some (.inst c as) → b ≠ D ∧ σ b = some (.inst c as) := fun {b c as} hb => by
    by_cases q : b = D
    · subst q; rw [AHeap.set_same] at hb; exact absurd (Option.some.inj hb) (hn _ _)
    · rw [AHeap.set_ne _ _ q] at hb; exact ⟨q, hb⟩
  have dn : ∀ b c as, σ b = some (.inst c as) → δ b ≠ D := fun b c as hb => by obtain ⟨_, es, n, h, _⟩ := R.ob b _ hb; exact nn _ h
  refine ⟨fun p hp => .tail _ (R.sub p hp), R.apart, fun b bo hb => ?_, fun b bo hb p hp => ?_, fun b c as hb p hp => R.doff b c as (keep hb).2 p hp, fun b c as hb => ?_, fun b c as b' c' bs h1 h2 => R.dinj b c as b' c' bs (keep h1).2 (keep h2).2⟩
  · by_cases q : b = D
    · subst q; rw [AHeap.set_same] at hb; cases hb; exact hr _ _ (List.mem_cons_self ..)
    · rw [AHeap.set_ne _ _ q] at hb
      exact (R.ob b bo hb).mono (fun _ _ x => x) (fun _ hm => .tail _ hm) fun c as eb _ hm => .tail _ hm
  · by_cases q : b = D
    · subst q; exact nn _ (R.sub p hp)
    · rw [AHeap.set_ne _ _ q] at hb; exact R.off b bo hb p hp
  · rw [AHeap.set_ne _ _ (dn b c as (keep hb).2)]; exact R.dσ b c as (keep hb).2

/-! ## a def of the text, with cells -/
def cellS (cm : Str → Option AVal) : List (Str × Addr) → AHeap → AHeap
  | [], σ => σ
  | (y, c) :: r, σ => (cellS cm r σ).set c (.cell (cm y))
theorem HR.addCells {fz pin : Fz} {δ : Addr → Addr} {news : List (Addr × Obj)} {cm : Str → Option Value} {acm : Str → Option AVal} (R : HR C fz pin σ δ news) :
    ∀ {cs : List (Str × Addr)} {cells : List (Addr × Obj)}, CellsAre cm cs cells → (cs.map (·.2)).Nodup → (∀ p ∈ cs, ∀ q ∈ news, q.1 ≠ p.2) → (∀ p ∈ cs, (cm p.1 = none ∧ acm p.1 = none) ∨ ∃ v a, cm p.1 = some v ∧ acm p.1 = some a ∧ V (At C fz) v a) → HR C fz pin (cellS acm cs σ) δ (cells ++ news)
  | _, _, .nil, _, _, _ => R
  | _, _, .cons (n := y) (c := c) (o := o) (cs := cs) (cells := cells) hd r, hnd, hoff, hval => by
    have hnd' := List.nodup_cons.mp (by simpa using hnd : (c :: cs.map (·.2)).Nodup)
    have ih := R.addCells r hnd'.2 (fun p hp => hoff p (List.mem_cons_of_mem _ hp)) (fun p hp => hval p (List.mem_cons_of_mem _ hp))
    have keys : ∀ {cs : List (Str × Addr)} {cells : List (Addr × Obj)}, CellsAre cm cs cells → ∀ q ∈ cells, q.1 ∈ cs.map (·.2) := by
      intro cs cells h
      induction h with
      | nil => intro q hq; cases hq
      | cons _ _ ih =>
        intro q hq
        rcases List.mem_cons.mp hq with rfl | hq
        · exact List.mem_cons_self ..
        · exact List.mem_cons_of_mem _ (ih q hq)
    refine ih.addThing (ao := .cell (acm y)) (fun _ _ => nofun) (fun q hq e => ?_) fun news d hm => ?_
    · rcases List.mem_append.mp hq with hq | hq
      · exact hnd'.1 (by rw [← e]; exact keys r q hq)
      · exact hoff (y, c) (List.mem_cons_self ..) q hq e
    · rcases hval (y, c) (List.mem_cons_self ..) with ⟨h1, h2⟩ | ⟨v, a, h1, h2, h3⟩
      · have h1' : cm y = none := h1
        have h2' : acm y = none := h2
        rw [h2']; exact ⟨o, hm, by rw [hd, h1']⟩
      · have h1' : cm y = some v := h1
        have h2' : acm y = some a := h2
        rw [h2']; exact ⟨o, v, hm, by rw [hd, h1'], h3⟩
theorem cellsFrom_nd : ∀ (names : List (Str × NameKind)) (k : Nat) (acc : List (Str × Addr)), (acc.map (·.2)).Nodup → (∀ p ∈ acc, p.2 < k) → ((cellsFrom k names acc).map (·.2)).Nodup ∧ ∀ p ∈ cellsFrom k names acc, p ∈ acc ∨ k ≤ p.2
  | [], _, acc, h, _ => ⟨h, fun p hp => .inl hp⟩
  | (y, kd) :: r, k, acc, h, hl => by
    unfold cellsFrom
    by_cases hk : (kd == .cell) = true
    · rw [if_pos hk]
      obtain ⟨h1, h2⟩ := cellsFrom_nd r (k + 1) ((y, k) :: acc) (by
        rw [List.map_cons, List.nodup_cons]
        refine ⟨fun hm => ?_, h⟩
        obtain ⟨p, hp, e⟩ := List.mem_map.mp hm
        have := hl p hp
        have e' : p.2 = k := e
        rw [e'] at this
        exact Nat.lt_irrefl _ this) (fun p hp => by
        rcases List.mem_cons.mp hp with rfl | hp
        · exact Nat.lt_succ_self _
        · exact Nat.lt_succ_of_lt (hl p hp))
      refine ⟨h1, fun p hp => ?_⟩
      rcases h2 p hp with q | q
      · rcases List.mem_cons.mp q with rfl | q
        · exact .inr (Nat.le_refl _)
        · exact .inl q
      · exact .inr (Nat.le_of_succ_le q)
    · rw [if_neg hk]; exact cellsFrom_nd r k acc h hl
theorem bindL_off {kd : Str → Option NameKind} {y : Str} : ∀ {b : List (Str × Value)} {m : Str → Option Value}, y ∉ b.map (·.1) → bindL kd b m y = m y
  | [], _, _ => rfl
  | (z, v) :: r, m, h => by
    unfold bindL
    have h1 : y ≠ z := fun e => h (by rw [e]; exact List.mem_cons_self ..)
    rw [bindL_off fun q => h (List.mem_cons_of_mem _ q)]
    split
    · exact if_neg h1
    · rfl
theorem bindC_off {kd : Str → Option NameKind} {y : Str} : ∀ {b : List (Str × Value)} {m : Str → Option Value}, y ∉ b.map (·.1) → bindC kd b m y = m y
  | [], _, _ => rfl
  | (z, v) :: r, m, h => by
    unfold bindC
    have h1 : y ≠ z := fun e => h (by rw [e]; exact List.mem_cons_self ..)
    rw [bindC_off fun q => h (List.mem_cons_of_mem _ q)]
    split
    · rfl
    · exact if_neg h1
theorem zip_keys {α : Type} : ∀ {ns : List Str} {vs : List α} {y : Str}, y ∈ (ns.zip vs).map (·.1) → y ∈ ns
  | [], _, _, h => by simp at h
  | _ :: _, [], _, h => by simp at h
  | z :: ns, v :: vs, y, h => by
    rcases List.mem_cons.mp (by simpa using h : y ∈ z :: (ns.zip vs).map (·.1)) with rfl | h
    · exact List.mem_cons_self ..
    · exact List.mem_cons_of_mem _ (zip_keys h)
theorem zip_nd {α : Type} : ∀ {ns : List Str} {vs : List α}, ns.Nodup → ((ns.zip vs).map (·.1)).Nodup
  | [], _, _ => by simp
  | _ :: _, [], _ => by simp
  | z :: ns, v :: vs, h => by
    obtain ⟨n1, n2⟩ := List.nodup_cons.mp h
    rw [List.zip_cons_cons, List.map_cons, List.nodup_cons]
    exact ⟨fun q => n1 (zip_keys q), zip_nd n2⟩
theorem bind_get {P : Addr → Obj → Prop} {kd : Str → Option NameKind} {y : Str} {a : AVal} : ∀ {ns : List Str} {vs : List Value} {as : List AVal} {m : Str → Option Value}, Vs P vs as → ns.Nodup → getA y (ns.zip as) = some a → ∃ v, V P v a ∧ (kd y = some .local → bindL kd (ns.zip vs) m y = some v) ∧ (kd y ≠ some .local → bindC kd (ns.zip vs) m y = some v)
  | [], _, _, _, _, _, h => by simp [getA] at h
  | _ :: _, _, _, _, .nil, _, h => by simp [getA] at h
  | z :: ns, v :: vs, x :: as, m, .cons h1 h2, nd, h => by
    obtain ⟨n1, n2⟩ := List.nodup_cons.mp nd
    rw [List.zip_cons_cons] at h
    unfold getA at h
    by_cases q : (z == y) = true
    · rw [if_pos q] at h; cases h
      have q' : z = y := by simpa using q
      subst q'
      refine ⟨v, h1, fun hk => ?_, fun hk => ?_⟩
      · rw [List.zip_cons_cons]; unfold bindL
        rw [bindL_off fun q => n1 (zip_keys q), if_pos hk]; exact if_pos rfl
      · rw [List.zip_cons_cons]; unfold bindC
        rw [bindC_off fun q => n1 (zip_keys q), if_neg hk]; exact if_pos rfl
    · rw [if_neg q] at h
      obtain ⟨u, g1, g2, g3⟩ := bind_get (m := if kd z = some .local then fun y => if y = z then some v else m y else m) h2 n2 h
      obtain ⟨u', g1', g2', g3'⟩ := bind_get (kd := kd) (m := if kd z = some .local then m else fun y => if y = z then some v else m y) h2 n2 h
      by_cases hk : kd y = some .local
      · exact ⟨u, g1, fun _ => by rw [List.zip_cons_cons]; exact g2 hk, fun e => absurd hk e⟩
      · exact ⟨u', g1', fun e => absurd e hk, fun _ => by rw [List.zip_cons_cons]; exact g3' hk⟩
theorem getA_none {y : Str} : ∀ {l : List (Str × AVal)}, getA y l = none → y ∉ l.map (·.1)
  | [], _, h => by simp at h
  | (z, a) :: r, e, h => by
    unfold getA at e
    by_cases q : (z == y) = true
    · rw [if_pos q] at e; cases e
    · rw [if_neg q] at e
      rcases List.mem_cons.mp (by simpa using h : y ∈ z :: r.map (·.1)) with rfl | h
      · simp at q
      · exact getA_none e h
theorem zip_keys' {α β : Type} : ∀ {ns : List Str} {vs : List α} {ws : List β}, vs.length = ws.length → (ns.zip vs).map (·.1) = (ns.zip ws).map (·.1)
  | [], _, _, _ => by simp
  | _ :: _, [], [], _ => by simp
  | _ :: ns, _ :: vs, _ :: ws, h => by simp [zip_keys' (ns := ns) (vs := vs) (ws := ws) (by simpa using h)]
theorem getA_filter {q : Str × AVal → Bool} {y : Str} {a : AVal} : ∀ {l : List (Str × AVal)}, (l.map (·.1)).Nodup → getA y (l.filter q) = some a → getA y l = some a ∧ ∃ a', q (y, a') = true
  | [], _, h => by simp [getA] at h
  | (z, b) :: r, nd, h => by
    obtain ⟨n1, n2⟩ := List.nodup_cons.mp (by simpa using nd : (z :: r.map (·.1)).Nodup)
    by_cases hq : q (z, b) = true
    · rw [List.filter_cons_of_pos hq] at h
      unfold getA at h ⊢
      by_cases e : (z == y) = true
      · rw [if_pos e] at h; rw [if_pos e]
        have : z = y := by simpa using e
        subst this
        exact ⟨h, b, hq⟩
      · rw [if_neg e] at h; rw [if_neg e]; exact getA_filter n2 h
    · rw [List.filter_cons_of_neg hq] at h
      obtain ⟨h1, h2⟩ := getA_filter n2 h
      refine ⟨?_, h2⟩
      unfold getA
      by_cases e : (z == y) = true
      · have : z = y := by simpa using e
        subst this
        have hm : z ∈ r.map (·.1) := by
          refine Classical.byContradiction fun hn => ?_
          have : getA z r = none := by
            clear h h1 h2 nd n2
            induction r with
            | nil => rfl
            | cons p r ih =>
              obtain ⟨w, c⟩ := p
              simp only [List.map_cons, List.mem_cons, not_or] at hn
              unfold getA
              have : ¬ (w == z) = true := by simpa using fun e : w = z => hn.1 e.symm
              rw [if_neg this]
              exact ih (by simpa using hn.2) hn.2
          rw [this] at h1; cases h1
        exact absurd hm n1
      · rw [if_neg e]; exact h1
theorem fn_cells {fa : Addr} {name qual : Str} {params : Arguments} {body : List Stmt} {scope : Scope} {dV kV doc pm cdv ct oc : Value} {an od : Option Addr} {osl : Array (Option Value)} {as da : List AVal} {ns : List Str} {dv : List Value} {Q : AVal → AHeap → Prop}
    (ho : C.K.lookup fa = some ⟨oc, od, .func (fnOf name qual params body scope dV kV doc pm an cdv ct), osl⟩) (hcd : codeIn C.K cdv qual = true)
    (hbind : ∀ S vs, vs.length = as.length → peek C.K S (bindArgs (fnOf name qual params body scope dV kV doc pm an cdv ct) ⟨vs, []⟩) = some (ns.zip (vs ++ dv)))
    (hd : ∀ P, Vs P dv da) (hnd : ns.Nodup) (hloc : ∀ y ∈ ns, (scope.names.lookup y == some .local || scope.names.lookup y == some .cell) = true)
    (hck : ∀ p ∈ cellsFrom 0 scope.names [], scope.names.lookup p.1 ≠ some .local)
    (h : ∀ A₀ A base h₀ outer L pin, (∀ p ∈ cellsFrom (L + 1) scope.names [], σ p.2 = none) → WS C n ⟨A₀, A, base, h₀, outer, L, fa, qual, scope, cdv, cellsFrom (L + 1) scope.names [], pin, none⟩ body ((ns.zip (as ++ da)).filter fun p => scope.names.lookup p.1 == some .local) (cellS (fun y => getA y (ns.zip (as ++ da))) (cellsFrom (L + 1) scope.names []) σ) fun fl _ σ' => ∃ σ₂ : AHeap, σ₂.le σ' ∧ Q (retOf fl) σ₂)
    (hnc : ((cellsFrom 0 scope.names []).map (·.1)).Nodup := by decide)
    (hco : scope.isCoroutine = false := by rfl) (hgen : scope.isGenerator = false := by rfl) (hk : scope.kind = .function := by rfl) :
    Fn C (n + 1) fa as σ Q := fun f m A ok hn fz s vs x hvs => by
  obtain ⟨mc, news, δ, F, N, R, e⟩ := x
  have X := ok.kin.keeps F.keep
  have e2 := ok.depth
  have e3 := ok.units
  obtain ⟨n1, n2, n3, n4, n5⟩ := hn
  have hlen := hvs.length
  refine code_defC (env := f.fenv) (binds := ns.zip (vs ++ dv)) ok.below F ok.kin N ok.top (n1.trans ok.stack) rfl ok.kind ho hcd (by omega) (kp_binds X fun S => hbind S vs hlen) (List.all_eq_true.mpr fun y hy => hloc _ (List.of_mem_zip hy).1) hnc (fun g L' h₁ tk cells FG F' N' Y B' KG TG lt => ?_) hco hgen hk
  let f' : Fm := ⟨A, A.deeper (envOfC qual scope L' fa cdv), f.base, g, f.fenv :: f.outer, L', fa, qual, scope, cdv, cellsFrom (L' + 1) scope.names [], f.pin, none⟩
  have hkH : ∀ b o, C.H.get? b = some o → g.get? b = some o := fun b o hb => FG.keep b o (ok.hk b o hb)
  have ok' : f'.Ok C n := ⟨B', KG, TG, hkH, Around.frames_deeper B'.stack, n2.trans ok.handled, n3.trans ok.guards, by show A.depth + 1 + 3 * n < _; omega, by show A.units + 3 + 10 * n + 100 < _; omega, hk, hk⟩
  have hz := hvs.append (hd (At C fz))
  obtain ⟨nd, cl⟩ := cellsFrom_nd scope.names (L' + 1) [] List.nodup_nil (fun p hp => by cases hp)
  have cl' : ∀ p ∈ cellsFrom (L' + 1) scope.names [], L' < p.2 := fun p hp => by
    rcases cl p hp with q | q
    · cases q
    · exact q
  have off : ∀ p ∈ cellsFrom (L' + 1) scope.names [], ∀ q ∈ news, q.1 ≠ p.2 := fun p hp q hq => Nat.ne_of_lt (Nat.lt_trans (lt q hq) (cl' p hp))
  have names : ∀ (names : List (Str × NameKind)) (a b : Nat) (acc acc' : List (Str × Addr)), acc.map (·.1) = acc'.map (·.1) → (cellsFrom a names acc).map (·.1) = (cellsFrom b names acc').map (·.1) := by
    intro names
    induction names with
    | nil => intro a b acc acc' h; exact h
    | cons p r ih =>
      intro a b acc acc' h
      obtain ⟨y, kd⟩ := p
      unfold cellsFrom
      split
      · exact ih _ _ _ _ (by simp [h])
      · exact ih _ _ _ _ h
  have ck : ∀ p ∈ cellsFrom (L' + 1) scope.names [], scope.names.lookup p.1 ≠ some .local := fun p hp => by
    have : p.1 ∈ (cellsFrom 0 scope.names []).map (·.1) := by rw [names scope.names 0 (L' + 1) [] [] rfl]; exact List.mem_map_of_mem hp
    obtain ⟨q, hq, e⟩ := List.mem_map.mp this
    rw [← e]; exact hck q hq
  have R' : HR C fz f.pin (cellS (fun y => getA y (ns.zip (as ++ da))) (cellsFrom (L' + 1) scope.names []) σ) δ (cells ++ news) := R.addCells Y nd off fun p hp => by
    have hkd : (envOfC qual scope L' fa cdv).kindOf p.1 ≠ some .local := ck p hp
    cases q : getA p.1 (ns.zip (as ++ da)) with
    | none => exact .inl ⟨bindC_off (by rw [zip_keys' (ws := as ++ da) (by rw [hz.length])]; exact getA_none q), rfl⟩
    | some a =>
      obtain ⟨v, g1, g2, g3⟩ := bind_get (kd := (envOfC qual scope L' fa cdv).kindOf) (m := fun _ => none) hz hnd q
      exact .inr ⟨v, a, g3 hkd, rfl, g1⟩
  have x' : SR C f' fz ((ns.zip (as ++ da)).filter fun p => scope.names.lookup p.1 == some .local) (cellS (fun y => getA y (ns.zip (as ++ da))) (cellsFrom (L' + 1) scope.names []) σ) { s with heap := h₁, toks := tk } := by
    refine ⟨_, cells ++ news, δ, F', N', R', fun y a hy => ?_⟩
    have nd' : ((ns.zip (as ++ da)).map (·.1)).Nodup := zip_nd hnd
    obtain ⟨g1, a', g2⟩ := getA_filter nd' hy
    obtain ⟨v, g3, g4, _⟩ := bind_get (kd := (envOfC qual scope L' fa cdv).kindOf) (m := fun _ => none) hz hnd g1
    exact ⟨v, g4 (by have : scope.names.lookup y = some .local := by simpa using g2
                     exact this), g3⟩
  refine wpAny_mono (h A _ f.base g (f.fenv :: f.outer) L' f.pin (fun p hp => R.noneAt fun q hq => off p hp q hq) ok' fz _ _ x') (fun fl s' ⟨fz', σ', m', a, u, es, x2, va, σ₂, hle, q⟩ => ?_) fun _ _ z => z
  obtain ⟨mc', news', δ', F2, N2, R2, e2⟩ := x2.weaken (fun _ _ h => h) hle
  refine leaveK_ F2 N2 fun FK NK => ⟨_, rfl, fz', σ₂, retOf a, u, ?_, ⟨mc, news', δ', FK, NK, R2, fun y b hy => ?_⟩, ?_, q⟩
  · obtain ⟨hh, tt, ee⟩ := es; exact ⟨hh, tt, ee⟩
  · obtain ⟨v, h1, h2⟩ := e y b hy; exact ⟨v, h1, h2.up u⟩
  · cases fl <;> cases a <;> first | exact va.elim | exact .none | exact va
end
end Mine

open PySem PySem.W PyProof.Rows PySem.Calls
namespace Mine
/-! ## data compared -/
mutual
inductive Rd (σ : AHeap) : AVal → PyData → Prop
  | none : Rd σ .none .none
  | bool (b : Bool) : Rd σ (.bool b) (.bool b)
  | int (i : Int) : Rd σ (.int i) (.int i)
  | str (x : Str) : Rd σ (.str x) (.str x)
  | lst {xs : List AVal} {ds : List PyData} : RdAll σ xs ds → Rd σ (.lst xs) (.list ds)
  | tup {xs : List AVal} {ds : List PyData} : RdAll σ xs ds → Rd σ (.tup xs) (.tuple ds)
  | obj {a : Addr} {xs : List AVal} {ds : List PyData} : σ a = some (.list xs) → RdAll σ xs ds → Rd σ (.obj a) (.list ds)
inductive RdAll (σ : AHeap) : List AVal → List PyData → Prop
  | nil : RdAll σ [] []
  | cons {a : AVal} {d : PyData} {xs : List AVal} {ds : List PyData} : Rd σ a d → RdAll σ xs ds → RdAll σ (a :: xs) (d :: ds)
end
section
variable {C : Cx} {n : Nat} {f : Fm} {m : AEnv} {σ : AHeap}
mutual
theorem Rd.reads {fz : Fz} {s : Shared} (ok : f.Ok C n) (x : SR C f fz m σ s) : ∀ {a : AVal} {d : PyData}, Rd σ a d → ∀ {v : Value}, V (At C fz) v a → ∃ as, Reads s.heap v d as
  | _, _, .none, _, h => by cases h; exact ⟨_, .none⟩
  | _, _, .bool b, _, h => by cases h; exact ⟨_, .bool b⟩
  | _, _, .int i, _, h => by cases h; exact ⟨_, .int i _⟩
  | _, _, .str y, _, h => by cases h; exact ⟨_, .str y _⟩
  | _, _, .lst r, _, h => by
    cases h with
    | lst h1 h2 h3 h4 => obtain ⟨as, q⟩ := RdAll.reads ok x r h4; exact ⟨_, .list (x.at_ ok h1) h2 h3 (by simpa using q)⟩
  | _, _, .tup r, _, h => by
    cases h with
    | tup h1 h2 h3 h4 => obtain ⟨as, q⟩ := RdAll.reads ok x r h4; exact ⟨_, .tuple (x.at_ ok h1) h2 h3 (by simpa using q)⟩
  | _, _, .obj e r, _, h => by
    cases h with
    | obj a =>
      obtain ⟨vs, k, h1, h2⟩ := x.list e
      obtain ⟨as, q⟩ := RdAll.reads ok x r h2
      exact ⟨_, .list h1 rfl rfl (by simpa using q)⟩
theorem RdAll.reads {fz : Fz} {s : Shared} (ok : f.Ok C n) (x : SR C f fz m σ s) : ∀ {xs : List AVal} {ds : List PyData}, RdAll σ xs ds → ∀ {vs : List Value}, Vs (At C fz) vs xs → ∃ as, ReadsAll s.heap vs ds as
  | _, _, .nil, _, h => by cases h; exact ⟨_, .nil⟩
  | _, _, .cons r rs, _, h => by
    cases h with
    | cons h1 h2 =>
      obtain ⟨as, q1⟩ := Rd.reads ok x r h1
      obtain ⟨bs, q2⟩ := RdAll.reads ok x rs h2
      exact ⟨_, .cons q1 q2⟩
end
def Dk (k : Nat) (d : PyData) : Prop := d.canLay0 = true ∧ d.depth ≤ k
theorem Dk.int {k : Nat} {i : Int} : Dk k (.int i) := ⟨rfl, Nat.zero_le _⟩
theorem Dk.none {k : Nat} : Dk k .none := ⟨rfl, Nat.zero_le _⟩
theorem Dk.bool {k : Nat} {b : Bool} : Dk k (.bool b) := ⟨rfl, Nat.zero_le _⟩
theorem Dk.str {k : Nat} {x : Str} (h : PyData.strOk x = true) : Dk k (.str x) := ⟨h, Nat.zero_le _⟩
theorem dk_all {k : Nat} : ∀ {ds : List PyData}, (∀ d ∈ ds, Dk k d) → PyData.canLayAll0 ds = true ∧ PyData.depthAll ds ≤ k
  | [], _ => ⟨rfl, Nat.zero_le _⟩
  | d :: ds, h => by
    obtain ⟨a, b⟩ := h d (List.mem_cons_self ..)
    obtain ⟨c, e⟩ := dk_all fun x hx => h x (List.mem_cons_of_mem _ hx)
    exact ⟨by rw [PyData.canLayAll0, a, c]; rfl, by rw [PyData.depthAll]; exact Nat.max_le.mpr ⟨b, e⟩⟩
theorem Dk.list {k : Nat} {ds : List PyData} (h : ∀ d ∈ ds, Dk k d) : Dk (k + 1) (.list ds) := by
  obtain ⟨a, b⟩ := dk_all h
  exact ⟨by rw [PyData.canLay0]; exact a, by rw [PyData.depth]; omega⟩
theorem Dk.shaped {k : Nat} {d : PyData} (h : Dk k d) (hk : k ≤ 64) : PySem.SeqAt.shaped d = true := by
  unfold PySem.SeqAt.shaped
  rw [h.1, Bool.true_and, decide_eq_true_eq]
  exact Nat.le_trans h.2 hk
theorem t2_eqD {a b : AVal} {da db : PyData} {k : Nat} {Q : AVal → AHeap → Prop} (ra : Rd σ a da) (rb : Rd σ b db) (ha : Dk k da) (hb : Dk k db) (h : Q (.bool (PyData.eqv da db)) σ) (hk : k ≤ 64 := by decide) : T2 C n f (compareOp .Eq) a b m σ Q := fun ok fz s E v w x hv hw => by
  obtain ⟨as, r1⟩ := ra.reads ok x hv
  obtain ⟨bs, r2⟩ := rb.reads ok x hw
  have := ok.units
  exact eq_dataH r1 r2 (ha.shaped hk) (hb.shaped hk) (by omega) (.here x (.bool _) h)
theorem t2_neD {a b : AVal} {da db : PyData} {k : Nat} {Q : AVal → AHeap → Prop} (ra : Rd σ a da) (rb : Rd σ b db) (ha : Dk k da) (hb : Dk k db) (h : Q (.bool (!PyData.eqv da db)) σ) (hk : k ≤ 64 := by decide) : T2 C n f (compareOp .NotEq) a b m σ Q := fun ok fz s E v w x hv hw => by
  obtain ⟨as, r1⟩ := ra.reads ok x hv
  obtain ⟨bs, r2⟩ := rb.reads ok x hw
  have := ok.units
  exact ne_dataH r1 r2 (ha.shaped hk) (hb.shaped hk) (by omega) (.here x (.bool _) h)
theorem t2_eqS {a b : AVal} {d : PyData} {k : Nat} {Q : AVal → AHeap → Prop} (ra : Rd σ a d) (rb : Rd σ b d) (hd : Dk k d) (h : Q (.bool true) σ) (hk : k ≤ 64 := by decide) : T2 C n f (compareOp .Eq) a b m σ Q :=
  t2_eqD ra rb hd hd (by rw [PySem.SeqAt.eqv_refl d hd.1]; exact h) hk
theorem t2_neS {a b : AVal} {d : PyData} {k : Nat} {Q : AVal → AHeap → Prop} (ra : Rd σ a d) (rb : Rd σ b d) (hd : Dk k d) (h : Q (.bool false) σ) (hk : k ≤ 64 := by decide) : T2 C n f (compareOp .NotEq) a b m σ Q :=
  t2_neD ra rb hd hd (by rw [PySem.SeqAt.eqv_refl d hd.1]; exact h) hk
theorem rdAll_ints : ∀ (ns : List Int), RdAll σ (ns.map .int) (ns.map .int)
  | [] => .nil
  | i :: ns => .cons (.int i) (rdAll_ints ns)
theorem dk_ints {k : Nat} (ns : List Int) : Dk (k + 1) (.list (ns.map .int)) := Dk.list fun d hd => by obtain ⟨i, _, rfl⟩ := List.mem_map.mp hd; exact Dk.int

/-! ## attributes -/
theorem SR.ownD {fz : Fz} {s : Shared} (x : SR C f fz m σ s) {a c : Addr} {as : List (Str × AVal)} (h : σ a = some (.inst c as)) :
    ∃ d es k mc rest, s.heap.get? a = some (instObj c d) ∧ s.heap.get? d = some (dictOf es k) ∧ Es (At C fz) es as ∧ Fr f.h₀ f.L s.heap mc ∧ News f.h₀ f.L s.heap ((d, dictOf es k) :: rest) ∧ (∀ p ∈ rest, p.1 ≠ d) ∧ (a, instObj c d) ∈ rest ∧
      ∀ h' t es' k' as', Fr f.h₀ f.L h' mc → News f.h₀ f.L h' ((d, dictOf es' k') :: rest) → Es (At C fz) es' as' → SR C f fz m (σ.set a (.inst c as')) { s with heap := h', toks := t } := by
  obtain ⟨mc, news, δ, F, N, R, e⟩ := x
  obtain ⟨h1, es, k, h2, h3⟩ := R.ob a _ h
  have hne : a ≠ δ a := fun q => by have := R.dσ a c as h; rw [← q, h] at this; cases this
  have keepM : ∀ {p : Addr × Obj}, p ∈ news → p.1 ≠ δ a → p ∈ news.filter (fun p => decide (p.1 ≠ δ a)) := fun h q => List.mem_filter.mpr ⟨h, by simpa using q⟩
  refine ⟨δ a, es, k, mc, news.filter (fun p => decide (p.1 ≠ δ a)), (N _ h1).1, (N _ h2).1, h3, F, fun p hp => ?_, fun p hp => by simpa using (List.mem_filter.mp hp).2, keepM h1 hne, fun h' t es' k' as' F' N' hE => ?_⟩
  · rcases List.mem_cons.mp hp with rfl | hp
    · exact N _ h2
    · exact N _ (List.mem_filter.mp hp).1
  · have σne : ∀ b bo, σ b = some bo → b ≠ δ a := fun b bo hb q => by have := R.dσ a c as h; rw [← q, hb] at this; cases this
    have back : ∀ {b c' bs}, σ.set a (.inst c as') b = some (.inst c' bs) → ∃ bs', σ b = some (.inst c' bs') := fun {b c' bs} hb => by
      by_cases q : b = a
      · subst q; rw [AHeap.set_same] at hb; cases hb; exact ⟨as, h⟩
      · rw [AHeap.set_ne _ _ q] at hb; exact ⟨bs, hb⟩
    refine ⟨mc, _, δ, F', N', ⟨fun p hp => .tail _ (keepM (R.sub p hp) (R.doff a c as h p hp)), R.apart, fun b bo hb => ?_, fun b bo hb p hp => ?_, fun b c' bs hb p hp => ?_, fun b c' bs hb => ?_, fun b c' bs b' c'' bs' g1 g2 => ?_⟩, e⟩
    · by_cases q : b = a
      · subst q; rw [AHeap.set_same] at hb; cases hb
        exact ⟨.tail _ (keepM h1 hne), es', k', List.mem_cons_self .., hE⟩
      · rw [AHeap.set_ne _ _ q] at hb
        refine (R.ob b bo hb).mono (fun _ _ z => z) (fun _ hm => .tail _ (keepM hm (σne b bo hb))) fun c' bs eb _ hm => .tail _ (keepM hm fun q' => ?_)
        subst eb
        exact q (R.dinj b c' bs a c as hb h q')
    · by_cases q : b = a
      · subst q; exact R.off b _ h p hp
      · rw [AHeap.set_ne _ _ q] at hb; exact R.off b bo hb p hp
    · obtain ⟨bs', hb'⟩ := back hb; exact R.doff b c' bs' hb' p hp
    · obtain ⟨bs', hb'⟩ := back hb
      have hd := R.dσ b c' bs' hb'
      rw [AHeap.set_ne _ _ (fun q => by rw [q, h] at hd; cases hd)]; exact hd
    · obtain ⟨x1, y1⟩ := back g1; obtain ⟨x2, y2⟩ := back g2; exact R.dinj b c' x1 b' c'' x2 y1 y2
/-- an attribute stored, as a tree -/
def TW (C : Cx) (n : Nat) (f : Fm) (o : AVal) (name : Str) (y : AVal) (m : AEnv) (σ : AHeap) (Q : AHeap → Prop) : Prop :=
  f.Ok C n → ∀ fz s E vo vy, SR C f fz m σ s → V (At C fz) vo o → V (At C fz) vy y → wpAny (Md C) f.A (setAttr vo name vy) (fun _ s' => ∃ fz' σ', (∀ p ∈ fz, p ∈ fz') ∧ Same s s' ∧ SR C f fz' m σ' s' ∧ Q σ') E s
theorem tw_inst {a c : Addr} {as : List (Str × AVal)} {name : Str} {y : AVal} {Q : AHeap → Prop} (ha : σ a = some (.inst c as)) (hs : findIn C.K (.ref c) "__setattr__" = some (some (.builtin "object.__setattr__"))) (hp : plainOver C.K c = true) (ht : takerIn C.K c name = some none) (hh : hasDictIn C.K c = true)
    (hl : (setA name y as).length ≤ 1000) (h : Q (σ.set a (.inst c (setA name y as)))) : TW C n f (.obj a) name y m σ Q := fun ok fz s E vo vy x ho hy => by
  cases ho
  obtain ⟨d, es, k, mc, rest, h1, h2, h3, F, N, off, hm, back⟩ := x.ownD ha
  have hE := h3.put (x := name) (hh := PyData.keyHash C.w.params name) (t := s.toks + 1) hy
  refine set_dict (dx := d) F ok.kin N ⟨h1, rfl, rfl, h2⟩ rfl hs hp ht hh h3.isSome rfl (.head off) (by rw [hE.length]; exact hl) fun h' F' N' => ?_
  exact ⟨fz, _, sub_refl, ⟨h', s.toks + 2, rfl⟩, back h' (s.toks + 2) _ _ _ F' N' hE, h⟩
theorem w1_setAttr {o e : Expr} {name : Str} {tp pos : Pos} {Q : AFlow → AEnv → AHeap → Prop} (h : WE C n f e m σ fun y σ₁ => WE C n f o m σ₁ fun ov σ₂ => TW C n f ov name y m σ₂ fun σ₃ => Q .next m σ₃)
    (hs : swapsWith e (some (.Attribute o name tp)) pos.line f.env = pure false := by rfl) : W1 C n f (.Assign [.Attribute o name tp] e pos) m σ Q := fun ok fz s E x => by
  refine plainObj_wpAny_Assign_Attribute (wpAny_mono (h ok fz s E x) (fun v s₁ ⟨fz₁, σ₁, a, u1, e1, x1, va, q1⟩ => wpAny_mono (q1 ok fz₁ s₁ E x1) (fun ov s₂ ⟨fz₂, σ₂, b, u2, e2, x2, vb, q2⟩ => ?_) fun _ _ x => x) fun _ _ x => x) hs
  exact wpAny_mono (q2 ok fz₂ s₂ E ov v x2 vb (va.up u2)) (fun _ s₃ ⟨fz₃, σ₃, u3, e3, x3, q3⟩ => ⟨fz₃, σ₃, m, .next, fun p hp => u3 p (u2 p (u1 p hp)), (e1.trans e2).trans e3, x3, trivial, q3⟩) fun _ _ x => x
theorem we_attr {o : Expr} {name : Str} {pos : Pos} {Q : AVal → AHeap → Prop} (h : WE C n f o m σ fun ov σ₁ => T1 C n f (fun v => getAttr v name true) ov m σ₁ Q)
    (he : eval (.Attribute o name pos) f.env = (do
      let v ← eval o f.env
      standAt pos.atName
      let r ← holding [v] (getAttr v name true)
      letTemporaryGo o v r
      pure r) := by rfl) : WE C n f (.Attribute o name pos) m σ Q := fun ok fz s E x =>
  Attribute_any_ (wpAny_mono (h ok fz s E x) (fun v s₁ ⟨fz₁, σ₁, a, u1, e1, x1, va, q1⟩ => wpAny_mono (q1 ok fz₁ s₁ E v x1 va) (fun r s₂ p => .up u1 e1 p) fun _ _ x => x) fun _ _ x => x) he
def handedA : AVal → Bool
  | .raw v => handedIn v
  | _ => true
theorem V.handed {P : Addr → Obj → Prop} {v : Value} {a : AVal} (h : V P v a) (e : handedA a = true) : handedIn v = true := by
  cases h <;> first | rfl | exact e
theorem t1_attr {a c : Addr} {as : List (Str × AVal)} {name : Str} {y : AVal} {attr : Option Value} {Q : AVal → AHeap → Prop} (ha : σ a = some (.inst c as)) (hy : getA name as = some y) (hg : plainGet C.K c name = true) (hh : hasDictIn C.K c = true) (hf : findIn C.K (.ref c) name = some attr) (hn : noGet C.K attr = true) (hv : handedA y = true) (h : Q y σ) :
    T1 C n f (fun v => getAttr v name true) (.obj a) m σ Q := fun ok fz s E vo x ho => by
  cases ho
  obtain ⟨d, es, k, h1, h2, h3⟩ := x.inst ha
  obtain ⟨v, g1, g2⟩ := h3.get_some hy
  have x' := x
  obtain ⟨mc, news, δ, F, N, R, e⟩ := x
  exact get_own F ok.kin ⟨h1, rfl, rfl, h2⟩ hg hh hf hn g1 (g2.handed hv) (.tok x' g2 h)
theorem tc_type_inst {a c : Addr} {as : List (Str × AVal)} {Q : AVal → AHeap → Prop} (ha : σ a = some (.inst c as)) (h : Q (.raw (.ref c)) σ) : TC C n f (.raw (.type "type")) [.obj a] m σ Q := fun ok fz s E v vs x hv hvs => by
  cases hv; obtain _ | ⟨h1, h2⟩ := hvs; cases h2; cases h1
  obtain ⟨d, es, k, h1, h2, h3⟩ := x.inst ha
  exact ⟨keep_type, kto_own (od := some (dictOf es k)) ⟨h1, rfl, rfl, h2⟩ (.here x (.raw _) h)⟩
theorem tc_type_fin {c : Addr} {Q : AVal → AHeap → Prop} (h : Q (.raw (.ref c)) σ) : TC C n f (.raw (.type "type")) [.fin c] m σ Q := fun ok fz s E v vs x hv hvs => by
  cases hv; obtain _ | ⟨h1, h2⟩ := hvs; cases h2
  cases h1 with
  | fin p1 p2 => exact ⟨keep_type, kto_own (od := some (dictOf [] 0)) ⟨x.at_ ok p1, rfl, rfl, x.at_ ok p2⟩ (.here x (.raw _) h)⟩
theorem t2_isRef {a : Addr} {Q : AVal → AHeap → Prop} (h : Q (.bool true) σ) : T2 C n f (compareOp .Is) (.raw (.ref a)) (.raw (.ref a)) m σ Q := fun ok fz s E v w x hv hw => by
  cases hv; cases hw; exact wpAny_is_ref_self (.here x (.bool _) h)
theorem t2_isNotRef {a : Addr} {Q : AVal → AHeap → Prop} (h : Q (.bool false) σ) : T2 C n f (compareOp .IsNot) (.raw (.ref a)) (.raw (.ref a)) m σ Q := fun ok fz s E v w x hv hw => by
  cases hv; cases hw; exact wpAny_isNot_ref_self (.here x (.bool _) h)
theorem t2_isNotObj {a : Addr} {Q : AVal → AHeap → Prop} (h : Q (.bool false) σ) : T2 C n f (compareOp .IsNot) (.obj a) (.obj a) m σ Q := fun ok fz s E v w x hv hw => by
  cases hv; cases hw; exact wpAny_isNot_ref_self (.here x (.bool _) h)
end
end Mine

open PySem PySem.W PyProof.Rows PySem.Calls
namespace Mine
def Has (m : AEnv) : List (Str × AVal) → Prop
  | [] => True
  | p :: r => m.get p.1 = some p.2 ∧ Has m r
theorem Has.sub {m : AEnv} : ∀ {l : AEnv}, Has m l → ∀ y a, AEnv.get l y = some a → m.get y = some a
  | [], _, _, _, e => by cases e
  | (z, b) :: r, h, y, a, e => by
    unfold AEnv.get getA at e
    by_cases q : (z == y) = true
    · rw [if_pos q] at e; cases e
      have : z = y := by simpa using q
      subst this; exact h.1
    · rw [if_neg q] at e; exact h.2.sub y a e
theorem AHeap.le_refl (σ : AHeap) : σ.le σ := fun _ _ h => h
theorem AHeap.le_trans {σ σ' σ'' : AHeap} (h : σ.le σ') (h' : σ'.le σ'') : σ.le σ'' := fun a o e => h' a o (h a o e)
theorem AHeap.le_set {σ : AHeap} {l : Addr} {o : AObj} (h : σ l = none) : σ.le (σ.set l o) := fun a b e => by rw [AHeap.set_ne]; exact e; intro q; rw [q, h] at e; cases e
theorem AHeap.set_mono {σ σ' : AHeap} {l : Addr} {o : AObj} (h : σ.le σ') : (σ.set l o).le (σ'.set l o) := fun a b e => by
  by_cases q : a = l
  · subst q; rw [AHeap.set_same] at e ⊢; exact e
  · rw [AHeap.set_ne _ _ q] at e ⊢; exact h _ _ e
theorem hp_ne {σ : AHeap} {a c : Addr} {o : AObj} (h1 : σ a = some o) (h2 : σ c = none) : a ≠ c := fun q => by rw [q, h2] at h1; cases h1
theorem items_obj {σ : AHeap} {a : Addr} {xs : List AVal} (h : σ a = some (.list xs)) : items σ (.obj a) = some xs := by show (match σ a with | some (.list xs) => some xs | _ => none) = some xs; rw [h]
theorem ret_le {σ : AHeap} {a : AVal} {Q : AVal → AHeap → Prop} (h : Q a σ) : ∃ σ₂ : AHeap, σ₂.le σ ∧ Q (retOf (.ret a)) σ₂ := ⟨σ, AHeap.le_refl σ, h⟩
theorem ret_le' {σ₂ σ : AHeap} {a : AVal} {Q : AVal → AHeap → Prop} (hl : σ₂.le σ) (h : Q a σ₂) : ∃ σ₂ : AHeap, σ₂.le σ ∧ Q (retOf (.ret a)) σ₂ := ⟨σ₂, hl, h⟩
theorem mulOk {a b : Int} (h : b.natAbs < 2 ^ 64) : IntMulOk a b := IntMulOk.of_right (intBits_le_iff.mpr h)
theorem fmod_pos (x : Int) {y : Int} (h : 0 ≤ y) : x.fmod y = x % y := Int.fmod_eq_emod_of_nonneg x h
theorem fdiv_pos (x : Int) {y : Int} (h : 0 ≤ y) : x.fdiv y = x / y := Int.fdiv_eq_ediv_of_nonneg x h
theorem fmod_range (x : Int) {y : Int} (h : 0 < y) : 0 ≤ x.fmod y ∧ x.fmod y < y := by
  rw [fmod_pos x (Int.le_of_lt h)]; exact ⟨Int.emod_nonneg x (Int.ne_of_gt h), Int.emod_lt_of_pos x h⟩
theorem rng_small1 {a b : Int} (ha : -(2 ^ 62) ≤ a ∧ a < 2 ^ 62) (hb : -(2 ^ 62) ≤ b ∧ b < 2 ^ 62) : Builtin.Range.small a b 1 = true := small_one ha.1 ha.2 hb.1 hb.2
theorem rng_size1 {a : Int} {k : Nat} : Builtin.Range.rangeSize a (a + k) 1 = (k : Int) := by rw [rangeSize_nat]; congr 1; omega
theorem rng_size1' {k : Nat} : Builtin.Range.rangeSize 0 k 1 = (k : Int) := by rw [rangeSize_nat]; congr 1
theorem rng_sizeD {k : Nat} : Builtin.Range.rangeSize ((k : Int) + -1) (-1) (-1) = (k : Int) := by
  unfold Builtin.Range.rangeSize
  simp
  omega
theorem rng_smallD {k : Nat} (h : k < 2 ^ 60) : Builtin.Range.small ((k : Int) + -1) (-1) (-1) = true := by
  unfold Builtin.Range.small
  rw [rng_sizeD]
  simp only [Builtin.Range.rangeFitsLong, Bool.and_eq_true, Bool.or_eq_true, decide_eq_true_eq, beq_iff_eq, show ¬ ((-1 : Int) > 0) by decide, if_false]
  omega
theorem rngL_length {a c : Int} {k : Nat} : (rngL a c k).length = k := by simp [rngL]
theorem rngL_cons {a c : Int} {k j : Nat} {v : AVal} {r : List AVal} (h : v :: r = (rngL a c k).drop j) : j < k ∧ v = .int (a + (j : Int) * c) ∧ r = (rngL a c k).drop (j + 1) := by
  have hj : j < (rngL a c k).length := by
    rcases Nat.lt_or_ge j (rngL a c k).length with q | q
    · exact q
    · rw [List.drop_of_length_le q] at h; cases h
  rw [List.drop_eq_getElem_cons hj] at h
  obtain ⟨h1, h2⟩ := List.cons.inj h
  refine ⟨by rwa [rngL_length] at hj, ?_, h2⟩
  rw [h1]; simp [rngL]
theorem rngL_nil {a c : Int} {k j : Nat} (h : [] = (rngL a c k).drop j) : k ≤ j := by
  rcases Nat.lt_or_ge j (rngL a c k).length with q | q
  · rw [List.drop_eq_getElem_cons q] at h; cases h
  · rwa [rngL_length] at q
theorem W1.weaken {C : Cx} {n : Nat} {f : Fm} {m : AEnv} {σ : AHeap} {st : Stmt} {m' : AEnv} {σ' : AHeap} {Q : AFlow → AEnv → AHeap → Prop} (hm : ∀ y a, m'.get y = some a → m.get y = some a) (hσ : σ'.le σ) (h : W1 C n f st m' σ' Q) : W1 C n f st m σ Q :=
  fun ok fz s E x => h ok fz s E (x.weaken hm hσ)
theorem W1.cut {C : Cx} {n : Nat} {f : Fm} {m : AEnv} {σ : AHeap} {st : Stmt} {P Q : AFlow → AEnv → AHeap → Prop} (h : W1 C n f st m σ P) (k : ∀ a m' σ', P a m' σ' → Q a m' σ') : W1 C n f st m σ Q :=
  fun ok fz s E x => wpAny_mono (h ok fz s E x) (fun v s' ⟨fz', σ', m', a, h1, h2, h3, h4, h5⟩ => ⟨fz', σ', m', a, h1, h2, h3, h4, k _ _ _ h5⟩) fun _ _ x => x
theorem fn_cellsX {C : Cx} {n : Nat} {σ : AHeap} {fa : Addr} {name qual : Str} {params : Arguments} {body : List Stmt} {scope : Scope} {dV kV doc pm cdv ct oc : Value} {an od : Option Addr} {osl : Array (Option Value)} {as da : List AVal} {ns : List Str} {dv : List Value} {Q : AVal → AHeap → Prop} {ml : AEnv} {σ₁ : Addr → AHeap}
    (cs : Addr → List (Str × Addr))
    (ho : C.K.lookup fa = some ⟨oc, od, .func (fnOf name qual params body scope dV kV doc pm an cdv ct), osl⟩) (hcd : codeIn C.K cdv qual = true)
    (hbind : ∀ S vs, vs.length = as.length → peek C.K S (bindArgs (fnOf name qual params body scope dV kV doc pm an cdv ct) ⟨vs, []⟩) = some (ns.zip (vs ++ dv)))
    (hd : ∀ P, Vs P dv da) (hnd : ns.Nodup) (hloc : ∀ y ∈ ns, (scope.names.lookup y == some .local || scope.names.lookup y == some .cell) = true)
    (hck : ∀ p ∈ cellsFrom 0 scope.names [], scope.names.lookup p.1 ≠ some .local)
    (hcs : ∀ L, cellsFrom (L + 1) scope.names [] = cs L) (hml : ((ns.zip (as ++ da)).filter fun p => scope.names.lookup p.1 == some .local) = ml) (hσ : ∀ L, cellS (fun y => getA y (ns.zip (as ++ da))) (cs L) σ = σ₁ L)
    (h : ∀ A₀ A base h₀ outer L pin, (∀ p ∈ cs L, σ p.2 = none) → WS C n ⟨A₀, A, base, h₀, outer, L, fa, qual, scope, cdv, cs L, pin, none⟩ body ml (σ₁ L) fun fl _ σ' => ∃ σ₂ : AHeap, σ₂.le σ' ∧ Q (retOf fl) σ₂)
    (hnc : ((cellsFrom 0 scope.names []).map (·.1)).Nodup := by decide)
    (hco : scope.isCoroutine = false := by rfl) (hgen : scope.isGenerator = false := by rfl) (hk : scope.kind = .function := by rfl) :
    Fn C (n + 1) fa as σ Q := fn_cells ho hcd hbind hd hnd hloc hck (fun A₀ A base h₀ outer L pin hc => by
      rw [hcs L] at hc ⊢
      rw [hml, hσ L]
      exact h A₀ A base h₀ outer L pin hc) hnc hco hgen hk
end Mine

open PySem PySem.W PyProof.Rows
set_option maxHeartbeats 8000000
namespace Mine
open_top hd02 for PySem.Challenge.rw_dn0301_02
end Mine

open PySem PySem.W PyProof.Rows PySem.Calls
namespace Mine
/-- what the text's top has -/
structure K02 (C : Cx) : Prop where
  hK : C.K = hd02.heap_39 C.w.params
  g_Locator : nsIn C.K mainGlobals (Str.ofString "Locator") = some (some (.ref 52))
  g__law_worked : nsIn C.K mainGlobals (Str.ofString "_law_worked") = some (some (.ref 61))
  g__law_plain : nsIn C.K mainGlobals (Str.ofString "_law_plain") = some (some (.ref 68))
  k_52 : keepIn C.K (.ref 52) = true
  k_61 : keepIn C.K (.ref 61) = true
  k_68 : keepIn C.K (.ref 68) = true
  b_range : nsIn C.K mainGlobals (Str.ofString "range") = some none
  b_len : nsIn C.K mainGlobals (Str.ofString "len") = some none
  mk_52 : makesIn C.K 52 = true
  ini_52 : findIn C.K (.ref 52) (Str.ofString "__init__") = some (some (.builtin "object.__init__"))
  pg_52 : ∀ name, plainGet C.K 52 name = true
  f_52_28 : findIn C.K (.ref 52) (Str.ofString "getColumnNumber") = some (some (.ref 28))
  i_52_28 : isFn C.K (.ref 28) = true
  k_52_28 : keepIn C.K (.ref 28) = true
  f_52_35 : findIn C.K (.ref 52) (Str.ofString "getLineNumber") = some (some (.ref 35))
  i_52_35 : isFn C.K (.ref 35) = true
  k_52_35 : keepIn C.K (.ref 35) = true
  f_52_42 : findIn C.K (.ref 52) (Str.ofString "getPublicId") = some (some (.ref 42))
  i_52_42 : isFn C.K (.ref 42) = true
  k_52_42 : keepIn C.K (.ref 42) = true
  f_52_49 : findIn C.K (.ref 52) (Str.ofString "getSystemId") = some (some (.ref 49))
  i_52_49 : isFn C.K (.ref 49) = true
  k_52_49 : keepIn C.K (.ref 49) = true
theorem k02 {C : Cx} (hK : C.K = hd02.heap_39 C.w.params) : K02 C := by
  obtain ⟨prog, w, K, vp, loose, mean, mg, mb, H⟩ := C
  dsimp only at hK
  subst hK
  constructor <;> first | kernel_rfl | rfl | (intro name; kernel_rfl)
section
variable {C : Cx} {n : Nat} {σ : AHeap} {Q : AVal → AHeap → Prop} {a : AVal}
theorem getColumnNumber (K : K02 C) (h : Q (.int (-1)) σ) : Fn C (n + 1) 28 [a] σ Q := by
  refine fn_plain (ns := [Str.ofString "self"]) (dv := []) (da := []) (ho := by rw [K.hK]; rfl) (hcd := by rw [K.hK]; kernel_rfl) (hbind := ?_) (hd := fun _ => .nil) (hnd := by decide) (hloc := by decide) (h := ?_)
  · intro S vs hv
    match vs, hv with
    | [v], _ => rfl
  · intro A₀ A base h₀ outer L pin
    exact ws_cons (w1_return (we_unary (we_int (t1_neg (ret_le h)))))
theorem getLineNumber (K : K02 C) (h : Q (.int (-1)) σ) : Fn C (n + 1) 35 [a] σ Q := by
  refine fn_plain (ns := [Str.ofString "self"]) (dv := []) (da := []) (ho := by rw [K.hK]; rfl) (hcd := by rw [K.hK]; kernel_rfl) (hbind := ?_) (hd := fun _ => .nil) (hnd := by decide) (hloc := by decide) (h := ?_)
  · intro S vs hv
    match vs, hv with
    | [v], _ => rfl
  · intro A₀ A base h₀ outer L pin
    exact ws_cons (w1_return (we_unary (we_int (t1_neg (ret_le h)))))
theorem getPublicId (K : K02 C) (h : Q .none σ) : Fn C (n + 1) 42 [a] σ Q := by
  refine fn_plain (ns := [Str.ofString "self"]) (dv := []) (da := []) (ho := by rw [K.hK]; rfl) (hcd := by rw [K.hK]; kernel_rfl) (hbind := ?_) (hd := fun _ => .nil) (hnd := by decide) (hloc := by decide) (h := ?_)
  · intro S vs hv
    match vs, hv with
    | [v], _ => rfl
  · intro A₀ A base h₀ outer L pin
    exact ws_cons (w1_return (we_none (ret_le h)))
theorem getSystemId (K : K02 C) (h : Q .none σ) : Fn C (n + 1) 49 [a] σ Q := by
  refine fn_plain (ns := [Str.ofString "self"]) (dv := []) (da := []) (ho := by rw [K.hK]; rfl) (hcd := by rw [K.hK]; kernel_rfl) (hbind := ?_) (hd := fun _ => .nil) (hnd := by decide) (hloc := by decide) (h := ?_)
  · intro S vs hv
    match vs, hv with
    | [v], _ => rfl
  · intro A₀ A base h₀ outer L pin
    exact ws_cons (w1_return (we_none (ret_le h)))
end
end Mine

open PySem PySem.W PyProof.Rows PySem.Calls
namespace Mine
local macro_rules | `(tactic| walk_at "hp") => `(tactic| first
  | assumption
  | exact AHeap.set_same ..
  | (refine (AHeap.set_ne _ _ ?_).trans ?_; first | (first | assumption | exact Ne.symm (by assumption) | exact hp_ne (by assumption) (by assumption) | exact Ne.symm (hp_ne (by assumption) (by assumption))); walk_at "hp"))
local macro_rules | `(tactic| walk_at "we") => `(tactic| first
  | with_reducible refine we_int ?_
  | ((with_reducible refine' we_local ?h1 ?h2 ?_ ?h3 ?h4); (case h1 => rfl); (case h2 => rfl); (case h3 => decide); (case h4 => rfl))
  | ((with_reducible refine' we_cell ?h1 ?h2 ?h4 ?_ ?h3); (case h1 => rfl); (case h2 => rfl); (case h4 => walk_at "hp"); (case h3 => decide))
  | ((with_reducible refine' we_clocal ?h1 ?h2 ?h4 ?h5 ?_ ?h3); (case h1 => rfl); (case h2 => rfl); (case h4 => walk_at "hp"); (case h5 => rfl); (case h3 => decide))
  | with_reducible refine we_binop ?_
  | with_reducible refine we_str ?_
  | with_reducible refine we_none ?_
  | with_reducible refine we_bool ?_
  | with_reducible refine we_unary ?_
  | with_reducible refine we_ifexp ?_
  | ((with_reducible refine we_compare ?_ ?h1); (case h1 => rfl))
  | ((with_reducible refine' we_global ?h1 ?h2 ?_ ?h3); (case h1 => rfl); (case h2 => assumption); (case h3 => decide))
  | ((with_reducible refine' we_builtin ?h1 ?h2 ?h4 ?_ ?h5 ?h3); (case h1 => rfl); (case h2 => assumption); (case h4 => boot_by_name); (case h5 => decide); (case h3 => decide))
  | ((with_reducible refine we_call ?_ ?h1); (case h1 => rfl))
  | (refine we_method ?_)
  | with_reducible refine we_tup ?_
  | with_reducible refine we_lst ?_
  | with_reducible refine we_sub (slice := .Name _ _) ?_
  | with_reducible refine we_sub (slice := .Constant _ _ _) ?_
  | with_reducible refine we_sub (slice := .BinOp _ _ _ _) ?_
  | with_reducible refine we_sub (slice := .UnaryOp _ _ _) ?_
  | with_reducible refine we_sub (slice := .Call _ _ _ _) ?_
  | with_reducible refine we_sub (slice := .Subscript _ _ _) ?_)
local macro_rules | `(tactic| walk_at "t2") => `(tactic| first
  | with_reducible refine t2_add ?_
  | with_reducible refine t2_sub ?_
  | with_reducible refine t2_eq ?_
  | with_reducible refine t2_ne ?_
  | with_reducible refine t2_lt ?_
  | with_reducible refine t2_gt ?_
  | ((with_reducible refine t2_div ?h1 ?h2 ?_); (case h1 => decide); (case h2 => decide))
  | ((with_reducible refine t2_mod ?h1 ?h2 ?_); (case h1 => decide); (case h2 => decide))
  | with_reducible refine t2_isNone ?_
  | with_reducible refine t2_isNotNone ?_)
local macro_rules | `(tactic| walk_at "tc") => `(tactic| first
  | refine tc_fn (by assumption) (getLineNumber (by assumption) ?_)
  | refine tc_fn (by assumption) (getColumnNumber (by assumption) ?_)
  | refine tc_fn (by assumption) (getPublicId (by assumption) ?_)
  | refine tc_fn (by assumption) (getSystemId (by assumption) ?_)
  | refine tc_fin (by assumption) (by assumption) (by assumption) ?_
  | ((with_reducible refine' tc_len ?h1 ?h2 ?_); (case h1 => first | rfl | exact items_obj (by walk_at "hp")); (case h2 => first | decide | (simp <;> omega)))
  | with_reducible refine tc_max ?_
  | with_reducible refine tc_min ?_)
local macro_rules | `(tactic| walk_at "fw") => `(tactic| first
  | ((with_reducible show WE _ _ _ _ _ _ _); walk_at "we")
  | ((with_reducible show WL _ _ _ _ _ _ _ _); (first | ((with_reducible refine wl_cons ?_ ?h1); (case h1 => rfl)) | with_reducible refine wl_nil ?_))
  | ((with_reducible show T2 _ _ _ _ _ _ _ _ _); walk_at "t2")
  | ((with_reducible show T1 _ _ _ _ _ _ _ _); with_reducible refine t1_neg ?_)
  | ((with_reducible show TB _ _ _ _ _ _ _ _); with_reducible refine tb_bool ?_)
  | ((with_reducible show TG _ _ _ _ _ _ _ _); ((with_reducible refine' tg_fin ?h1 ?h2 ?h3 ?_); (case h1 => apply_assumption); (case h2 => assumption); (case h3 => assumption)))
  | ((with_reducible show List.length _ ≤ sizeLine ∧ _); refine And.intro (by first | decide | (simp [sizeLine_eq])) ?_)
  | ((with_reducible show (if true = true then _ else _)); rw [if_pos rfl])
  | ((with_reducible show (if false = true then _ else _)); rw [if_neg Bool.false_ne_true])
  | ((with_reducible show TC _ _ _ _ _ _ _ _); walk_at "tc")
  | ((with_reducible show WT _ _ _ _ _ _ _); first | ((with_reducible refine wt_compare ?_ ?h1); (case h1 => rfl)) | (with_reducible refine wt_bool ?_) | (with_reducible refine wt_not ?_))
  | ((with_reducible show WA _ _ _ _ _ _ _ _); first | (with_reducible refine wa_or ?_) | (with_reducible refine wa_or_nil ?_) | (with_reducible refine wa_and ?_) | (with_reducible refine wa_and_nil ?_))
  | ((with_reducible show WO _ _ _ _ _ _ _); first | (with_reducible refine wo_none ?_) | (with_reducible refine wo_some ?_))
  | ((with_reducible show WQ _ _ _ _ _ _ _); first | (with_reducible refine wq_nil ?_) | (with_reducible refine wq_one ?_))
  | ((with_reducible show WS _ _ _ _ _ _ _); (first | with_reducible refine ws_cons ?_ | with_reducible refine ws_nil ?_))
  | ((with_reducible show W1 _ _ _ _ _ _ _); (first | with_reducible refine w1_return ?_ | with_reducible refine w1_if ?_ | ((with_reducible refine w1_assign ?_ ?h1); (case h1 => rfl)) | ((with_reducible refine w1_assignT ?_ ?h1 ?h2); (case h1 => rfl); (case h2 => rfl)) | ((with_reducible refine w1_setItem ?_ ?h1); (case h1 => rfl)) | ((with_reducible refine w1_setAttr ?_ ?h1); (case h1 => rfl)) | ((with_reducible refine w1_expr ?_ ?h1 ?h2); (case h1 => rfl); (case h2 => rfl))))
  | ((with_reducible show TA _ _ _ _ _ _ _ _); (first | (refine ta_tup ?_) | (refine ta_name (ts_local (by rfl) ?_ (by rfl))) | (with_reducible refine ta_sub ?_)))
  | ((with_reducible show TS _ _ _ _ _ _ _ _); (refine ts_local (by rfl) ?_ (by rfl)))
  | ((with_reducible show TAs _ _ _ _ _ _ _ _); (first | (refine tas_cons ?_) | (refine tas_nil ?_)))
  | ((with_reducible show (_ = true → _) ∧ (_ = false → _)); (first | exact And.intro (fun hk => absurd hk (by decide)) (fun hk => absurd hk (by decide)) | refine And.intro (fun _ => ?_) (fun hk => absurd hk (by decide)) | refine And.intro (fun hk => absurd hk (by decide)) (fun _ => ?_) | refine And.intro (fun hk => ?_) (fun hk => ?_))))

section
variable {C : Cx} {n : Nat} {σ : AHeap} {Q : AVal → AHeap → Prop}
def step02 (k v : Int) (i : List Int) (z : Int) : List Int :=
  if k = 0 then i ++ [z, v] else if k = 1 then i ++ [v, z] else if k = 2 then i else if k = 3 then z :: i else if k = 4 then i ++ [v]
  else if k = 5 then (match i with | [] => [z] | w :: j => z :: (j ++ [w])) else z :: i.reverse
set_option maxHeartbeats 4000000 in
theorem worked (K : K02 C) {a : Addr} {k v z : Int} {i : List Int} (hk0 : 0 ≤ k) (hk1 : k < 8) (ha : σ a = some (.list ((i ++ [z]).map .int))) (hl : i.length ≤ 10) (h2 : k = 2 → i ≠ [])
    (h : ∀ b σ', σ' b = some (.list ((step02 k v i z).map .int)) → Q (.obj b) σ') : Fn C (n + 2) 61 [.obj a, .int k, .int v] σ Q := by
  refine fn_cellsX (ns := [Str.ofString "row", Str.ofString "kind", Str.ofString "value"]) (dv := []) (da := []) (cs := fun L => [(Str.ofString "row", L + 1)]) (ho := by rw [K.hK]; rfl) (hcd := by rw [K.hK]; kernel_rfl) (hbind := ?_) (hd := fun _ => .nil) (hnd := by decide) (hloc := by decide) (hck := by decide) (hcs := fun _ => rfl) (hml := rfl) (hσ := fun _ => rfl) (h := ?_)
  · intro S vs hv
    match vs, hv with
    | [v1, v2, v3], _ => rfl
  · intro A₀ A base h₀ outer L pin hc
    have hc1 : σ (L + 1) = none := hc (Str.ofString "row", L + 1) (List.mem_cons_self ..)
    have hne : a ≠ L + 1 := hp_ne ha hc1
    have ha1 : (σ.set (L + 1) (.cell (some (.obj a)))) a = some (.list ((i ++ [z]).map .int)) := (AHeap.set_ne _ _ hne).trans ha
    dsimp only [cellS]
    change WS C (n + 1) _ _ _ (σ.set (L + 1) (.cell (some (.obj a)))) _
    have K' := K
    cases K'
    obtain rfl | rfl | rfl | rfl | rfl | rfl | rfl | rfl : k = 0 ∨ k = 1 ∨ k = 2 ∨ k = 3 ∨ k = 4 ∨ k = 5 ∨ k = 6 ∨ k = 7 := by omega
    all_goals (repeat walk_at "fw")
    · refine tg_listM ha1 PySem.F.slot_list_append PySem.F.type_list_append ?_
      repeat walk_at "fw"
      refine tc_append ha1 (by simp [sizeLine_eq]; omega) ?_
      repeat walk_at "fw"
      exact ret_le (h a _ (by rw [AHeap.set_same]; simp [step02]))
    · refine tg_listM ha1 PySem.F.slot_list_insert PySem.F.type_list_insert ?_
      repeat walk_at "fw"
      refine tc_insert (j := i.length) ha1 (by decide) (by simp; omega) (by simp [sizeLine_eq]; omega) ?_
      repeat walk_at "fw"
      exact ret_le (h a _ (by rw [AHeap.set_same]; simp [step02]))
    · refine tg_listM ha1 PySem.F.slot_list_pop PySem.F.type_list_pop ?_
      repeat walk_at "fw"
      refine tc_pop (j := i.length) ha1 (by decide) (by unfold seqIndex?; simp; omega) (y := .int z) (by simp) (by simp [sizeLine_eq]; omega) ?_
      repeat walk_at "fw"
      exact ret_le (h a _ (by rw [AHeap.set_same]; simp [step02, List.eraseIdx_append]))
    · refine we_slice ?_
      repeat walk_at "fw"
      refine ⟨_, _, _, _, items_obj ha1, rfl, rfl, rfl, by decide, by simp [sizeLine_eq]; omega, ?_⟩
      refine we_slice ?_
      repeat walk_at "fw"
      refine ⟨_, _, _, _, items_obj ha1, rfl, rfl, rfl, by decide, by simp [sizeLine_eq]; omega, ?_⟩
      refine t2_catM rfl rfl (by simp [pickA_plain, sizeLine_eq]; omega) fun l hl => ret_le (h l _ ?_)
      rw [AHeap.set_same]
      have hc : clipAt (i.length + 1) (-1) = i.length := by have := clipAt_neg (i.length + 1) 1 (by decide); simpa using this
      simp [pickA_plain, step02, hc]
    · refine tu_listN ha1 (by decide) (by simp; omega) (by decide) ?_
      repeat walk_at "fw"
      exact ret_le (h a _ (by rw [AHeap.set_same]; simp [step02, show ((-1 : Int) + (↑i.length + 1)).toNat = i.length by omega]))
    · refine t2_itemN (y := .int z) (items_obj ha1) (by decide) (by simp; omega) (by decide) (by simp [show ((-1 : Int) + (↑i.length + 1)).toNat = i.length by omega]) ?_
      repeat walk_at "fw"
      cases i with
      | nil =>
        refine t2_item (y := .int z) (items_obj ha1) (by decide) (by decide) (by simp) ?_
        repeat walk_at "fw"
        refine tu_list ha1 (by decide) (by simp) (by decide) ?_
        repeat walk_at "fw"
        refine tu_listN (AHeap.set_same ..) (by decide) (by simp) (by decide) ?_
        repeat walk_at "fw"
        exact ret_le (h a _ (by rw [AHeap.set_same]; simp [step02]))
      | cons w j =>
        refine t2_item (y := .int w) (items_obj ha1) (by decide) (by decide) (by simp) ?_
        repeat walk_at "fw"
        refine tu_list ha1 (by decide) (by simp; omega) (by decide) ?_
        repeat walk_at "fw"
        refine tu_listN (AHeap.set_same ..) (by decide) (by simp; omega) (by decide) ?_
        repeat walk_at "fw"
        exact ret_le (h a _ (by rw [AHeap.set_same]; simp [step02, show ((-1 : Int) + (↑j.length + 1 + 1)).toNat = j.length + 1 by omega]))
    · refine we_sliceM ?_
      repeat walk_at "fw"
      refine ⟨_, _, _, _, items_obj ha1, rfl, rfl, rfl, by decide, by simp [sizeLine_eq]; omega, fun l hl => ret_le (h l _ ?_)⟩
      rw [AHeap.set_same, pickA_rev]; simp [step02]
    · refine we_compM (cl := [(Str.ofString "row", L + 1)]) (fun back rest ys σ' => back = id ∧ σ' = σ.set (L + 1) (.cell (some (.obj a))) ∧ ∃ j, rest = (rngL i.length (-1) (i.length + 1)).drop j ∧ ys = (((i ++ [z]).map AVal.int).reverse).take j) rfl ?_ ?_ ?_
      · refine wi ?_
        repeat walk_at "fw"
        refine tc_range3 ?_ ?_ ?_
        · decide
        · decide
        have hle : (List.map AVal.int (i ++ [z])).length = i.length + 1 := by simp
        rw [hle]
        refine ti_rng (k := i.length + 1) (rng_smallD (by omega)) rng_sizeD ⟨?_, rfl, rfl, 0, ?_, by simp⟩
        · rw [rngL_length, sizeLine_eq]; omega
        · rw [List.drop_zero]; congr 1; omega
      · intro back pin c v xs ys σ' hI hc
        obtain ⟨rfl, rfl, j, h1, rfl⟩ := hI
        obtain ⟨hj, rfl, rfl⟩ := rngL_cons h1
        have hcl : L + 1 ≠ c := hp_ne (AHeap.set_same ..) hc
        have hac : a ≠ c := hp_ne ha1 hc
        have ha2 : ((σ.set (L + 1) (.cell (some (.obj a)))).set c (.ns [(Str.ofString "k", .int (↑i.length + ↑j * -1))])) a = some (.list ((i ++ [z]).map .int)) := (AHeap.set_ne _ _ hac).trans ha1
        repeat walk_at "fw"
        have hrl : ((i ++ [z]).map AVal.int).reverse.length = i.length + 1 := by simp
        refine t2_item (y := (((i ++ [z]).map AVal.int).reverse)[j]'(by rw [hrl]; exact hj)) (items_obj ha2) (by omega) (by omega) ?_ ?_
        · rw [List.getElem_reverse]
          rw [show ((i.length : Int) + ↑j * -1).toNat = ((i ++ [z]).map AVal.int).length - 1 - j by simp; omega]
          rw [List.getElem?_eq_getElem]
        · refine ⟨⟨_, AHeap.set_same ..⟩, σ.set (L + 1) (.cell (some (.obj a))), AHeap.le_set hc, hc, rfl, rfl, j + 1, rfl, ?_⟩
          rw [List.take_append_getElem]
      · intro back ys σ' D hI hD
        obtain ⟨rfl, rfl, j, h1, rfl⟩ := hI
        have hj := rngL_nil h1
        refine ret_le (h D _ ?_)
        show ((σ.set (L + 1) (.cell (some (.obj a)))).set D _) D = _
        rw [AHeap.set_same, List.take_of_length_le (by simp; omega)]
        simp [step02]
end
end Mine

open PySem PySem.W PyProof.Rows PySem.Calls
namespace Mine
local macro_rules | `(tactic| walk_at "hp") => `(tactic| first
  | assumption
  | exact AHeap.set_same ..
  | (refine (AHeap.set_ne _ _ ?_).trans ?_; first | (first | assumption | exact Ne.symm (by assumption) | exact hp_ne (by assumption) (by assumption) | exact Ne.symm (hp_ne (by assumption) (by assumption))); walk_at "hp"))
local macro_rules | `(tactic| walk_at "we") => `(tactic| first
  | with_reducible refine we_int ?_
  | ((with_reducible refine' we_local ?h1 ?h2 ?_ ?h3 ?h4); (case h1 => rfl); (case h2 => rfl); (case h3 => decide); (case h4 => rfl))
  | ((with_reducible refine' we_cell ?h1 ?h2 ?h4 ?_ ?h3); (case h1 => rfl); (case h2 => rfl); (case h4 => walk_at "hp"); (case h3 => decide))
  | ((with_reducible refine' we_clocal ?h1 ?h2 ?h4 ?h5 ?_ ?h3); (case h1 => rfl); (case h2 => rfl); (case h4 => walk_at "hp"); (case h5 => rfl); (case h3 => decide))
  | with_reducible refine we_binop ?_
  | with_reducible refine we_str ?_
  | with_reducible refine we_none ?_
  | with_reducible refine we_bool ?_
  | with_reducible refine we_unary ?_
  | with_reducible refine we_ifexp ?_
  | ((with_reducible refine we_compare ?_ ?h1); (case h1 => rfl))
  | ((with_reducible refine' we_global ?h1 ?h2 ?_ ?h3); (case h1 => rfl); (case h2 => assumption); (case h3 => decide))
  | ((with_reducible refine' we_builtin ?h1 ?h2 ?h4 ?_ ?h5 ?h3); (case h1 => rfl); (case h2 => assumption); (case h4 => boot_by_name); (case h5 => decide); (case h3 => decide))
  | ((with_reducible refine we_call ?_ ?h1); (case h1 => rfl))
  | (refine we_method ?_)
  | with_reducible refine we_tup ?_
  | with_reducible refine we_lst ?_
  | with_reducible refine we_sub (slice := .Name _ _) ?_
  | with_reducible refine we_sub (slice := .Constant _ _ _) ?_
  | with_reducible refine we_sub (slice := .BinOp _ _ _ _) ?_
  | with_reducible refine we_sub (slice := .UnaryOp _ _ _) ?_
  | with_reducible refine we_sub (slice := .Call _ _ _ _) ?_
  | with_reducible refine we_sub (slice := .Subscript _ _ _) ?_)
local macro_rules | `(tactic| walk_at "t2") => `(tactic| first
  | with_reducible refine t2_add ?_
  | with_reducible refine t2_sub ?_
  | with_reducible refine t2_eq ?_
  | with_reducible refine t2_ne ?_
  | with_reducible refine t2_lt ?_
  | with_reducible refine t2_gt ?_
  | ((with_reducible refine t2_div ?h1 ?h2 ?_); (case h1 => decide); (case h2 => decide))
  | ((with_reducible refine t2_mod ?h1 ?h2 ?_); (case h1 => decide); (case h2 => decide))
  | with_reducible refine t2_isNone ?_
  | with_reducible refine t2_isNotNone ?_)
local macro_rules | `(tactic| walk_at "tc") => `(tactic| first
  | refine tc_fn (by assumption) (getLineNumber (by assumption) ?_)
  | refine tc_fn (by assumption) (getColumnNumber (by assumption) ?_)
  | refine tc_fn (by assumption) (getPublicId (by assumption) ?_)
  | refine tc_fn (by assumption) (getSystemId (by assumption) ?_)
  | refine tc_fin (by assumption) (by assumption) (by assumption) ?_
  | ((with_reducible refine' tc_len ?h1 ?h2 ?_); (case h1 => first | rfl | exact items_obj (by walk_at "hp")); (case h2 => first | decide | (simp <;> omega)))
  | with_reducible refine tc_max ?_
  | with_reducible refine tc_min ?_)
local macro_rules | `(tactic| walk_at "fw") => `(tactic| first
  | ((with_reducible show WE _ _ _ _ _ _ _); walk_at "we")
  | ((with_reducible show WL _ _ _ _ _ _ _ _); (first | ((with_reducible refine wl_cons ?_ ?h1); (case h1 => rfl)) | with_reducible refine wl_nil ?_))
  | ((with_reducible show T2 _ _ _ _ _ _ _ _ _); walk_at "t2")
  | ((with_reducible show T1 _ _ _ _ _ _ _ _); with_reducible refine t1_neg ?_)
  | ((with_reducible show TB _ _ _ _ _ _ _ _); with_reducible refine tb_bool ?_)
  | ((with_reducible show TG _ _ _ _ _ _ _ _); ((with_reducible refine' tg_fin ?h1 ?h2 ?h3 ?_); (case h1 => apply_assumption); (case h2 => assumption); (case h3 => assumption)))
  | ((with_reducible show List.length _ ≤ sizeLine ∧ _); refine And.intro (by first | decide | (simp [sizeLine_eq])) ?_)
  | ((with_reducible show (if true = true then _ else _)); rw [if_pos rfl])
  | ((with_reducible show (if false = true then _ else _)); rw [if_neg Bool.false_ne_true])
  | ((with_reducible show TC _ _ _ _ _ _ _ _); walk_at "tc")
  | ((with_reducible show WT _ _ _ _ _ _ _); first | ((with_reducible refine wt_compare ?_ ?h1); (case h1 => rfl)) | (with_reducible refine wt_bool ?_) | (with_reducible refine wt_not ?_))
  | ((with_reducible show WA _ _ _ _ _ _ _ _); first | (with_reducible refine wa_or ?_) | (with_reducible refine wa_or_nil ?_) | (with_reducible refine wa_and ?_) | (with_reducible refine wa_and_nil ?_))
  | ((with_reducible show WO _ _ _ _ _ _ _); first | (with_reducible refine wo_none ?_) | (with_reducible refine wo_some ?_))
  | ((with_reducible show WQ _ _ _ _ _ _ _); first | (with_reducible refine wq_nil ?_) | (with_reducible refine wq_one ?_))
  | ((with_reducible show WS _ _ _ _ _ _ _); (first | with_reducible refine ws_cons ?_ | with_reducible refine ws_nil ?_))
  | ((with_reducible show W1 _ _ _ _ _ _ _); (first | with_reducible refine w1_return ?_ | with_reducible refine w1_if ?_ | ((with_reducible refine w1_assign ?_ ?h1); (case h1 => rfl)) | ((with_reducible refine w1_assignT ?_ ?h1 ?h2); (case h1 => rfl); (case h2 => rfl)) | ((with_reducible refine w1_setItem ?_ ?h1); (case h1 => rfl)) | ((with_reducible refine w1_setAttr ?_ ?h1); (case h1 => rfl)) | ((with_reducible refine w1_expr ?_ ?h1 ?h2); (case h1 => rfl); (case h2 => rfl))))
  | ((with_reducible show TA _ _ _ _ _ _ _ _); (first | (refine ta_tup ?_) | (refine ta_name (ts_local (by rfl) ?_ (by rfl))) | (with_reducible refine ta_sub ?_)))
  | ((with_reducible show TS _ _ _ _ _ _ _ _); (refine ts_local (by rfl) ?_ (by rfl)))
  | ((with_reducible show TAs _ _ _ _ _ _ _ _); (first | (refine tas_cons ?_) | (refine tas_nil ?_)))
  | ((with_reducible show (_ = true → _) ∧ (_ = false → _)); (first | exact And.intro (fun hk => absurd hk (by decide)) (fun hk => absurd hk (by decide)) | refine And.intro (fun _ => ?_) (fun hk => absurd hk (by decide)) | refine And.intro (fun hk => absurd hk (by decide)) (fun _ => ?_) | refine And.intro (fun hk => ?_) (fun hk => ?_))))

theorem pick_last {i : List Int} {z : Int} : pickA ((i ++ [z]).map .int) none (some (i.length : Int)) none = i.map .int := by
  rw [pickA_plain]
  simp only [Option.elim, clipAt_nat]
  simp
theorem pick_mid {w z : Int} {j : List Int} : pickA (((w :: j) ++ [z]).map .int) (some 1) (some ((w :: j).length : Int)) none = j.map .int := by
  rw [pickA_plain, show (some 1 : Option Int) = some ((1 : Nat) : Int) from rfl]
  simp only [Option.elim, clipAt_nat]
  simp
section
variable {C : Cx} {n : Nat} {σ : AHeap} {Q : AVal → AHeap → Prop}
set_option maxHeartbeats 4000000 in
theorem plain02 (K : K02 C) {k v z : Int} {i : List Int} (hk0 : 0 ≤ k) (hk1 : k < 8) (hl : i.length ≤ 10) (h : Q (.lst ((step02 k v i z).map .int)) σ) : Fn C (n + 1) 68 [.lst ((i ++ [z]).map .int), .int k, .int v] σ Q := by
  refine fn_plain (ns := [Str.ofString "row", Str.ofString "kind", Str.ofString "value"]) (dv := []) (da := []) (ho := by rw [K.hK]; rfl) (hcd := by rw [K.hK]; kernel_rfl) (hbind := ?_) (hd := fun _ => .nil) (hnd := by decide) (hloc := by decide) (h := ?_)
  · intro S vs hv
    match vs, hv with
    | [v1, v2, v3], _ => rfl
  · intro A₀ A base h₀ outer L pin
    have K' := K
    cases K'
    have hz : ((i ++ [z]).map AVal.int).length = i.length + 1 := by simp
    have h1 : ((i.length + 1 : Nat) : Int) - 1 = i.length := by omega
    iterate 11 walk_at "fw"
    rw [hz, h1]
    obtain rfl | rfl | rfl | rfl | rfl | rfl | rfl | rfl : k = 0 ∨ k = 1 ∨ k = 2 ∨ k = 3 ∨ k = 4 ∨ k = 5 ∨ k = 6 ∨ k = 7 := by omega
    all_goals (repeat walk_at "fw")
    · refine t2_cat rfl rfl (by simp [sizeLine_eq]; omega) (ret_le ?_)
      simpa [step02] using h
    · refine we_slice ?_
      repeat walk_at "fw"
      refine ⟨_, _, _, _, rfl, rfl, rfl, rfl, by decide, by simp [sizeLine_eq]; omega, ?_⟩
      rw [pick_last]
      repeat walk_at "fw"
      refine t2_item (y := .int z) rfl (by omega) (by omega) (by simp) ?_
      repeat walk_at "fw"
      refine t2_cat rfl rfl (by simp [sizeLine_eq]; omega) (ret_le ?_)
      simpa [step02] using h
    · refine we_slice ?_
      repeat walk_at "fw"
      refine ⟨_, _, _, _, rfl, rfl, rfl, rfl, by decide, by simp [sizeLine_eq]; omega, ?_⟩
      rw [pick_last]
      repeat walk_at "fw"
      refine ret_le ?_
      simpa [step02] using h
    · refine t2_item (y := .int z) rfl (by omega) (by omega) (by simp) ?_
      repeat walk_at "fw"
      refine we_slice ?_
      repeat walk_at "fw"
      refine ⟨_, _, _, _, rfl, rfl, rfl, rfl, by decide, by simp [sizeLine_eq]; omega, ?_⟩
      rw [pick_last]
      repeat walk_at "fw"
      refine t2_cat rfl rfl (by simp [sizeLine_eq]; omega) (ret_le ?_)
      simpa [step02] using h
    · refine we_slice ?_
      repeat walk_at "fw"
      refine ⟨_, _, _, _, rfl, rfl, rfl, rfl, by decide, by simp [sizeLine_eq]; omega, ?_⟩
      rw [pick_last]
      repeat walk_at "fw"
      refine t2_cat rfl rfl (by simp [sizeLine_eq]; omega) (ret_le ?_)
      simpa [step02] using h
    · refine t2_item (y := .int z) rfl (by omega) (by omega) (by simp) ?_
      repeat walk_at "fw"
      rename_i hk
      cases i with
      | nil => simp at hk
      | cons w j =>
        have hl' : j.length ≤ 9 := by simpa using hl
        refine we_slice ?_
        repeat walk_at "fw"
        refine ⟨_, _, _, _, rfl, rfl, rfl, rfl, by decide, by simp [sizeLine_eq]; omega, ?_⟩
        rw [pick_mid]
        refine t2_cat rfl rfl (by simp [sizeLine_eq]; omega) ?_
        repeat walk_at "fw"
        refine t2_item (y := .int w) rfl (by omega) (by omega) (by simp) ?_
        repeat walk_at "fw"
        refine t2_cat rfl rfl (by simp [sizeLine_eq]; omega) (ret_le ?_)
        simpa [step02] using h
    · rename_i hk
      cases i with
      | cons w j => simp at hk
      | nil =>
        refine ret_le ?_
        simpa [step02] using h
    all_goals
      refine W1.weaken (m' := [(Str.ofString "row", .lst ((i ++ [z]).map .int)), (Str.ofString "turned", .lst [])]) (Has.sub ⟨rfl, rfl, trivial⟩) (AHeap.le_refl _) ?_
      refine w1_for (fun rest m' σ' => σ' = σ ∧ ∃ ds, (i ++ [z]).map AVal.int = ds ++ rest ∧ m' = [(Str.ofString "row", .lst ((i ++ [z]).map .int)), (Str.ofString "turned", .lst ds.reverse)]) ?_ ?_ ?_
      · refine wi ?_
        repeat walk_at "fw"
        refine ti_lst ⟨rfl, rfl, [], rfl, rfl⟩
      · rintro pin x xs m' σ' ⟨rfl, ds, h1, rfl⟩
        have hds : ds.length ≤ 11 := by
          have := congrArg List.length h1
          simp at this; omega
        repeat walk_at "fw"
        refine t2_cat rfl rfl (by simp [sizeLine_eq]; omega) ?_
        repeat walk_at "fw"
        exact ⟨[(Str.ofString "row", .lst ((i ++ [z]).map .int)), (Str.ofString "turned", .lst (ds ++ [x]).reverse)], _, Has.sub ⟨rfl, by simp; rfl, trivial⟩, AHeap.le_refl _, rfl, ds ++ [x], by simp [h1], rfl⟩
      · rintro m' σ' ⟨rfl, ds, h1, rfl⟩
        repeat walk_at "fw"
        refine ret_le ?_
        rw [List.append_nil] at h1
        rw [← h1]
        simpa [step02] using h
end
end Mine

open PySem PySem.W PyProof.Rows PySem.Calls
namespace Mine
theorem step02_len {k v : Int} {i : List Int} {z : Int} (hk0 : 0 ≤ k) (hk1 : k < 8) (h0 : k < 2 → i.length < 9) (h2 : k = 2 → i ≠ []) (hl : i.length ≤ 9) : ∃ i' z', step02 k v i z = i' ++ [z'] ∧ i'.length ≤ 9 := by
  have key : ∀ l : List Int, l ≠ [] → l.length ≤ 10 → ∃ i' z', l = i' ++ [z'] ∧ i'.length ≤ 9 := fun l h1 h2 => ⟨l.dropLast, l.getLast h1, (List.dropLast_concat_getLast h1).symm, by simp; omega⟩
  apply key
  · unfold step02
    (repeat' split) <;> simp_all
  · unfold step02
    (repeat' split) <;> simp_all <;> omega
def Inv02 (S : AVal) (xs : List AVal) (m : AEnv) (σ : AHeap) : Prop :=
  ∃ (ns : List Int) (a : Addr) (i : List Int) (z : Int), xs = ns.map .int ∧ i.length ≤ 9 ∧ σ a = some (.list ((i ++ [z]).map .int)) ∧ m = [(Str.ofString "script", S), (Str.ofString "row", .obj a), (Str.ofString "plain", .lst ((i ++ [z]).map .int))]
end Mine
open Mine
local macro_rules | `(tactic| walk_at "hp") => `(tactic| first
  | assumption
  | exact AHeap.set_same ..
  | (refine (AHeap.set_ne _ _ ?_).trans ?_; first | (first | assumption | exact Ne.symm (by assumption) | exact hp_ne (by assumption) (by assumption) | exact Ne.symm (hp_ne (by assumption) (by assumption))); walk_at "hp"))
local macro_rules | `(tactic| walk_at "we") => `(tactic| first
  | with_reducible refine we_int ?_
  | ((with_reducible refine' we_local ?h1 ?h2 ?_ ?h3 ?h4); (case h1 => rfl); (case h2 => rfl); (case h3 => decide); (case h4 => rfl))
  | ((with_reducible refine' we_cell ?h1 ?h2 ?h4 ?_ ?h3); (case h1 => rfl); (case h2 => rfl); (case h4 => walk_at "hp"); (case h3 => decide))
  | ((with_reducible refine' we_clocal ?h1 ?h2 ?h4 ?h5 ?_ ?h3); (case h1 => rfl); (case h2 => rfl); (case h4 => walk_at "hp"); (case h5 => rfl); (case h3 => decide))
  | with_reducible refine we_binop ?_
  | with_reducible refine we_str ?_
  | with_reducible refine we_none ?_
  | with_reducible refine we_bool ?_
  | with_reducible refine we_unary ?_
  | with_reducible refine we_ifexp ?_
  | ((with_reducible refine we_compare ?_ ?h1); (case h1 => rfl))
  | ((with_reducible refine' we_global ?h1 ?h2 ?_ ?h3); (case h1 => rfl); (case h2 => assumption); (case h3 => decide))
  | ((with_reducible refine' we_builtin ?h1 ?h2 ?h4 ?_ ?h5 ?h3); (case h1 => rfl); (case h2 => assumption); (case h4 => boot_by_name); (case h5 => decide); (case h3 => decide))
  | ((with_reducible refine we_call ?_ ?h1); (case h1 => rfl))
  | (refine we_method ?_)
  | with_reducible refine we_tup ?_
  | with_reducible refine we_lst ?_
  | with_reducible refine we_sub (slice := .Name _ _) ?_
  | with_reducible refine we_sub (slice := .Constant _ _ _) ?_
  | with_reducible refine we_sub (slice := .BinOp _ _ _ _) ?_
  | with_reducible refine we_sub (slice := .UnaryOp _ _ _) ?_
  | with_reducible refine we_sub (slice := .Call _ _ _ _) ?_
  | with_reducible refine we_sub (slice := .Subscript _ _ _) ?_)
local macro_rules | `(tactic| walk_at "t2") => `(tactic| first
  | with_reducible refine t2_add ?_
  | with_reducible refine t2_sub ?_
  | with_reducible refine t2_eq ?_
  | with_reducible refine t2_ne ?_
  | with_reducible refine t2_lt ?_
  | with_reducible refine t2_gt ?_
  | ((with_reducible refine t2_div ?h1 ?h2 ?_); (case h1 => decide); (case h2 => decide))
  | ((with_reducible refine t2_mod ?h1 ?h2 ?_); (case h1 => decide); (case h2 => decide))
  | with_reducible refine t2_isNone ?_
  | with_reducible refine t2_isNotNone ?_)
local macro_rules | `(tactic| walk_at "tc") => `(tactic| first
  | refine tc_fn (by assumption) (getLineNumber (by assumption) ?_)
  | refine tc_fn (by assumption) (getColumnNumber (by assumption) ?_)
  | refine tc_fn (by assumption) (getPublicId (by assumption) ?_)
  | refine tc_fn (by assumption) (getSystemId (by assumption) ?_)
  | refine tc_fin (by assumption) (by assumption) (by assumption) ?_
  | ((with_reducible refine' tc_len ?h1 ?h2 ?_); (case h1 => first | rfl | exact items_obj (by walk_at "hp")); (case h2 => first | decide | (simp <;> omega)))
  | with_reducible refine tc_max ?_
  | with_reducible refine tc_min ?_)
local macro_rules | `(tactic| walk_at "fw") => `(tactic| first
  | ((with_reducible show WE _ _ _ _ _ _ _); walk_at "we")
  | ((with_reducible show WL _ _ _ _ _ _ _ _); (first | ((with_reducible refine wl_cons ?_ ?h1); (case h1 => rfl)) | with_reducible refine wl_nil ?_))
  | ((with_reducible show T2 _ _ _ _ _ _ _ _ _); walk_at "t2")
  | ((with_reducible show T1 _ _ _ _ _ _ _ _); with_reducible refine t1_neg ?_)
  | ((with_reducible show TB _ _ _ _ _ _ _ _); with_reducible refine tb_bool ?_)
  | ((with_reducible show TG _ _ _ _ _ _ _ _); ((with_reducible refine' tg_fin ?h1 ?h2 ?h3 ?_); (case h1 => apply_assumption); (case h2 => assumption); (case h3 => assumption)))
  | ((with_reducible show List.length _ ≤ sizeLine ∧ _); refine And.intro (by first | decide | (simp [sizeLine_eq])) ?_)
  | ((with_reducible show (if true = true then _ else _)); rw [if_pos rfl])
  | ((with_reducible show (if false = true then _ else _)); rw [if_neg Bool.false_ne_true])
  | ((with_reducible show TC _ _ _ _ _ _ _ _); walk_at "tc")
  | ((with_reducible show WT _ _ _ _ _ _ _); first | ((with_reducible refine wt_compare ?_ ?h1); (case h1 => rfl)) | (with_reducible refine wt_bool ?_) | (with_reducible refine wt_not ?_))
  | ((with_reducible show WA _ _ _ _ _ _ _ _); first | (with_reducible refine wa_or ?_) | (with_reducible refine wa_or_nil ?_) | (with_reducible refine wa_and ?_) | (with_reducible refine wa_and_nil ?_))
  | ((with_reducible show WO _ _ _ _ _ _ _); first | (with_reducible refine wo_none ?_) | (with_reducible refine wo_some ?_))
  | ((with_reducible show WQ _ _ _ _ _ _ _); first | (with_reducible refine wq_nil ?_) | (with_reducible refine wq_one ?_))
  | ((with_reducible show WS _ _ _ _ _ _ _); (first | with_reducible refine ws_cons ?_ | with_reducible refine ws_nil ?_))
  | ((with_reducible show W1 _ _ _ _ _ _ _); (first | with_reducible refine w1_return ?_ | with_reducible refine w1_if ?_ | ((with_reducible refine w1_assign ?_ ?h1); (case h1 => rfl)) | ((with_reducible refine w1_assignT ?_ ?h1 ?h2); (case h1 => rfl); (case h2 => rfl)) | ((with_reducible refine w1_setItem ?_ ?h1); (case h1 => rfl)) | ((with_reducible refine w1_setAttr ?_ ?h1); (case h1 => rfl)) | ((with_reducible refine w1_expr ?_ ?h1 ?h2); (case h1 => rfl); (case h2 => rfl))))
  | ((with_reducible show TA _ _ _ _ _ _ _ _); (first | (refine ta_tup ?_) | (refine ta_name (ts_local (by rfl) ?_ (by rfl))) | (with_reducible refine ta_sub ?_)))
  | ((with_reducible show TS _ _ _ _ _ _ _ _); (refine ts_local (by rfl) ?_ (by rfl)))
  | ((with_reducible show TAs _ _ _ _ _ _ _ _); (first | (refine tas_cons ?_) | (refine tas_nil ?_)))
  | ((with_reducible show (_ = true → _) ∧ (_ = false → _)); (first | exact And.intro (fun hk => absurd hk (by decide)) (fun hk => absurd hk (by decide)) | refine And.intro (fun _ => ?_) (fun hk => absurd hk (by decide)) | refine And.intro (fun hk => absurd hk (by decide)) (fun _ => ?_) | refine And.intro (fun hk => ?_) (fun hk => ?_))))

set_option maxHeartbeats 4000000 in
theorem PySem.Challenge.cw_dn0301_02_holds : PySem.Challenge.rw_dn0301_02.Holds :=
  Mine.hd02 (by
  w_strict (k_go0
            refine' Mine.enter_law (by assumption) (by assumption) (by assumption) (by assumption) (by assumption) (by assumption) rfl (by omega) ?_ ?_
            · intro A₀ A base h₀ outer ns hns
              generalize hC : Mine.Cx.mk _ _ _ _ _ _ _ _ _ = C
              have K : Mine.K02 C := by subst hC; exact Mine.k02 rfl
              clear hC
              have K' := K
              cases K'
              dsimp only
              refine ws_cons (w1_assignS (names := [Str.ofString "row", Str.ofString "plain"]) ?_ rfl rfl)
              refine we_tup ?_
              walk_at "fw"
              refine we_listM ?_
              repeat walk_at "fw"
              intro a ha
              repeat walk_at "fw"
              refine ⟨_, rfl, rfl, tss_cons (ts_local rfl (tss_cons (ts_local rfl (tss_nil ?_))))⟩
              refine WS.weaken (m' := [(Str.ofString "script", .lst (ns.map .int)), (Str.ofString "row", .obj a), (Str.ofString "plain", .lst ((([7, 8] ++ [9] : List Int)).map .int))]) (Has.sub ⟨rfl, rfl, rfl, trivial⟩) (AHeap.le_refl _) ?_
              refine ws_cons (w1_for (Inv02 (.lst (ns.map .int))) ?_ ?_ ?_)
              · refine wi ?_
                repeat walk_at "fw"
                refine t2_cat rfl rfl (by simp [sizeLine_eq]; omega) ?_
                exact ti_lst ⟨rfl, [3, 6, 9, 4, 5, 7, 2, 17, 40] ++ ns, a, [7, 8], 9, by simp, by decide, AHeap.set_same .., rfl⟩
              · rintro pin x xs m' σ' ⟨us, a, i, z, he, hl, ha, rfl⟩
                cases us with
                | nil => cases he
                | cons u us =>
                  cases he
                  obtain ⟨hu0, hu1⟩ := fmod_range u (y := 8) (by decide)
                  iterate 1 walk_at "fw"
                  dsimp only [Fm.withPin]
                  iterate 8 walk_at "fw"
                  have hz : ((i ++ [z]).map AVal.int).length = i.length + 1 := by simp
                  refine W1.cut (P := fun fl m' σ₁ => fl = .next ∧ σ₁ = σ' ∧ ∃ kd : Int, 0 ≤ kd ∧ kd < 8 ∧ (kd < 2 → i.length < 9) ∧ (kd = 2 → i ≠ []) ∧ Has m' [(Str.ofString "script", .lst (ns.map .int)), (Str.ofString "row", .obj a), (Str.ofString "plain", .lst ((i ++ [z]).map .int)), (Str.ofString "x", .int u), (Str.ofString "kind", .int kd)]) ?_ ?_
                  · repeat walk_at "fw"
                    all_goals refine ⟨rfl, rfl, _, ?_, ?_, ?_, ?_, ⟨rfl, rfl, rfl, rfl, rfl, trivial⟩⟩
                    all_goals (try intro hk2)
                    all_goals (try intro hi0; (have hi1 : i.length = 0 := by rw [hi0]; rfl))
                    all_goals (simp only [decide_eq_true_eq, decide_eq_false_iff_not, beq_iff_eq, beq_eq_false_iff_ne, ne_eq, hz] at *)
                    all_goals omega
                  · rintro fl m' σ₁ ⟨rfl, rfl, kd, k0, k1, k2, k3, hm⟩
                    refine WS.weaken (Has.sub hm) (AHeap.le_refl _) ?_
                    refine ws_cons (w1_assignS (names := [Str.ofString "row", Str.ofString "plain"]) ?_ rfl rfl)
                    repeat walk_at "fw"
                    refine tc_fn (by assumption) (worked K k0 k1 ha (by omega) k3 ?_)
                    intro b σ₂ hb
                    repeat walk_at "fw"
                    refine tc_fn (by assumption) (plain02 K k0 k1 (by omega) ?_)
                    repeat walk_at "fw"
                    refine ⟨_, rfl, rfl, tss_cons (ts_local rfl (tss_cons (ts_local rfl (tss_nil ?_))))⟩
                    repeat walk_at "fw"
                    refine t2_neS (Rd.obj hb (rdAll_ints _)) (Rd.lst (rdAll_ints _)) (dk_ints (k := 0) _) ?_
                    repeat walk_at "fw"
                    obtain ⟨i', z', hs, hl'⟩ := step02_len (v := (u.fdiv 8).fmod 1000) (z := z) k0 k1 k2 k3 hl
                    rw [hs] at hb
                    exact ⟨[(Str.ofString "script", .lst (ns.map .int)), (Str.ofString "row", .obj b), (Str.ofString "plain", .lst ((i' ++ [z']).map .int))], _, Has.sub ⟨rfl, rfl, by rw [← hs]; rfl, trivial⟩, AHeap.le_refl _, us, b, i', z', rfl, hl', hb, rfl⟩
              · rintro m' σ' ⟨us, a, i, z, he, hl, ha, rfl⟩
                repeat walk_at "fw"
                rfl
            · intro h' tk mc' F'
              wrow_close))

