import PyProof.Rows.All
import Wide.All
import OpenK.AllK
import Wide.FinOn
import Lean
import PySem.Challenge.RW_dn0301_10
set_option compiler.extract_closed false
open PySem PySem.W PyProof.Rows PySem.Calls
set_option Elab.async false
set_option maxRecDepth 100000
set_option linter.unusedVariables false
namespace Mine

/-! ## abstract values, objects, contexts -/
inductive AVal where
  | none
  | bool (b : Bool)
  | int (i : Int)
  | str (s : Str)
  | bytes (b : Array UInt8)
  | raw (v : Value)
  | obj (a : Addr)
  | fin (C : Addr)
  | lst (xs : List AVal)
  | tup (xs : List AVal)
  | rng (a b c : Int)

inductive AObj where
  | inst (C : Addr) (as : List (Str × AVal))
  | list (xs : List AVal)
  | dict (es : List (Int × AVal))
  | cell (v : Option AVal)
  | ns (as : List (Str × AVal))

structure Cx where
  prog : Program
  w : World
  K : Frag
  vp : Program
  loose : List Str
  mean : ExcName → Option Value
  mg : Str → Option Value
  mb : Str → Option Value
  H : Heap

abbrev Fz := List (Addr × Obj)
def At (C : Cx) (fz : Fz) (a : Addr) (o : Obj) : Prop := (a, o) ∈ fz ∨ C.H.get? a = some o
theorem At.mono {C : Cx} {fz fz' : Fz} (h : ∀ p ∈ fz, p ∈ fz') {a : Addr} {o : Obj} (x : At C fz a o) : At C fz' a o := x.imp (h _) id

abbrev tupOf (vs : List Value) : Obj := { cls := .type "tuple", data := .seq vs.toArray }

mutual
inductive V (P : Addr → Obj → Prop) : Value → AVal → Prop
  | none : V P .none .none
  | bool (b : Bool) : V P (.bool b) (.bool b)
  | int (i : Int) (t : Tok) : V P (.int i t) (.int i)
  | str (x : Str) (t : Tok) : V P (.str x t) (.str x)
  | bytes (b : Array UInt8) (t : Tok) : V P (.bytes b t) (.bytes b)
  | raw (v : Value) : V P v (.raw v)
  | obj (a : Addr) : V P (.ref a) (.obj a)
  | fin {a d C : Addr} : P a (instObj C d) → P d (dictOf [] 0) → V P (.ref a) (.fin C)
  | lst {a : Addr} {o : Obj} {n : Nat} {vs : List Value} {xs : List AVal} : P a o → o.cls = .type "list" → o.data = .seq vs.toArray n → Vs P vs xs → V P (.ref a) (.lst xs)
  | tup {a : Addr} {o : Obj} {n : Nat} {vs : List Value} {xs : List AVal} : P a o → o.cls = .type "tuple" → o.data = .seq vs.toArray n → Vs P vs xs → V P (.ref a) (.tup xs)
  | rng {r : Addr} {a b c : Int} {t u v : Tok} : P r { cls := .type "range", dict := none, data := .fields #[.int a t, .int b u, .int c v], slots := #[] } → V P (.ref r) (.rng a b c)
inductive Vs (P : Addr → Obj → Prop) : List Value → List AVal → Prop
  | nil : Vs P [] []
  | cons {v : Value} {av : AVal} {vs : List Value} {xs : List AVal} : V P v av → Vs P vs xs → Vs P (v :: vs) (av :: xs)
end

mutual
theorem V.mono {P P' : Addr → Obj → Prop} (k : ∀ a o, P a o → P' a o) : ∀ {v : Value} {x : AVal}, V P v x → V P' v x
  | _, _, .none => .none
  | _, _, .bool b => .bool b
  | _, _, .int i t => .int i t
  | _, _, .str x t => .str x t
  | _, _, .bytes b t => .bytes b t
  | _, _, .raw v => .raw v
  | _, _, .obj a => .obj a
  | _, _, .fin h1 h2 => .fin (k _ _ h1) (k _ _ h2)
  | _, _, .lst h1 h2 h3 h4 => .lst (k _ _ h1) h2 h3 (Vs.mono k h4)
  | _, _, .tup h1 h2 h3 h4 => .tup (k _ _ h1) h2 h3 (Vs.mono k h4)
  | _, _, .rng h1 => .rng (k _ _ h1)
theorem Vs.mono {P P' : Addr → Obj → Prop} (k : ∀ a o, P a o → P' a o) : ∀ {vs : List Value} {xs : List AVal}, Vs P vs xs → Vs P' vs xs
  | _, _, .nil => .nil
  | _, _, .cons h1 h2 => .cons (V.mono k h1) (Vs.mono k h2)
end
theorem V.up {C : Cx} {fz fz' : Fz} (h : ∀ p ∈ fz, p ∈ fz') {v : Value} {x : AVal} (a : V (At C fz) v x) : V (At C fz') v x := a.mono fun _ _ => At.mono h
theorem Vs.up {C : Cx} {fz fz' : Fz} (h : ∀ p ∈ fz, p ∈ fz') {v : List Value} {x : List AVal} (a : Vs (At C fz) v x) : Vs (At C fz') v x := a.mono fun _ _ => At.mono h
theorem Vs.length {P : Addr → Obj → Prop} : ∀ {vs : List Value} {xs : List AVal}, Vs P vs xs → vs.length = xs.length
  | _, _, .nil => rfl
  | _, _, .cons _ h => by simp [h.length]
theorem Vs.append {P : Addr → Obj → Prop} : ∀ {vs : List Value} {xs : List AVal} {ws : List Value} {ys : List AVal}, Vs P vs xs → Vs P ws ys → Vs P (vs ++ ws) (xs ++ ys)
  | _, _, _, _, .nil, h => h
  | _, _, _, _, .cons a b, h => .cons a (b.append h)
theorem Vs.get {P : Addr → Obj → Prop} : ∀ {vs : List Value} {xs : List AVal}, Vs P vs xs → ∀ {i : Nat} {x : AVal}, xs[i]? = some x → ∃ v, vs[i]? = some v ∧ V P v x
  | _, _, .nil, _, _, e => by simp at e
  | _, _, .cons a b, 0, _, e => by simp at e; subst e; exact ⟨_, rfl, a⟩
  | _, _, .cons a b, i + 1, _, e => by simp at e; obtain ⟨v, h1, h2⟩ := b.get e; exact ⟨v, by simpa using h1, h2⟩
theorem Vs.set {P : Addr → Obj → Prop} : ∀ {vs : List Value} {xs : List AVal}, Vs P vs xs → ∀ (i : Nat) {v : Value} {x : AVal}, V P v x → Vs P (vs.set i v) (xs.set i x)
  | _, _, .nil, _, _, _, _ => .nil
  | _, _, .cons a b, 0, _, _, h => .cons h b
  | _, _, .cons a b, i + 1, _, _, h => .cons a (b.set i h)
theorem Vs.reverse {P : Addr → Obj → Prop} : ∀ {vs : List Value} {xs : List AVal}, Vs P vs xs → Vs P vs.reverse xs.reverse
  | _, _, .nil => .nil
  | _, _, .cons a b => by simp only [List.reverse_cons]; exact b.reverse.append (.cons a .nil)

/-! ## attribute dicts -/
inductive Es (P : Addr → Obj → Prop) : List DictEntry → List (Str × AVal) → Prop
  | nil : Es P [] []
  | cons {h : Int} {x : Str} {t : Tok} {v : Value} {av : AVal} {es : List DictEntry} {as : List (Str × AVal)} : V P v av → Es P es as → Es P (⟨h, .str x t, v⟩ :: es) ((x, av) :: as)
def getA (x : Str) : List (Str × AVal) → Option AVal
  | [] => none
  | (y, a) :: r => if y == x then some a else getA x r
def setA (x : Str) (v : AVal) : List (Str × AVal) → List (Str × AVal)
  | [] => [(x, v)]
  | (y, a) :: r => if y == x then (y, v) :: r else (y, a) :: setA x v r
theorem Es.mono {P P' : Addr → Obj → Prop} (k : ∀ a o, P a o → P' a o) : ∀ {es : List DictEntry} {as : List (Str × AVal)}, Es P es as → Es P' es as
  | _, _, .nil => .nil
  | _, _, .cons a b => .cons (a.mono k) (b.mono k)
theorem Es.length {P : Addr → Obj → Prop} : ∀ {es : List DictEntry} {as : List (Str × AVal)}, Es P es as → es.length = as.length
  | _, _, .nil => rfl
  | _, _, .cons _ b => by simp [b.length]
theorem Es.noRef {P : Addr → Obj → Prop} : ∀ {es : List DictEntry} {as : List (Str × AVal)}, Es P es as → es.any (·.refKey) = false
  | _, _, .nil => rfl
  | _, _, .cons _ b => by rw [List.any_cons, b.noRef]; rfl
theorem getL_cons_hit {x : Str} {e : DictEntry} {es : List DictEntry} (h : e.key.isStr x = true) : getL x (e :: es) = some (some e.val) := by
  unfold getL; rw [List.find?_cons, h]
theorem Es.get_some {P : Addr → Obj → Prop} {x : Str} : ∀ {es : List DictEntry} {as : List (Str × AVal)}, Es P es as → ∀ {a : AVal}, getA x as = some a → ∃ v, getL x es = some (some v) ∧ V P v a
  | _, _, .nil, _, e => by cases e
  | _, _, .cons (h := hh) (x := y) (t := t) (v := v) (es := es) (as := as) q b, a, e => by
    unfold getA at e
    by_cases hy : (y == x) = true
    · rw [if_pos hy] at e; cases e
      exact ⟨v, getL_cons_hit hy, q⟩
    · rw [if_neg hy] at e
      obtain ⟨u, h1, h2⟩ := b.get_some e
      refine ⟨u, ?_, h2⟩
      have hy' : Value.isStr (.str y t) x = false := by show (y == x) = false; exact Bool.eq_false_iff.mpr hy
      unfold getL at h1 ⊢
      rw [List.find?_cons]
      simp only [hy']
      revert h1
      cases List.find? (fun x_1 => x_1.key.isStr x) es with
      | none => intro h1; rw [List.any_cons]; revert h1; cases es.any (·.refKey) <;> intro h1 <;> cases h1
      | some e' => exact id
theorem Es.get_none {P : Addr → Obj → Prop} {x : Str} : ∀ {es : List DictEntry} {as : List (Str × AVal)}, Es P es as → getA x as = none → getL x es = some none
  | _, _, .nil, _ => rfl
  | _, _, .cons (h := hh) (x := y) (t := t) (v := v) (es := es) (as := as) q b, e => by
    unfold getA at e
    by_cases hy : (y == x) = true
    · rw [if_pos hy] at e; cases e
    · rw [if_neg hy] at e
      have h1 := b.get_none e
      have hy' : Value.isStr (.str y t) x = false := by show (y == x) = false; exact Bool.eq_false_iff.mpr hy
      unfold getL at h1 ⊢
      rw [List.find?_cons]
      simp only [hy']
      revert h1
      cases List.find? (fun x_1 => x_1.key.isStr x) es with
      | none => rw [List.any_cons, b.noRef]; intro _; rfl
      | some e' => exact id
theorem Es.isSome {P : Addr → Obj → Prop} {x : Str} {es : List DictEntry} {as : List (Str × AVal)} (h : Es P es as) : (getL x es).isSome = true := by
  cases q : getA x as with
  | none => rw [h.get_none q]; rfl
  | some a => obtain ⟨v, e, _⟩ := h.get_some q; rw [e]; rfl
theorem Es.put {P : Addr → Obj → Prop} {x : Str} {hh : Int} {t : Tok} {v : Value} {a : AVal} (hv : V P v a) : ∀ {es : List DictEntry} {as : List (Str × AVal)}, Es P es as → Es P (putL x hh (.str x t) v es) (setA x a as)
  | _, _, .nil => .cons hv .nil
  | _, _, .cons (h := h') (x := y) (t := t') (v := v') (es := es) (as := as) q b => by
    unfold putL setA
    by_cases hy : (y == x) = true
    · have hy' : Value.isStr (.str y t') x = true := hy
      rw [if_pos hy, if_pos hy']; exact .cons hv b
    · have hy' : ¬ Value.isStr (.str y t') x = true := hy
      rw [if_neg hy, if_neg hy']; exact .cons q (b.put hv)

/-! ## abstract heap -/
abbrev AHeap := Addr → Option AObj
def AHeap.set (σ : AHeap) (a : Addr) (o : AObj) : AHeap := fun b => if b = a then some o else σ b
@[simp] theorem AHeap.set_same (σ : AHeap) (a : Addr) (o : AObj) : σ.set a o a = some o := if_pos rfl
theorem AHeap.set_ne (σ : AHeap) {a b : Addr} (o : AObj) (h : b ≠ a) : σ.set a o b = σ b := if_neg h
def AHeap.le (σ σ' : AHeap) : Prop := ∀ a o, σ a = some o → σ' a = some o

/-- what stands under names -/
def ER (P : Addr → Obj → Prop) (m : List (Str × AVal)) (mc : Str → Option Value) : Prop := ∀ x a, getA x m = some a → ∃ v, mc x = some v ∧ V P v a
theorem ER.mono {P P' : Addr → Obj → Prop} (k : ∀ a o, P a o → P' a o) {m : List (Str × AVal)} {mc : Str → Option Value} (h : ER P m mc) : ER P' m mc := fun x a e => by obtain ⟨v, h1, h2⟩ := h x a e; exact ⟨v, h1, h2.mono k⟩
/-- a dict with whole numbers as keys -/
inductive Ks (P : Addr → Obj → Prop) : List (Int × Value) → List (Int × AVal) → Prop
  | nil : Ks P [] []
  | cons {k : Int} {v : Value} {a : AVal} {kvs : List (Int × Value)} {es : List (Int × AVal)} : V P v a → Ks P kvs es → Ks P ((k, v) :: kvs) ((k, a) :: es)
theorem Ks.mono {P P' : Addr → Obj → Prop} (k : ∀ a o, P a o → P' a o) : ∀ {kvs : List (Int × Value)} {es : List (Int × AVal)}, Ks P kvs es → Ks P' kvs es
  | _, _, .nil => .nil
  | _, _, .cons a b => .cons (a.mono k) (b.mono k)
def OR (P : Addr → Obj → Prop) (news : List (Addr × Obj)) (d a : Addr) : AObj → Prop
  | .inst C as => (a, instObj C d) ∈ news ∧ ∃ es n, (d, dictOf es n) ∈ news ∧ Es P es as
  | .list xs => ∃ vs n, (a, listOf vs.toArray n) ∈ news ∧ Vs P vs xs
  | .dict es => ∃ o kvs, (a, o) ∈ news ∧ (∀ prog w, o.IsDictOf (intKind prog w) kvs) ∧ Ks P kvs es
  | .ns as => ∃ o mc, (a, o) ∈ news ∧ LCg.NsObj o mc ∧ ER P as mc
  | .cell none => ∃ o, (a, o) ∈ news ∧ o.data = .cell none
  | .cell (some x) => ∃ o v, (a, o) ∈ news ∧ o.data = .cell (some v) ∧ V P v x

structure HR (C : Cx) (fz pin : Fz) (σ : AHeap) (δ : Addr → Addr) (news : List (Addr × Obj)) : Prop where
  sub : ∀ p ∈ fz ++ pin, p ∈ news
  apart : ∀ p ∈ fz, ∀ q ∈ pin, p.1 ≠ q.1
  ob : ∀ a ao, σ a = some ao → OR (At C fz) news (δ a) a ao
  off : ∀ a ao, σ a = some ao → ∀ p ∈ fz ++ pin, p.1 ≠ a
  doff : ∀ a c as, σ a = some (.inst c as) → ∀ p ∈ fz ++ pin, p.1 ≠ δ a
  dσ : ∀ a c as, σ a = some (.inst c as) → σ (δ a) = none
  dinj : ∀ a c as b c' bs, σ a = some (.inst c as) → σ b = some (.inst c' bs) → δ a = δ b → a = b

theorem OR.key {P : Addr → Obj → Prop} {news : List (Addr × Obj)} {d a : Addr} {o : AObj} (h : OR P news d a o) : ∃ o', (a, o') ∈ news := by
  cases o with
  | inst C as => exact ⟨_, h.1⟩
  | list xs => obtain ⟨vs, n, h, _⟩ := h; exact ⟨_, h⟩
  | dict es => obtain ⟨o, kvs, h, _⟩ := h; exact ⟨o, h⟩
  | ns as => obtain ⟨o, mc, h, _⟩ := h; exact ⟨o, h⟩
  | cell v => cases v with
    | none => obtain ⟨o, h, _⟩ := h; exact ⟨o, h⟩
    | some v => obtain ⟨o, _, h, _⟩ := h; exact ⟨o, h⟩
theorem OR.mono {P P' : Addr → Obj → Prop} {news news' : List (Addr × Obj)} {d a : Addr} {o : AObj} (k : ∀ a o, P a o → P' a o) (h : OR P news d a o) (hn : ∀ o', (a, o') ∈ news → (a, o') ∈ news') (hd : ∀ c as, o = .inst c as → ∀ o', (d, o') ∈ news → (d, o') ∈ news') : OR P' news' d a o := by
  cases o with
  | inst C as => obtain ⟨h1, es, n, h2, h3⟩ := h; exact ⟨hn _ h1, es, n, hd _ _ rfl _ h2, h3.mono k⟩
  | list xs => obtain ⟨vs, n, h1, h2⟩ := h; exact ⟨vs, n, hn _ h1, h2.mono k⟩
  | dict es => obtain ⟨o, kvs, h1, h2, h3⟩ := h; exact ⟨o, kvs, hn _ h1, h2, h3.mono k⟩
  | ns as => obtain ⟨o, mc, h1, h2, h3⟩ := h; exact ⟨o, mc, hn _ h1, h2, h3.mono k⟩
  | cell v => cases v with
    | none => obtain ⟨o, h1, h2⟩ := h; exact ⟨o, hn _ h1, h2⟩
    | some v => obtain ⟨o, v, h1, h2, h3⟩ := h; exact ⟨o, v, hn _ h1, h2, h3.mono k⟩

/-! ## frames, the state -/
structure Fm where
  A₀ : Around
  A : Around
  base : Heap
  h₀ : Heap
  outer : List Env
  L : Addr
  a : Addr
  cn : Str
  cs : Scope
  ccd : Value
  cl : List (Str × Addr)
  pin : Fz
  comp : Option (Scope × List (Str × Addr) × Addr)
@[reducible] def Fm.withPin (f : Fm) (p : Fz) : Fm := { f with pin := p }
/-- the function's own surroundings -/
@[reducible] def Fm.fenv (f : Fm) : Env := envX f.cn f.cs f.L f.a f.ccd f.cl
/-- those of a row built in it -/
@[reducible] def Fm.envOn (f : Fm) : Option (Scope × List (Str × Addr) × Addr) → Env
  | none => f.fenv
  | some (sc, cl, c) => compEnvC sc cl c f.fenv
@[reducible] def Fm.env (f : Fm) : Env := f.envOn f.comp
@[reducible] def Fm.withComp (f : Fm) (k : Option (Scope × List (Str × Addr) × Addr)) (p : Fz) : Fm := { f with comp := k, pin := p }

structure Fm.Ok (C : Cx) (n : Nat) (f : Fm) : Prop where
  below : Below f.A₀ f.base f.outer f.h₀
  kin : C.K.In f.h₀
  top : Top C.vp C.loose C.mean C.mg C.mb f.h₀
  hk : ∀ b o, C.H.get? b = some o → f.h₀.get? b = some o
  stack : f.A.frames = some (f.fenv :: f.outer)
  handled : f.A.handled = none
  guards : f.A.guards = some []
  depth : f.A.depth + 3 * n < recursionLimit
  units : f.A.units + 10 * n + 100 < cLine
  kind : f.cs.kind = .function
  ckind : f.env.scope.kind = .function

abbrev AEnv := List (Str × AVal)
def AEnv.get (m : AEnv) (x : Str) : Option AVal := getA x m
def AEnv.set (m : AEnv) (x : Str) (v : AVal) : AEnv := setA x v m
theorem getA_setA {x y : Str} {v : AVal} : ∀ {m : List (Str × AVal)}, getA y (setA x v m) = if y = x then some v else getA y m
  | [] => by
    unfold setA getA
    by_cases h : y = x
    · simp [h]
    · have : ¬ (x = y) := fun e => h e.symm
      simp [h, this, getA]
  | (z, a) :: r => by
    unfold setA
    by_cases hz : (z == x) = true
    · rw [if_pos hz]
      have hz' : z = x := by simpa using hz
      subst hz'
      unfold getA
      by_cases h : y = z
      · simp [h]
      · have : ¬ (z = y) := fun e => h e.symm
        simp [h, this]
    · rw [if_neg hz]
      unfold getA
      by_cases h : (z == y) = true
      · rw [if_pos h, if_pos h]
        have hz' : z = y := by simpa using h
        subst hz'
        have : ¬ z = x := by simpa using hz
        rw [if_neg this]
      · rw [if_neg h, if_neg h]; exact getA_setA
def SR (C : Cx) (f : Fm) (fz : Fz) (m : AEnv) (σ : AHeap) (s : Shared) : Prop :=
  ∃ mc news δ, Fr f.h₀ f.L s.heap mc ∧ News f.h₀ f.L s.heap news ∧ HR C fz f.pin σ δ news ∧ ER (At C fz) m mc
def Same (s s' : Shared) : Prop := ∃ h tk, s' = { s with heap := h, toks := tk }
theorem Same.rfl {s : Shared} : Same s s := ⟨s.heap, s.toks, by cases s; exact Eq.refl _⟩
theorem Same.mk {s : Shared} {h : Heap} {tk : Nat} : Same s { s with heap := h, toks := tk } := ⟨h, tk, Eq.refl _⟩
theorem Same.trans {s s₁ s₂ : Shared} (a : Same s s₁) (b : Same s₁ s₂) : Same s s₂ := by
  obtain ⟨h, t, e⟩ := a; obtain ⟨h', t', e'⟩ := b; subst e; subst e'; exact ⟨h', t', Eq.refl _⟩

section
variable {C : Cx} {f : Fm} {fz : Fz} {m : AEnv} {σ : AHeap} {s : Shared}
theorem SR.at_ {n : Nat} (ok : f.Ok C n) (x : SR C f fz m σ s) {a : Addr} {o : Obj} (h : At C fz a o) : s.heap.get? a = some o := by
  obtain ⟨mc, news, δ, F, N, R, _⟩ := x
  rcases h with h | h
  · exact (N _ (R.sub _ (List.mem_append_left _ h))).1
  · exact F.keep _ _ (ok.hk _ _ h)
theorem SR.weaken (x : SR C f fz m σ s) {m' : AEnv} {σ' : AHeap} (hm : ∀ y a, m'.get y = some a → m.get y = some a) (hσ : σ'.le σ) : SR C f fz m' σ' s := by
  obtain ⟨mc, news, δ, F, N, R, e⟩ := x
  refine ⟨mc, news, δ, F, N, ⟨R.sub, R.apart, fun a o h => R.ob a o (hσ _ _ h), fun a o h => R.off a o (hσ _ _ h), fun a c as h => R.doff a c as (hσ _ _ h), fun a c as h => ?_, fun a c as b c' bs h1 h2 => R.dinj a c as b c' bs (hσ _ _ h1) (hσ _ _ h2)⟩, fun y a h => e y a (hm _ _ h)⟩
  cases q : σ' (δ a) with
  | none => rfl
  | some o => have := hσ _ _ q; rw [R.dσ a c as (hσ _ _ h)] at this; cases this
theorem news_lt {h₀ h : Heap} {L : Addr} {news : List (Addr × Obj)} (N : News h₀ L h news) {p : Addr × Obj} (hp : p ∈ news) : p.1 < h.objs.size := Heap.lt_size (N p hp).1

/-- a heap that only grew -/
theorem SR.grow (x : SR C f fz m σ s) {h' : Heap} {t : Nat} (k : ∀ b o, s.heap.get? b = some o → h'.get? b = some o) : SR C f fz m σ { s with heap := h', toks := t } := by
  obtain ⟨mc, news, δ, F, N, R, e⟩ := x
  exact ⟨mc, news, δ, F.grownK k, fun p hp => ⟨k _ _ (N p hp).1, (N p hp).2⟩, R, e⟩

/-- new objects, frozen from the start -/
theorem SR.freeze (x : SR C f fz m σ s) {h' : Heap} {t : Nat} (k : ∀ b o, s.heap.get? b = some o → h'.get? b = some o) (new : List (Addr × Obj)) (hn : ∀ p ∈ new, s.heap.get? p.1 = none ∧ s.heap.objs.size ≤ p.1 ∧ h'.get? p.1 = some p.2) :
    SR C f (new ++ fz) m σ { s with heap := h', toks := t } := by
  obtain ⟨mc, news, δ, F, N, R, e⟩ := x
  have key : ∀ a ao, σ a = some ao → a < s.heap.objs.size := fun a ao h => by obtain ⟨o, h⟩ := (R.ob a ao h).key; exact news_lt N h
  have dkey : ∀ a c as, σ a = some (.inst c as) → δ a < s.heap.objs.size := fun a c as h => by obtain ⟨_, es, n, h, _⟩ := R.ob a _ h; exact news_lt N h
  have up : ∀ p ∈ fz, p ∈ new ++ fz := fun p hp => List.mem_append_right _ hp
  have split : ∀ p ∈ (new ++ fz) ++ f.pin, p ∈ new ∨ p ∈ fz ++ f.pin := fun p hp => by
    rw [List.append_assoc] at hp; exact List.mem_append.mp hp
  refine ⟨mc, new ++ news, δ, F.grownK k, fun p hp => ?_, ⟨fun p hp => ?_, fun p hp q hq => ?_, fun a ao h => ?_, fun a ao h p hp => ?_, fun a c as h p hp => ?_, R.dσ, R.dinj⟩, fun y a h => ?_⟩
  · rcases List.mem_append.mp hp with hp | hp
    · obtain ⟨h1, h2, h3⟩ := hn p hp
      refine ⟨h3, fun q => ?_, ?_⟩
      · obtain ⟨oL, _, _, hL, _⟩ := F.ns; rw [q, hL] at h1; cases h1
      · cases q : f.h₀.get? p.1 with
        | none => rfl
        | some o => rw [F.keep _ _ q] at h1; cases h1
    · exact ⟨k _ _ (N p hp).1, (N p hp).2⟩
  · rcases split p hp with hp | hp
    · exact List.mem_append_left _ hp
    · exact List.mem_append_right _ (R.sub _ hp)
  · rcases List.mem_append.mp hp with hp | hp
    · exact fun e => absurd (news_lt N (R.sub _ (List.mem_append_right _ hq))) (Nat.not_lt.mpr (e ▸ (hn p hp).2.1))
    · exact R.apart p hp q hq
  · exact (R.ob a ao h).mono (fun _ _ => At.mono up) (fun _ q => List.mem_append_right _ q) fun _ _ _ _ q => List.mem_append_right _ q
  · rcases split p hp with hp | hp
    · exact fun q => absurd (key a ao h) (Nat.not_lt.mpr (q ▸ (hn p hp).2.1))
    · exact R.off a ao h p hp
  · rcases split p hp with hp | hp
    · exact fun q => absurd (dkey a c as h) (Nat.not_lt.mpr (q ▸ (hn p hp).2.1))
    · exact R.doff a c as h p hp
  · obtain ⟨v, h1, h2⟩ := e y a h; exact ⟨v, h1, h2.up up⟩
end
end Mine

open PySem PySem.W PyProof.Rows PySem.Calls
namespace Mine
def upd (news : List (Addr × Obj)) (D : Addr) (o : Obj) : List (Addr × Obj) := (D, o) :: news.filter (fun p => decide (p.1 ≠ D))
theorem mem_upd {news : List (Addr × Obj)} {D : Addr} {o : Obj} {p : Addr × Obj} (h : p ∈ news) (hn : p.1 ≠ D) : p ∈ upd news D o :=
  List.mem_cons_of_mem _ (List.mem_filter.mpr ⟨h, by simpa using hn⟩)
theorem news_upd' {h₀ h h' : Heap} {L D : Addr} {news : List (Addr × Obj)} {o o' : Obj} (N : News h₀ L h news) (hD : (D, o) ∈ news) (hs : Heap.SameBut D h h') (ho : h'.get? D = some o') : News h₀ L h' (upd news D o') := by
  intro p hp
  rcases List.mem_cons.mp hp with rfl | hp
  · exact ⟨ho, (N _ hD).2⟩
  · obtain ⟨h1, h2⟩ := List.mem_filter.mp hp
    have h2 : p.1 ≠ D := by simpa using h2
    exact ⟨(hs.2 _ h2).trans (N p h1).1, (N p h1).2⟩

section
variable {C : Cx} {f : Fm} {fz : Fz} {m : AEnv} {σ : AHeap} {s : Shared}

theorem SR.list (x : SR C f fz m σ s) {a : Addr} {xs : List AVal} (h : σ a = some (.list xs)) : ∃ vs n, s.heap.get? a = some (listOf vs.toArray n) ∧ Vs (At C fz) vs xs := by
  obtain ⟨mc, news, δ, F, N, R, e⟩ := x
  obtain ⟨vs, n, h1, h2⟩ := R.ob a _ h
  exact ⟨vs, n, (N _ h1).1, h2⟩
theorem SR.inst (x : SR C f fz m σ s) {a c : Addr} {as : List (Str × AVal)} (h : σ a = some (.inst c as)) : ∃ d es n, s.heap.get? a = some (instObj c d) ∧ s.heap.get? d = some (dictOf es n) ∧ Es (At C fz) es as := by
  obtain ⟨mc, news, δ, F, N, R, e⟩ := x
  obtain ⟨h1, es, n, h2, h3⟩ := R.ob a _ h
  exact ⟨_, es, n, (N _ h1).1, (N _ h2).1, h3⟩
theorem SR.lt (x : SR C f fz m σ s) {a : Addr} {o : AObj} (h : σ a = some o) : a < s.heap.objs.size := by
  obtain ⟨mc, news, δ, F, N, R, e⟩ := x
  obtain ⟨o, h⟩ := (R.ob a _ h).key; exact news_lt N h
theorem SR.fresh (x : SR C f fz m σ s) {a : Addr} (h : s.heap.objs.size ≤ a) : σ a = none := by
  cases q : σ a with
  | none => rfl
  | some o => exact absurd (x.lt q) (Nat.not_lt.mpr h)

/-- a list's, a cell's object is changed -/
theorem SR.change (x : SR C f fz m σ s) {a : Addr} {ao ao' : AObj} {h' : Heap} {t : Nat} {o' : Obj} (h : σ a = some ao) (hn : ∀ c as, ao ≠ .inst c as) (hn' : ∀ c as, ao' ≠ .inst c as) (hs : Heap.SameBut a s.heap h') (ho : h'.get? a = some o')
    (hr : ∀ news d, (a, o') ∈ news → OR (At C fz) news d a ao') : SR C f fz m (σ.set a ao') { s with heap := h', toks := t } := by
  obtain ⟨mc, news, δ, F, N, R, e⟩ := x
  obtain ⟨o, hm⟩ := (R.ob a _ h).key
  have dn : ∀ b c as, σ b = some (.inst c as) → δ b ≠ a := fun b c as hb q => by have := R.dσ b c as hb; rw [q, h] at this; cases this
  have keep : ∀ {b c as}, σ.set a ao' b = some (.inst c as) → b ≠ a ∧ σ b = some (.inst c as) := fun {b c as} hb => by
    by_cases q : b = a
    · subst q; rw [AHeap.set_same] at hb; exact absurd (Option.some.inj hb) (hn' c as)
    · rw [AHeap.set_ne _ _ q] at hb; exact ⟨q, hb⟩
  refine ⟨mc, upd news a o', δ, F.change hs (N _ hm).2.1 (N _ hm).2.2, news_upd' N hm hs ho, ⟨fun p hp => mem_upd (R.sub p hp) (R.off a _ h p hp), R.apart, fun b bo hb => ?_, fun b bo hb p hp => ?_, fun b c as hb p hp => R.doff b c as (keep hb).2 p hp, fun b c as hb => ?_, fun b c as b' c' bs h1 h2 => R.dinj b c as b' c' bs (keep h1).2 (keep h2).2⟩, e⟩
  · by_cases q : b = a
    · subst q; rw [AHeap.set_same] at hb; cases hb; exact hr _ _ (List.mem_cons_self ..)
    · rw [AHeap.set_ne _ _ q] at hb
      exact (R.ob b bo hb).mono (fun _ _ x => x) (fun _ hm => mem_upd hm q) fun c as eb _ hm => mem_upd hm (dn b c as (eb ▸ hb))
  · by_cases q : b = a
    · subst q; exact R.off b _ h p hp
    · rw [AHeap.set_ne _ _ q] at hb; exact R.off b bo hb p hp
  · rw [AHeap.set_ne _ _ (dn b c as (keep hb).2)]; exact R.dσ b c as (keep hb).2
theorem SR.setList (x : SR C f fz m σ s) {a : Addr} {xs xs' : List AVal} {h' : Heap} {t n : Nat} {vs' : List Value} (h : σ a = some (.list xs)) (hs : Heap.SameBut a s.heap h') (ho : h'.get? a = some (listOf vs'.toArray n)) (hv : Vs (At C fz) vs' xs') :
    SR C f fz m (σ.set a (.list xs')) { s with heap := h', toks := t } := x.change h (fun _ _ => nofun) (fun _ _ => nofun) hs ho fun _ _ hm => ⟨_, _, hm, hv⟩
theorem SR.setCell (x : SR C f fz m σ s) {a : Addr} {v₀ : Option AVal} {v : AVal} {u : Value} {h' : Heap} {t : Nat} {o' : Obj} (h : σ a = some (.cell v₀)) (hs : Heap.SameBut a s.heap h') (ho : h'.get? a = some o') (hd : o'.data = .cell (some u)) (hv : V (At C fz) u v) :
    SR C f fz m (σ.set a (.cell (some v))) { s with heap := h', toks := t } := x.change h (fun _ _ => nofun) (fun _ _ => nofun) hs ho fun _ _ hm => ⟨_, _, hm, hd, hv⟩

/-- new mutable things -/
theorem SR.newThing (x : SR C f fz m σ s) {a : Addr} {ao : AObj} {h' : Heap} {t : Nat} {o : Obj} (hn : ∀ c as, ao ≠ .inst c as) (k : ∀ b o, s.heap.get? b = some o → h'.get? b = some o) (ha : s.heap.objs.size ≤ a) (ho : h'.get? a = some o)
    (hr : ∀ news d, (a, o) ∈ news → OR (At C fz) news d a ao) : SR C f fz m (σ.set a ao) { s with heap := h', toks := t } := by
  have hσ := x.fresh ha
  obtain ⟨mc, news, δ, F, N, R, e⟩ := x
  have hnone : s.heap.get? a = none := by
    cases q : s.heap.get? a with
    | none => rfl
    | some o => exact absurd (Heap.lt_size q) (Nat.not_lt.mpr ha)
  have nn : ∀ p ∈ news, p.1 ≠ a := fun p hp q => absurd (news_lt N hp) (Nat.not_lt.mpr (q ▸ ha))
  have keep : ∀ {b c as}, σ.set a ao b = some (.inst c as) → b ≠ a ∧ σ b = some (.inst c as) := fun {b c as} hb => by
    by_cases q : b = a
    · subst q; rw [AHeap.set_same] at hb; exact absurd (Option.some.inj hb) (hn c as)
    · rw [AHeap.set_ne _ _ q] at hb; exact ⟨q, hb⟩
  have dn : ∀ b c as, σ b = some (.inst c as) → δ b ≠ a := fun b c as hb => by obtain ⟨_, es, n, h, _⟩ := R.ob b _ hb; exact nn _ h
  refine ⟨mc, (a, o) :: news, δ, F.grownK k, fun p hp => ?_, ⟨fun p hp => .tail _ (R.sub p hp), R.apart, fun b bo hb => ?_, fun b bo hb p hp => ?_, fun b c as hb p hp => R.doff b c as (keep hb).2 p hp, fun b c as hb => ?_, fun b c as b' c' bs h1 h2 => R.dinj b c as b' c' bs (keep h1).2 (keep h2).2⟩, e⟩
  · rcases List.mem_cons.mp hp with rfl | hp
    · refine ⟨ho, fun q => ?_, ?_⟩
      · obtain ⟨oL, _, _, hL, _⟩ := F.ns; dsimp only at q; rw [q, hL] at hnone; cases hnone
      · cases q : f.h₀.get? a with
        | none => rfl
        | some o => rw [F.keep _ _ q] at hnone; cases hnone
    · exact ⟨k _ _ (N p hp).1, (N p hp).2⟩
  · by_cases q : b = a
    · subst q; rw [AHeap.set_same] at hb; cases hb; exact hr _ _ (List.mem_cons_self ..)
    · rw [AHeap.set_ne _ _ q] at hb
      exact (R.ob b bo hb).mono (fun _ _ x => x) (fun _ hm => .tail _ hm) fun c as eb _ hm => .tail _ hm
  · by_cases q : b = a
    · subst q; exact nn _ (R.sub p hp)
    · rw [AHeap.set_ne _ _ q] at hb; exact R.off b bo hb p hp
  · rw [AHeap.set_ne _ _ (dn b c as (keep hb).2)]; exact R.dσ b c as (keep hb).2
theorem SR.newList (x : SR C f fz m σ s) {a : Addr} {xs : List AVal} {h' : Heap} {t n : Nat} {vs : List Value} (k : ∀ b o, s.heap.get? b = some o → h'.get? b = some o) (ha : s.heap.objs.size ≤ a) (ho : h'.get? a = some (listOf vs.toArray n)) (hv : Vs (At C fz) vs xs) :
    SR C f fz m (σ.set a (.list xs)) { s with heap := h', toks := t } := x.newThing (fun _ _ => nofun) k ha ho fun _ _ hm => ⟨_, _, hm, hv⟩
/-- a name of the frame is stored -/
theorem SR.store (x : SR C f fz m σ s) {y : Str} {v : Value} {a : AVal} (hv : V (At C fz) v a) :
    ∃ mc news, Fr f.h₀ f.L s.heap mc ∧ News f.h₀ f.L s.heap news ∧ ∀ h' t, Fr f.h₀ f.L h' (fun z => if z = y then some v else mc z) → News f.h₀ f.L h' news → SR C f fz (m.set y a) σ { s with heap := h', toks := t } := by
  obtain ⟨mc, news, δ, F, N, R, e⟩ := x
  refine ⟨mc, news, F, N, fun h' t F' N' => ⟨_, news, δ, F', N', R, fun z b hz => ?_⟩⟩
  unfold AEnv.get AEnv.set at hz
  rw [getA_setA] at hz
  by_cases q : z = y
  · rw [if_pos q] at hz; cases hz; exact ⟨v, if_pos q, hv⟩
  · rw [if_neg q] at hz; obtain ⟨u, h1, h2⟩ := e z b hz; exact ⟨u, (if_neg q).trans h1, h2⟩
end
end Mine

open PySem PySem.W PyProof.Rows PySem.Calls
namespace Mine
abbrev Md (C : Cx) : Model := model C.prog C.w

def PV (C : Cx) (f : Fm) (m : AEnv) (fz : Fz) (s : Shared) (Q : AVal → AHeap → Prop) (v : Value) (s' : Shared) : Prop :=
  ∃ fz' σ' a, (∀ p ∈ fz, p ∈ fz') ∧ Same s s' ∧ SR C f fz' m σ' s' ∧ V (At C fz') v a ∧ Q a σ'
def PL (C : Cx) (f : Fm) (m : AEnv) (fz : Fz) (s : Shared) (Q : List AVal → AHeap → Prop) (v : List Value) (s' : Shared) : Prop :=
  ∃ fz' σ' a, (∀ p ∈ fz, p ∈ fz') ∧ Same s s' ∧ SR C f fz' m σ' s' ∧ Vs (At C fz') v a ∧ Q a σ'
def PB (C : Cx) (f : Fm) (m : AEnv) (fz : Fz) (s : Shared) (Q : Bool → AHeap → Prop) (b : Bool) (s' : Shared) : Prop :=
  ∃ fz' σ', (∀ p ∈ fz, p ∈ fz') ∧ Same s s' ∧ SR C f fz' m σ' s' ∧ Q b σ'
inductive AFlow where
  | next | brk | cont
  | ret (a : AVal)
def FV (P : Addr → Obj → Prop) : Flow → AFlow → Prop
  | .next, .next => True
  | .brk, .brk => True
  | .cont, .cont => True
  | .ret v, .ret a => V P v a
  | _, _ => False
def PS (C : Cx) (f : Fm) (fz : Fz) (s : Shared) (Q : AFlow → AEnv → AHeap → Prop) (fl : Flow) (s' : Shared) : Prop :=
  ∃ fz' σ' m' a, (∀ p ∈ fz, p ∈ fz') ∧ Same s s' ∧ SR C f fz' m' σ' s' ∧ FV (At C fz') fl a ∧ Q a m' σ'

def WE (C : Cx) (n : Nat) (f : Fm) (e : Expr) (m : AEnv) (σ : AHeap) (Q : AVal → AHeap → Prop) : Prop :=
  f.Ok C n → ∀ fz s E, SR C f fz m σ s → wpAny (Md C) f.A (eval e f.env) (PV C f m fz s Q) E s
def WL (C : Cx) (n : Nat) (f : Fm) (es : List Expr) (pos : Pos) (m : AEnv) (σ : AHeap) (Q : List AVal → AHeap → Prop) : Prop :=
  f.Ok C n → ∀ fz s E, SR C f fz m σ s → wpAny (Md C) f.A (spliced (backTo pos (starEach es f.env))) (PL C f m fz s Q) E s
def WT (C : Cx) (n : Nat) (f : Fm) (e : Expr) (m : AEnv) (σ : AHeap) (Q : Bool → AHeap → Prop) : Prop :=
  f.Ok C n → ∀ fz s E, SR C f fz m σ s → wpAny (Md C) f.A (isTrue e f.env (eval e f.env)) (PB C f m fz s Q) E s
/-- trees over one, two, many values -/
def T1 (C : Cx) (n : Nat) (f : Fm) (t : Value → Sem Value) (a : AVal) (m : AEnv) (σ : AHeap) (Q : AVal → AHeap → Prop) : Prop :=
  f.Ok C n → ∀ fz s E v, SR C f fz m σ s → V (At C fz) v a → wpAny (Md C) f.A (t v) (PV C f m fz s Q) E s
def T2 (C : Cx) (n : Nat) (f : Fm) (t : Value → Value → Sem Value) (a b : AVal) (m : AEnv) (σ : AHeap) (Q : AVal → AHeap → Prop) : Prop :=
  f.Ok C n → ∀ fz s E v w, SR C f fz m σ s → V (At C fz) v a → V (At C fz) w b → wpAny (Md C) f.A (t v w) (PV C f m fz s Q) E s
def TL (C : Cx) (n : Nat) (f : Fm) (t : List Value → Sem Value) (as : List AVal) (m : AEnv) (σ : AHeap) (Q : AVal → AHeap → Prop) : Prop :=
  f.Ok C n → ∀ fz s E vs, SR C f fz m σ s → Vs (At C fz) vs as → wpAny (Md C) f.A (t vs) (PV C f m fz s Q) E s
def TB (C : Cx) (n : Nat) (f : Fm) (t : Value → Sem Bool) (a : AVal) (m : AEnv) (σ : AHeap) (Q : Bool → AHeap → Prop) : Prop :=
  f.Ok C n → ∀ fz s E v, SR C f fz m σ s → V (At C fz) v a → wpAny (Md C) f.A (t v) (PB C f m fz s Q) E s
def W1 (C : Cx) (n : Nat) (f : Fm) (st : Stmt) (m : AEnv) (σ : AHeap) (Q : AFlow → AEnv → AHeap → Prop) : Prop :=
  f.Ok C n → ∀ fz s E, SR C f fz m σ s → wpAny (Md C) f.A (exec st f.env) (PS C f fz s Q) E s
def WS (C : Cx) (n : Nat) (f : Fm) (ss : List Stmt) (m : AEnv) (σ : AHeap) (Q : AFlow → AEnv → AHeap → Prop) : Prop :=
  f.Ok C n → ∀ fz s E, SR C f fz m σ s → wpAny (Md C) f.A (execs ss f.env) (PS C f fz s Q) E s

section
variable {C : Cx} {n : Nat} {f : Fm} {m : AEnv} {σ : AHeap} {s s₁ s' : Shared} {fz fz₁ : Fz}
theorem sub_refl {fz : Fz} : ∀ p ∈ fz, p ∈ fz := fun _ h => h
theorem PV.up {Q : AVal → AHeap → Prop} {v : Value} (h : ∀ p ∈ fz, p ∈ fz₁) (hs : Same s s₁) (x : PV C f m fz₁ s₁ Q v s') : PV C f m fz s Q v s' := by
  obtain ⟨fz', σ', a, h1, h2, h3, h4, h5⟩ := x
  exact ⟨fz', σ', a, fun p hp => h1 p (h p hp), hs.trans h2, h3, h4, h5⟩
theorem PB.up {Q : Bool → AHeap → Prop} {v : Bool} (h : ∀ p ∈ fz, p ∈ fz₁) (hs : Same s s₁) (x : PB C f m fz₁ s₁ Q v s') : PB C f m fz s Q v s' := by
  obtain ⟨fz', σ', h1, h2, h3, h5⟩ := x
  exact ⟨fz', σ', fun p hp => h1 p (h p hp), hs.trans h2, h3, h5⟩
theorem PS.up {Q : AFlow → AEnv → AHeap → Prop} {v : Flow} (h : ∀ p ∈ fz, p ∈ fz₁) (hs : Same s s₁) (x : PS C f fz₁ s₁ Q v s') : PS C f fz s Q v s' := by
  obtain ⟨fz', σ', m', a, h1, h2, h3, h4, h5⟩ := x
  exact ⟨fz', σ', m', a, fun p hp => h1 p (h p hp), hs.trans h2, h3, h4, h5⟩
theorem PV.here {Q : AVal → AHeap → Prop} {v : Value} {a : AVal} (x : SR C f fz m σ s) (hv : V (At C fz) v a) (q : Q a σ) : PV C f m fz s Q v s := ⟨fz, σ, a, sub_refl, .rfl, x, hv, q⟩
theorem PV.tok {Q : AVal → AHeap → Prop} {v : Value} {a : AVal} {t : Nat} (x : SR C f fz m σ s) (hv : V (At C fz) v a) (q : Q a σ) : PV C f m fz s Q v { s with toks := t } := ⟨fz, σ, a, sub_refl, .mk, x, hv, q⟩

/-! ## consequence -/
theorem WS.mono {ss : List Stmt} {Q Q' : AFlow → AEnv → AHeap → Prop} (h : WS C n f ss m σ Q) (k : ∀ a m σ, Q a m σ → Q' a m σ) : WS C n f ss m σ Q' :=
  fun ok fz s E x => wpAny_mono (h ok fz s E x) (fun v s' ⟨fz', σ', m', a, h1, h2, h3, h4, h5⟩ => ⟨fz', σ', m', a, h1, h2, h3, h4, k _ _ _ h5⟩) fun _ _ x => x
theorem WS.weaken {ss : List Stmt} {m' : AEnv} {σ' : AHeap} {Q : AFlow → AEnv → AHeap → Prop} (hm : ∀ y a, m'.get y = some a → m.get y = some a) (hσ : σ'.le σ) (h : WS C n f ss m' σ' Q) : WS C n f ss m σ Q :=
  fun ok fz s E x => h ok fz s E (x.weaken hm hσ)

/-! ## expressions -/
theorem we_int {i : Int} {k : Nat} {pos : Pos} {Q : AVal → AHeap → Prop} (h : Q (.int i) σ) : WE C n f (.Constant (.int i) k pos) m σ Q :=
  fun ok fz s E x => wpAny_Constant_int (.tok x (.int _ _) h)
theorem we_str {i : Str} {k : Nat} {pos : Pos} {Q : AVal → AHeap → Prop} (h : Q (.str i) σ) : WE C n f (.Constant (.str i) k pos) m σ Q :=
  fun ok fz s E x => wpAny_Constant_str (.tok x (.str _ _) h)
theorem we_none {k : Nat} {pos : Pos} {Q : AVal → AHeap → Prop} (h : Q .none σ) : WE C n f (.Constant .none k pos) m σ Q :=
  fun ok fz s E x => wpAny_Constant_none (.here x .none h)
theorem we_local {y : Str} {pos : Pos} {a : AVal} {Q : AVal → AHeap → Prop} (hl : f.fenv.kindOf y = some .local) (hv : m.get y = some a) (h : Q a σ) (hd : (y == ("__debug__" : Str)) = false := by decide) (hcm : f.comp = none := by rfl) : WE C n f (.Name y pos) m σ Q := fun ok fz s E x => by
  have x' := x
  obtain ⟨mc, news, δ, F, N, R, e⟩ := x
  obtain ⟨v, h1, h2⟩ := e y a hv
  have he : f.env = f.fenv := by unfold Fm.env; rw [hcm]
  rw [he]
  exact nameX_L F h1 (.here x' h2 h) ok.kind hl hd
/-- a name of a row that is being built -/
theorem we_clocal {y : Str} {pos : Pos} {sc : Scope} {cl : List (Str × Addr)} {c : Addr} {as : List (Str × AVal)} {a : AVal} {Q : AVal → AHeap → Prop} (hcm : f.comp = some (sc, cl, c)) (hl : f.env.kindOf y = some .local) (hc : σ c = some (.ns as)) (hv : getA y as = some a) (h : Q a σ) (hd : (y == ("__debug__" : Str)) = false := by decide) : WE C n f (.Name y pos) m σ Q := fun ok fz s E x => by
  have x' := x
  obtain ⟨mc, news, δ, F, N, R, e⟩ := x
  obtain ⟨o, mc', h1, h2, h3⟩ := R.ob c _ hc
  obtain ⟨v, h4, h5⟩ := h3 y a hv
  have hL : f.env.locals = c := by unfold Fm.env; rw [hcm]; rfl
  exact wpAny_Name (wpAny_loadName_local ok.ckind hl (by rw [hL]; exact h2.ns (N _ h1).1) h4 (.here x' h5 h)) hd
theorem we_cell {y : Str} {pos : Pos} {c : Addr} {a : AVal} {Q : AVal → AHeap → Prop} (hl : f.env.kindOf y = some .cell) (hc : f.env.cells.lookup y = some c) (hv : σ c = some (.cell (some a))) (h : Q a σ) (hd : (y == ("__debug__" : Str)) = false := by decide) : WE C n f (.Name y pos) m σ Q := fun ok fz s E x => by
  have x' := x
  obtain ⟨mc, news, δ, F, N, R, e⟩ := x
  obtain ⟨o, v, h1, h2, h3⟩ := R.ob c _ hv
  exact wpAny_Name (wpAny_loadName_cell ok.ckind hl hc ⟨o, N.get h1, h2⟩ (.here x' h3 h)) hd
theorem we_global {y : Str} {pos : Pos} {v : Value} {Q : AVal → AHeap → Prop} (hl : f.env.kindOf y = some .globalImplicit) (hv : nsIn C.K mainGlobals y = some (some v)) (h : Q (.raw v) σ) (hd : (y == ("__debug__" : Str)) = false := by decide) : WE C n f (.Name y pos) m σ Q := fun ok fz s E x => by
  have x' := x
  obtain ⟨mc, news, δ, F, N, R, e⟩ := x
  have hg : f.env.globals = mainGlobals := by unfold Fm.env; cases f.comp <;> rfl
  have T := topRead_of ok.top
  exact Name_function_global ok.ckind hl (loadGlobal_global (env := f.env) (by rw [hg]; exact T.g.keeps F.keep) (mg_of ok.kin T.g hv) (.here x' (.raw v) h)) hd
theorem we_builtin {y : Str} {pos : Pos} {v : Value} {Q : AVal → AHeap → Prop} (hl : f.env.kindOf y = some .globalImplicit) (hv : nsIn C.K mainGlobals y = some none) (hb : bootBuiltins y = some v) (h : Q (.raw v) σ) (hn : y ≠ "__name__" := by decide) (hd : (y == ("__debug__" : Str)) = false := by decide) :
    WE C n f (.Name y pos) m σ Q := fun ok fz s E x => by
  have x' := x
  obtain ⟨mc, news, δ, F, N, R, e⟩ := x
  have hg : f.env.globals = mainGlobals := by unfold Fm.env; cases f.comp <;> rfl
  have hbb : f.env.builtins = builtinsNs := by unfold Fm.env; cases f.comp <;> rfl
  have T := topRead_of ok.top
  exact Name_function_global ok.ckind hl (loadGlobal_builtin (env := f.env) (by rw [hg]; exact T.g.keeps F.keep) (mg_none_of ok.kin T.g hv) (by rw [hbb]; exact T.b.keeps F.keep) ((T.builtins y hn).trans hb) (.here x' (.raw v) h)) hd
theorem we_binop {l r : Expr} {op : Operator} {pos : Pos} {Q : AVal → AHeap → Prop} (h : WE C n f l m σ fun a σ₁ => WE C n f r m σ₁ fun b σ₂ => T2 C n f (binaryOp op) a b m σ₂ Q) : WE C n f (.BinOp l op r pos) m σ Q := fun ok fz s E x => by
  refine wpAny_BinOp (wpAny_mono (h ok fz s E x) (fun v s₁ ⟨fz₁, σ₁, a, u1, e1, x1, va, q1⟩ => wpAny_mono (q1 ok fz₁ s₁ E x1) (fun w s₂ ⟨fz₂, σ₂, b, u2, e2, x2, vb, q2⟩ => ?_) fun _ _ x => x) fun _ _ x => x)
  exact wpAny_mono (q2 ok fz₂ s₂ E v w x2 (va.up u2) vb) (fun r s₃ p => .up (fun p hp => u2 p (u1 p hp)) (e1.trans e2) p) fun _ _ x => x
theorem we_compare {l r : Expr} {op : CmpOp} {pos : Pos} {Q : AVal → AHeap → Prop} (h : WE C n f l m σ fun a σ₁ => WE C n f r m σ₁ fun b σ₂ => T2 C n f (compareOp op) a b m σ₂ Q) (hm : behindInMarks op r = false := by rfl) :
    WE C n f (.Compare l [op] [r] pos) m σ Q := fun ok fz s E x => by
  refine wpAny_Compare1 (wpAny_mono (h ok fz s E x) (fun v s₁ ⟨fz₁, σ₁, a, u1, e1, x1, va, q1⟩ => wpAny_mono (q1 ok fz₁ s₁ E x1) (fun w s₂ ⟨fz₂, σ₂, b, u2, e2, x2, vb, q2⟩ => ?_) fun _ _ x => x) fun _ _ x => x) hm
  exact wpAny_mono (q2 ok fz₂ s₂ E v w x2 (va.up u2) vb) (fun r s₃ p => .up (fun p hp => u2 p (u1 p hp)) (e1.trans e2) p) fun _ _ x => x
theorem we_unary {l : Expr} {op : UnaryOp} {pos : Pos} {Q : AVal → AHeap → Prop} (h : WE C n f l m σ fun a σ₁ => T1 C n f (unaryOp op) a m σ₁ Q) : WE C n f (.UnaryOp op l pos) m σ Q := fun ok fz s E x => by
  refine wpAny_UnaryOp (wpAny_mono (h ok fz s E x) (fun v s₁ ⟨fz₁, σ₁, a, u1, e1, x1, va, q1⟩ => ?_) fun _ _ x => x)
  exact wpAny_mono (q1 ok fz₁ s₁ E v x1 va) (fun r s₃ p => .up u1 e1 p) fun _ _ x => x
theorem we_ifexp {t b o : Expr} {pos : Pos} {Q : AVal → AHeap → Prop} (h : WT C n f t m σ fun c σ₁ => (c = true → WE C n f b m σ₁ Q) ∧ (c = false → WE C n f o m σ₁ Q)) : WE C n f (.IfExp t b o pos) m σ Q := fun ok fz s E x => by
  refine wpAny_IfExp (wpAny_mono (h ok fz s E x) (fun c s₁ ⟨fz₁, σ₁, u1, e1, x1, q1⟩ => ?_) fun _ _ x => x)
  cases c with
  | true => exact wpAny_mono (q1.1 rfl ok fz₁ s₁ E x1) (fun r s₃ p => .up u1 e1 p) fun _ _ x => x
  | false => exact wpAny_mono (q1.2 rfl ok fz₁ s₁ E x1) (fun r s₃ p => .up u1 e1 p) fun _ _ x => x
/-! ## rows of expressions -/
theorem wl_nil {pos : Pos} {Q : List AVal → AHeap → Prop} (h : Q [] σ) : WL C n f [] pos m σ Q := fun ok fz s E x => wpAny_items_nil ⟨fz, σ, [], sub_refl, .rfl, x, .nil, h⟩
theorem wl_cons {e : Expr} {es : List Expr} {pos : Pos} {Q : List AVal → AHeap → Prop} (h : WE C n f e m σ fun a σ₁ => WL C n f es pos m σ₁ fun as σ₂ => Q (a :: as) σ₂)
    (he : starEach (e :: es) f.env = (false, eval e f.env) :: starEach es f.env := by rfl) : WL C n f (e :: es) pos m σ Q := fun ok fz s E x => by
  refine wpAny_items_cons (wpAny_mono (h ok fz s E x) (fun v s₁ ⟨fz₁, σ₁, a, u1, e1, x1, va, q1⟩ => wpAny_mono (q1 ok fz₁ s₁ E x1) (fun w s₂ ⟨fz₂, σ₂, b, u2, e2, x2, vb, q2⟩ => ?_) fun _ _ x => x) fun _ _ x => x) he
  exact ⟨fz₂, σ₂, a :: b, fun p hp => u2 p (u1 p hp), e1.trans e2, x2, .cons (va.up u2) vb, q2⟩
/-- a list display, frozen; and one that may change -/
theorem we_lst {es : List Expr} {pos : Pos} {Q : AVal → AHeap → Prop} (h : WL C n f es pos m σ fun as σ₁ => as.length ≤ sizeLine ∧ Q (.lst as) σ₁) : WE C n f (.List es pos) m σ Q := fun ok fz s E x => by
  refine wpAny_List (wpAny_mono (h ok fz s E x) (fun vs s₁ ⟨fz₁, σ₁, as, u1, e1, x1, va, q0, q1⟩ => ⟨by rw [va.length]; exact q0, ?_⟩) fun _ _ x => x)
  have hs : s₁.heap.get? s₁.heap.objs.size = none := by
    cases q : s₁.heap.get? s₁.heap.objs.size with
    | none => rfl
    | some o => exact absurd (Heap.lt_size q) (Nat.lt_irrefl _)
  refine ⟨[(s₁.heap.objs.size, listOf vs.toArray 0)] ++ fz₁, σ₁, .lst as, fun p hp => List.mem_append_right _ (u1 p hp), e1.trans ⟨_, _, rfl⟩, x1.freeze (t := s₁.toks) (fun b o e => Heap.get?_push_of_some _ e) _ ?_, .lst (.inl (List.mem_append_left _ (List.mem_singleton.mpr rfl))) rfl rfl (va.up fun p hp => List.mem_append_right _ hp), q1⟩
  intro p hp
  rw [List.mem_singleton.mp hp]
  exact ⟨hs, Nat.le_refl _, Heap.get?_push_size _ rfl⟩
theorem we_tup {es : List Expr} {k : Nat} {pos : Pos} {Q : AVal → AHeap → Prop} (h : WL C n f es pos m σ fun as σ₁ => as.length ≤ sizeLine ∧ Q (.tup as) σ₁) : WE C n f (.Tuple es k pos) m σ Q := fun ok fz s E x => by
  refine wpAny_Tuple (wpAny_mono (h ok fz s E x) (fun vs s₁ ⟨fz₁, σ₁, as, u1, e1, x1, va, q0, q1⟩ => ⟨by rw [va.length]; exact q0, ?_⟩) fun _ _ x => x)
  have hs : s₁.heap.get? s₁.heap.objs.size = none := by
    cases q : s₁.heap.get? s₁.heap.objs.size with
    | none => rfl
    | some o => exact absurd (Heap.lt_size q) (Nat.lt_irrefl _)
  refine ⟨[(s₁.heap.objs.size, tupOf vs)] ++ fz₁, σ₁, .tup as, fun p hp => List.mem_append_right _ (u1 p hp), e1.trans ⟨_, _, rfl⟩, x1.freeze (t := s₁.toks) (fun b o e => Heap.get?_push_of_some _ e) _ ?_, .tup (.inl (List.mem_append_left _ (List.mem_singleton.mpr rfl))) rfl rfl (va.up fun p hp => List.mem_append_right _ hp), q1⟩
  intro p hp
  rw [List.mem_singleton.mp hp]
  exact ⟨hs, Nat.le_refl _, Heap.get?_push_size _ rfl⟩
theorem we_listM {es : List Expr} {pos : Pos} {Q : AVal → AHeap → Prop} (h : WL C n f es pos m σ fun as σ₁ => as.length ≤ sizeLine ∧ ∀ a, σ₁ a = none → Q (.obj a) (σ₁.set a (.list as))) : WE C n f (.List es pos) m σ Q := fun ok fz s E x => by
  refine wpAny_List (wpAny_mono (h ok fz s E x) (fun vs s₁ ⟨fz₁, σ₁, as, u1, e1, x1, va, q0, q1⟩ => ⟨by rw [va.length]; exact q0, ?_⟩) fun _ _ x => x)
  exact ⟨fz₁, _, .obj s₁.heap.objs.size, u1, e1.trans ⟨_, _, rfl⟩, x1.newList (t := s₁.toks) (fun b o e => Heap.get?_push_of_some _ e) (Nat.le_refl _) (Heap.get?_push_size _ rfl) va, .obj _, q1 _ (x1.fresh (Nat.le_refl _))⟩

/-! ## tests -/
theorem wt_compare {l r : Expr} {op : CmpOp} {pos : Pos} {Q : Bool → AHeap → Prop} (h : WE C n f l m σ fun a σ₁ => WE C n f r m σ₁ fun b σ₂ => T2 C n f (compareOp op) a b m σ₂ fun c σ₃ => TB C n f truthy c m σ₃ Q) (hm : behindInMarks op r = false := by rfl) :
    WT C n f (.Compare l [op] [r] pos) m σ Q := fun ok fz s E x => by
  refine wpAny_isTrue_Compare1 (wpAny_mono (h ok fz s E x) (fun v s₁ ⟨fz₁, σ₁, a, u1, e1, x1, va, q1⟩ => wpAny_mono (q1 ok fz₁ s₁ E x1) (fun w s₂ ⟨fz₂, σ₂, b, u2, e2, x2, vb, q2⟩ => ?_) fun _ _ x => x) fun _ _ x => x) hm
  refine wpAny_mono (q2 ok fz₂ s₂ E v w x2 (va.up u2) vb) (fun r s₃ ⟨fz₃, σ₃, c, u3, e3, x3, vc, q3⟩ => ?_) fun _ _ x => x
  exact wpAny_mono (q3 ok fz₃ s₃ E r x3 vc) (fun b s₄ p => .up (fun p hp => u3 p (u2 p (u1 p hp))) ((e1.trans e2).trans e3) p) fun _ _ x => x
theorem wt_value {e : Expr} {Q : Bool → AHeap → Prop} (h : WE C n f e m σ fun a σ₁ => TB C n f truthy a m σ₁ Q) (he : ∀ whole, isTrue e f.env whole = (do let v ← whole; standAt e.pos; holding [v] (truthy v)) := by intro _; rfl) : WT C n f e m σ Q := fun ok fz s E x => by
  refine wpAny_isTrue_value (wpAny_mono (h ok fz s E x) (fun v s₁ ⟨fz₁, σ₁, a, u1, e1, x1, va, q1⟩ => ?_) fun _ _ x => x) (he _)
  exact wpAny_mono (q1 ok fz₁ s₁ E v x1 va) (fun b s₄ p => .up u1 e1 p) fun _ _ x => x
/-- a chain of tests in a condition -/
def WA (C : Cx) (n : Nat) (f : Fm) (op : BoolOp) (es : List Expr) (m : AEnv) (σ : AHeap) (Q : Bool → AHeap → Prop) : Prop :=
  f.Ok C n → ∀ fz s E, SR C f fz m σ s → wpAny (Md C) f.A (allTrue op es f.env) (PB C f m fz s Q) E s
theorem wt_bool {op : BoolOp} {es : List Expr} {pos : Pos} {Q : Bool → AHeap → Prop} (h : WA C n f op es m σ Q) : WT C n f (.BoolOp op es pos) m σ Q := fun ok fz s E x => wpAny_isTrue_BoolOp (h ok fz s E x)
theorem wa_and_nil {Q : Bool → AHeap → Prop} (h : Q true σ) : WA C n f .And [] m σ Q := fun ok fz s E x => wpAny_allTrue_And_nil ⟨fz, σ, sub_refl, .rfl, x, h⟩
theorem wa_and {e : Expr} {es : List Expr} {Q : Bool → AHeap → Prop} (h : WT C n f e m σ fun b σ₁ => (b = true → WA C n f .And es m σ₁ Q) ∧ (b = false → Q false σ₁)) : WA C n f .And (e :: es) m σ Q := fun ok fz s E x => by
  refine wpAny_allTrue_And_cons (wpAny_mono (h ok fz s E x) (fun c s₁ ⟨fz₁, σ₁, u1, e1, x1, q1⟩ => ?_) fun _ _ x => x)
  cases c with
  | true => exact wpAny_mono (q1.1 rfl ok fz₁ s₁ E x1) (fun r s₃ p => .up u1 e1 p) fun _ _ x => x
  | false => exact ⟨fz₁, σ₁, u1, e1, x1, q1.2 rfl⟩
theorem tb_bool {b : Bool} {Q : Bool → AHeap → Prop} (h : Q b σ) : TB C n f truthy (.bool b) m σ Q := fun ok fz s E v x hv => by
  cases hv; exact wpAny_truthy_bool ⟨fz, σ, sub_refl, .rfl, x, h⟩

/-! ## statements -/
theorem ws_nil {Q : AFlow → AEnv → AHeap → Prop} (h : Q .next m σ) : WS C n f [] m σ Q := fun ok fz s E x => wpAny_execs_nil ⟨fz, σ, m, .next, sub_refl, .rfl, x, trivial, h⟩
theorem ws_cons {st : Stmt} {ss : List Stmt} {Q : AFlow → AEnv → AHeap → Prop} (h : W1 C n f st m σ fun a m' σ' => match a with | .next => WS C n f ss m' σ' Q | a => Q a m' σ') : WS C n f (st :: ss) m σ Q := fun ok fz s E x => by
  refine wpAny_execs_cons (wpAny_mono (h ok fz s E x) (fun fl s₁ ⟨fz₁, σ₁, m₁, a, u1, e1, x1, va, q1⟩ => ?_) fun _ _ x => x)
  cases fl with
  | next =>
    cases a with
    | next => exact wpAny_mono (q1 ok fz₁ s₁ E x1) (fun r s₃ p => .up u1 e1 p) fun _ _ x => x
    | _ => exact va.elim
  | brk => cases a <;> first | exact ⟨fz₁, σ₁, m₁, _, u1, e1, x1, va, q1⟩ | exact va.elim
  | cont => cases a <;> first | exact ⟨fz₁, σ₁, m₁, _, u1, e1, x1, va, q1⟩ | exact va.elim
  | ret v => cases a <;> first | exact ⟨fz₁, σ₁, m₁, _, u1, e1, x1, va, q1⟩ | exact va.elim
theorem w1_return {e : Expr} {pos : Pos} {Q : AFlow → AEnv → AHeap → Prop} (h : WE C n f e m σ fun a σ₁ => Q (.ret a) m σ₁) : W1 C n f (.Return (some e) pos) m σ Q := fun ok fz s E x =>
  wpAny_Return_some (wpAny_mono (h ok fz s E x) (fun v s₁ ⟨fz₁, σ₁, a, u1, e1, x1, va, q1⟩ => ⟨fz₁, σ₁, m, .ret a, u1, e1, x1, va, q1⟩) fun _ _ x => x)
theorem w1_if {t : Expr} {b o : List Stmt} {pos : Pos} {Q : AFlow → AEnv → AHeap → Prop} (h : WT C n f t m σ fun c σ₁ => (c = true → WS C n f b m σ₁ Q) ∧ (c = false → WS C n f o m σ₁ Q)) : W1 C n f (.If t b o pos) m σ Q := fun ok fz s E x => by
  refine wpAny_If (wpAny_mono (h ok fz s E x) (fun c s₁ ⟨fz₁, σ₁, u1, e1, x1, q1⟩ => ?_) fun _ _ x => x)
  cases c with
  | true => exact wpAny_mono (q1.1 rfl ok fz₁ s₁ E x1) (fun r s₃ p => .up u1 e1 p) fun _ _ x => x
  | false => exact wpAny_mono (q1.2 rfl ok fz₁ s₁ E x1) (fun r s₃ p => .up u1 e1 p) fun _ _ x => x
/-- storing a value under a name: as a tree -/
def TS (C : Cx) (n : Nat) (f : Fm) (y : Str) (a : AVal) (m : AEnv) (σ : AHeap) (Q : AEnv → AHeap → Prop) : Prop :=
  f.Ok C n → ∀ fz s E v, SR C f fz m σ s → V (At C fz) v a → wpAny (Md C) f.A (storeName f.env y v) (fun _ s' => ∃ fz' σ' m', (∀ p ∈ fz, p ∈ fz') ∧ Same s s' ∧ SR C f fz' m' σ' s' ∧ Q m' σ') E s
theorem ts_local {y : Str} {a : AVal} {Q : AEnv → AHeap → Prop} (hl : f.fenv.kindOf y = some .local) (h : Q (m.set y a) σ) (hcm : f.comp = none := by rfl) : TS C n f y a m σ Q := fun ok fz s E v x hv => by
  have he : f.env = f.fenv := by unfold Fm.env; rw [hcm]
  rw [he]
  obtain ⟨mc, news, F, N, k⟩ := x.store (y := y) hv
  exact storeX_L F N (fun h' F' N' => ⟨fz, σ, _, sub_refl, .mk, k h' _ F' N', h⟩) ok.kind hl
theorem ts_cell {y : Str} {a : AVal} {c : Addr} {v₀ : Option AVal} {Q : AEnv → AHeap → Prop} (hl : f.env.kindOf y = some .cell) (hc : f.env.cells.lookup y = some c) (hv : σ c = some (.cell v₀)) (h : Q m (σ.set c (.cell (some a)))) : TS C n f y a m σ Q := fun ok fz s E v x va => by
  have x' := x
  obtain ⟨mc, news, δ, F, N, R, e⟩ := x
  obtain ⟨o, u, ho, hd⟩ : ∃ o u, (c, o) ∈ news ∧ o.data = .cell u := by
    cases v₀ with
    | none => obtain ⟨o, h1, h2⟩ := R.ob c _ hv; exact ⟨o, _, h1, h2⟩
    | some a => obtain ⟨o, u, h1, h2, _⟩ := R.ob c _ hv; exact ⟨o, _, h1, h2⟩
  refine wpAny_storeName_cell ok.ckind hl hc ⟨o, (N _ ho).1, hd⟩ fun h' hv' hs => ?_
  obtain ⟨o', ho', hd'⟩ := hv'
  exact ⟨fz, _, m, sub_refl, ⟨_, _, rfl⟩, x'.setCell (t := s.toks) hv hs ho' hd' va, h⟩
theorem w1_assign {y : Str} {py : Pos} {e : Expr} {pos : Pos} {Q : AFlow → AEnv → AHeap → Prop} (h : WE C n f e m σ fun a σ₁ => TS C n f y a m σ₁ fun m' σ' => Q .next m' σ')
    (hs : swapsWith e (some (.Name y py)) pos.line f.env = pure false := by rfl) : W1 C n f (.Assign [.Name y py] e pos) m σ Q := fun ok fz s E x => by
  refine wpAny_Assign_Name (wpAny_mono (h ok fz s E x) (fun v s₁ ⟨fz₁, σ₁, a, u1, e1, x1, va, q1⟩ => ?_) fun _ _ x => x) hs
  exact wpAny_mono (q1 ok fz₁ s₁ E v x1 va) (fun _ s₂ ⟨fz₂, σ₂, m₂, u2, e2, x2, q2⟩ => ⟨fz₂, σ₂, m₂, .next, fun p hp => u2 p (u1 p hp), e1.trans e2, x2, trivial, q2⟩) fun _ _ x => x
end
end Mine

open PySem PySem.W PyProof.Rows PySem.Calls
namespace Mine
def Near (f : Fm) (A : Around) : Prop := A.frames = f.A.frames ∧ A.handled = f.A.handled ∧ A.guards = f.A.guards ∧ A.depth ≤ f.A.depth + 2 ∧ A.units ≤ f.A.units + 4
theorem Near.refl {f : Fm} : Near f f.A := ⟨rfl, rfl, rfl, by omega, by omega⟩
def RV (C : Cx) (f : Fm) (m : AEnv) (fz : Fz) (s : Shared) (Q : AVal → AHeap → Prop) (r : Result) (s' : Shared) : Prop := ∃ v, r = .ok (.ret v) ∧ PV C f m fz s Q v s'
/-- what a call of a def of the text does -/
def Fn (C : Cx) (n : Nat) (fa : Addr) (as : List AVal) (σ : AHeap) (Q : AVal → AHeap → Prop) : Prop :=
  ∀ f m A, f.Ok C n → Near f A → ∀ fz s vs, SR C f fz m σ s → Vs (At C fz) vs as → codeAny (Md C) A (.call (.ref fa) ⟨vs, []⟩) (RV C f m fz s Q) s
def Keep (C : Cx) (h : Heap) (v : Value) : Prop := ∃ k, (k = Keeper.frame ∨ k = Keeper.machine ∨ k = Keeper.boundFrame) ∧ Looks (Md C) h (keeperOf v) k
/-- a call -/
def TC (C : Cx) (n : Nat) (f : Fm) (fv : AVal) (as : List AVal) (m : AEnv) (σ : AHeap) (Q : AVal → AHeap → Prop) : Prop :=
  f.Ok C n → ∀ fz s E v vs, SR C f fz m σ s → V (At C fz) v fv → Vs (At C fz) vs as → Keep C s.heap v ∧ wpAny (Md C) f.A (call v vs) (PV C f m fz s Q) E s
/-- a method looked up -/
def TG (C : Cx) (n : Nat) (f : Fm) (name : Str) (ov : AVal) (m : AEnv) (σ : AHeap) (Q : AVal → List AVal → AHeap → Prop) : Prop :=
  f.Ok C n → ∀ fz s E v pl, SR C f fz m σ s → V (At C fz) v ov → wpAny (Md C) f.A (getMethod v name pl) (fun fx s' => ∃ fz' σ' fa as, (∀ p ∈ fz, p ∈ fz') ∧ Same s s' ∧ SR C f fz' m σ' s' ∧ V (At C fz') fx.1 fa ∧ Vs (At C fz') fx.2 as ∧ Q fa as σ') E s

section
variable {C : Cx} {n : Nat} {f : Fm} {m : AEnv} {σ : AHeap}
theorem cw {pos : Pos} {v : Value} {first : List Value} {args : List Expr} {s : Shared} {E : Value → Shared → Prop} {Q : Value → Shared → Prop}
    (h : wpAny (Md C) f.A (spliced (backTo pos (starEach args f.env))) (fun vs s₁ => Keep C s₁.heap v ∧ wpAny (Md C) f.A (call v (first ++ vs)) Q E s₁) E s)
    (hplain : (backTo pos (starEach args f.env)).any (·.1) = false := by rfl) : wpAny (Md C) f.A (callWith pos v first (backTo pos (starEach args f.env)) (backToKw pos (keywordEach [] f.env))) Q E s := by
  show wpAny (Md C) f.A (callWith pos v first (backTo pos (starEach args f.env)) []) Q E s
  revert h hplain
  generalize backTo pos (starEach args f.env) = l
  intro h hplain
  refine callWith_of (P := fun h => Keep C h v) (by rw [hplain]; rfl) (fun h k => k) ?_
  cases l with
  | nil =>
    unfold evalArgs
    show wpAny _ _ (spliced [] >>= _) _ E s
    exact wpAny_bind (wpAny_mono h (fun vs s₁ h₁ => wpAny_bind (wpAny_pure (wpAny_holding (wpAny_bind (wpAny_pure (wpAny_bind (wpAny_pure (wpAny_pure h₁)))))))) fun _ _ x => x)
  | cons p l => 
    obtain ⟨b, x⟩ := p
    cases b with
    | true => cases hplain
    | false => exact evalArgs_plain h
theorem we_call {g : Str} {gp : Pos} {args : List Expr} {pos : Pos} {Q : AVal → AHeap → Prop} (h : WE C n f (.Name g gp) m σ fun fv σ₁ => WL C n f args pos m σ₁ fun as σ₂ => TC C n f fv as m σ₂ Q)
    (hplain : (backTo pos (starEach args f.env)).any (·.1) = false := by rfl) : WE C n f (.Call (.Name g gp) args [] pos) m σ Q := fun ok fz s E x => by
  refine wpAny_Call_ofName (wpAny_mono (h ok fz s E x) (fun v s₁ ⟨fz₁, σ₁, a, u1, e1, x1, va, q1⟩ => cw (wpAny_mono (q1 ok fz₁ s₁ E x1) (fun vs s₂ ⟨fz₂, σ₂, as, u2, e2, x2, vs', q2⟩ => ?_) fun _ _ x => x) hplain) fun _ _ x => x)
  obtain ⟨k, c⟩ := q2 ok fz₂ s₂ E v vs x2 (va.up u2) vs'
  exact ⟨k, wpAny_mono c (fun r s₃ p => .up (fun p hp => u2 p (u1 p hp)) (e1.trans e2) p) fun _ _ x => x⟩
theorem we_method {o : Expr} {name : Str} {apos pos : Pos} {args : List Expr} {pl : Sem Bool} {Q : AVal → AHeap → Prop}
    (h : WE C n f o m σ fun ov σ₁ => TG C n f name ov m σ₁ fun fv first σ₂ => WL C n f args pos m σ₂ fun as σ₃ => TC C n f fv (first ++ as) m σ₃ Q)
    (he : eval (.Call (.Attribute o name apos) args [] pos) f.env = (do
      let ov ← eval o f.env
      standAt apos.atName
      let (g, first) ← holding [ov] (getMethod ov name pl)
      callWith pos g first (backTo pos (starEach args f.env)) (backToKw pos (keywordEach [] f.env))) := by rfl)
    (hplain : (backTo pos (starEach args f.env)).any (·.1) = false := by rfl) : WE C n f (.Call (.Attribute o name apos) args [] pos) m σ Q := fun ok fz s E x => by
  refine methodCall_KW (pl := pl) (wpAny_mono (h ok fz s E x) (fun v s₁ ⟨fz₁, σ₁, a, u1, e1, x1, va, q1⟩ => wpAny_mono (q1 ok fz₁ s₁ E v pl x1 va) (fun fx s₂ ⟨fz₂, σ₂, fa, fs, u2, e2, x2, vf, vfs, q2⟩ => cw (wpAny_mono (q2 ok fz₂ s₂ E x2) (fun vs s₃ ⟨fz₃, σ₃, as, u3, e3, x3, vs', q3⟩ => ?_) fun _ _ x => x) hplain) fun _ _ x => x) fun _ _ x => x) he
  obtain ⟨k, c⟩ := q3 ok fz₃ s₃ E fx.1 (fx.2 ++ vs) x3 (vf.up u3) ((vfs.up u3).append vs')
  exact ⟨k, wpAny_mono c (fun r s₄ p => .up (fun p hp => u3 p (u2 p (u1 p hp))) ((e1.trans e2).trans e3) p) fun _ _ x => x⟩

/-! ## methods of own instances -/
theorem tg_inst {a c g : Addr} {as : List (Str × AVal)} {name : Str} {Q : AVal → List AVal → AHeap → Prop} (hσ : σ a = some (.inst c as)) (hn : getA name as = none) (hg : plainGet C.K c name = true)
    (hf : findIn C.K (.ref c) name = some (some (.ref g))) (ht : isFn C.K (.ref g) = true) (h : Q (.raw (.ref g)) [.obj a] σ) : TG C n f name (.obj a) m σ Q := fun ok fz s E v pl x hv => by
  cases hv
  obtain ⟨d, es, k, h1, h2, h3⟩ := x.inst hσ
  have x' := x
  obtain ⟨mc, news, δ, F, N, R, e⟩ := x
  exact method_inst F ok.kin (⟨h1, rfl, rfl, h2⟩ : InstAt s.heap a (instObj c d) c (some (dictOf es k))) hg hf ht (h3.get_none hn) ⟨fz, σ, _, _, sub_refl, .rfl, x', .raw _, .cons (.obj a) .nil, h⟩
theorem keep_K {g : Value} (ok : f.Ok C n) {fz : Fz} {s : Shared} (x : SR C f fz m σ s) (hk : keepIn C.K g = true) : Keep C s.heap g := by
  obtain ⟨mc, news, δ, F, N, R, e⟩ := x
  exact keeps_K hk _ (ok.kin.keeps F.keep)
theorem tc_fn {g : Addr} {as : List AVal} {Q : AVal → AHeap → Prop} (hk : keepIn C.K (.ref g) = true) (h : Fn C n g as σ Q) : TC C n f (.raw (.ref g)) as m σ Q := fun ok fz s E v vs x hv hvs => by
  cases hv
  refine ⟨keep_K ok x hk, wpAny_call (codeAny_mono (h f m f.A ok .refl fz s vs x hvs) fun r s' ⟨v, e, p⟩ => ?_)⟩
  subst e; exact p

/-! ## a def of the text, without cells -/
def retOf : AFlow → AVal
  | .ret a => a
  | _ => .none
theorem lookup_nd {β : Type} : ∀ {l : List (Str × β)}, (l.map (·.1)).Nodup → ∀ {y : Str} {v : β}, (y, v) ∈ l → l.lookup y = some v
  | [], _, _, _, h => nomatch h
  | (z, u) :: l, nd, y, v, h => by
    rw [List.map_cons, List.nodup_cons] at nd
    rcases List.mem_cons.mp h with e | h
    · cases e; simp
    · have : y ≠ z := fun e => nd.1 (List.mem_map.mpr ⟨_, h, e⟩)
      rw [List.lookup_cons]
      have hb : (y == z) = false := by simpa using this
      rw [hb]
      exact lookup_nd nd.2 h
theorem lookup_zip {P : Addr → Obj → Prop} : ∀ {ns : List Str} {vs : List Value} {as : List AVal}, Vs P vs as → ns.Nodup → ∀ {y : Str} {a : AVal}, getA y (ns.zip as) = some a → ∃ v, (ns.zip vs).reverse.lookup y = some v ∧ V P v a := by
  intro ns vs as h
  have key : ∀ {ns : List Str} {vs : List Value} {as : List AVal}, Vs P vs as → ns.Nodup → ∀ {y : Str} {a : AVal}, getA y (ns.zip as) = some a → ∃ v, (y, v) ∈ ns.zip vs ∧ V P v a := by
    intro ns
    induction ns with
    | nil => intro vs as _ _ y a e; cases as <;> cases e
    | cons z ns ih =>
      intro vs as h hd y a e
      cases h with
      | nil => cases e
      | cons hv h =>
        rw [List.zip_cons_cons] at e
        unfold getA at e
        by_cases q : (z == y) = true
        · rw [if_pos q] at e; cases e
          have : z = y := by simpa using q
          subst this
          exact ⟨_, List.mem_cons_self .., hv⟩
        · rw [if_neg q] at e
          obtain ⟨v, h1, h2⟩ := ih h (List.nodup_cons.mp hd).2 e
          exact ⟨v, List.mem_cons_of_mem _ h1, h2⟩
  intro hd y a e
  obtain ⟨v, h1, h2⟩ := key h hd e
  refine ⟨v, ?_, h2⟩
  have nd : ((ns.zip vs).reverse.map (·.1)).Nodup := by
    rw [List.map_reverse]
    refine List.pairwise_reverse.mpr (List.Pairwise.imp (fun h => Ne.symm h) ?_)
    have : (ns.zip vs).map (·.1) = ns.take vs.length := by
      clear h hd e h1 h2 key
      induction ns generalizing vs with
      | nil => simp
      | cons z ns ih => cases vs with
        | nil => simp
        | cons v vs => simp [ih]
    rw [this]
    exact List.Nodup.sublist (List.take_sublist ..) hd
  exact lookup_nd nd (List.mem_reverse.mpr h1)

theorem fn_plain {fa : Addr} {name qual : Str} {params : Arguments} {body : List Stmt} {scope : Scope} {dV kV doc pm cdv ct oc : Value} {an od : Option Addr} {osl : Array (Option Value)} {as da : List AVal} {ns : List Str} {dv : List Value} {Q : AVal → AHeap → Prop}
    (ho : C.K.lookup fa = some ⟨oc, od, .func (fnOf name qual params body scope dV kV doc pm an cdv ct), osl⟩) (hcd : codeIn C.K cdv qual = true)
    (hbind : ∀ S vs, vs.length = as.length → peek C.K S (bindArgs (fnOf name qual params body scope dV kV doc pm an cdv ct) ⟨vs, []⟩) = some (ns.zip (vs ++ dv)))
    (hd : ∀ P, Vs P dv da) (hnd : ns.Nodup) (hloc : ∀ y ∈ ns, scope.names.lookup y = some .local)
    (h : ∀ A₀ A base h₀ outer L pin, WS C n ⟨A₀, A, base, h₀, outer, L, fa, qual, scope, cdv, [], pin, none⟩ body (ns.zip (as ++ da)) σ fun fl _ σ' => ∃ σ₂ : AHeap, σ₂.le σ' ∧ Q (retOf fl) σ₂)
    (hco : scope.isCoroutine = false := by rfl) (hgen : scope.isGenerator = false := by rfl) (hk : scope.kind = .function := by rfl) (hcell : ∀ x ∈ scope.names, x.2 ≠ .cell := by decide) :
    Fn C (n + 1) fa as σ Q := fun f m A ok hn fz s vs x hvs => by
  obtain ⟨mc, news, δ, F, N, R, e⟩ := x
  have X := ok.kin.keeps F.keep
  have e2 := ok.depth
  have e3 := ok.units
  obtain ⟨n1, n2, n3, n4, n5⟩ := hn
  have hlen := hvs.length
  refine code_def (env := f.fenv) (binds := ns.zip (vs ++ dv)) ok.below F ok.kin N ok.top (n1.trans ok.stack) rfl ok.kind ho hcd (by omega) (kp_binds X fun S => hbind S vs hlen) (fun y hy => hloc _ (List.of_mem_zip hy).1) (fun g L' h₁ FG F' N' B' KG TG => ?_) hco hgen hk hcell
  let f' : Fm := ⟨A, A.deeper (envOf qual scope L' fa cdv), f.base, g, f.fenv :: f.outer, L', fa, qual, scope, cdv, [], f.pin, none⟩
  have hkH : ∀ b o, C.H.get? b = some o → g.get? b = some o := fun b o hb => FG.keep b o (ok.hk b o hb)
  have ok' : f'.Ok C n := ⟨B', KG, TG, hkH, Around.frames_deeper B'.stack, n2.trans ok.handled, n3.trans ok.guards, by show A.depth + 1 + 3 * n < _; omega, by show A.units + 3 + 10 * n + 100 < _; omega, hk, hk⟩
  have hz := hvs.append (hd (At C fz))
  have x' : SR C f' fz (ns.zip (as ++ da)) σ { s with heap := h₁, toks := s.toks + (ns.zip (vs ++ dv)).length } :=
    ⟨_, news, δ, F', N', R, fun y a hy => lookup_zip hz hnd hy⟩
  refine wpAny_mono (h A _ f.base g (f.fenv :: f.outer) L' f.pin ok' fz _ _ x') (fun fl s' ⟨fz', σ', m', a, u, es, x2, va, σ₂, hle, q⟩ => ?_) fun _ _ z => z
  obtain ⟨mc', news', δ', F2, N2, R2, e2⟩ := x2.weaken (fun _ _ h => h) hle
  refine leaveK_ F2 N2 fun FK NK => ⟨_, rfl, fz', σ₂, retOf a, u, ?_, ⟨mc, news', δ', FK, NK, R2, fun y b hy => ?_⟩, ?_, q⟩
  · obtain ⟨hh, tt, ee⟩ := es; exact ⟨hh, tt, ee⟩
  · obtain ⟨v, h1, h2⟩ := e y b hy; exact ⟨v, h1, h2.up u⟩
  · cases fl <;> cases a <;> first | exact va.elim | exact .none | exact va
end
end Mine

open PySem PySem.W PyProof.Rows PySem.Calls
namespace Mine
/-! ## storing -/
def PU (C : Cx) (f : Fm) (fz : Fz) (s : Shared) (Q : AEnv → AHeap → Prop) (s' : Shared) : Prop := ∃ fz' σ' m', (∀ p ∈ fz, p ∈ fz') ∧ Same s s' ∧ SR C f fz' m' σ' s' ∧ Q m' σ'
def TA (C : Cx) (n : Nat) (f : Fm) (t : Expr) (a : AVal) (m : AEnv) (σ : AHeap) (Q : AEnv → AHeap → Prop) : Prop :=
  f.Ok C n → ∀ fz s E v, SR C f fz m σ s → V (At C fz) v a → wpAny (Md C) f.A (assign t f.env v) (fun _ => PU C f fz s Q) E s
def TAs (C : Cx) (n : Nat) (f : Fm) (ts : List Expr) (as : List AVal) (m : AEnv) (σ : AHeap) (Q : AEnv → AHeap → Prop) : Prop :=
  f.Ok C n → ∀ fz s E vs, SR C f fz m σ s → Vs (At C fz) vs as → wpAny (Md C) f.A (assignInOrder ((assignEach ts f.env).map (·.2)) vs) (fun _ => PU C f fz s Q) E s
def TSs (C : Cx) (n : Nat) (f : Fm) (ys : List Str) (as : List AVal) (m : AEnv) (σ : AHeap) (Q : AEnv → AHeap → Prop) : Prop :=
  f.Ok C n → ∀ fz s E vs, SR C f fz m σ s → Vs (At C fz) vs as → wpAny (Md C) f.A (assignInOrder (ys.map fun y => bindName f.env y) vs) (fun _ => PU C f fz s Q) E s
section
variable {C : Cx} {n : Nat} {f : Fm} {m : AEnv} {σ : AHeap}
theorem PU.up {s s₁ s' : Shared} {fz fz₁ : Fz} {Q : AEnv → AHeap → Prop} (h : ∀ p ∈ fz, p ∈ fz₁) (hs : Same s s₁) (x : PU C f fz₁ s₁ Q s') : PU C f fz s Q s' := by
  obtain ⟨fz', σ', m', h1, h2, h3, h4⟩ := x
  exact ⟨fz', σ', m', fun p hp => h1 p (h p hp), hs.trans h2, h3, h4⟩
theorem ta_name {y : Str} {pos : Pos} {a : AVal} {Q : AEnv → AHeap → Prop} (h : TS C n f y a m σ Q) : TA C n f (.Name y pos) a m σ Q := fun ok fz s E v x hv => assign_Name (h ok fz s E v x hv)
theorem tas_nil {Q : AEnv → AHeap → Prop} (h : Q m σ) : TAs C n f [] [] m σ Q := fun ok fz s E vs x hv => by cases hv; exact wpAny_assignInOrder_none ⟨fz, σ, m, sub_refl, .rfl, x, h⟩
theorem tas_cons {t : Expr} {ts : List Expr} {a : AVal} {as : List AVal} {Q : AEnv → AHeap → Prop} (h : TA C n f t a m σ fun m' σ' => TAs C n f ts as m' σ' Q)
    (he : (assignEach (t :: ts) f.env).map (·.2) = assign t f.env :: (assignEach ts f.env).map (·.2) := by rfl) : TAs C n f (t :: ts) (a :: as) m σ Q := fun ok fz s E vs x hv => by
  cases hv with
  | cons hv hvs =>
    rw [he]
    refine wpAny_assignInOrder_more (wpAny_mono (h ok fz s E _ x hv) (fun _ s₁ ⟨fz₁, σ₁, m₁, u1, e1, x1, q1⟩ => ?_) fun _ _ x => x)
    exact wpAny_mono (q1 ok fz₁ s₁ E _ x1 (hvs.up u1)) (fun _ s₂ p => .up u1 e1 p) fun _ _ x => x
theorem tss_nil {Q : AEnv → AHeap → Prop} (h : Q m σ) : TSs C n f [] [] m σ Q := fun ok fz s E vs x hv => by cases hv; exact wpAny_assignInOrder_none ⟨fz, σ, m, sub_refl, .rfl, x, h⟩
theorem tss_cons {y : Str} {ys : List Str} {a : AVal} {as : List AVal} {Q : AEnv → AHeap → Prop} (h : TS C n f y a m σ fun m' σ' => TSs C n f ys as m' σ' Q) : TSs C n f (y :: ys) (a :: as) m σ Q := fun ok fz s E vs x hv => by
  cases hv with
  | cons hv hvs =>
    refine wpAny_assignInOrder_more (wpAny_bindName (wpAny_mono (h ok fz s E _ x hv) (fun _ s₁ ⟨fz₁, σ₁, m₁, u1, e1, x1, q1⟩ => ?_) fun _ _ x => x))
    exact wpAny_mono (q1 ok fz₁ s₁ E _ x1 (hvs.up u1)) (fun _ s₂ p => .up u1 e1 p) fun _ _ x => x
theorem ext_keeps {h h' : Heap} (e : Heap.ExtBut h.objs.size h h') : ∀ b o, h.get? b = some o → h'.get? b = some o := fun b o q => e b o (Nat.ne_of_lt (Heap.lt_size q)) q
theorem V.tuple_ {fz : Fz} {s : Shared} (ok : f.Ok C n) (x : SR C f fz m σ s) {v : Value} {xs : List AVal} (h : V (At C fz) v (.tup xs)) : ∃ t vs, v = .ref t ∧ s.heap.IsTuple t vs.toArray ∧ Vs (At C fz) vs xs := by
  cases h with
  | tup h1 h2 h3 h4 => exact ⟨_, _, rfl, ⟨_, x.at_ ok h1, h2, _, h3⟩, h4⟩
theorem ta_tup {ts : List Expr} {k : Nat} {pos : Pos} {as : List AVal} {Q : AEnv → AHeap → Prop} (h : TAs C n f ts as m σ Q) (hn : (assignEach ts f.env).length = as.length := by rfl) (hstar : (assignEach ts f.env).findIdx? (·.1) = none := by rfl) :
    TA C n f (.Tuple ts k pos) (.tup as) m σ Q := fun ok fz s E v x hv => by
  obtain ⟨t, vs, rfl, ht, hvs⟩ := hv.tuple_ ok x
  refine wpAny_assign_Tuple ok.handled ht (by rw [hn, List.size_toArray, hvs.length]) hstar fun h' he => ?_
  exact wpAny_mono (h ok fz { s with heap := h' } E vs (x.grow (t := s.toks) (ext_keeps he)) hvs) (fun _ s₂ p => .up sub_refl ⟨h', s.toks, rfl⟩ p) fun _ _ x => x
theorem w1_assignT {ts : List Expr} {k : Nat} {tp : Pos} {e : Expr} {pos : Pos} {Q : AFlow → AEnv → AHeap → Prop} (h : WE C n f e m σ fun a σ₁ => TA C n f (.Tuple ts k tp) a m σ₁ fun m' σ' => Q .next m' σ')
    (hs : swapsWithSole [.Tuple ts k tp] e pos.line f.env = pure false := by rfl) (hw : swappedStores [.Tuple ts k tp] e f.env = pure none := by rfl) : W1 C n f (.Assign [.Tuple ts k tp] e pos) m σ Q := fun ok fz s E x => by
  refine Assign_Tuple (wpAny_mono (h ok fz s E x) (fun v s₁ ⟨fz₁, σ₁, a, u1, e1, x1, va, q1⟩ => ?_) fun _ _ x => x) hs hw
  exact wpAny_mono (q1 ok fz₁ s₁ E v x1 va) (fun _ s₂ ⟨fz₂, σ₂, m₂, u2, e2, x2, q2⟩ => ⟨fz₂, σ₂, m₂, .next, fun p hp => u2 p (u1 p hp), e1.trans e2, x2, trivial, q2⟩) fun _ _ x => x
theorem w1_assignS {ts : List Expr} {k : Nat} {tp : Pos} {e : Expr} {pos : Pos} {names : List Str} {Q : AFlow → AEnv → AHeap → Prop} (h : WE C n f e m σ fun a σ₁ => ∃ as, a = .tup as ∧ as.length = names.length ∧ TSs C n f names.reverse as.reverse m σ₁ fun m' σ' => Q .next m' σ')
    (hw : swappedStores [.Tuple ts k tp] e f.env = pure (some names)) (hs : swapsWithSole [.Tuple ts k tp] e pos.line f.env = pure false := by rfl) : W1 C n f (.Assign [.Tuple ts k tp] e pos) m σ Q := fun ok fz s E x => by
  refine Assign_Tuple_swapped (wpAny_mono (h ok fz s E x) (fun v s₁ ⟨fz₁, σ₁, a, u1, e1, x1, va, as, ea, hl, q1⟩ => ?_) fun _ _ x => x) hs hw
  subst ea
  obtain ⟨t, vs, rfl, ht, hvs⟩ := va.tuple_ ok x1
  have hlen : names.length = vs.toArray.size := by rw [List.size_toArray, hvs.length, hl]
  rw [hlen]
  refine wpAny_unpackItems_tuple ok.handled ht fun h' he => ?_
  exact wpAny_mono (q1 ok fz₁ { s₁ with heap := h' } E vs.reverse (x1.grow (t := s₁.toks) (ext_keeps he)) hvs.reverse) (fun _ s₂ ⟨fz₂, σ₂, m₂, u2, e2, x2, q2⟩ => ⟨fz₂, σ₂, m₂, .next, fun p hp => u2 p (u1 p hp), (e1.trans ⟨h', s₁.toks, rfl⟩).trans e2, x2, trivial, q2⟩) fun _ _ x => x

/-! ## loops -/
/-- the state, with some addresses kept apart -/
def SX (C : Cx) (f : Fm) (fz : Fz) (m : AEnv) (σ : AHeap) (wr : List Addr) (s : Shared) : Prop :=
  ∃ mc news δ, Fr f.h₀ f.L s.heap mc ∧ News f.h₀ f.L s.heap news ∧ HR C fz f.pin σ δ news ∧ ER (At C fz) m mc ∧ (∀ p ∈ news, p.1 ∉ wr) ∧ f.L ∉ wr ∧ ∀ b ∈ wr, f.h₀.get? b = none
theorem SX.sr {fz : Fz} {wr : List Addr} {s : Shared} (x : SX C f fz m σ wr s) : SR C f fz m σ s := by
  obtain ⟨mc, news, δ, F, N, R, e, _⟩ := x; exact ⟨mc, news, δ, F, N, R, e⟩
theorem SX.step {fz : Fz} {wr : List Addr} {s : Shared} {h' : Heap} {t : Nat} (x : SX C f fz m σ wr s) (k : ∀ b o, b ∉ wr → s.heap.get? b = some o → h'.get? b = some o) : SX C f fz m σ wr { s with heap := h', toks := t } := by
  obtain ⟨mc, news, δ, F, N, R, e, h1, h2, h3⟩ := x
  refine ⟨mc, news, δ, ⟨F.ns.at' fun o q => k _ o h2 q, fun b o q => k b o (fun hb => by rw [h3 b hb] at q; cases q) (F.keep b o q), F.above⟩, fun p hp => ⟨k _ _ (h1 p hp) (N p hp).1, (N p hp).2⟩, R, e, h1, h2, h3⟩
def ownP (wr : List Addr) (h : Heap) : Fz := wr.filterMap fun b => (h.get? b).map fun o => (b, o)
theorem mem_ownP {wr : List Addr} {h : Heap} {p : Addr × Obj} : p ∈ ownP wr h ↔ p.1 ∈ wr ∧ h.get? p.1 = some p.2 := by
  unfold ownP
  rw [List.mem_filterMap]
  constructor
  · rintro ⟨b, hb, e⟩
    obtain ⟨o, ho, rfl⟩ := Option.map_eq_some_iff.mp e
    exact ⟨hb, ho⟩
  · rintro ⟨h1, h2⟩
    exact ⟨p.1, h1, by rw [h2]; rfl⟩
theorem SX.pin {fz : Fz} {wr : List Addr} {s : Shared} (x : SX C f fz m σ wr s) : SR C (f.withPin (ownP wr s.heap ++ f.pin)) fz m σ s := by
  obtain ⟨mc, news, δ, F, N, R, e, h1, h2, h3⟩ := x
  have off : ∀ {p : Addr × Obj}, p ∈ ownP wr s.heap → p.1 ∈ wr := fun hp => (mem_ownP.mp hp).1
  have three : ∀ p ∈ fz ++ (ownP wr s.heap ++ f.pin), p ∈ ownP wr s.heap ∨ p ∈ fz ++ f.pin := fun p hp => by
    rcases List.mem_append.mp hp with hp | hp
    · exact .inr (List.mem_append_left _ hp)
    · rcases List.mem_append.mp hp with hp | hp
      · exact .inl hp
      · exact .inr (List.mem_append_right _ hp)
  refine ⟨mc, ownP wr s.heap ++ news, δ, F, fun p hp => ?_, ⟨fun p hp => ?_, fun p hp q hq => ?_, fun a ao h => (R.ob a ao h).mono (fun _ _ z => z) (fun _ q => List.mem_append_right _ q) fun _ _ _ _ q => List.mem_append_right _ q, fun a ao h p hp => ?_, fun a c as h p hp => ?_, R.dσ, R.dinj⟩, e⟩
  · rcases List.mem_append.mp hp with hp | hp
    · obtain ⟨a, b⟩ := mem_ownP.mp hp
      exact ⟨b, fun q => h2 (q ▸ a), h3 _ a⟩
    · exact N p hp
  · rcases three p hp with hp | hp
    · exact List.mem_append_left _ hp
    · exact List.mem_append_right _ (R.sub p hp)
  · rcases List.mem_append.mp hq with hq | hq
    · exact fun q' => h1 p (R.sub p (List.mem_append_left _ hp)) (q' ▸ off hq)
    · exact R.apart p hp q hq
  · rcases three p hp with hp | hp
    · obtain ⟨o, ho⟩ := (R.ob a ao h).key
      exact fun q => h1 _ ho (by show a ∈ wr; rw [← q]; exact off hp)
    · exact R.off a ao h p hp
  · rcases three p hp with hp | hp
    · obtain ⟨_, es, k, ho, _⟩ := R.ob a _ h
      exact fun q => h1 _ ho (by show δ a ∈ wr; rw [← q]; exact off hp)
    · exact R.doff a c as h p hp
theorem SX.unpin {fz : Fz} {wr : List Addr} {s : Shared} {own : Fz} (hl : ∀ b ∈ wr, ∃ o, (b, o) ∈ own) (hp : ∀ p ∈ f.pin, p.1 ∉ wr) (h2 : f.L ∉ wr) (h3 : ∀ b ∈ wr, f.h₀.get? b = none) (x : SR C (f.withPin (own ++ f.pin)) fz m σ s) : SX C f fz m σ wr s := by
  obtain ⟨mc, news, δ, F, N, R, e⟩ := x
  have inpin : ∀ {b o}, (b, o) ∈ own → (b, o) ∈ fz ++ (own ++ f.pin) := fun h => List.mem_append_right _ (List.mem_append_left _ h)
  have keepM : ∀ {p : Addr × Obj}, p ∈ news → p.1 ∉ wr → p ∈ news.filter (fun p => decide (p.1 ∉ wr)) := fun h q => List.mem_filter.mpr ⟨h, by simpa using q⟩
  have anw : ∀ a ao, σ a = some ao → a ∉ wr := fun a ao h q => by obtain ⟨o, ho⟩ := hl a q; exact R.off a ao h _ (inpin ho) rfl
  have dnw : ∀ a c as, σ a = some (.inst c as) → δ a ∉ wr := fun a c as h q => by obtain ⟨o, ho⟩ := hl _ q; exact R.doff a c as h _ (inpin ho) rfl
  have up : ∀ p ∈ fz ++ f.pin, p ∈ fz ++ (own ++ f.pin) := fun p hp => (List.mem_append.mp hp).elim (fun h => List.mem_append_left _ h) fun h => List.mem_append_right _ (List.mem_append_right _ h)
  refine ⟨mc, news.filter (fun p => decide (p.1 ∉ wr)), δ, F, fun p hp => N p (List.mem_filter.mp hp).1, ⟨fun p hp' => keepM (R.sub p (up p hp')) ?_, fun p hp q hq => R.apart p hp q (List.mem_append_right _ hq), fun a ao h => (R.ob a ao h).mono (fun _ _ z => z) (fun _ q => keepM q (anw a ao h)) fun c as ea _ q => keepM q (dnw a c as (ea ▸ h)), fun a ao h p hp => R.off a ao h p (up p hp), fun a c as h p hp => R.doff a c as h p (up p hp), R.dσ, R.dinj⟩, e, fun p hp => by simpa using (List.mem_filter.mp hp).2, h2, h3⟩
  rcases List.mem_append.mp hp' with h | h
  · intro q
    obtain ⟨o, ho⟩ := hl _ q
    exact R.apart p h _ (List.mem_append_left _ ho) rfl
  · exact hp p h
theorem Fm.Ok.pin {n : Nat} {p : Fz} (ok : f.Ok C n) : (f.withPin p).Ok C n := ⟨ok.below, ok.kin, ok.top, ok.hk, ok.stack, ok.handled, ok.guards, ok.depth, ok.units, ok.kind, ok.ckind⟩

/-- what a value yields when it is walked -/
structure Wk (C : Cx) (f : Fm) (fz : Fz) (I : Addr) (wr : List Addr) (xs : List AVal) (St : Nat → Heap → Prop) (Lent : Heap → Prop) (back : AHeap → AHeap) : Prop where
  go : ∀ i (s : Shared) (Q : Option Value → Shared → Prop) (E : Value → Shared → Prop) x, xs[i]? = some x → St i s.heap →
    (∀ v h' tk, V (At C fz) v x → St (i + 1) h' → (∀ b o, b ∉ wr → s.heap.get? b = some o → h'.get? b = some o) → Q (some v) { s with heap := h', toks := tk }) → wpAny (Md C) f.A (pyNext (.ref I)) Q E s
  done : ∀ (s : Shared) (Q : Option Value → Shared → Prop) (E : Value → Shared → Prop), St xs.length s.heap →
    (∀ h' tk, (∀ b o, b ∉ wr → s.heap.get? b = some o → h'.get? b = some o) → Lent h' → Q none { s with heap := h', toks := tk }) → wpAny (Md C) f.A (pyNext (.ref I)) Q E s
  live : ∀ i h, St i h → ∀ b ∈ wr, ∃ o, h.get? b = some o
  frame : ∀ i h h', St i h → (∀ b ∈ wr, ∀ o, h.get? b = some o → h'.get? b = some o) → (∀ b o, At C fz b o ∨ (b, o) ∈ f.pin → h'.get? b = some o) → St i h'
  lent : ∀ i h, St i h → Lent h
  back : ∀ fz' m' σ' s', (∀ p ∈ fz, p ∈ fz') → SX C f fz' m' σ' wr s' → Lent s'.heap → SR C f fz' m' (back σ') s'
  self : ∀ i (s : Shared) (Q : Value → Shared → Prop) (E : Value → Shared → Prop), St i s.heap → Q (.ref I) s → wpAny (Md C) f.A (pyIter (.ref I)) Q E s
  lentF : ∀ (h h' : Heap), Lent h → (∀ b ∈ wr, ∀ o, h.get? b = some o → h'.get? b = some o) → Lent h'
structure WkT (C : Cx) (f : Fm) (fz : Fz) (I : Addr) (wr : List Addr) (xs : List (List AVal)) (St : Nat → Heap → Prop) (Lent : Heap → Prop) (back : AHeap → AHeap) : Prop where
  go : ∀ i (s : Shared) (Q : Option Value → Shared → Prop) (E : Value → Shared → Prop) x, xs[i]? = some x → St i s.heap →
    (∀ T vs h' tk, Vs (At C fz) vs x → h'.IsTuple T vs.toArray → T ∉ wr → (∀ b o, b ∉ wr → s.heap.get? b = some o → h'.get? b = some o) →
      (∀ ts k pos (s₂ : Shared) (Q₂ : Unit → Shared → Prop) (E₂ : Value → Shared → Prop), s₂.heap = h' → (∀ h₂, St (i + 1) h₂ → (∀ b o, b ∉ wr → h'.get? b = some o → h₂.get? b = some o) → Q₂ () { s₂ with heap := h₂ }) → wpAny (Md C) f.A (letOwnedTupleGo (.Tuple ts k pos) (.ref I) (.ref T)) Q₂ E₂ s₂) →
      Q (some (.ref T)) { s with heap := h', toks := tk }) → wpAny (Md C) f.A (pyNext (.ref I)) Q E s
  done : ∀ (s : Shared) (Q : Option Value → Shared → Prop) (E : Value → Shared → Prop), St xs.length s.heap →
    (∀ h' tk, (∀ b o, b ∉ wr → s.heap.get? b = some o → h'.get? b = some o) → Lent h' → Q none { s with heap := h', toks := tk }) → wpAny (Md C) f.A (pyNext (.ref I)) Q E s
  live : ∀ i h, St i h → ∀ b ∈ wr, ∃ o, h.get? b = some o
  frame : ∀ i h h', St i h → (∀ b ∈ wr, ∀ o, h.get? b = some o → h'.get? b = some o) → (∀ b o, At C fz b o ∨ (b, o) ∈ f.pin → h'.get? b = some o) → St i h'
  lent : ∀ i h, St i h → Lent h
  back : ∀ fz' m' σ' s', (∀ p ∈ fz, p ∈ fz') → SX C f fz' m' σ' wr s' → Lent s'.heap → SR C f fz' m' (back σ') s'
/-- the head of a for: the value and its iterator -/
def WI (C : Cx) (n : Nat) (f : Fm) (e : Expr) (m : AEnv) (σ : AHeap) (Q : (AHeap → AHeap) → List AVal → AHeap → Prop) : Prop :=
  f.Ok C n → ∀ fz s E, SR C f fz m σ s → wpAny (Md C) f.A (eval e f.env) (fun v s₁ => wpAny (Md C) f.A (pyIter v) (fun it s' => ∃ fz' σ' I wr xs St Lent back, it = .ref I ∧ (∀ p ∈ fz, p ∈ fz') ∧ Same s s' ∧ SX C f fz' m σ' wr s' ∧ Wk C f fz' I wr xs St Lent back ∧ St 0 s'.heap ∧ Q back xs σ') E s₁) E s
def WIT (C : Cx) (n : Nat) (f : Fm) (e : Expr) (m : AEnv) (σ : AHeap) (Q : (AHeap → AHeap) → List (List AVal) → AHeap → Prop) : Prop :=
  f.Ok C n → ∀ fz s E, SR C f fz m σ s → wpAny (Md C) f.A (eval e f.env) (fun v s₁ => wpAny (Md C) f.A (pyIter v) (fun it s' => ∃ fz' σ' I wr xs St Lent back, it = .ref I ∧ (∀ p ∈ fz, p ∈ fz') ∧ Same s s' ∧ SX C f fz' m σ' wr s' ∧ WkT C f fz' I wr xs St Lent back ∧ St 0 s'.heap ∧ Q back xs σ') E s₁) E s
def TI (C : Cx) (n : Nat) (f : Fm) (a : AVal) (m : AEnv) (σ : AHeap) (Q : (AHeap → AHeap) → List AVal → AHeap → Prop) : Prop :=
  f.Ok C n → ∀ fz s E v, SR C f fz m σ s → V (At C fz) v a → wpAny (Md C) f.A (pyIter v) (fun it s' => ∃ fz' σ' I wr xs St Lent back, it = .ref I ∧ (∀ p ∈ fz, p ∈ fz') ∧ Same s s' ∧ SX C f fz' m σ' wr s' ∧ Wk C f fz' I wr xs St Lent back ∧ St 0 s'.heap ∧ Q back xs σ') E s
theorem wi {e : Expr} {Q : (AHeap → AHeap) → List AVal → AHeap → Prop} (h : WE C n f e m σ fun a σ₁ => TI C n f a m σ₁ Q) : WI C n f e m σ Q := fun ok fz s E x =>
  wpAny_mono (h ok fz s E x) (fun v s₁ ⟨fz₁, σ₁, a, u1, e1, x1, va, q1⟩ => wpAny_mono (q1 ok fz₁ s₁ E v x1 va) (fun it s₂ ⟨fz₂, σ₂, I, wr, xs, St, Lent, back, ei, u2, e2, r⟩ => ⟨fz₂, σ₂, I, wr, xs, St, Lent, back, ei, fun p hp => u2 p (u1 p hp), e1.trans e2, r⟩) fun _ _ x => x) fun _ _ x => x
/-- one turn: what must hold behind the body -/
def Turn (back : AHeap → AHeap) (Inv : AEnv → AHeap → Prop) (Q : AFlow → AEnv → AHeap → Prop) : AFlow → AEnv → AHeap → Prop
  | .next, m, σ => ∃ m' σ', (∀ y a, AEnv.get m' y = some a → AEnv.get m y = some a) ∧ AHeap.le σ' σ ∧ Inv m' σ'
  | .cont, m, σ => ∃ m' σ', (∀ y a, AEnv.get m' y = some a → AEnv.get m y = some a) ∧ AHeap.le σ' σ ∧ Inv m' σ'
  | .brk, m, σ => Q .next m (back σ)
  | .ret a, m, σ => Q (.ret a) m (back σ)
theorem w1_forB {y : Str} {py : Pos} {iter : Expr} {body : List Stmt} {pos : Pos} {Q : AFlow → AEnv → AHeap → Prop} (Inv : (AHeap → AHeap) → List AVal → AEnv → AHeap → Prop)
    (h : WI C n f iter m σ fun back xs σ₂ => Inv back xs m σ₂)
    (turn : ∀ back pin x xs m' σ', Inv back (x :: xs) m' σ' → TS C n (f.withPin pin) y x m' σ' fun m₁ σ₁ => WS C n (f.withPin pin) body m₁ σ₁ (Turn back (Inv back xs) Q))
    (done : ∀ back m' σ', Inv back [] m' σ' → Q .next m' (back σ')) (hs : ∀ x, foldedSetIterable iter f.env x = pure x := by intro _; rfl) : W1 C n f (.For (.Name y py) iter body [] pos) m σ Q := fun ok fz s E x => by
  refine wpAny_For (wpAny_mono (h ok fz s E x) (fun v s₁ q1 => wpAny_mono q1 (fun it s₂ ⟨fz₂, σ₂, I, wr, xs, St, Lent, back, ei, u2, e2, x2, W, st, q2⟩ => ?_) fun _ _ x => x) fun _ _ x => x) hs
  subst ei
  have hpin : ∀ p ∈ f.pin, p.1 ∉ wr := by
    obtain ⟨mc, news, δ, F, N, R, e, h1, h2, h3⟩ := x2
    exact fun p hp => h1 p (R.sub p (List.mem_append_right _ hp))
  have hL : f.L ∉ wr := by obtain ⟨mc, news, δ, F, N, R, e, h1, h2, h3⟩ := x2; exact h2
  have h0 : ∀ b ∈ wr, f.h₀.get? b = none := by obtain ⟨mc, news, δ, F, N, R, e, h1, h2, h3⟩ := x2; exact h3
  refine codeAny_forLoop (fun k s' => ∃ fz' m' σ' i, (∀ p ∈ fz₂, p ∈ fz') ∧ Same s₂ s' ∧ SX C f fz' m' σ' wr s' ∧ St i s'.heap ∧ Inv back (xs.drop i) m' σ' ∧ i ≤ xs.length ∧ k = xs.length - i) ?_ (xs.length) ⟨fz₂, m, σ₂, 0, sub_refl, .rfl, x2, st, q2, Nat.zero_le _, rfl⟩
  rintro k s' ⟨fz', m', σ', i, u3, e3, x3, st3, q3, hi, rfl⟩
  have uu : ∀ p ∈ fz, p ∈ fz' := fun p hp => u3 p (u2 p hp)
  cases hx : xs[i]? with
  | none =>
    have hlen : i = xs.length := by have := List.getElem?_eq_none_iff.mp hx; omega
    subst hlen
    refine W.done _ _ _ st3 fun h' tk k hl => wpAny_execs_nil ?_
    rw [List.drop_length] at q3
    exact ⟨fz', back σ', m', .next, uu, (e2.trans e3).trans ⟨_, _, rfl⟩, W.back _ _ _ _ u3 (x3.step (t := tk) k) hl, trivial, done _ _ _ q3⟩
  | some b =>
    obtain ⟨hlt, hb⟩ := List.getElem?_eq_some_iff.mp hx
    have hd : xs.drop i = b :: xs.drop (i + 1) := by rw [List.drop_eq_getElem_cons hlt, hb]
    rw [hd] at q3
    refine W.go i _ _ _ b hx st3 fun v h' tk hv st' k => ?_
    have x4 := x3.step (t := tk) k
    have x5 := x4.pin
    refine PyProof.Rows.assign_Name (wpAny_mono (turn back (ownP wr h' ++ f.pin) b _ m' σ' q3 ok.pin fz' _ _ v x5 (hv.up u3)) (fun _ s₅ ⟨fz₅, σ₅, m₅, u5, e5, x6, q5⟩ => ?_) fun _ _ x => x)
    refine wpAny_mono (q5 ok.pin fz₅ s₅ _ x6) (fun fl s₆ ⟨fz₆, σ₆, m₆, a₆, u6, e6, x7, va6, q6⟩ => ?_) fun _ _ x => x
    have es : Same s s₆ := ((((e2.trans e3).trans ⟨_, _, rfl⟩).trans e5).trans e6)
    have us : ∀ p ∈ fz, p ∈ fz₆ := fun p hp => u6 p (u5 p (uu p hp))
    have u26 : ∀ p ∈ fz₂, p ∈ fz₆ := fun p hp => u6 p (u5 p (u3 p hp))
    have un : ∀ {m' : AEnv} {σ' : AHeap}, SR C (f.withPin (ownP wr h' ++ f.pin)) fz₆ m' σ' s₆ → SX C f fz₆ m' σ' wr s₆ := fun x => SX.unpin (fun b hb => by obtain ⟨o, ho⟩ := W.live _ _ st' b hb; exact ⟨o, (mem_ownP (p := (b, o))).mpr ⟨hb, ho⟩⟩) hpin hL h0 x
    have st6 : St (i + 1) s₆.heap := by
      refine W.frame _ _ _ st' (fun b hb o ho => ?_) fun b o q => ?_
      · obtain ⟨mc, news, δ, F, N, R, e⟩ := x7
        exact (N _ (R.sub _ (List.mem_append_right _ (List.mem_append_left _ ((mem_ownP (p := (b, o))).mpr ⟨hb, ho⟩))))).1
      · rcases q with q | q
        · exact (x7.at_ ok.pin (q.mono u26))
        · obtain ⟨mc, news, δ, F, N, R, e⟩ := x7
          exact (N _ (R.sub _ (List.mem_append_right _ (List.mem_append_right _ q)))).1
    have bk := W.back _ _ _ _ u26 (un x7) (W.lent _ _ st6)
    have next : Turn back (Inv back (xs.drop (i + 1))) Q .next m₆ σ₆ → ∃ m, m < xs.length - i ∧ ∃ fz' m' σ' i, (∀ p ∈ fz₂, p ∈ fz') ∧ Same s₂ s₆ ∧ SX C f fz' m' σ' wr s₆ ∧ St i s₆.heap ∧ Inv back (xs.drop i) m' σ' ∧ i ≤ xs.length ∧ m = xs.length - i := by
      rintro ⟨m₇, σ₇, hm, hσ, q7⟩
      exact ⟨xs.length - (i + 1), by omega, fz₆, m₇, σ₇, i + 1, u26, ((e3.trans ⟨_, _, rfl⟩).trans e5).trans e6, un (x7.weaken hm hσ), st6, q7, hlt, rfl⟩
    cases fl with
    | next => cases a₆ <;> first | exact next q6 | exact va6.elim
    | cont => cases a₆ <;> first | exact next q6 | exact va6.elim
    | brk => cases a₆ <;> first | exact ⟨fz₆, back σ₆, m₆, .next, us, es, bk, trivial, q6⟩ | exact va6.elim
    | ret r => cases a₆ <;> first | exact ⟨fz₆, back σ₆, m₆, .ret _, us, es, bk, va6, q6⟩ | exact va6.elim
theorem w1_forTB {ts : List Expr} {tk : Nat} {tp : Pos} {iter : Expr} {body : List Stmt} {pos : Pos} {Q : AFlow → AEnv → AHeap → Prop} (Inv : (AHeap → AHeap) → List (List AVal) → AEnv → AHeap → Prop)
    (h : WIT C n f iter m σ fun back xs σ₂ => Inv back xs m σ₂)
    (turn : ∀ back pin x xs m' σ', Inv back (x :: xs) m' σ' → (assignEach ts f.env).length = x.length ∧ TAs C n (f.withPin pin) ts x m' σ' fun m₁ σ₁ => WS C n (f.withPin pin) body m₁ σ₁ (Turn back (Inv back xs) Q))
    (done : ∀ back m' σ', Inv back [] m' σ' → Q .next m' (back σ')) (hstar : (assignEach ts f.env).findIdx? (·.1) = none := by rfl) (hs : ∀ x, foldedSetIterable iter f.env x = pure x := by intro _; rfl) : W1 C n f (.For (.Tuple ts tk tp) iter body [] pos) m σ Q := fun ok fz s E x => by
  refine wpAny_For (wpAny_mono (h ok fz s E x) (fun v s₁ q1 => wpAny_mono q1 (fun it s₂ ⟨fz₂, σ₂, I, wr, xs, St, Lent, back, ei, u2, e2, x2, W, st, q2⟩ => ?_) fun _ _ x => x) fun _ _ x => x) hs
  subst ei
  have hpin : ∀ p ∈ f.pin, p.1 ∉ wr := by
    obtain ⟨mc, news, δ, F, N, R, e, h1, h2, h3⟩ := x2
    exact fun p hp => h1 p (R.sub p (List.mem_append_right _ hp))
  have hL : f.L ∉ wr := by obtain ⟨mc, news, δ, F, N, R, e, h1, h2, h3⟩ := x2; exact h2
  have h0 : ∀ b ∈ wr, f.h₀.get? b = none := by obtain ⟨mc, news, δ, F, N, R, e, h1, h2, h3⟩ := x2; exact h3
  refine codeAny_forLoop_any (fun k s' => ∃ fz' m' σ' i, (∀ p ∈ fz₂, p ∈ fz') ∧ Same s₂ s' ∧ SX C f fz' m' σ' wr s' ∧ St i s'.heap ∧ Inv back (xs.drop i) m' σ' ∧ i ≤ xs.length ∧ k = xs.length - i) ?_ (xs.length) ⟨fz₂, m, σ₂, 0, sub_refl, .rfl, x2, st, q2, Nat.zero_le _, rfl⟩
  rintro k s' ⟨fz', m', σ', i, u3, e3, x3, st3, q3, hi, rfl⟩
  have uu : ∀ p ∈ fz, p ∈ fz' := fun p hp => u3 p (u2 p hp)
  cases hx : xs[i]? with
  | none =>
    have hlen : i = xs.length := by have := List.getElem?_eq_none_iff.mp hx; omega
    subst hlen
    refine W.done _ _ _ st3 fun h' tk k hl => wpAny_execs_nil ?_
    rw [List.drop_length] at q3
    exact ⟨fz', back σ', m', .next, uu, (e2.trans e3).trans ⟨_, _, rfl⟩, W.back _ _ _ _ u3 (x3.step (t := tk) k) hl, trivial, done _ _ _ q3⟩
  | some b =>
    obtain ⟨hlt, hb⟩ := List.getElem?_eq_some_iff.mp hx
    have hd : xs.drop i = b :: xs.drop (i + 1) := by rw [List.drop_eq_getElem_cons hlt, hb]
    rw [hd] at q3
    refine W.go i _ _ _ b hx st3 fun T vs h₁ tk₁ hvs hT hTw k₁ hgo => ?_
    refine hgo _ _ _ _ _ _ rfl fun h' st' k₂ => ?_
    have x4 := (x3.step (t := tk₁) k₁).step (t := tk₁) k₂
    have x5 := x4.pin
    obtain ⟨hn, tn⟩ := turn back (ownP wr h' ++ f.pin) b _ m' σ' q3
    have hT' : h'.IsTuple T vs.toArray := by obtain ⟨o, ho, r⟩ := hT; exact ⟨o, k₂ _ _ hTw ho, r⟩
    refine wpAny_assign_Tuple ok.handled hT' (by rw [hn, List.size_toArray, hvs.length]) hstar fun h'' he => ?_
    have x5' := x5.grow (t := tk₁) (ext_keeps he)
    refine wpAny_mono (tn ok.pin fz' { s' with heap := h'', toks := tk₁ } _ vs x5' (hvs.up u3)) (fun _ s₅ ⟨fz₅, σ₅, m₅, u5, e5, x6, q5⟩ => ?_) fun _ _ x => x
    refine wpAny_mono (q5 ok.pin fz₅ s₅ _ x6) (fun fl s₆ ⟨fz₆, σ₆, m₆, a₆, u6, e6, x7, va6, q6⟩ => ?_) fun _ _ x => x
    have e35 : Same s₂ s₆ := ((e3.trans ⟨h'', tk₁, rfl⟩).trans e5).trans e6
    have us : ∀ p ∈ fz, p ∈ fz₆ := fun p hp => u6 p (u5 p (uu p hp))
    have u26 : ∀ p ∈ fz₂, p ∈ fz₆ := fun p hp => u6 p (u5 p (u3 p hp))
    have un : ∀ {m' : AEnv} {σ' : AHeap}, SR C (f.withPin (ownP wr h' ++ f.pin)) fz₆ m' σ' s₆ → SX C f fz₆ m' σ' wr s₆ := fun x => SX.unpin (fun b hb => by obtain ⟨o, ho⟩ := W.live _ _ st' b hb; exact ⟨o, (mem_ownP (p := (b, o))).mpr ⟨hb, ho⟩⟩) hpin hL h0 x
    have st6 : St (i + 1) s₆.heap := by
      refine W.frame _ _ _ st' (fun b hb o ho => ?_) fun b o q => ?_
      · obtain ⟨mc, news, δ, F, N, R, e⟩ := x7
        exact (N _ (R.sub _ (List.mem_append_right _ (List.mem_append_left _ ((mem_ownP (p := (b, o))).mpr ⟨hb, ho⟩))))).1
      · rcases q with q | q
        · exact (x7.at_ ok.pin (q.mono u26))
        · obtain ⟨mc, news, δ, F, N, R, e⟩ := x7
          exact (N _ (R.sub _ (List.mem_append_right _ (List.mem_append_right _ q)))).1
    have bk := W.back _ _ _ _ u26 (un x7) (W.lent _ _ st6)
    have next : Turn back (Inv back (xs.drop (i + 1))) Q .next m₆ σ₆ → ∃ m, m < xs.length - i ∧ ∃ fz' m' σ' i, (∀ p ∈ fz₂, p ∈ fz') ∧ Same s₂ s₆ ∧ SX C f fz' m' σ' wr s₆ ∧ St i s₆.heap ∧ Inv back (xs.drop i) m' σ' ∧ i ≤ xs.length ∧ m = xs.length - i := by
      rintro ⟨m₇, σ₇, hm, hσ, q7⟩
      exact ⟨xs.length - (i + 1), by omega, fz₆, m₇, σ₇, i + 1, u26, e35, un (x7.weaken hm hσ), st6, q7, hlt, rfl⟩
    cases fl with
    | next => cases a₆ <;> first | exact next q6 | exact va6.elim
    | cont => cases a₆ <;> first | exact next q6 | exact va6.elim
    | brk => cases a₆ <;> first | exact ⟨fz₆, back σ₆, m₆, .next, us, e2.trans e35, bk, trivial, q6⟩ | exact va6.elim
    | ret r => cases a₆ <;> first | exact ⟨fz₆, back σ₆, m₆, .ret _, us, e2.trans e35, bk, va6, q6⟩ | exact va6.elim
end
end Mine

open PySem PySem.W PyProof.Rows PySem.Calls
namespace Mine
section
variable {C : Cx} {n : Nat} {f : Fm} {m : AEnv} {σ : AHeap}
theorem ge_none {h : Heap} {a : Addr} (ha : h.objs.size ≤ a) : h.get? a = none := by
  cases q : h.get? a with
  | none => rfl
  | some o => exact absurd (Heap.lt_size q) (Nat.not_lt.mpr ha)
/-- one new frozen object -/
theorem PV.new {fz : Fz} {s : Shared} {Q : AVal → AHeap → Prop} {a : AVal} {h' : Heap} {t : Nat} {b : Addr} {o : Obj} (x : SR C f fz m σ s) (k : ∀ b o, s.heap.get? b = some o → h'.get? b = some o) (hb : s.heap.objs.size ≤ b) (ho : h'.get? b = some o)
    (hv : ∀ fz', (b, o) ∈ fz' → (∀ p ∈ fz, p ∈ fz') → V (At C fz') (.ref b) a) (q : Q a σ) : PV C f m fz s Q (.ref b) { s with heap := h', toks := t } :=
  ⟨[(b, o)] ++ fz, σ, a, fun p hp => List.mem_append_right _ hp, .mk, x.freeze (t := t) k _ (fun p hp => by rw [List.mem_singleton.mp hp]; exact ⟨ge_none hb, hb, ho⟩), hv _ (List.mem_append_left _ (List.mem_singleton.mpr rfl)) (fun p hp => List.mem_append_right _ hp), q⟩
theorem PV.push {fz : Fz} {s : Shared} {Q : AVal → AHeap → Prop} {a : AVal} {t : Nat} {o : Obj} (x : SR C f fz m σ s) (hf : o.isFreed = false) (hv : ∀ fz', (s.heap.objs.size, o) ∈ fz' → (∀ p ∈ fz, p ∈ fz') → V (At C fz') (.ref s.heap.objs.size) a) (q : Q a σ) :
    PV C f m fz s Q (.ref s.heap.objs.size) { s with heap := s.heap.push o, toks := t } := .new x (fun b o e => Heap.get?_push_of_some _ e) (Nat.le_refl _) (Heap.get?_push_size _ hf) hv q
/-! ## ints -/
section
variable {Q : AVal → AHeap → Prop} {a b : Int}
theorem t2_add (h : Q (.int (a + b)) σ) : T2 C n f (binaryOp .Add) (.int a) (.int b) m σ Q := fun ok fz s E v w x hv hw => by cases hv; cases hw; exact add_int (.tok x (.int _ _) h)
theorem t2_sub (h : Q (.int (a - b)) σ) : T2 C n f (binaryOp .Sub) (.int a) (.int b) m σ Q := fun ok fz s E v w x hv hw => by cases hv; cases hw; exact sub_int (.tok x (.int _ _) h)
theorem t2_div (hb : b ≠ 0) (hs : b.natAbs < 1073741824) (h : Q (.int (a.fdiv b)) σ) : T2 C n f (binaryOp .FloorDiv) (.int a) (.int b) m σ Q := fun ok fz s E v w x hv hw => by cases hv; cases hw; exact floordiv_int hb (.tok x (.int _ _) h) (.inl (PyProof.noPylong_small hs))
theorem t2_mod (hb : b ≠ 0) (hs : b.natAbs < 1073741824) (h : Q (.int (a.fmod b)) σ) : T2 C n f (binaryOp .Mod) (.int a) (.int b) m σ Q := fun ok fz s E v w x hv hw => by cases hv; cases hw; exact mod_int' hb (.tok x (.int _ _) h)
theorem t2_pow (hn : 0 ≤ b) (hb : b ≤ 1000000) (ha : a.natAbs < 2 ^ 64) (h : Q (.int (a ^ b.toNat)) σ) : T2 C n f (binaryOp .Pow) (.int a) (.int b) m σ Q := fun ok fz s E v w x hv hw => by cases hv; cases hw; exact pow_int_small hn hb ha (.tok x (.int _ _) h)
theorem t1_neg (h : Q (.int (-a)) σ) : T1 C n f (unaryOp .USub) (.int a) m σ Q := fun ok fz s E v x hv => by cases hv; exact PyProof.Rows.neg_int (.tok x (.int _ _) h)
theorem t2_eq (h : Q (.bool (a == b)) σ) : T2 C n f (compareOp .Eq) (.int a) (.int b) m σ Q := fun ok fz s E v w x hv hw => by cases hv; cases hw; exact PyProof.Rows.eq_int (.here x (.bool _) h)
end

/-! ## None -/
def isNone : AVal → Option Bool
  | .none => some true
  | .raw _ => Option.none
  | _ => some false
theorem isNone_ok {P : Addr → Obj → Prop} {v : Value} {a : AVal} {b : Bool} (h : V P v a) (e : isNone a = some b) : (v == Value.none) = b := by
  cases h <;> simp [isNone] at e <;> subst e <;> rfl
theorem t2_isNone {a : AVal} {b : Bool} {Q : AVal → AHeap → Prop} (e : isNone a = some b) (h : Q (.bool b) σ) : T2 C n f (compareOp .Is) a .none m σ Q := fun ok fz s E v w x hv hw => by
  have := isNone_ok hv e
  cases hw; exact is_none (by rw [this]; exact .here x (.bool _) h)
theorem t2_isNotNone {a : AVal} {b : Bool} {Q : AVal → AHeap → Prop} (e : isNone a = some b) (h : Q (.bool (!b)) σ) : T2 C n f (compareOp .IsNot) a .none m σ Q := fun ok fz s E v w x hv hw => by
  have := isNone_ok hv e
  cases hw; exact isNot_none (by rw [this]; exact .here x (.bool _) h)

/-! ## builtins called -/
theorem keep_builtin {h : Heap} {i : String} : Keep C h (.builtin i) := ⟨.machine, .inr (.inl rfl), Looks.of_pure rfl⟩
theorem keep_type {h : Heap} {i : String} : Keep C h (.type i) := ⟨.machine, .inr (.inl rfl), Looks.of_pure rfl⟩
theorem tc_range1 {a : Int} {Q : AVal → AHeap → Prop} (h : Q (.rng 0 a 1) σ) : TC C n f (.raw (.type "range")) [.int a] m σ Q := fun ok fz s E v vs x hv hvs => by
  cases hv; obtain _ | ⟨h1, h2⟩ := hvs; cases h2; cases h1
  exact ⟨keep_type, call_range_1 (.push x rfl (fun fz' h _ => .rng (.inl h)) h)⟩
theorem tc_range2 {a b : Int} {Q : AVal → AHeap → Prop} (h : Q (.rng a b 1) σ) : TC C n f (.raw (.type "range")) [.int a, .int b] m σ Q := fun ok fz s E v vs x hv hvs => by
  cases hv; obtain _ | ⟨h1, h2⟩ := hvs; obtain _ | ⟨h2, h3⟩ := h2; cases h3; cases h1; cases h2
  exact ⟨keep_type, call_range_2 (.push x rfl (fun fz' h _ => .rng (.inl h)) h)⟩
/-! ## iterators -/
theorem SX.ofPush {fz : Fz} {s : Shared} {o : Obj} {t : Nat} (x : SR C f fz m σ s) : SX C f fz m σ [s.heap.objs.size] { s with heap := s.heap.push o, toks := t } := by
  obtain ⟨mc, news, δ, F, N, R, e⟩ := x
  obtain ⟨oL, a1, a2, hL, a3⟩ := id F.ns
  refine ⟨mc, news, δ, F.push o, fun p hp => ⟨Heap.get?_push_of_some _ (N p hp).1, (N p hp).2⟩, R, e, fun p hp hm => ?_, fun hm => ?_, fun b hb => ?_⟩
  · exact absurd (news_lt N hp) (by rw [List.mem_singleton.mp hm]; exact Nat.lt_irrefl _)
  · exact absurd (Heap.lt_size hL) (by rw [List.mem_singleton.mp hm]; exact Nat.lt_irrefl _)
  · rw [List.mem_singleton.mp hb]
    cases q : f.h₀.get? s.heap.objs.size with
    | none => rfl
    | some o => exact absurd (Heap.lt_size (F.keep _ _ q)) (Nat.lt_irrefl _)
theorem ti_lst {xs : List AVal} {Q : (AHeap → AHeap) → List AVal → AHeap → Prop} (h : Q id xs σ) : TI C n f (.lst xs) m σ Q := fun ok fz s E v x hv => by
  cases hv with
  | lst p1 p2 p3 p4 =>
    rename_i l o k vs
    have ho := x.at_ ok p1
    have hl : s.heap.IsList l vs.toArray := ⟨_, ho, p2, _, p3⟩
    have hne : l ≠ s.heap.objs.size := Nat.ne_of_lt (Heap.lt_size ho)
    refine wpAny_pyIter_list hl ?_
    have W := Walks.list (prog := C.prog) (w := C.w) ok.handled s.heap.objs.size l hne vs.toArray
    refine ⟨fz, σ, s.heap.objs.size, [s.heap.objs.size], xs, fun i h => h.IsListIter s.heap.objs.size l i ∧ h.IsList l vs.toArray, fun _ => True, id, rfl, sub_refl, ⟨_, s.toks, rfl⟩, SX.ofPush (t := s.toks) x, ⟨?_, ?_, ?_, ?_, fun _ _ _ => trivial, fun _ _ _ _ _ x _ => x.sr, fun i s Q E h q => W.self i s Q E h q, fun _ _ _ _ => trivial⟩, ⟨⟨_, Heap.get?_push_size _ rfl, rfl, rfl⟩, hl.at fun o e => Heap.get?_push_of_some _ e⟩, h⟩
    · intro i s Q E y hy hs hQ
      have hi : i < vs.toArray.size := by rw [List.size_toArray, p4.length]; exact (List.getElem?_eq_some_iff.mp hy).1
      refine W.item i s Q E hi hs fun v h' tk hv => hQ v h' tk ?_
      obtain ⟨u, h1, h2⟩ := p4.get hy
      have : vs[i]? = some v := by simpa using hv
      rw [h1] at this; cases this; exact h2
    · intro s Q E hs hQ
      have hz : vs.toArray.size = xs.length := by rw [List.size_toArray, p4.length]
      refine W.done s Q E (by rw [hz]; exact hs) fun h' tk k => hQ h' tk k trivial
    · intro i h hs b hb
      rw [List.mem_singleton.mp hb]
      obtain ⟨o, h1, _⟩ := hs.1; exact ⟨o, h1⟩
    · intro i h h' hs hw hp
      exact ⟨hs.1.at fun o e => hw _ (List.mem_singleton.mpr rfl) o e, ⟨_, hp _ _ (.inl p1), p2, _, p3⟩⟩
def rngL (a c : Int) (k : Nat) : List AVal := (List.range k).map fun (i : Nat) => AVal.int (a + (i : Int) * c)
theorem ti_rng {a b c : Int} {k : Nat} {Q : (AHeap → AHeap) → List AVal → AHeap → Prop} (hsmall : Builtin.Range.small a b c = true) (hk : Builtin.Range.rangeSize a b c = (k : Int)) (h : Q id (rngL a c k) σ) : TI C n f (.rng a b c) m σ Q := fun ok fz s E v x hv => by
  cases hv with
  | rng p1 =>
    have ho := x.at_ ok p1
    refine wpAny_pyIter_range ho hsmall ?_
    have W := Walks.range (prog := C.prog) (w := C.w) ok.handled s.heap.objs.size a c k
    have hlen : (rngL a c k).length = k := by simp [rngL]
    refine ⟨fz, σ, s.heap.objs.size, [s.heap.objs.size], rngL a c k, fun i h => IsRangeIter h s.heap.objs.size (a + (i : Nat) * c) ((k : Int) - (i : Nat)) c, fun _ => True, id, rfl, sub_refl, ⟨_, s.toks, rfl⟩, SX.ofPush (t := s.toks) x, ⟨?_, ?_, ?_, ?_, fun _ _ _ => trivial, fun _ _ _ _ _ x _ => x.sr, fun i s Q E h q => W.self i s Q E h q, fun _ _ _ _ => trivial⟩, ?_, h⟩
    · intro i s Q E y hy hs hQ
      have hi : i < k := by have := (List.getElem?_eq_some_iff.mp hy).1; omega
      refine W.item i s Q E hi hs fun v h' tk hv => hQ v h' tk ?_
      obtain ⟨t, rfl⟩ := hv
      have : y = .int (a + i * c) := by simp [rngL, hi] at hy; exact hy.symm
      subst this
      exact .int _ _
    · intro s Q E hs hQ
      exact W.done s Q E (by rw [hlen] at hs; exact hs) fun h' tk k => hQ h' tk k trivial
    · intro i h hs b hb
      rw [List.mem_singleton.mp hb]
      exact ⟨_, hs⟩
    · intro i h h' hs hw hp
      exact hw _ (List.mem_singleton.mpr rfl) _ hs
    · show IsRangeIter _ _ _ _ _
      rw [hk]
      simpa using Heap.get?_push_size s.heap (o := { cls := .type "range_iterator", data := .fields #[rawInt a, rawInt k, rawInt c] }) rfl
theorem w1_for {y : Str} {py : Pos} {iter : Expr} {body : List Stmt} {pos : Pos} {Q : AFlow → AEnv → AHeap → Prop} (Inv : List AVal → AEnv → AHeap → Prop)
    (h : WI C n f iter m σ fun back xs σ₂ => back = id ∧ Inv xs m σ₂)
    (turn : ∀ pin x xs m' σ', Inv (x :: xs) m' σ' → TS C n (f.withPin pin) y x m' σ' fun m₁ σ₁ => WS C n (f.withPin pin) body m₁ σ₁ (Turn id (Inv xs) Q))
    (done : ∀ m' σ', Inv [] m' σ' → Q .next m' σ') (hs : ∀ x, foldedSetIterable iter f.env x = pure x := by intro _; rfl) : W1 C n f (.For (.Name y py) iter body [] pos) m σ Q := by
  refine w1_forB (fun back xs m σ => back = id ∧ Inv xs m σ) h (fun back pin x xs m' σ' ⟨e, q⟩ => ?_) (fun back m' σ' ⟨e, q⟩ => by subst e; exact done _ _ q) hs
  subst e
  have key : Turn id (Inv xs) Q = Turn id (fun m σ => id = (id : AHeap → AHeap) ∧ Inv xs m σ) Q := by
    funext a m σ; cases a <;> simp [Turn]
  rw [← key]
  exact turn pin x xs m' σ' q
end
end Mine

open PySem PySem.W PyProof.Rows PySem.Calls
namespace Mine
section
variable {C : Cx} {n : Nat} {f : Fm} {m : AEnv} {σ : AHeap}
theorem HR.addFz {fz pin : Fz} {δ : Addr → Addr} {news : List (Addr × Obj)} (R : HR C fz pin σ δ news) (new : Fz) (hn : ∀ p ∈ new, ∀ q ∈ news, q.1 ≠ p.1) : HR C (new ++ fz) pin σ δ (new ++ news) := by
  have up : ∀ p ∈ fz, p ∈ new ++ fz := fun p hp => List.mem_append_right _ hp
  have split : ∀ p ∈ (new ++ fz) ++ pin, p ∈ new ∨ p ∈ fz ++ pin := fun p hp => by rw [List.append_assoc] at hp; exact List.mem_append.mp hp
  refine ⟨fun p hp => ?_, fun p hp q hq => ?_, fun a ao h => (R.ob a ao h).mono (fun _ _ => At.mono up) (fun _ q => List.mem_append_right _ q) fun _ _ _ _ q => List.mem_append_right _ q, fun a ao h p hp => ?_, fun a c as h p hp => ?_, R.dσ, R.dinj⟩
  · rcases split p hp with hp | hp
    · exact List.mem_append_left _ hp
    · exact List.mem_append_right _ (R.sub _ hp)
  · rcases List.mem_append.mp hp with hp | hp
    · exact fun e => hn p hp q (R.sub _ (List.mem_append_right _ hq)) e.symm
    · exact R.apart p hp q hq
  · rcases split p hp with hp | hp
    · obtain ⟨o, ho⟩ := (R.ob a ao h).key; exact fun q => hn p hp _ ho q.symm
    · exact R.off a ao h p hp
  · rcases split p hp with hp | hp
    · obtain ⟨_, es, k, ho, _⟩ := R.ob a _ h; exact fun q => hn p hp _ ho q.symm
    · exact R.doff a c as h p hp
theorem ER.up {fz fz' : Fz} {mc : Str → Option Value} (h : ∀ p ∈ fz, p ∈ fz') (e : ER (At C fz) m mc) : ER (At C fz') m mc := fun y a hy => by obtain ⟨v, h1, h2⟩ := e y a hy; exact ⟨v, h1, h2.up h⟩

/-! ## things of a class -/
theorem HR.addInst {fz pin : Fz} {δ : Addr → Addr} {news : List (Addr × Obj)} {y d c : Addr} (R : HR C fz pin σ δ news) (l1 : ∀ q ∈ news, q.1 < d) (l2 : d < y) :
    HR C fz pin (σ.set y (.inst c [])) (fun b => if b = y then d else δ b) ((y, instObj c d) :: (d, dictOf [] 0) :: news) := by
  have ny : ∀ q ∈ news, q.1 ≠ y := fun q hq => Nat.ne_of_lt (Nat.lt_trans (l1 q hq) l2)
  have nd : ∀ q ∈ news, q.1 ≠ d := fun q hq => Nat.ne_of_lt (l1 q hq)
  have ky : ∀ b bo, σ b = some bo → b ≠ y ∧ b ≠ d := fun b bo hb => by obtain ⟨o, h⟩ := (R.ob b bo hb).key; exact ⟨ny _ h, nd _ h⟩
  have kd : ∀ b c as, σ b = some (.inst c as) → δ b ≠ y ∧ δ b ≠ d := fun b c as hb => by obtain ⟨_, es, k, h, _⟩ := R.ob b _ hb; exact ⟨ny _ h, nd _ h⟩
  have hσd : σ d = none := by
    cases q : σ d with
    | none => rfl
    | some o => exact absurd rfl (ky d o q).2
  have hne : y ≠ d := Nat.ne_of_gt l2
  refine ⟨fun p hp => .tail _ (.tail _ (R.sub p hp)), R.apart, fun b bo hb => ?_, fun b bo hb p hp => ?_, fun b c₁ as hb p hp => ?_, fun b c₁ as hb => ?_, fun b c₁ as b' c' bs h1 h2 => ?_⟩
  · by_cases q : b = y
    · subst q; rw [AHeap.set_same] at hb; cases hb
      rw [if_pos rfl]
      exact ⟨List.mem_cons_self .., [], 0, .tail _ (List.mem_cons_self ..), .nil⟩
    · rw [AHeap.set_ne _ _ q] at hb
      rw [if_neg q]
      exact (R.ob b bo hb).mono (fun _ _ x => x) (fun _ hm => .tail _ (.tail _ hm)) fun c as eb _ hm => .tail _ (.tail _ hm)
  · by_cases q : b = y
    · subst q; exact ny _ (R.sub p hp)
    · rw [AHeap.set_ne _ _ q] at hb; exact R.off b bo hb p hp
  · by_cases q : b = y
    · rw [if_pos q]; exact nd _ (R.sub p hp)
    · rw [AHeap.set_ne _ _ q] at hb; rw [if_neg q]; exact R.doff b c₁ as hb p hp
  · by_cases q : b = y
    · rw [if_pos q, AHeap.set_ne _ _ (Ne.symm hne)]; exact hσd
    · rw [AHeap.set_ne _ _ q] at hb; rw [if_neg q, AHeap.set_ne _ _ (kd b c₁ as hb).1]; exact R.dσ b c₁ as hb
  · by_cases q : b = y <;> by_cases q' : b' = y
    · intro _; rw [q, q']
    · rw [AHeap.set_ne _ _ q'] at h2; rw [if_pos q, if_neg q']; exact fun e => absurd e.symm (kd b' c' bs h2).2
    · rw [AHeap.set_ne _ _ q] at h1; rw [if_neg q, if_pos q']; exact fun e => absurd e (kd b c₁ as h1).2
    · rw [AHeap.set_ne _ _ q] at h1; rw [AHeap.set_ne _ _ q'] at h2; rw [if_neg q, if_neg q']; exact R.dinj b c₁ as b' c' bs h1 h2
theorem HR.noneAt {fz pin : Fz} {δ : Addr → Addr} {news : List (Addr × Obj)} {y : Addr} (R : HR C fz pin σ δ news) (l : ∀ q ∈ news, q.1 ≠ y) : σ y = none := by
  cases q : σ y with
  | none => rfl
  | some o => obtain ⟨o, h⟩ := (R.ob y o q).key; exact absurd rfl (l _ h)
/-- a thing of a class with an own __init__ -/
theorem tc_inst {c g : Addr} {as : List AVal} {Q : AVal → AHeap → Prop} (hk : keepIn C.K (.ref c) = true) (hm : makesIn C.K c = true) (hi : findIn C.K (.ref c) "__init__" = some (some (.ref g))) (hf : isFn C.K (.ref g) = true)
    (h : ∀ a, σ a = none → Fn C n g (.obj a :: as) (σ.set a (.inst c [])) fun r σ' => r = .none ∧ Q (.obj a) σ') : TC C n f (.raw (.ref c)) as m σ Q := fun ok fz s E v vs x hv hvs => by
  cases hv
  refine ⟨keep_K ok x hk, ?_⟩
  obtain ⟨mc, news, δ, F, N, R, e⟩ := x
  refine call_cls F ok.kin N hm hi hf fun y d h' F' N' l1 l2 => ?_
  have x' : SR C f fz m (σ.set y (.inst c [])) { s with heap := h' } := ⟨mc, _, _, F', N', R.addInst l1 l2, e⟩
  have hn : Near f (f.A.under (.builtin "type.__call__" ⟨.ref c :: vs, []⟩)) := ⟨rfl, rfl, rfl, by show f.A.depth + 1 ≤ _; omega, by show f.A.units + 1 ≤ _; omega⟩
  refine codeAny_mono (h y (R.noneAt fun q hq => Nat.ne_of_lt (Nat.lt_trans (l1 q hq) l2)) f m _ ok hn fz _ (.ref y :: vs) x' (.cons (.obj y) hvs)) fun r s' ⟨v, er, fz', σ', a, u, es, x2, va, q0, q⟩ => ?_
  subst er; subst q0
  cases va
  exact ⟨rfl, fz', σ', .obj y, u, Same.trans ⟨h', s.toks, rfl⟩ es, x2, .obj y, q⟩

/-! ## type, is -/
/-! ## functions of ints -/
theorem tc_divmod {a b : Int} {Q : AVal → AHeap → Prop} (hb : b ≠ 0) (hs : b.natAbs < 1073741824) (h : Q (.tup [.int (a.fdiv b), .int (a.fmod b)]) σ) : TC C n f (.raw (.builtin "divmod")) [.int a, .int b] m σ Q := fun ok fz s E v vs x hv hvs => by
  cases hv; obtain _ | ⟨h1, h2⟩ := hvs; obtain _ | ⟨h2, h3⟩ := h2; cases h3; cases h1; cases h2
  refine ⟨keep_builtin, divmod_int hb ?_ (.inl (PyProof.noPylong_small hs))⟩
  exact PV.push (t := s.toks + 1 + 1) x rfl (fun fz' hm _ => .tup (vs := [.int (a.fdiv b) s.toks, .int (a.fmod b) (s.toks + 1)]) (.inl hm) rfl rfl (.cons (.int _ _) (.cons (.int _ _) .nil))) h
/-! ## lists -/
theorem SR.newFz {fz : Fz} {s : Shared} (x : SR C f fz m σ s) : ∃ mc news, Fr f.h₀ f.L s.heap mc ∧ News f.h₀ f.L s.heap news ∧
    ∀ h' t o, Fr f.h₀ f.L h' mc → News f.h₀ f.L h' ((s.heap.objs.size, o) :: news) → SR C f ([(s.heap.objs.size, o)] ++ fz) m σ { s with heap := h', toks := t } := by
  obtain ⟨mc, news, δ, F, N, R, e⟩ := x
  refine ⟨mc, news, F, N, fun h' t o F' N' => ⟨mc, _, δ, F', N', R.addFz [(s.heap.objs.size, o)] fun p hp q hq => ?_, e.up fun p hp => List.mem_append_right _ hp⟩⟩
  rw [List.mem_singleton.mp hp]
  exact Nat.ne_of_lt (news_lt N hq)
/-- a list, frozen or not: its items now -/
def items (σ : AHeap) : AVal → Option (List AVal)
  | .lst xs => some xs
  | .obj a => match σ a with
    | some (.list xs) => some xs
    | _ => none
  | _ => none
theorem V.items {fz : Fz} {s : Shared} (ok : f.Ok C n) (x : SR C f fz m σ s) {v : Value} {a : AVal} {xs : List AVal} (h : V (At C fz) v a) (e : items σ a = some xs) : ∃ l vs, v = .ref l ∧ s.heap.IsList l vs.toArray ∧ Vs (At C fz) vs xs := by
  cases h with
  | obj a =>
    have e' : (match σ a with | some (.list xs) => some xs | _ => Option.none) = some xs := e
    split at e'
    · rename_i ys hs; cases e'
      obtain ⟨vs, k, h1, h2⟩ := x.list hs
      exact ⟨a, vs, rfl, ⟨_, h1, rfl, _, rfl⟩, h2⟩
    · cases e'
  | lst h1 h2 h3 h4 => cases e; exact ⟨_, _, rfl, ⟨_, x.at_ ok h1, h2, _, h3⟩, h4⟩
  | _ => cases e
theorem t2_cat {a b : AVal} {xs ys : List AVal} {Q : AVal → AHeap → Prop} (ha : items σ a = some xs) (hb : items σ b = some ys) (hl : xs.length + ys.length ≤ sizeLine) (h : Q (.lst (xs ++ ys)) σ) : T2 C n f (binaryOp .Add) a b m σ Q := fun ok fz s E v w x hv hw => by
  obtain ⟨l, vs, rfl, hlv, hvs⟩ := hv.items ok x ha
  obtain ⟨l', ws, rfl, hlw, hws⟩ := hw.items ok x hb
  obtain ⟨mc, news, F, N, k⟩ := x.newFz
  refine add_lists F N hlv hlw (fun h' F' N' => ?_) (by rw [hvs.length, hws.length]; exact hl)
  exact ⟨_, σ, .lst (xs ++ ys), fun p hp => List.mem_append_right _ hp, ⟨h', s.toks, rfl⟩, k h' s.toks _ F' N', .lst (.inl (List.mem_append_left _ (List.mem_singleton.mpr rfl))) rfl rfl ((hvs.append hws).up fun p hp => List.mem_append_right _ hp), h⟩
theorem tc_len {a : AVal} {xs : List AVal} {Q : AVal → AHeap → Prop} (ha : items σ a = some xs) (hl : xs.length < 2 ^ 62) (h : Q (.int xs.length) σ) : TC C n f (.raw (.builtin "len")) [a] m σ Q := fun ok fz s E v vs x hv hvs => by
  cases hv; obtain _ | ⟨h1, h2⟩ := hvs; cases h2
  obtain ⟨l, us, rfl, hlv, hus⟩ := h1.items ok x ha
  have e : us.toArray.size = xs.length := by rw [List.size_toArray, hus.length]
  refine ⟨keep_builtin, len_list hlv (by rw [e]; omega) ?_⟩
  rw [e]
  exact .tok x (.int _ _) h
end
end Mine

open PySem PySem.W PyProof.Rows PySem.Calls
namespace Mine
section
variable {C : Cx} {n : Nat} {f : Fm} {m : AEnv} {σ : AHeap}
theorem SX.ofFresh {fz : Fz} {s : Shared} {h' : Heap} {t : Nat} {wr : List Addr} (x : SR C f fz m σ s) (k : ∀ b o, s.heap.get? b = some o → h'.get? b = some o) (hw : ∀ b ∈ wr, s.heap.objs.size ≤ b) : SX C f fz m σ wr { s with heap := h', toks := t } := by
  obtain ⟨mc, news, δ, F, N, R, e⟩ := x
  obtain ⟨oL, a1, a2, hL, a3⟩ := id F.ns
  refine ⟨mc, news, δ, F.grownK k, fun p hp => ⟨k _ _ (N p hp).1, (N p hp).2⟩, R, e, fun p hp hm => ?_, fun hm => ?_, fun b hb => ?_⟩
  · exact absurd (news_lt N hp) (Nat.not_lt.mpr (hw _ hm))
  · exact absurd (Heap.lt_size hL) (Nat.not_lt.mpr (hw _ hm))
  · cases q : f.h₀.get? b with
    | none => rfl
    | some o => exact absurd (Heap.lt_size (F.keep _ _ q)) (Nat.not_lt.mpr (hw _ hb))
theorem V.lstD {P : Addr → Obj → Prop} {v : Value} {xs : List AVal} (h : V P v (.lst xs)) : ∃ l o k us, v = .ref l ∧ P l o ∧ o.cls = .type "list" ∧ o.data = .seq (List.toArray us) k ∧ Vs P us xs := by
  cases h with
  | lst p1 p2 p3 p4 => exact ⟨_, _, _, _, rfl, p1, p2, p3, p4⟩
def enumFrom (k : Nat) : List AVal → List (List AVal)
  | [] => []
  | x :: xs => [.int k, x] :: enumFrom (k + 1) xs
theorem w1_forT {ts : List Expr} {tk : Nat} {tp : Pos} {iter : Expr} {body : List Stmt} {pos : Pos} {Q : AFlow → AEnv → AHeap → Prop} (Inv : List (List AVal) → AEnv → AHeap → Prop)
    (h : WIT C n f iter m σ fun back xs σ₂ => back = id ∧ Inv xs m σ₂)
    (turn : ∀ pin x xs m' σ', Inv (x :: xs) m' σ' → (assignEach ts f.env).length = x.length ∧ TAs C n (f.withPin pin) ts x m' σ' fun m₁ σ₁ => WS C n (f.withPin pin) body m₁ σ₁ (Turn id (Inv xs) Q))
    (done : ∀ m' σ', Inv [] m' σ' → Q .next m' σ') (hstar : (assignEach ts f.env).findIdx? (·.1) = none := by rfl) (hs : ∀ x, foldedSetIterable iter f.env x = pure x := by intro _; rfl) : W1 C n f (.For (.Tuple ts tk tp) iter body [] pos) m σ Q := by
  refine w1_forTB (fun back xs m σ => back = id ∧ Inv xs m σ) h (fun back pin x xs m' σ' ⟨e, q⟩ => ?_) (fun back m' σ' ⟨e, q⟩ => by subst e; exact done _ _ q) hstar hs
  subst e
  have key : Turn id (Inv xs) Q = Turn id (fun m σ => id = (id : AHeap → AHeap) ∧ Inv xs m σ) Q := by
    funext a m σ; cases a <;> simp [Turn]
  rw [← key]
  exact turn pin x xs m' σ' q
end
end Mine
namespace Mine
section
variable {C : Cx} {n : Nat} {f : Fm} {m : AEnv} {σ : AHeap}
/-! ## methods of lists -/
theorem tg_list {a : Addr} {xs : List AVal} {name : Str} {id : String} {Q : AVal → List AVal → AHeap → Prop} (slot : Slot "list" name id) (hty : typeOf (.builtin id) = pure (.type "method_descriptor")) (ha : σ a = some (.list xs)) (h : Q (.raw (.builtin id)) [.obj a] σ) : TG C n f name (.obj a) m σ Q := fun ok fz s E v pl x hv => by
  cases hv
  obtain ⟨vs, k, h1, h2⟩ := x.list ha
  exact getMethod_list_of slot hty ⟨_, h1, rfl, _, rfl⟩ ⟨_, h1, rfl⟩ ⟨fz, σ, _, _, sub_refl, .rfl, x, .raw _, .cons (.obj a) .nil, h⟩
def scalar : AVal → Bool
  | .none => true
  | .bool _ => true
  | .int _ => true
  | .str _ => true
  | _ => false
def notNone : AVal → Bool
  | .none => false
  | _ => true
end
end Mine

open PySem PySem.W PyProof.Rows PySem.Calls
namespace Mine
end Mine
namespace Mine
theorem vs_ints {P : Addr → Obj → Prop} : ∀ {vs : List Value} {ns : List Int}, IntsAre vs ns → Vs P vs (ns.map .int)
  | _, _, .nil => .nil
  | _, _, .cons n t r => .cons (.int n t) (vs_ints r)
end Mine

open PySem PySem.W PyProof.Rows PySem.Calls
namespace Mine
section
variable {C : Cx} {n : Nat} {f : Fm} {m : AEnv} {σ : AHeap}
theorem WE.cut {e : Expr} {Q P : AVal → AHeap → Prop} (h : WE C n f e m σ P) (k : ∀ a σ₁, P a σ₁ → Q a σ₁) : WE C n f e m σ Q := fun ok fz s E x =>
  wpAny_mono (h ok fz s E x) (fun v s₁ ⟨fz₁, σ₁, a, u1, e1, x1, va, q1⟩ => ⟨fz₁, σ₁, a, u1, e1, x1, va, k _ _ q1⟩) fun _ _ x => x

/-! ## items by place -/
theorem we_sub {value slice : Expr} {pos : Pos} {Q : AVal → AHeap → Prop} (h : WE C n f value m σ fun a σ₁ => WE C n f slice m σ₁ fun b σ₂ => T2 C n f (subscriptTail value slice) a b m σ₂ Q) : WE C n f (.Subscript value slice pos) m σ Q := fun ok fz s E x => by
  refine Subscript_ (wpAny_mono (h ok fz s E x) (fun v s₁ ⟨fz₁, σ₁, a, u1, e1, x1, va, q1⟩ => wpAny_mono (q1 ok fz₁ s₁ E x1) (fun w s₂ ⟨fz₂, σ₂, b, u2, e2, x2, vb, q2⟩ => ?_) fun _ _ x => x) fun _ _ x => x)
  exact wpAny_mono (q2 ok fz₂ s₂ E v w x2 (va.up u2) vb) (fun r s₃ p => .up (fun p hp => u2 p (u1 p hp)) (e1.trans e2) p) fun _ _ x => x
theorem t2_item {value slice : Expr} {a : AVal} {i : Int} {xs : List AVal} {y : AVal} {Q : AVal → AHeap → Prop} (ha : items σ a = some xs) (h0 : 0 ≤ i) (hf : i < 2 ^ 63) (hy : xs[i.toNat]? = some y) (h : Q y σ)
    (hs : ∀ l u, subscripted slice false (.ref l) (.int i u) = operate [.ref l, .int i u] (getItem (.ref l) (.int i u)) := by intro _ _; rfl) : T2 C n f (subscriptTail value slice) a (.int i) m σ Q := fun ok fz s E v w x hv hw => by
  cases hw
  obtain ⟨l, vs, rfl, hl, hvs⟩ := hv.items ok x ha
  obtain ⟨u, g1, g2⟩ := hvs.get hy
  exact tail_any hl.typeIs slot_list_getitem.lookup (wpAny_getItem_list (x := u) hl h0 hf (by simpa using g1) (.here x g2 h)) (hs _ _)
theorem t2_itemN {value slice : Expr} {a : AVal} {i : Int} {xs : List AVal} {y : AVal} {Q : AVal → AHeap → Prop} (ha : items σ a = some xs) (h0 : i < 0) (h1 : -(xs.length : Int) ≤ i) (hf : -(2 ^ 63) ≤ i) (hy : xs[(i + xs.length).toNat]? = some y) (h : Q y σ)
    (hs : ∀ l u, subscripted slice false (.ref l) (.int i u) = operate [.ref l, .int i u] (getItem (.ref l) (.int i u)) := by intro _ _; rfl) : T2 C n f (subscriptTail value slice) a (.int i) m σ Q := fun ok fz s E v w x hv hw => by
  cases hw
  obtain ⟨l, vs, rfl, hl, hvs⟩ := hv.items ok x ha
  obtain ⟨u, g1, g2⟩ := hvs.get hy
  have hz : vs.toArray.size = xs.length := by rw [List.size_toArray, hvs.length]
  exact tail_any hl.typeIs slot_list_getitem.lookup (wpAny_getItem_list_neg (x := u) hl h0 (by rw [hz]; exact h1) hf (by rw [hz]; simpa using g1) (.here x g2 h)) (hs _ _)

/-! ## slices -/
def WO (C : Cx) (n : Nat) (f : Fm) (e : Option Expr) (m : AEnv) (σ : AHeap) (Q : AVal → AHeap → Prop) : Prop :=
  f.Ok C n → ∀ fz s E, SR C f fz m σ s → wpAny (Md C) f.A (evalPart e f.env) (PV C f m fz s Q) E s
theorem wo_none {Q : AVal → AHeap → Prop} (h : Q .none σ) : WO C n f none m σ Q := fun ok fz s E x => wpAny_pure (.here x .none h)
theorem wo_some {e : Expr} {Q : AVal → AHeap → Prop} (h : WE C n f e m σ Q) : WO C n f (some e) m σ Q := fun ok fz s E x => h ok fz s E x
def part : AVal → Option (Option Int)
  | .none => some none
  | .int i => some (some i)
  | _ => none
theorem V.part {P : Addr → Obj → Prop} {v : Value} {a : AVal} {p : Option Int} (h : V P v a) (e : part a = some p) : IsPart v p := by
  cases h <;> cases e
  · exact .none
  · exact .int _ _
def pickA (xs : List AVal) (lo hi st : Option Int) : List AVal :=
  (sliceRange (sliceBounds lo hi st xs.length).1 (sliceBounds lo hi st xs.length).2.1 (sliceBounds lo hi st xs.length).2.2).filterMap (xs[·]?)
theorem Vs.pickAll {P : Addr → Obj → Prop} {vs : List Value} {xs : List AVal} (h : Vs P vs xs) : ∀ ks : List Nat, Vs P (ks.filterMap (vs[·]?)) (ks.filterMap (xs[·]?))
  | [] => .nil
  | k :: ks => by
    have ih := h.pickAll ks
    cases e : xs[k]? with
    | none =>
      have : vs[k]? = none := by rw [List.getElem?_eq_none_iff] at e ⊢; rw [h.length]; exact e
      simpa [List.filterMap_cons, e, this] using ih
    | some x =>
      obtain ⟨v, h1, h2⟩ := h.get e
      simpa [List.filterMap_cons, e, h1] using Vs.cons h2 ih
theorem Vs.pick {P : Addr → Obj → Prop} {vs : List Value} {xs : List AVal} (h : Vs P vs xs) (lo hi st : Option Int) : Vs P (slicePick vs.toArray lo hi st).toList (pickA xs lo hi st) := by
  unfold slicePick pickA
  simp only [List.size_toArray, h.length, List.getElem?_toArray, List.toList_toArray]
  exact h.pickAll _
theorem pickA_plain (xs : List AVal) (lo hi : Option Int) : pickA xs lo hi none = (xs.drop (lo.elim 0 (clipAt xs.length))).take (hi.elim xs.length (clipAt xs.length) - lo.elim 0 (clipAt xs.length)) := by
  unfold pickA
  rw [sliceBounds_plain]
  have := pick_run (xs.toArray)
  simp only [List.getElem?_toArray, List.toList_toArray] at this
  simp only [sliceRange_one]
  exact this _ _
theorem sub_slice {st : Option Expr} {lower upper : Option Expr} {p : Pos} {o i : Value} : ∃ ops, subscripted (.Slice lower upper st p) false o i = operate ops (getItem o i) := by
  cases st with
  | none => exact ⟨_, rfl⟩
  | some e => exact ⟨_, rfl⟩
theorem slice_core {value : Expr} {lower upper step : Option Expr} {p pos : Pos} {fz : Fz} {s : Shared} {E : Value → Shared → Prop} {R : Value → Shared → Prop} (ok : f.Ok C n) (x : SR C f fz m σ s)
    (h : WE C n f value m σ fun a σ₁ => WO C n f lower m σ₁ fun l σ₂ => WO C n f upper m σ₂ fun u σ₃ => WO C n f step m σ₃ fun st σ₄ =>
      ∃ xs lo hi sp, items σ₄ a = some xs ∧ part l = some lo ∧ part u = some hi ∧ part st = some sp ∧ sp ≠ some 0 ∧ xs.length ≤ sizeLine ∧
        ∀ fz' s' vs h', (∀ p ∈ fz, p ∈ fz') → Same s s' → SR C f fz' m σ₄ s' → Vs (At C fz') vs (pickA xs lo hi sp) → (∀ b o, s'.heap.get? b = some o → h'.get? b = some o) → h'.get? (s'.heap.objs.size + 1) = some (listOf vs.toArray 0) → R (.ref (s'.heap.objs.size + 1)) { s' with heap := h' }) :
    wpAny (Md C) f.A (eval (.Subscript value (.Slice lower upper step p) pos) f.env) R E s := by
  refine Subscript_ (wpAny_mono (h ok fz s E x) (fun v s₁ ⟨fz₁, σ₁, a, u1, e1, x1, va, q1⟩ => wpAny_Slice (wpAny_mono (q1 ok fz₁ s₁ E x1) (fun l s₂ ⟨fz₂, σ₂, al, u2, e2, x2, vl, q2⟩ => wpAny_mono (q2 ok fz₂ s₂ E x2) (fun u s₃ ⟨fz₃, σ₃, au, u3, e3, x3, vu, q3⟩ => wpAny_mono (q3 ok fz₃ s₃ E x3) (fun st s₄ ⟨fz₄, σ₄, ast, u4, e4, x4, vst, xs, lo, hi, sp, hx, hlo, hhi, hsp, h0, hz, k⟩ => ?_) fun _ _ x => x) fun _ _ x => x) fun _ _ x => x)) fun _ _ x => x)
  obtain ⟨b, vs, rfl, hl, hvs⟩ := (((va.up u2).up u3).up u4).items ok x4 hx
  have hl' : (s₄.heap.push { cls := .type "slice", data := .fields #[l, u, st] }).IsList b vs.toArray := hl.push _
  obtain ⟨ops, hs⟩ := sub_slice (st := step) (lower := lower) (upper := upper) (p := p) (o := .ref b) (i := .ref s₄.heap.objs.size)
  refine tail_any hl'.typeIs slot_list_getitem.lookup (wpAny_getItem_list_slice hl' (Heap.IsSliceOf.new ..) (vl.part hlo) (vu.part hhi) (vst.part hsp) h0 ?_ (by rw [List.size_toArray, hvs.length]; exact hz)) hs
  rw [Heap.size_push]
  have hp := hvs.pick lo hi sp
  have e : slicePick vs.toArray lo hi sp = (slicePick vs.toArray lo hi sp).toList.toArray := by simp
  refine k fz₄ s₄ (slicePick vs.toArray lo hi sp).toList _ (fun p hp => u4 p (u3 p (u2 p (u1 p hp)))) (((e1.trans e2).trans e3).trans e4) x4 hp (fun b o e => Heap.get?_push_of_some _ (Heap.get?_push_of_some _ e)) ?_
  rw [← e]
  have := Heap.get?_push_size (s₄.heap.push { cls := .type "slice", data := .fields #[l, u, st] }) (o := { cls := .type "list", data := .seq (slicePick vs.toArray lo hi sp) }) rfl
  rw [Heap.size_push] at this
  exact this
theorem we_slice {value : Expr} {lower upper step : Option Expr} {p pos : Pos} {Q : AVal → AHeap → Prop}
    (h : WE C n f value m σ fun a σ₁ => WO C n f lower m σ₁ fun l σ₂ => WO C n f upper m σ₂ fun u σ₃ => WO C n f step m σ₃ fun st σ₄ =>
      ∃ xs lo hi sp, items σ₄ a = some xs ∧ part l = some lo ∧ part u = some hi ∧ part st = some sp ∧ sp ≠ some 0 ∧ xs.length ≤ sizeLine ∧ Q (.lst (pickA xs lo hi sp)) σ₄) :
    WE C n f (.Subscript value (.Slice lower upper step p) pos) m σ Q := fun ok fz s E x => by
  refine slice_core ok x (WE.cut h fun a σ₁ h1 ok fz s E x => wpAny_mono (h1 ok fz s E x) (fun v s₁ ⟨fz₁, σ₁, a, u1, e1, x1, va, q1⟩ => ⟨fz₁, σ₁, a, u1, e1, x1, va, fun ok fz s E x => wpAny_mono (q1 ok fz s E x) (fun v s₁ ⟨fz₁, σ₁, a, u1, e1, x1, va, q1⟩ => ⟨fz₁, σ₁, a, u1, e1, x1, va, fun ok fz s E x => wpAny_mono (q1 ok fz s E x) (fun v s₁ ⟨fz₁, σ₁, a, u1, e1, x1, va, q1⟩ => ⟨fz₁, σ₁, a, u1, e1, x1, va, ?_⟩) fun _ _ x => x⟩) fun _ _ x => x⟩) fun _ _ x => x)
  obtain ⟨xs, lo, hi, sp, h1, h2, h3, h4, h5, h6, q⟩ := q1
  exact ⟨xs, lo, hi, sp, h1, h2, h3, h4, h5, h6, fun fz' s' vs h' u e x' hv k ho => PV.up u e (PV.new (t := s'.toks) x' k (Nat.le_succ _) ho (fun fz'' hm hu => .lst (.inl hm) rfl rfl (hv.up hu)) q)⟩
/-! ## changing a list -/
theorem mapSeq_listOf (g : Array Value → Array Value) (its : Array Value) (k : Nat) : ∃ k', Obj.mapSeq g (listOf its k) = listOf (g its) k' := ⟨_, rfl⟩
theorem SR.updList {fz : Fz} {s : Shared} {a : Addr} {xs xs' : List AVal} {vs : List Value} {k : Nat} (x : SR C f fz m σ s) (h : σ a = some (.list xs)) (ho : s.heap.get? a = some (listOf vs.toArray k)) (g : Array Value → Array Value) (hg : Vs (At C fz) (g vs.toArray).toList xs') (t : Nat) :
    SR C f fz m (σ.set a (.list xs')) { s with heap := s.heap.update a (Obj.mapSeq g), toks := t } := by
  obtain ⟨k', e⟩ := mapSeq_listOf g vs.toArray k
  have ho' : (s.heap.update a (Obj.mapSeq g)).get? a = some (listOf (g vs.toArray).toList.toArray k') := by
    rw [Heap.get?_update_self _ ho (by rw [e]; rfl), e]
  exact x.setList (t := t) h (Heap.SameBut.update ..) ho' hg
theorem tg_listM {a : Addr} {xs : List AVal} {name : Str} {id : String} {Q : AVal → List AVal → AHeap → Prop} (ha : σ a = some (.list xs)) (slot : Slot "list" name id) (hty : typeOf (.builtin id) = pure (.type "method_descriptor")) (h : Q (.raw (.builtin id)) [.obj a] σ) : TG C n f name (.obj a) m σ Q :=
  tg_list slot hty ha h
theorem tc_append {a : Addr} {xs : List AVal} {y : AVal} {Q : AVal → AHeap → Prop} (ha : σ a = some (.list xs)) (hl : xs.length ≤ sizeLine) (h : Q .none (σ.set a (.list (xs ++ [y])))) : TC C n f (.raw (.builtin "list.append")) [.obj a, y] m σ Q := fun ok fz s E v vs x hv hvs => by
  cases hv; obtain _ | ⟨h1, h2⟩ := hvs; obtain _ | ⟨h2, h3⟩ := h2; cases h3; cases h1
  obtain ⟨us, k, ho, p4⟩ := x.list ha
  refine ⟨keep_builtin, append_at ho (fun h' hs ho' => ?_) (by rw [List.size_toArray, p4.length]; exact hl)⟩
  rename_i w
  refine ⟨fz, _, .none, sub_refl, ⟨h', s.toks, rfl⟩, x.setList (t := s.toks) (vs' := us ++ [w]) ha hs (by simpa using ho') (p4.append (.cons h2 .nil)), .none, h⟩
/-- storing at a place: as a tree -/
def TU (C : Cx) (n : Nat) (f : Fm) (o i y : AVal) (m : AEnv) (σ : AHeap) (Q : AHeap → Prop) : Prop :=
  f.Ok C n → ∀ fz s E vo vi vy, SR C f fz m σ s → V (At C fz) vo o → V (At C fz) vi i → V (At C fz) vy y → wpAny (Md C) f.A (setItem vo vi vy) (fun _ s' => ∃ fz' σ', (∀ p ∈ fz, p ∈ fz') ∧ Same s s' ∧ SR C f fz' m σ' s' ∧ Q σ') E s
theorem tu_list {a : Addr} {xs : List AVal} {i : Int} {y : AVal} {Q : AHeap → Prop} (ha : σ a = some (.list xs)) (h0 : 0 ≤ i) (hl : i < xs.length) (hf : i < 2 ^ 63) (h : Q (σ.set a (.list (xs.set i.toNat y)))) : TU C n f (.obj a) (.int i) y m σ Q := fun ok fz s E vo vi vy x ho hi hy => by
  cases ho; cases hi
  obtain ⟨us, k, ho, p4⟩ := x.list ha
  refine ki_setAt ho h0 hf (by rw [List.size_toArray, p4.length]; exact hl) ⟨fz, _, sub_refl, ⟨_, s.toks, rfl⟩, x.updList ha ho _ ?_ s.toks, h⟩
  have := p4.set i.toNat hy
  simpa using this
theorem w1_setItem {o i : Expr} {tp : Pos} {e : Expr} {pos : Pos} {Q : AFlow → AEnv → AHeap → Prop} (h : WE C n f e m σ fun y σ₁ => WE C n f o m σ₁ fun ov σ₂ => WE C n f i m σ₂ fun iv σ₃ => TU C n f ov iv y m σ₃ fun σ₄ => Q .next m σ₄)
    (hs : swapsWith e (some (.Subscript o i tp)) pos.line f.env = pure false := by rfl) : W1 C n f (.Assign [.Subscript o i tp] e pos) m σ Q := fun ok fz s E x => by
  refine wpAny_Assign_Subscript (wpAny_mono (h ok fz s E x) (fun v s₁ ⟨fz₁, σ₁, a, u1, e1, x1, va, q1⟩ => wpAny_mono (q1 ok fz₁ s₁ E x1) (fun ov s₂ ⟨fz₂, σ₂, b, u2, e2, x2, vb, q2⟩ => wpAny_mono (q2 ok fz₂ s₂ E x2) (fun iv s₃ ⟨fz₃, σ₃, c, u3, e3, x3, vc, q3⟩ => ?_) fun _ _ x => x) fun _ _ x => x) fun _ _ x => x) hs
  exact wpAny_mono (q3 ok fz₃ s₃ E ov iv v x3 (vb.up u3) vc ((va.up u2).up u3)) (fun _ s₄ ⟨fz₄, σ₄, u4, e4, x4, q4⟩ => ⟨fz₄, σ₄, m, .next, fun p hp => u4 p (u3 p (u2 p (u1 p hp))), ((e1.trans e2).trans e3).trans e4, x4, trivial, q4⟩) fun _ _ x => x
theorem w1_expr {e : Expr} {pos : Pos} {Q : AFlow → AEnv → AHeap → Prop} (h : WE C n f e m σ fun _ σ₁ => Q .next m σ₁) (hi : interactive f.env = false := by rfl) (hs : swapsWith e none pos.line f.env = pure false := by rfl) : W1 C n f (.Expr e pos) m σ Q := fun ok fz s E x => by
  refine wpAny_Expr_any (hi := hi) (hs := hs) (wpAny_mono (h ok fz s E x) (fun v s₁ ⟨fz₁, σ₁, a, u1, e1, x1, va, q1⟩ => ⟨fz₁, σ₁, m, .next, u1, e1, x1, trivial, q1⟩) fun _ _ x => x)
end
end Mine

open PySem PySem.W PyProof.Rows PySem.Calls
namespace Mine
section
variable {C : Cx} {n : Nat} {f : Fm} {m : AEnv} {σ : AHeap}
/-! ## rows built by a comprehension -/
def WQ (C : Cx) (n : Nat) (f : Fm) (ifs : List Expr) (m : AEnv) (σ : AHeap) (Q : Bool → AHeap → Prop) : Prop :=
  f.Ok C n → ∀ fz s E, SR C f fz m σ s → wpAny (Md C) f.A (forIn ifs true fun c r => if r = true then do let ok ← isTrue c f.env (eval c f.env); pure (ForInStep.yield ok) else pure (ForInStep.yield r)) (PB C f m fz s Q) E s
theorem wq_nil {Q : Bool → AHeap → Prop} (h : Q true σ) : WQ C n f [] m σ Q := fun ok fz s E x => wpAny_tests_nil ⟨fz, σ, sub_refl, .rfl, x, h⟩
theorem SX.sub {fz : Fz} {wr wr' : List Addr} {s : Shared} (h : ∀ b ∈ wr', b ∈ wr) (x : SX C f fz m σ wr s) : SX C f fz m σ wr' s := by
  obtain ⟨mc, news, δ, F, N, R, e, h1, h2, h3⟩ := x
  exact ⟨mc, news, δ, F, N, R, e, fun p hp q => h1 p hp (h _ q), fun q => h2 (h _ q), fun b hb => h3 b (h _ hb)⟩
theorem SX.wide {fz : Fz} {wr : List Addr} {s : Shared} {h' : Heap} {t : Nat} (x : SX C f fz m σ wr s) (new : List Addr) (k : ∀ b o, s.heap.get? b = some o → h'.get? b = some o) (hw : ∀ b ∈ new, s.heap.objs.size ≤ b) : SX C f fz m σ (new ++ wr) { s with heap := h', toks := t } := by
  obtain ⟨mc, news, δ, F, N, R, e, h1, h2, h3⟩ := x
  obtain ⟨oL, a1, a2, hL, a3⟩ := id F.ns
  refine ⟨mc, news, δ, F.grownK k, fun p hp => ⟨k _ _ (N p hp).1, (N p hp).2⟩, R, e, fun p hp hm => ?_, fun hm => ?_, fun b hb => ?_⟩
  · rcases List.mem_append.mp hm with hm | hm
    · exact absurd (news_lt N hp) (Nat.not_lt.mpr (hw _ hm))
    · exact h1 p hp hm
  · rcases List.mem_append.mp hm with hm | hm
    · exact absurd (Heap.lt_size hL) (Nat.not_lt.mpr (hw _ hm))
    · exact h2 hm
  · rcases List.mem_append.mp hb with hm | hm
    · cases q : f.h₀.get? b with
      | none => rfl
      | some o => exact absurd (Heap.lt_size (F.keep _ _ q)) (Nat.not_lt.mpr (hw _ hm))
    · exact h3 b hm
/-- an address that was kept apart becomes a frozen thing -/
theorem SX.ice {fz : Fz} {wr : List Addr} {s : Shared} {D : Addr} {o : Obj} (x : SX C f fz m σ (D :: wr) s) (hD : D ∉ wr) (ho : s.heap.get? D = some o) : SX C f ([(D, o)] ++ fz) m σ wr s := by
  obtain ⟨mc, news, δ, F, N, R, e, h1, h2, h3⟩ := x
  refine ⟨mc, [(D, o)] ++ news, δ, F, fun p hp => ?_, R.addFz [(D, o)] (fun p hp q hq => ?_), e.up fun p hp => List.mem_append_right _ hp, fun p hp q => ?_, fun q => h2 (List.mem_cons_of_mem _ q), fun b hb => h3 b (List.mem_cons_of_mem _ hb)⟩
  · rcases List.mem_append.mp hp with hp | hp
    · rw [List.mem_singleton.mp hp]; exact ⟨ho, fun q => h2 (by rw [← q]; exact List.mem_cons_self ..), h3 D (List.mem_cons_self ..)⟩
    · exact N p hp
  · rw [List.mem_singleton.mp hp]; exact fun e => h1 q hq (by rw [e]; exact List.mem_cons_self ..)
  · rcases List.mem_append.mp hp with hp | hp
    · rw [List.mem_singleton.mp hp] at q; exact hD q
    · exact h1 p hp (List.mem_cons_of_mem _ q)
theorem SX.thaw {fz : Fz} {wr : List Addr} {s : Shared} {D : Addr} {vs : List Value} {k : Nat} {ys : List AVal} (x : SX C f fz m σ (D :: wr) s) (hD : D ∉ wr) (ho : s.heap.get? D = some (listOf vs.toArray k)) (hv : Vs (At C fz) vs ys) : σ D = none ∧ SX C f fz m (σ.set D (.list ys)) wr s := by
  obtain ⟨mc, news, δ, F, N, R, e, h1, h2, h3⟩ := x
  have nn : ∀ q ∈ news, q.1 ≠ D := fun q hq e => h1 q hq (by rw [e]; exact List.mem_cons_self ..)
  have hno : σ D = none := R.noneAt nn
  have keep : ∀ {b c as}, σ.set D (.list ys) b = some (.inst c as) → b ≠ D ∧ σ b = some (.inst c as) := fun {b c as} hb => by
    by_cases q : b = D
    · subst q; rw [AHeap.set_same] at hb; cases hb
    · rw [AHeap.set_ne _ _ q] at hb; exact ⟨q, hb⟩
  have dn : ∀ b c as, σ b = some (.inst c as) → δ b ≠ D := fun b c as hb => by obtain ⟨_, es, n, h, _⟩ := R.ob b _ hb; exact nn _ h
  refine ⟨hno, mc, (D, listOf vs.toArray k) :: news, δ, F, fun p hp => ?_, ⟨fun p hp => .tail _ (R.sub p hp), R.apart, fun b bo hb => ?_, fun b bo hb p hp => ?_, fun b c as hb p hp => R.doff b c as (keep hb).2 p hp, fun b c as hb => ?_, fun b c as b' c' bs h1 h2 => R.dinj b c as b' c' bs (keep h1).2 (keep h2).2⟩, e, fun p hp q => ?_, fun q => h2 (List.mem_cons_of_mem _ q), fun b hb => h3 b (List.mem_cons_of_mem _ hb)⟩
  · rcases List.mem_cons.mp hp with rfl | hp
    · exact ⟨ho, fun q => h2 (by rw [← q]; exact List.mem_cons_self ..), h3 D (List.mem_cons_self ..)⟩
    · exact N p hp
  · by_cases q : b = D
    · subst q; rw [AHeap.set_same] at hb; cases hb; exact ⟨vs, k, List.mem_cons_self .., hv⟩
    · rw [AHeap.set_ne _ _ q] at hb
      exact (R.ob b bo hb).mono (fun _ _ x => x) (fun _ hm => .tail _ hm) fun c as eb _ hm => .tail _ hm
  · by_cases q : b = D
    · subst q; exact nn _ (R.sub p hp)
    · rw [AHeap.set_ne _ _ q] at hb; exact R.off b bo hb p hp
  · rw [AHeap.set_ne _ _ (dn b c as (keep hb).2)]; exact R.dσ b c as (keep hb).2
  · rcases List.mem_cons.mp hp with rfl | hp
    · exact hD q
    · exact h1 p hp (List.mem_cons_of_mem _ q)
/-- the row's own names become a thing of the state -/
theorem SX.names {fz : Fz} {wr : List Addr} {s : Shared} {c : Addr} {mc' : Str → Option Value} {as : List (Str × AVal)} {k : Option (Scope × List (Str × Addr) × Addr)} (x : SX C f fz m σ (c :: wr) s) (hc : c ∉ wr) (hns : s.heap.Ns c mc') (he : ER (At C fz) as mc') :
    σ c = none ∧ SR C (f.withComp k (ownP wr s.heap ++ f.pin)) fz m (σ.set c (.ns as)) s := by
  obtain ⟨o, ho, hn⟩ := LCg.ns_obj hns
  have hwr := (SX.sub (wr' := wr) (fun b hb => List.mem_cons_of_mem _ hb) x)
  obtain ⟨mc, news, δ, F, N, R, e, h1, h2, h3⟩ := x
  have nn : ∀ q ∈ news, q.1 ≠ c := fun q hq e => h1 q hq (by rw [e]; exact List.mem_cons_self ..)
  have hno : σ c = none := R.noneAt nn
  have off : ∀ {p : Addr × Obj}, p ∈ ownP wr s.heap → p.1 ∈ wr := fun hp => (mem_ownP.mp hp).1
  have three : ∀ p ∈ fz ++ (ownP wr s.heap ++ f.pin), p ∈ ownP wr s.heap ∨ p ∈ fz ++ f.pin := fun p hp => by
    rcases List.mem_append.mp hp with hp | hp
    · exact .inr (List.mem_append_left _ hp)
    · rcases List.mem_append.mp hp with hp | hp
      · exact .inl hp
      · exact .inr (List.mem_append_right _ hp)
  have keep : ∀ {b c' as'}, σ.set c (.ns as) b = some (.inst c' as') → b ≠ c ∧ σ b = some (.inst c' as') := fun {b c' as'} hb => by
    by_cases q : b = c
    · subst q; rw [AHeap.set_same] at hb; cases hb
    · rw [AHeap.set_ne _ _ q] at hb; exact ⟨q, hb⟩
  have dn : ∀ b c' as', σ b = some (.inst c' as') → δ b ≠ c := fun b c' as' hb => by obtain ⟨_, es, n, h, _⟩ := R.ob b _ hb; exact nn _ h
  have up : ∀ {p}, p ∈ news → p ∈ (c, o) :: (ownP wr s.heap ++ news) := fun h => .tail _ (List.mem_append_right _ h)
  refine ⟨hno, mc, (c, o) :: (ownP wr s.heap ++ news), δ, F, fun p hp => ?_, ⟨fun p hp => ?_, fun p hp q hq => ?_, fun b bo hb => ?_, fun b bo hb p hp => ?_, fun b c' as' hb p hp => ?_, fun b c' as' hb => ?_, fun b c' as' b' c'' bs g1 g2 => R.dinj b c' as' b' c'' bs (keep g1).2 (keep g2).2⟩, e⟩
  · rcases List.mem_cons.mp hp with rfl | hp
    · exact ⟨ho, fun q => h2 (by rw [← q]; exact List.mem_cons_self ..), h3 c (List.mem_cons_self ..)⟩
    · rcases List.mem_append.mp hp with hp | hp
      · obtain ⟨a, b⟩ := mem_ownP.mp hp
        exact ⟨b, fun q => h2 (List.mem_cons_of_mem _ (q ▸ a)), h3 _ (List.mem_cons_of_mem _ a)⟩
      · exact N p hp
  · rcases three p hp with hp | hp
    · exact .tail _ (List.mem_append_left _ hp)
    · exact up (R.sub p hp)
  · rcases List.mem_append.mp hq with hq | hq
    · exact fun q' => h1 p (R.sub p (List.mem_append_left _ hp)) (List.mem_cons_of_mem _ (q' ▸ off hq))
    · exact R.apart p hp q hq
  · by_cases q : b = c
    · subst q; rw [AHeap.set_same] at hb; cases hb; exact ⟨o, mc', List.mem_cons_self .., hn, he⟩
    · rw [AHeap.set_ne _ _ q] at hb
      exact (R.ob b bo hb).mono (fun _ _ x => x) (fun _ hm => up hm) fun _ _ eb _ hm => up hm
  · by_cases q : b = c
    · rcases three p hp with hp | hp
      · exact fun q' => hc (by rw [← q, ← q']; exact off hp)
      · rw [q]; exact nn _ (R.sub p hp)
    · rw [AHeap.set_ne _ _ q] at hb
      rcases three p hp with hp | hp
      · obtain ⟨o, ho⟩ := (R.ob b bo hb).key
        exact fun q => h1 _ ho (List.mem_cons_of_mem _ (by show b ∈ wr; rw [← q]; exact off hp))
      · exact R.off b bo hb p hp
  · rcases three p hp with hp | hp
    · obtain ⟨_, es, k, ho, _⟩ := R.ob b _ (keep hb).2
      exact fun q => h1 _ ho (List.mem_cons_of_mem _ (by show δ b ∈ wr; rw [← q]; exact off hp))
    · exact R.doff b c' as' (keep hb).2 p hp
  · rw [AHeap.set_ne _ _ (dn b c' as' (keep hb).2)]; exact R.dσ b c' as' (keep hb).2
theorem SX.unname {fz : Fz} {wr : List Addr} {s : Shared} {own : Fz} {c : Addr} {as : List (Str × AVal)} {σ' : AHeap} {k : Option (Scope × List (Str × Addr) × Addr)} (hl : ∀ b ∈ wr, ∃ o, (b, o) ∈ own) (hp : ∀ p ∈ f.pin, p.1 ∉ wr) (h2 : f.L ∉ wr) (h3 : ∀ b ∈ wr, f.h₀.get? b = none)
    (x : SR C (f.withComp k (own ++ f.pin)) fz m σ s) (hc : σ c = some (.ns as)) (hσ : σ'.le σ) (hσc : σ' c = none) : SX C f fz m σ' (c :: wr) s ∧ ∃ mc', s.heap.Ns c mc' := by
  have x' : SR C (f.withPin (own ++ f.pin)) fz m σ s := x
  have x'' := SX.unpin hl hp h2 h3 x'
  obtain ⟨mc, news, δ, F, N, R, e, g1, g2, g3⟩ := x''
  obtain ⟨o, mc', hm, hn, _⟩ := R.ob c _ hc
  have hN := N _ hm
  have inst : ∀ {a c' as'}, σ' a = some (.inst c' as') → σ a = some (.inst c' as') := fun h => hσ _ _ h
  have dc : ∀ a c' as', σ a = some (.inst c' as') → δ a ≠ c := fun a c' as' h q => by have := R.dσ a c' as' h; rw [q, hc] at this; cases this
  have keepM : ∀ {p : Addr × Obj}, p ∈ news → p.1 ≠ c → p ∈ news.filter (fun p => decide (p.1 ≠ c)) := fun h q => List.mem_filter.mpr ⟨h, by simpa using q⟩
  have ne : ∀ {a ao}, σ' a = some ao → a ≠ c := fun h q => by rw [q, hσc] at h; cases h
  refine ⟨⟨mc, news.filter (fun p => decide (p.1 ≠ c)), δ, F, fun p hp => N p (List.mem_filter.mp hp).1, ⟨fun p hp => keepM (R.sub p hp) (R.off c _ hc p hp), R.apart, fun a ao h => (R.ob a ao (hσ _ _ h)).mono (fun _ _ z => z) (fun _ q => keepM q (ne h)) fun c' as' ea _ q => keepM q (dc a c' as' (inst (ea ▸ h))), fun a ao h => R.off a ao (hσ _ _ h), fun a c' as' h => R.doff a c' as' (inst h), fun a c' as' h => ?_, fun a c' as' b c'' bs q1 q2 => R.dinj a c' as' b c'' bs (inst q1) (inst q2)⟩, e, fun p hp q => ?_, fun q => ?_, fun b hb => ?_⟩, mc', hn.ns hN.1⟩
  · cases q : σ' (δ a) with
    | none => rfl
    | some o => have := hσ _ _ q; rw [R.dσ a c' as' (inst h)] at this; cases this
  · obtain ⟨q1, q2⟩ := List.mem_filter.mp hp
    rcases List.mem_cons.mp q with q | q
    · exact (by simpa using q2 : p.1 ≠ c) q
    · exact g1 p q1 q
  · rcases List.mem_cons.mp q with q | q
    · exact hN.2.1 q.symm
    · exact g2 q
  · rcases List.mem_cons.mp hb with rfl | hb
    · exact hN.2.2
    · exact g3 b hb
theorem Fm.Ok.comp {n : Nat} {sc : Scope} {cl : List (Str × Addr)} {c : Addr} {p : Fz} (ok : f.Ok C n) (hk : sc.kind = .function) : (f.withComp (some (sc, cl, c)) p).Ok C n := ⟨ok.below, ok.kin, ok.top, ok.hk, ok.stack, ok.handled, ok.guards, ok.depth, ok.units, ok.kind, hk⟩

theorem comp_block {elt iter : Expr} {x : Str} {px : Pos} {ifs : List Expr} {scope : Scope} {cl : List (Str × Addr)} {pos : Pos} {fz₂ : Fz} {σ₂ : AHeap} {I : Addr} {wr : List Addr} {xs : List AVal} {St : Nat → Heap → Prop} {Lent : Heap → Prop} {back : AHeap → AHeap} {s₂ : Shared} {E : Value → Shared → Prop} {RR : Value → Addr → Result → Shared → Prop}
    (Inv : List AVal → List AVal → AHeap → Prop) (ok : f.Ok C n) (hcf : f.comp = none) (hcell : ∀ y ∈ scope.names, y.2 ≠ .cell) (hkind : scope.kind = .function) (hx : scope.names.lookup x = some .local)
    (x2 : SX C f fz₂ m σ₂ wr s₂) (W : Wk C f fz₂ I wr xs St Lent back) (st : St 0 s₂.heap) (hz : xs.length ≤ sizeLine) (q2 : Inv xs [] σ₂)
    (turn : ∀ pin c v xs ys σ', Inv (v :: xs) ys σ' → σ' c = none → WQ C n (f.withComp (some (scope, cl, c)) pin) ifs m (σ'.set c (.ns [(x, v)])) fun b σ₁ => if b = true then WE C n (f.withComp (some (scope, cl, c)) pin) elt m σ₁ fun y σ₂ => (∃ as, σ₂ c = some (.ns as)) ∧ ∃ σ₃ : AHeap, σ₃.le σ₂ ∧ σ₃ c = none ∧ Inv xs (ys ++ [y]) σ₃ else (∃ as, σ₁ c = some (.ns as)) ∧ ∃ σ₃ : AHeap, σ₃.le σ₁ ∧ σ₃ c = none ∧ Inv xs ys σ₃)
    (done : ∀ c D fz' σ' ys vs k h tk mc', (∀ p ∈ fz₂, p ∈ fz') → SX C f fz' m σ' (c :: D :: wr) { s₂ with heap := h, toks := tk } → c ∉ wr → D ∉ wr → c ≠ D → h.Ns c mc' → h.get? D = some (listOf vs.toArray k) → Vs (At C fz') vs ys → Lent h → Inv [] ys σ' → RR (.ref D) c (.ok .next) { s₂ with heap := h, toks := tk }) :
    wpAny (Md C) f.A (newList []) (fun acc s₃ => wpAny (Md C) f.A (newFunctionEnv scope f.env.globals cl [] f.env.qual none .none (some f.env)) (fun cenv s₄ =>
      codeAny (Md C) f.A (.compStart (.ListComp elt [⟨.Name x px, iter, ifs, 0⟩] scope pos) 0 (.ref I) acc { cenv with scope := relabel scope f.env }) (RR acc cenv.locals) s₄) E s₃) E s₂ := by
  have hfe : f.env = f.fenv := by unfold Fm.env; rw [hcf]
  refine wpAny_newObj_type (wpAny_newFunctionEnv hcell (by intro y hy; simp at hy) (fun h₁ hns₁ hsb₁ => ?_) hkind)
  dsimp only at hns₁ hsb₁ ⊢
  generalize hH2 : s₂.heap.push { cls := .type "list", dict := none, data := .seq ([] : List Value).toArray } = H2 at hns₁ hsb₁ ⊢
  have hC : H2.objs.size = s₂.heap.objs.size + 1 := by rw [← hH2, Heap.size_push]
  have hDC : s₂.heap.objs.size ≠ H2.objs.size := by rw [hC]; exact Nat.ne_of_lt (Nat.lt_succ_self _)
  have below : ∀ b, b < s₂.heap.objs.size → b ≠ H2.objs.size ∧ b ≠ s₂.heap.objs.size := fun b hb => ⟨by rw [hC]; exact Nat.ne_of_lt (Nat.lt_succ_of_lt hb), Nat.ne_of_lt hb⟩
  have old : ∀ b o, s₂.heap.get? b = some o → h₁.get? b = some o := fun b o e => hsb₁.extBut b o (below b (Heap.lt_size e)).1 (Heap.get?_push_of_some _ (hH2 ▸ Heap.get?_push_of_some _ e))
  have hacc : h₁.get? s₂.heap.objs.size = some (listOf ([] : List Value).toArray 0) := hsb₁.extBut _ _ hDC (Heap.get?_push_of_some _ (hH2 ▸ Heap.get?_push_size _ rfl))
  generalize hD : s₂.heap.objs.size = D at *
  generalize hCc : H2.objs.size = c at *
  have wlt : ∀ b ∈ wr, b < D := fun b hb => by obtain ⟨o, ho⟩ := W.live _ _ st b hb; rw [← hD]; exact Heap.lt_size ho
  have hDw : D ∉ wr := fun q => Nat.lt_irrefl _ (wlt _ q)
  have hcw : c ∉ wr := fun q => by exact absurd (wlt _ q) (by rw [hC]; exact Nat.not_lt.mpr (Nat.le_succ _))
  have hst₁ : St 0 h₁ := W.frame _ _ _ st (fun b _ o e => old b o e) fun b o q => by
    rcases q with q | q
    · exact old _ _ (x2.sr.at_ ok q)
    · obtain ⟨mc, news, δ, F, N, R, e, _⟩ := x2
      exact old _ _ (N _ (R.sub _ (List.mem_append_right _ q))).1
  have x3 : SX C f fz₂ m σ₂ (c :: D :: wr) { s₂ with heap := h₁, toks := s₂.toks + ([] : List (Str × Value)).length } := x2.wide (t := s₂.toks + ([] : List (Str × Value)).length) [c, D] old (fun b hb => by
    rcases List.mem_cons.mp hb with rfl | hb
    · rw [hC, hD]; exact Nat.le_succ _
    · rw [List.mem_singleton.mp hb, hD]; exact Nat.le_refl _)
  have hpin : ∀ p ∈ f.pin, p.1 ∉ D :: wr := by
    obtain ⟨mc, news, δ, F, N, R, e, h1, h2, h3⟩ := x3
    exact fun p hp q => h1 p (R.sub p (List.mem_append_right _ hp)) (List.mem_cons_of_mem _ q)
  have hL : f.L ∉ D :: wr := by obtain ⟨mc, news, δ, F, N, R, e, h1, h2, h3⟩ := x3; exact fun q => h2 (List.mem_cons_of_mem _ q)
  have h0 : ∀ b ∈ D :: wr, f.h₀.get? b = none := by obtain ⟨mc, news, δ, F, N, R, e, h1, h2, h3⟩ := x3; exact fun b hb => h3 b (List.mem_cons_of_mem _ hb)
  have hcD : c ∉ D :: wr := fun q => by
    rcases List.mem_cons.mp q with q | q
    · exact hDC q.symm
    · exact hcw q
  have loop : ∀ s₃ : Shared, s₃ = { s₂ with heap := h₁, toks := s₂.toks + ([] : List (Str × Value)).length } →
      codeAny (Md C) f.A (.compLoop (.ListComp elt [⟨.Name x px, iter, ifs, 0⟩] scope pos) 0 (.ref I) (.ref D) (compEnvC scope cl c f.env)) (RR (.ref D) c) s₃ := by
    rintro s₃ rfl
    refine codeAny_compLoop_tests (fun k s' => ∃ fz' σ' i h tk ys vs kk mc', s' = { s₂ with heap := h, toks := tk } ∧ (∀ p ∈ fz₂, p ∈ fz') ∧ SX C f fz' m σ' (c :: D :: wr) s' ∧ h.Ns c mc' ∧ h.get? D = some (listOf vs.toArray kk) ∧ Vs (At C fz') vs ys ∧ ys.length ≤ i ∧ St i h ∧ Inv (xs.drop i) ys σ' ∧ i ≤ xs.length ∧ k = xs.length - i) ?_ xs.length
      ⟨fz₂, σ₂, 0, h₁, _, [], [], 0, _, rfl, sub_refl, x3, hns₁, hacc, .nil, Nat.le_refl _, hst₁, q2, Nat.zero_le _, rfl⟩
    rintro k s' ⟨fz', σ', i, h, tk, ys, vs, kk, mc', rfl, u3, x4, hns, hD4, hvs, hyl, st4, q4, hi, rfl⟩
    cases hxi : xs[i]? with
    | none =>
      have hlen : i = xs.length := by have := List.getElem?_eq_none_iff.mp hxi; omega
      subst hlen
      refine W.done _ _ _ st4 fun h' tk' kp hl => ?_
      rw [List.drop_length] at q4
      exact done c D fz' σ' ys vs kk h' tk' mc' u3 (x4.step (t := tk') fun b o hb e => kp b o (fun q => hb (List.mem_cons_of_mem _ (List.mem_cons_of_mem _ q))) e) hcw hDw (Ne.symm hDC) (hns.at' fun o e => kp _ o hcw e) (kp _ _ hDw hD4) hvs hl q4
    | some b =>
      obtain ⟨hlt, hb⟩ := List.getElem?_eq_some_iff.mp hxi
      have hd : xs.drop i = b :: xs.drop (i + 1) := by rw [List.drop_eq_getElem_cons hlt, hb]
      rw [hd] at q4
      refine W.go i _ _ _ b hxi st4 fun v h₂ tk₂ hv st5 kp => ?_
      refine wpAny_assign_Name (wpAny_storeName_local (lookup_relabel_local hx) (hns.at' fun o e => kp _ o hcw e) (fun h₃ hn₃ hs₃ => ?_) (by simp [compEnvC, relabel, hkind]))
      have x5 : SX C f fz' m σ' (c :: D :: wr) { s₂ with heap := h₃, toks := tk₂ + 1 } := x4.step (t := tk₂ + 1) fun b o hb e => hs₃.extBut b o (fun q => hb (by rw [q]; exact List.mem_cons_self ..)) (kp b o (fun q => hb (List.mem_cons_of_mem _ (List.mem_cons_of_mem _ q))) e)
      have hD5 : h₃.get? D = some (listOf vs.toArray kk) := hs₃.extBut _ _ hDC (kp _ _ hDw hD4)
      have st6 : St (i + 1) h₃ := by
        refine W.frame _ _ _ st5 (fun b hb o e => hs₃.extBut b o (fun q => hcw (by have q' : b = c := q; rw [← q']; exact hb)) e) fun b o q => ?_
        rcases q with q | q
        · exact x5.sr.at_ ok (q.mono u3)
        · obtain ⟨mc, news, δ, F, N, R, e, _⟩ := x5
          exact (N _ (R.sub _ (List.mem_append_right _ q))).1
      have he : ER (At C fz') [(x, b)] (fun y => if y = x then some v else mc' y) := fun y a hy => by
        unfold getA at hy
        by_cases q : (x == y) = true
        · rw [if_pos q] at hy; cases hy
          have : x = y := by simpa using q
          exact ⟨v, if_pos this.symm, hv.up u3⟩
        · rw [if_neg q] at hy; cases hy
      obtain ⟨hcn, x6⟩ := SX.names (k := some (scope, cl, c)) x5 hcD hn₃ he
      have hee : compEnvC scope cl c f.env = (f.withComp (some (scope, cl, c)) (ownP (D :: wr) h₃ ++ f.pin)).env := by rw [hfe]
      have live : ∀ b ∈ D :: wr, ∃ o, (b, o) ∈ ownP (D :: wr) h₃ := fun b hb => by
        rcases List.mem_cons.mp hb with rfl | hb'
        · exact ⟨_, mem_ownP.mpr ⟨hb, hD5⟩⟩
        · obtain ⟨o, ho⟩ := W.live _ _ st6 b hb'; exact ⟨o, mem_ownP.mpr ⟨hb, ho⟩⟩
      have after : ∀ {fz₇ σ₇ s₇}, (∀ p ∈ fz', p ∈ fz₇) → SR C (f.withComp (some (scope, cl, c)) (ownP (D :: wr) h₃ ++ f.pin)) fz₇ m σ₇ s₇ → St (i + 1) s₇.heap ∧ s₇.heap.get? D = some (listOf vs.toArray kk) := by
        intro fz₇ σ₇ s₇ u7 x7
        have pinned : ∀ {b o}, (b, o) ∈ ownP (D :: wr) h₃ ++ f.pin → s₇.heap.get? b = some o := fun {b o} hm => by
          obtain ⟨mc, news, δ, F, N, R, e⟩ := x7
          exact (N _ (R.sub _ (List.mem_append_right _ hm))).1
        refine ⟨W.frame _ _ _ st6 (fun b hb o ho => pinned (List.mem_append_left _ (mem_ownP.mpr ⟨List.mem_cons_of_mem _ hb, ho⟩))) fun b o q => ?_, pinned (List.mem_append_left _ (mem_ownP.mpr ⟨List.mem_cons_self .., hD5⟩))⟩
        rcases q with q | q
        · exact x7.at_ (ok.comp hkind) ((q.mono u3).mono u7)
        · exact pinned (List.mem_append_right _ q)
      rw [hee]
      refine wpAny_mono (turn (ownP (D :: wr) h₃ ++ f.pin) c b _ ys σ' q4 hcn (ok.comp hkind) fz' _ _ x6) (fun bb s₇ ⟨fz₇, σ₇, u7, e7, x7, q7⟩ => ?_) fun _ _ x => x
      cases bb with
      | false =>
        rw [if_neg (by decide)] at q7 ⊢
        obtain ⟨⟨as, has⟩, σ₃, hle, hσc, q7⟩ := q7
        obtain ⟨x8, mc8, hn8⟩ := SX.unname live hpin hL h0 x7 has hle hσc
        obtain ⟨st8, hD8⟩ := after u7 x7
        obtain ⟨hh, tt, ee⟩ := e7
        subst ee
        exact ⟨xs.length - (i + 1), by omega, fz₇, σ₃, i + 1, hh, tt, ys, vs, kk, mc8, rfl, fun p hp => u7 p (u3 p hp), x8, hn8, hD8, hvs.up u7, by omega, st8, q7, hlt, rfl⟩
      | true =>
        rw [if_pos rfl] at q7 ⊢
        refine wpAny_mono (q7 (ok.comp hkind) fz₇ s₇ _ x7) (fun y s₈ ⟨fz₈, σ₈, ya, u8, e8, x8, vy, q8⟩ => ?_) fun _ _ x => x
        obtain ⟨⟨as, has⟩, σ₃, hle, hσc, q8⟩ := q8
        obtain ⟨x9, mc9, hn9⟩ := SX.unname live hpin hL h0 x8 has hle hσc
        obtain ⟨st9, hD9⟩ := after (fun p hp => u8 p (u7 p hp)) x8
        obtain ⟨hh, tt, ee⟩ := e7.trans e8
        subst ee
        refine append_at (hsz := by rw [List.size_toArray, hvs.length]; omega) hD9 fun h₅ hs₅ hD₅ => ?_
        refine ⟨xs.length - (i + 1), by omega, fz₈, σ₃, i + 1, h₅, tt, ys ++ [ya], vs ++ [y], kk + 1, mc9, rfl, fun p hp => u8 p (u7 p (u3 p hp)), x9.step (t := tt) fun b o hb e => hs₅.extBut b o (fun q => hb (by rw [q]; exact List.mem_cons_of_mem _ (List.mem_cons_self ..))) e, hn9.sameBut hs₅ (Ne.symm hDC), by simpa using hD₅, ((hvs.up u7).up u8).append (.cons vy .nil), by simp; omega, ?_, q8, hlt, rfl⟩
        refine W.frame _ _ _ st9 (fun b hb o e => hs₅.extBut b o (fun q => hDw (q ▸ hb)) e) fun b o q => ?_
        have ne : b ≠ D := fun e => by
          rcases q with q | q
          · rcases q with q | q
            · obtain ⟨mc, news, δ, F, N, R, e', g1, g2, g3⟩ := x2.wide (t := s₂.toks) [c, D] old (fun b hb => by
                rcases List.mem_cons.mp hb with rfl | hb
                · rw [hC, hD]; exact Nat.le_succ _
                · rw [List.mem_singleton.mp hb, hD]; exact Nat.le_refl _)
              exact g1 _ (R.sub _ (List.mem_append_left _ q)) (by rw [e]; exact List.mem_cons_of_mem _ (List.mem_cons_self ..))
            · have := ok.hk _ _ q; rw [e, h0 D (List.mem_cons_self ..)] at this; cases this
          · exact hpin _ q (by rw [e]; exact List.mem_cons_self ..)
        have : hh.get? b = some o := by
          rcases q with q | q
          · exact x8.at_ (ok.comp hkind) (((q.mono u3).mono u7).mono u8)
          · obtain ⟨mc, news, δ, F, N, R, e⟩ := x8
            exact (N _ (R.sub _ (List.mem_append_right _ (List.mem_append_right _ q)))).1
        exact hs₅.extBut b o ne this
  exact codeAny_compStart_list (loop _ rfl) (W.self 0 _ _ _ hst₁ (loop _ rfl))

/-- a row built from a walk: as a value -/
theorem we_compB {elt iter : Expr} {x : Str} {px : Pos} {ifs : List Expr} {scope : Scope} {cl : List (Str × Addr)} {pos : Pos} {Q : AVal → AHeap → Prop} (Inv : (AHeap → AHeap) → List AVal → List AVal → AHeap → Prop)
    (hclos : closureFor scope f.env = pure cl)
    (h : WI C n f iter m σ fun back xs σ₂ => xs.length ≤ sizeLine ∧ Inv back xs [] σ₂)
    (turn : ∀ back pin c v xs ys σ', Inv back (v :: xs) ys σ' → σ' c = none → WQ C n (f.withComp (some (scope, cl, c)) pin) ifs m (σ'.set c (.ns [(x, v)])) fun b σ₁ => if b = true then WE C n (f.withComp (some (scope, cl, c)) pin) elt m σ₁ fun y σ₂ => (∃ as, σ₂ c = some (.ns as)) ∧ ∃ σ₃ : AHeap, σ₃.le σ₂ ∧ σ₃ c = none ∧ Inv back xs (ys ++ [y]) σ₃ else (∃ as, σ₁ c = some (.ns as)) ∧ ∃ σ₃ : AHeap, σ₃.le σ₁ ∧ σ₃ c = none ∧ Inv back xs ys σ₃)
    (done : ∀ back ys σ', Inv back [] ys σ' → Q (.lst ys) (back σ'))
    (hcf : f.comp = none := by rfl) (hcell : ∀ y ∈ scope.names, y.2 ≠ .cell := by decide) (hkind : scope.kind = .function := by rfl) (hnames : ∀ y ∈ scope.names, y.2 = .local → scope.names.lookup y.1 = some .local := by decide) (hx : scope.names.lookup x = some .local := by rfl)
    (hs : ∀ x, foldedSetIterable iter f.env x = pure x := by intro _; rfl) : WE C n f (.ListComp elt [⟨.Name x px, iter, ifs, 0⟩] scope pos) m σ Q := fun ok fz s E x0 => by
  rw [eval_ListComp]
  refine wpAny_comprehension_free (use := none) rfl hs hclos hkind hnames (wpAny_mono (h ok fz s E x0) (fun v s₁ q1 => wpAny_mono q1 (fun it s₂ ⟨fz₂, σ₂, I, wr, xs, St, Lent, back, ei, u2, e2, x2, W, st, hz, q2⟩ => ?_) fun _ _ x => x) fun _ _ x => x)
  subst ei
  refine comp_block (RR := fun acc c => compPost (Md C) f.A E none (PV C f m fz s Q) acc c) (Inv back) ok hcf hcell hkind hx x2 W st hz q2 (fun pin c v xs ys σ' => turn back pin c v xs ys σ') ?_
  intro c D fz' σ' ys vs k h tk mc' u3 x3 hcw hDw hcD hns hD hvs hl q3
  refine ⟨mc', hns, fun h'' hs'' => ?_⟩
  have hk : ∀ b o, b ∉ c :: D :: wr → h.get? b = some o → h''.get? b = some o := fun b o hb e => hs''.extBut b o (fun q => hb (by rw [q]; exact List.mem_cons_self ..)) e
  have x4 : SX C f fz' m σ' (c :: D :: wr) { s₂ with heap := h'', toks := tk } := x3.step (t := tk) hk
  have x5 : SX C f fz' m σ' (D :: wr) { s₂ with heap := h'', toks := tk } := x4.sub fun b hb => List.mem_cons_of_mem _ hb
  have hD' : h''.get? D = some (listOf vs.toArray k) := hs''.extBut _ _ (Ne.symm hcD) hD
  have x6 := x5.ice hDw hD'
  have x7 := W.back _ _ _ _ (fun p hp => List.mem_append_right _ (u3 p hp)) x6 (W.lentF _ _ hl fun b hb o e => hs''.extBut b o (fun q => hcw (q ▸ hb)) e)
  exact ⟨_, _, .lst ys, fun p hp => List.mem_append_right _ (u3 p (u2 p hp)), e2.trans ⟨_, _, rfl⟩, x7, .lst (.inl (List.mem_append_left _ (List.mem_singleton.mpr rfl))) rfl rfl (hvs.up fun p hp => List.mem_append_right _ hp), done _ _ _ q3⟩
/-- a row built from a walk: as a list that may change -/
theorem we_compM {elt iter : Expr} {x : Str} {px : Pos} {ifs : List Expr} {scope : Scope} {cl : List (Str × Addr)} {pos : Pos} {Q : AVal → AHeap → Prop} (Inv : (AHeap → AHeap) → List AVal → List AVal → AHeap → Prop)
    (hclos : closureFor scope f.env = pure cl)
    (h : WI C n f iter m σ fun back xs σ₂ => xs.length ≤ sizeLine ∧ Inv back xs [] σ₂)
    (turn : ∀ back pin c v xs ys σ', Inv back (v :: xs) ys σ' → σ' c = none → WQ C n (f.withComp (some (scope, cl, c)) pin) ifs m (σ'.set c (.ns [(x, v)])) fun b σ₁ => if b = true then WE C n (f.withComp (some (scope, cl, c)) pin) elt m σ₁ fun y σ₂ => (∃ as, σ₂ c = some (.ns as)) ∧ ∃ σ₃ : AHeap, σ₃.le σ₂ ∧ σ₃ c = none ∧ Inv back xs (ys ++ [y]) σ₃ else (∃ as, σ₁ c = some (.ns as)) ∧ ∃ σ₃ : AHeap, σ₃.le σ₁ ∧ σ₃ c = none ∧ Inv back xs ys σ₃)
    (done : ∀ back ys σ' D, Inv back [] ys σ' → σ' D = none → Q (.obj D) (back (σ'.set D (.list ys))))
    (hcf : f.comp = none := by rfl) (hcell : ∀ y ∈ scope.names, y.2 ≠ .cell := by decide) (hkind : scope.kind = .function := by rfl) (hnames : ∀ y ∈ scope.names, y.2 = .local → scope.names.lookup y.1 = some .local := by decide) (hx : scope.names.lookup x = some .local := by rfl)
    (hs : ∀ x, foldedSetIterable iter f.env x = pure x := by intro _; rfl) : WE C n f (.ListComp elt [⟨.Name x px, iter, ifs, 0⟩] scope pos) m σ Q := fun ok fz s E x0 => by
  rw [eval_ListComp]
  refine wpAny_comprehension_free (use := none) rfl hs hclos hkind hnames (wpAny_mono (h ok fz s E x0) (fun v s₁ q1 => wpAny_mono q1 (fun it s₂ ⟨fz₂, σ₂, I, wr, xs, St, Lent, back, ei, u2, e2, x2, W, st, hz, q2⟩ => ?_) fun _ _ x => x) fun _ _ x => x)
  subst ei
  refine comp_block (RR := fun acc c => compPost (Md C) f.A E none (PV C f m fz s Q) acc c) (Inv back) ok hcf hcell hkind hx x2 W st hz q2 (fun pin c v xs ys σ' => turn back pin c v xs ys σ') ?_
  intro c D fz' σ' ys vs k h tk mc' u3 x3 hcw hDw hcD hns hD hvs hl q3
  refine ⟨mc', hns, fun h'' hs'' => ?_⟩
  have hk : ∀ b o, b ∉ c :: D :: wr → h.get? b = some o → h''.get? b = some o := fun b o hb e => hs''.extBut b o (fun q => hb (by rw [q]; exact List.mem_cons_self ..)) e
  have x4 : SX C f fz' m σ' (c :: D :: wr) { s₂ with heap := h'', toks := tk } := x3.step (t := tk) hk
  have x5 : SX C f fz' m σ' (D :: wr) { s₂ with heap := h'', toks := tk } := x4.sub fun b hb => List.mem_cons_of_mem _ hb
  have hD' : h''.get? D = some (listOf vs.toArray k) := hs''.extBut _ _ (Ne.symm hcD) hD
  obtain ⟨hno, x6⟩ := x5.thaw hDw hD' hvs
  have x7 := W.back _ _ _ _ u3 x6 (W.lentF _ _ hl fun b hb o e => hs''.extBut b o (fun q => hcw (q ▸ hb)) e)
  exact ⟨_, _, .obj D, fun p hp => u3 p (u2 p hp), e2.trans ⟨_, _, rfl⟩, x7, .obj D, done _ _ _ _ q3 hno⟩
end
end Mine

open PySem PySem.W PyProof.Rows PySem.Calls
namespace Mine
section
variable {C : Cx} {n : Nat} {f : Fm} {m : AEnv} {σ : AHeap}
theorem HR.addThing {fz pin : Fz} {δ : Addr → Addr} {news : List (Addr × Obj)} {D : Addr} {o : Obj} {ao : AObj} (R : HR C fz pin σ δ news) (hn : ∀ c as, ao ≠ .inst c as) (nn : ∀ q ∈ news, q.1 ≠ D) (hr : ∀ news d, (D, o) ∈ news → OR (At C fz) news d D ao) : HR C fz pin (σ.set D ao) δ ((D, o) :: news) := by
  have keep : ∀ {b c as}, σ.set D ao b = some (.inst c as) → b ≠ D ∧ σ b = some (.inst c as) := fun {b c as} hb => by
    by_cases q : b = D
    · subst q; rw [AHeap.set_same] at hb; exact absurd (Option.some.inj hb) (hn _ _)
    · rw [AHeap.set_ne _ _ q] at hb; exact ⟨q, hb⟩
  have dn : ∀ b c as, σ b = some (.inst c as) → δ b ≠ D := fun b c as hb => by obtain ⟨_, es, n, h, _⟩ := R.ob b _ hb; exact nn _ h
  refine ⟨fun p hp => .tail _ (R.sub p hp), R.apart, fun b bo hb => ?_, fun b bo hb p hp => ?_, fun b c as hb p hp => R.doff b c as (keep hb).2 p hp, fun b c as hb => ?_, fun b c as b' c' bs h1 h2 => R.dinj b c as b' c' bs (keep h1).2 (keep h2).2⟩
  · by_cases q : b = D
    · subst q; rw [AHeap.set_same] at hb; cases hb; exact hr _ _ (List.mem_cons_self ..)
    · rw [AHeap.set_ne _ _ q] at hb
      exact (R.ob b bo hb).mono (fun _ _ x => x) (fun _ hm => .tail _ hm) fun c as eb _ hm => .tail _ hm
  · by_cases q : b = D
    · subst q; exact nn _ (R.sub p hp)
    · rw [AHeap.set_ne _ _ q] at hb; exact R.off b bo hb p hp
  · rw [AHeap.set_ne _ _ (dn b c as (keep hb).2)]; exact R.dσ b c as (keep hb).2

/-! ## a def of the text, with cells -/
def cellS (cm : Str → Option AVal) : List (Str × Addr) → AHeap → AHeap
  | [], σ => σ
  | (y, c) :: r, σ => (cellS cm r σ).set c (.cell (cm y))
theorem HR.addCells {fz pin : Fz} {δ : Addr → Addr} {news : List (Addr × Obj)} {cm : Str → Option Value} {acm : Str → Option AVal} (R : HR C fz pin σ δ news) :
    ∀ {cs : List (Str × Addr)} {cells : List (Addr × Obj)}, CellsAre cm cs cells → (cs.map (·.2)).Nodup → (∀ p ∈ cs, ∀ q ∈ news, q.1 ≠ p.2) → (∀ p ∈ cs, (cm p.1 = none ∧ acm p.1 = none) ∨ ∃ v a, cm p.1 = some v ∧ acm p.1 = some a ∧ V (At C fz) v a) → HR C fz pin (cellS acm cs σ) δ (cells ++ news)
  | _, _, .nil, _, _, _ => R
  | _, _, .cons (n := y) (c := c) (o := o) (cs := cs) (cells := cells) hd r, hnd, hoff, hval => by
    have hnd' := List.nodup_cons.mp (by simpa using hnd : (c :: cs.map (·.2)).Nodup)
    have ih := R.addCells r hnd'.2 (fun p hp => hoff p (List.mem_cons_of_mem _ hp)) (fun p hp => hval p (List.mem_cons_of_mem _ hp))
    have keys : ∀ {cs : List (Str × Addr)} {cells : List (Addr × Obj)}, CellsAre cm cs cells → ∀ q ∈ cells, q.1 ∈ cs.map (·.2) := by
      intro cs cells h
      induction h with
      | nil => intro q hq; cases hq
      | cons _ _ ih =>
        intro q hq
        rcases List.mem_cons.mp hq with rfl | hq
        · exact List.mem_cons_self ..
        · exact List.mem_cons_of_mem _ (ih q hq)
    refine ih.addThing (ao := .cell (acm y)) (fun _ _ => nofun) (fun q hq e => ?_) fun news d hm => ?_
    · rcases List.mem_append.mp hq with hq | hq
      · exact hnd'.1 (by rw [← e]; exact keys r q hq)
      · exact hoff (y, c) (List.mem_cons_self ..) q hq e
    · rcases hval (y, c) (List.mem_cons_self ..) with ⟨h1, h2⟩ | ⟨v, a, h1, h2, h3⟩
      · have h1' : cm y = none := h1
        have h2' : acm y = none := h2
        rw [h2']; exact ⟨o, hm, by rw [hd, h1']⟩
      · have h1' : cm y = some v := h1
        have h2' : acm y = some a := h2
        rw [h2']; exact ⟨o, v, hm, by rw [hd, h1'], h3⟩
theorem cellsFrom_nd : ∀ (names : List (Str × NameKind)) (k : Nat) (acc : List (Str × Addr)), (acc.map (·.2)).Nodup → (∀ p ∈ acc, p.2 < k) → ((cellsFrom k names acc).map (·.2)).Nodup ∧ ∀ p ∈ cellsFrom k names acc, p ∈ acc ∨ k ≤ p.2
  | [], _, acc, h, _ => ⟨h, fun p hp => .inl hp⟩
  | (y, kd) :: r, k, acc, h, hl => by
    unfold cellsFrom
    by_cases hk : (kd == .cell) = true
    · rw [if_pos hk]
      obtain ⟨h1, h2⟩ := cellsFrom_nd r (k + 1) ((y, k) :: acc) (by
        rw [List.map_cons, List.nodup_cons]
        refine ⟨fun hm => ?_, h⟩
        obtain ⟨p, hp, e⟩ := List.mem_map.mp hm
        have := hl p hp
        have e' : p.2 = k := e
        rw [e'] at this
        exact Nat.lt_irrefl _ this) (fun p hp => by
        rcases List.mem_cons.mp hp with rfl | hp
        · exact Nat.lt_succ_self _
        · exact Nat.lt_succ_of_lt (hl p hp))
      refine ⟨h1, fun p hp => ?_⟩
      rcases h2 p hp with q | q
      · rcases List.mem_cons.mp q with rfl | q
        · exact .inr (Nat.le_refl _)
        · exact .inl q
      · exact .inr (Nat.le_of_succ_le q)
    · rw [if_neg hk]; exact cellsFrom_nd r k acc h hl
theorem bindL_off {kd : Str → Option NameKind} {y : Str} : ∀ {b : List (Str × Value)} {m : Str → Option Value}, y ∉ b.map (·.1) → bindL kd b m y = m y
  | [], _, _ => rfl
  | (z, v) :: r, m, h => by
    unfold bindL
    have h1 : y ≠ z := fun e => h (by rw [e]; exact List.mem_cons_self ..)
    rw [bindL_off fun q => h (List.mem_cons_of_mem _ q)]
    split
    · exact if_neg h1
    · rfl
theorem bindC_off {kd : Str → Option NameKind} {y : Str} : ∀ {b : List (Str × Value)} {m : Str → Option Value}, y ∉ b.map (·.1) → bindC kd b m y = m y
  | [], _, _ => rfl
  | (z, v) :: r, m, h => by
    unfold bindC
    have h1 : y ≠ z := fun e => h (by rw [e]; exact List.mem_cons_self ..)
    rw [bindC_off fun q => h (List.mem_cons_of_mem _ q)]
    split
    · rfl
    · exact if_neg h1
theorem zip_keys {α : Type} : ∀ {ns : List Str} {vs : List α} {y : Str}, y ∈ (ns.zip vs).map (·.1) → y ∈ ns
  | [], _, _, h => by simp at h
  | _ :: _, [], _, h => by simp at h
  | z :: ns, v :: vs, y, h => by
    rcases List.mem_cons.mp (by simpa using h : y ∈ z :: (ns.zip vs).map (·.1)) with rfl | h
    · exact List.mem_cons_self ..
    · exact List.mem_cons_of_mem _ (zip_keys h)
theorem bind_get {P : Addr → Obj → Prop} {kd : Str → Option NameKind} {y : Str} {a : AVal} : ∀ {ns : List Str} {vs : List Value} {as : List AVal} {m : Str → Option Value}, Vs P vs as → ns.Nodup → getA y (ns.zip as) = some a → ∃ v, V P v a ∧ (kd y = some .local → bindL kd (ns.zip vs) m y = some v) ∧ (kd y ≠ some .local → bindC kd (ns.zip vs) m y = some v)
  | [], _, _, _, _, _, h => by simp [getA] at h
  | _ :: _, _, _, _, .nil, _, h => by simp [getA] at h
  | z :: ns, v :: vs, x :: as, m, .cons h1 h2, nd, h => by
    obtain ⟨n1, n2⟩ := List.nodup_cons.mp nd
    rw [List.zip_cons_cons] at h
    unfold getA at h
    by_cases q : (z == y) = true
    · rw [if_pos q] at h; cases h
      have q' : z = y := by simpa using q
      subst q'
      refine ⟨v, h1, fun hk => ?_, fun hk => ?_⟩
      · rw [List.zip_cons_cons]; unfold bindL
        rw [bindL_off fun q => n1 (zip_keys q), if_pos hk]; exact if_pos rfl
      · rw [List.zip_cons_cons]; unfold bindC
        rw [bindC_off fun q => n1 (zip_keys q), if_neg hk]; exact if_pos rfl
    · rw [if_neg q] at h
      obtain ⟨u, g1, g2, g3⟩ := bind_get (m := if kd z = some .local then fun y => if y = z then some v else m y else m) h2 n2 h
      obtain ⟨u', g1', g2', g3'⟩ := bind_get (kd := kd) (m := if kd z = some .local then m else fun y => if y = z then some v else m y) h2 n2 h
      by_cases hk : kd y = some .local
      · exact ⟨u, g1, fun _ => by rw [List.zip_cons_cons]; exact g2 hk, fun e => absurd hk e⟩
      · exact ⟨u', g1', fun e => absurd e hk, fun _ => by rw [List.zip_cons_cons]; exact g3' hk⟩
theorem getA_none {y : Str} : ∀ {l : List (Str × AVal)}, getA y l = none → y ∉ l.map (·.1)
  | [], _, h => by simp at h
  | (z, a) :: r, e, h => by
    unfold getA at e
    by_cases q : (z == y) = true
    · rw [if_pos q] at e; cases e
    · rw [if_neg q] at e
      rcases List.mem_cons.mp (by simpa using h : y ∈ z :: r.map (·.1)) with rfl | h
      · simp at q
      · exact getA_none e h
theorem getA_filter {q : Str × AVal → Bool} {y : Str} {a : AVal} : ∀ {l : List (Str × AVal)}, (l.map (·.1)).Nodup → getA y (l.filter q) = some a → getA y l = some a ∧ ∃ a', q (y, a') = true
  | [], _, h => by simp [getA] at h
  | (z, b) :: r, nd, h => by
    obtain ⟨n1, n2⟩ := List.nodup_cons.mp (by simpa using nd : (z :: r.map (·.1)).Nodup)
    by_cases hq : q (z, b) = true
    · rw [List.filter_cons_of_pos hq] at h
      unfold getA at h ⊢
      by_cases e : (z == y) = true
      · rw [if_pos e] at h; rw [if_pos e]
        have : z = y := by simpa using e
        subst this
        exact ⟨h, b, hq⟩
      · rw [if_neg e] at h; rw [if_neg e]; exact getA_filter n2 h
    · rw [List.filter_cons_of_neg hq] at h
      obtain ⟨h1, h2⟩ := getA_filter n2 h
      refine ⟨?_, h2⟩
      unfold getA
      by_cases e : (z == y) = true
      · have : z = y := by simpa using e
        subst this
        have hm : z ∈ r.map (·.1) := by
          refine Classical.byContradiction fun hn => ?_
          have : getA z r = none := by
            clear h h1 h2 nd n2
            induction r with
            | nil => rfl
            | cons p r ih =>
              obtain ⟨w, c⟩ := p
              simp only [List.map_cons, List.mem_cons, not_or] at hn
              unfold getA
              have : ¬ (w == z) = true := by simpa using fun e : w = z => hn.1 e.symm
              rw [if_neg this]
              exact ih (by simpa using hn.2) hn.2
          rw [this] at h1; cases h1
        exact absurd hm n1
      · rw [if_neg e]; exact h1
end
end Mine

open PySem PySem.W PyProof.Rows PySem.Calls
namespace Mine
/-! ## data compared -/
mutual
inductive Rd (σ : AHeap) : AVal → PyData → Prop
  | none : Rd σ .none .none
  | bool (b : Bool) : Rd σ (.bool b) (.bool b)
  | int (i : Int) : Rd σ (.int i) (.int i)
  | str (x : Str) : Rd σ (.str x) (.str x)
  | lst {xs : List AVal} {ds : List PyData} : RdAll σ xs ds → Rd σ (.lst xs) (.list ds)
  | tup {xs : List AVal} {ds : List PyData} : RdAll σ xs ds → Rd σ (.tup xs) (.tuple ds)
  | obj {a : Addr} {xs : List AVal} {ds : List PyData} : σ a = some (.list xs) → RdAll σ xs ds → Rd σ (.obj a) (.list ds)
inductive RdAll (σ : AHeap) : List AVal → List PyData → Prop
  | nil : RdAll σ [] []
  | cons {a : AVal} {d : PyData} {xs : List AVal} {ds : List PyData} : Rd σ a d → RdAll σ xs ds → RdAll σ (a :: xs) (d :: ds)
end
section
variable {C : Cx} {n : Nat} {f : Fm} {m : AEnv} {σ : AHeap}
mutual
theorem Rd.reads {fz : Fz} {s : Shared} (ok : f.Ok C n) (x : SR C f fz m σ s) : ∀ {a : AVal} {d : PyData}, Rd σ a d → ∀ {v : Value}, V (At C fz) v a → ∃ as, Reads s.heap v d as
  | _, _, .none, _, h => by cases h; exact ⟨_, .none⟩
  | _, _, .bool b, _, h => by cases h; exact ⟨_, .bool b⟩
  | _, _, .int i, _, h => by cases h; exact ⟨_, .int i _⟩
  | _, _, .str y, _, h => by cases h; exact ⟨_, .str y _⟩
  | _, _, .lst r, _, h => by
    cases h with
    | lst h1 h2 h3 h4 => obtain ⟨as, q⟩ := RdAll.reads ok x r h4; exact ⟨_, .list (x.at_ ok h1) h2 h3 (by simpa using q)⟩
  | _, _, .tup r, _, h => by
    cases h with
    | tup h1 h2 h3 h4 => obtain ⟨as, q⟩ := RdAll.reads ok x r h4; exact ⟨_, .tuple (x.at_ ok h1) h2 h3 (by simpa using q)⟩
  | _, _, .obj e r, _, h => by
    cases h with
    | obj a =>
      obtain ⟨vs, k, h1, h2⟩ := x.list e
      obtain ⟨as, q⟩ := RdAll.reads ok x r h2
      exact ⟨_, .list h1 rfl rfl (by simpa using q)⟩
theorem RdAll.reads {fz : Fz} {s : Shared} (ok : f.Ok C n) (x : SR C f fz m σ s) : ∀ {xs : List AVal} {ds : List PyData}, RdAll σ xs ds → ∀ {vs : List Value}, Vs (At C fz) vs xs → ∃ as, ReadsAll s.heap vs ds as
  | _, _, .nil, _, h => by cases h; exact ⟨_, .nil⟩
  | _, _, .cons r rs, _, h => by
    cases h with
    | cons h1 h2 =>
      obtain ⟨as, q1⟩ := Rd.reads ok x r h1
      obtain ⟨bs, q2⟩ := RdAll.reads ok x rs h2
      exact ⟨_, .cons q1 q2⟩
end
def Dk (k : Nat) (d : PyData) : Prop := d.canLay0 = true ∧ d.depth ≤ k
theorem Dk.int {k : Nat} {i : Int} : Dk k (.int i) := ⟨rfl, Nat.zero_le _⟩
theorem Dk.none {k : Nat} : Dk k .none := ⟨rfl, Nat.zero_le _⟩
theorem Dk.str {k : Nat} {x : Str} (h : PyData.strOk x = true) : Dk k (.str x) := ⟨h, Nat.zero_le _⟩
theorem dk_all {k : Nat} : ∀ {ds : List PyData}, (∀ d ∈ ds, Dk k d) → PyData.canLayAll0 ds = true ∧ PyData.depthAll ds ≤ k
  | [], _ => ⟨rfl, Nat.zero_le _⟩
  | d :: ds, h => by
    obtain ⟨a, b⟩ := h d (List.mem_cons_self ..)
    obtain ⟨c, e⟩ := dk_all fun x hx => h x (List.mem_cons_of_mem _ hx)
    exact ⟨by rw [PyData.canLayAll0, a, c]; rfl, by rw [PyData.depthAll]; exact Nat.max_le.mpr ⟨b, e⟩⟩
theorem Dk.list {k : Nat} {ds : List PyData} (h : ∀ d ∈ ds, Dk k d) : Dk (k + 1) (.list ds) := by
  obtain ⟨a, b⟩ := dk_all h
  exact ⟨by rw [PyData.canLay0]; exact a, by rw [PyData.depth]; omega⟩
theorem Dk.shaped {k : Nat} {d : PyData} (h : Dk k d) (hk : k ≤ 64) : PySem.SeqAt.shaped d = true := by
  unfold PySem.SeqAt.shaped
  rw [h.1, Bool.true_and, decide_eq_true_eq]
  exact Nat.le_trans h.2 hk
theorem t2_eqD {a b : AVal} {da db : PyData} {k : Nat} {Q : AVal → AHeap → Prop} (ra : Rd σ a da) (rb : Rd σ b db) (ha : Dk k da) (hb : Dk k db) (h : Q (.bool (PyData.eqv da db)) σ) (hk : k ≤ 64 := by decide) : T2 C n f (compareOp .Eq) a b m σ Q := fun ok fz s E v w x hv hw => by
  obtain ⟨as, r1⟩ := ra.reads ok x hv
  obtain ⟨bs, r2⟩ := rb.reads ok x hw
  have := ok.units
  exact eq_dataH r1 r2 (ha.shaped hk) (hb.shaped hk) (by omega) (.here x (.bool _) h)
theorem t2_neD {a b : AVal} {da db : PyData} {k : Nat} {Q : AVal → AHeap → Prop} (ra : Rd σ a da) (rb : Rd σ b db) (ha : Dk k da) (hb : Dk k db) (h : Q (.bool (!PyData.eqv da db)) σ) (hk : k ≤ 64 := by decide) : T2 C n f (compareOp .NotEq) a b m σ Q := fun ok fz s E v w x hv hw => by
  obtain ⟨as, r1⟩ := ra.reads ok x hv
  obtain ⟨bs, r2⟩ := rb.reads ok x hw
  have := ok.units
  exact ne_dataH r1 r2 (ha.shaped hk) (hb.shaped hk) (by omega) (.here x (.bool _) h)
theorem t2_eqS {a b : AVal} {d : PyData} {k : Nat} {Q : AVal → AHeap → Prop} (ra : Rd σ a d) (rb : Rd σ b d) (hd : Dk k d) (h : Q (.bool true) σ) (hk : k ≤ 64 := by decide) : T2 C n f (compareOp .Eq) a b m σ Q :=
  t2_eqD ra rb hd hd (by rw [PySem.SeqAt.eqv_refl d hd.1]; exact h) hk
theorem t2_neS {a b : AVal} {d : PyData} {k : Nat} {Q : AVal → AHeap → Prop} (ra : Rd σ a d) (rb : Rd σ b d) (hd : Dk k d) (h : Q (.bool false) σ) (hk : k ≤ 64 := by decide) : T2 C n f (compareOp .NotEq) a b m σ Q :=
  t2_neD ra rb hd hd (by rw [PySem.SeqAt.eqv_refl d hd.1]; exact h) hk
theorem rdAll_ints : ∀ (ns : List Int), RdAll σ (ns.map .int) (ns.map .int)
  | [] => .nil
  | i :: ns => .cons (.int i) (rdAll_ints ns)
/-! ## attributes -/
theorem SR.ownD {fz : Fz} {s : Shared} (x : SR C f fz m σ s) {a c : Addr} {as : List (Str × AVal)} (h : σ a = some (.inst c as)) :
    ∃ d es k mc rest, s.heap.get? a = some (instObj c d) ∧ s.heap.get? d = some (dictOf es k) ∧ Es (At C fz) es as ∧ Fr f.h₀ f.L s.heap mc ∧ News f.h₀ f.L s.heap ((d, dictOf es k) :: rest) ∧ (∀ p ∈ rest, p.1 ≠ d) ∧ (a, instObj c d) ∈ rest ∧
      ∀ h' t es' k' as', Fr f.h₀ f.L h' mc → News f.h₀ f.L h' ((d, dictOf es' k') :: rest) → Es (At C fz) es' as' → SR C f fz m (σ.set a (.inst c as')) { s with heap := h', toks := t } := by
  obtain ⟨mc, news, δ, F, N, R, e⟩ := x
  obtain ⟨h1, es, k, h2, h3⟩ := R.ob a _ h
  have hne : a ≠ δ a := fun q => by have := R.dσ a c as h; rw [← q, h] at this; cases this
  have keepM : ∀ {p : Addr × Obj}, p ∈ news → p.1 ≠ δ a → p ∈ news.filter (fun p => decide (p.1 ≠ δ a)) := fun h q => List.mem_filter.mpr ⟨h, by simpa using q⟩
  refine ⟨δ a, es, k, mc, news.filter (fun p => decide (p.1 ≠ δ a)), (N _ h1).1, (N _ h2).1, h3, F, fun p hp => ?_, fun p hp => by simpa using (List.mem_filter.mp hp).2, keepM h1 hne, fun h' t es' k' as' F' N' hE => ?_⟩
  · rcases List.mem_cons.mp hp with rfl | hp
    · exact N _ h2
    · exact N _ (List.mem_filter.mp hp).1
  · have σne : ∀ b bo, σ b = some bo → b ≠ δ a := fun b bo hb q => by have := R.dσ a c as h; rw [← q, hb] at this; cases this
    have back : ∀ {b c' bs}, σ.set a (.inst c as') b = some (.inst c' bs) → ∃ bs', σ b = some (.inst c' bs') := fun {b c' bs} hb => by
      by_cases q : b = a
      · subst q; rw [AHeap.set_same] at hb; cases hb; exact ⟨as, h⟩
      · rw [AHeap.set_ne _ _ q] at hb; exact ⟨bs, hb⟩
    refine ⟨mc, _, δ, F', N', ⟨fun p hp => .tail _ (keepM (R.sub p hp) (R.doff a c as h p hp)), R.apart, fun b bo hb => ?_, fun b bo hb p hp => ?_, fun b c' bs hb p hp => ?_, fun b c' bs hb => ?_, fun b c' bs b' c'' bs' g1 g2 => ?_⟩, e⟩
    · by_cases q : b = a
      · subst q; rw [AHeap.set_same] at hb; cases hb
        exact ⟨.tail _ (keepM h1 hne), es', k', List.mem_cons_self .., hE⟩
      · rw [AHeap.set_ne _ _ q] at hb
        refine (R.ob b bo hb).mono (fun _ _ z => z) (fun _ hm => .tail _ (keepM hm (σne b bo hb))) fun c' bs eb _ hm => .tail _ (keepM hm fun q' => ?_)
        subst eb
        exact q (R.dinj b c' bs a c as hb h q')
    · by_cases q : b = a
      · subst q; exact R.off b _ h p hp
      · rw [AHeap.set_ne _ _ q] at hb; exact R.off b bo hb p hp
    · obtain ⟨bs', hb'⟩ := back hb; exact R.doff b c' bs' hb' p hp
    · obtain ⟨bs', hb'⟩ := back hb
      have hd := R.dσ b c' bs' hb'
      rw [AHeap.set_ne _ _ (fun q => by rw [q, h] at hd; cases hd)]; exact hd
    · obtain ⟨x1, y1⟩ := back g1; obtain ⟨x2, y2⟩ := back g2; exact R.dinj b c' x1 b' c'' x2 y1 y2
/-- an attribute stored, as a tree -/
def TW (C : Cx) (n : Nat) (f : Fm) (o : AVal) (name : Str) (y : AVal) (m : AEnv) (σ : AHeap) (Q : AHeap → Prop) : Prop :=
  f.Ok C n → ∀ fz s E vo vy, SR C f fz m σ s → V (At C fz) vo o → V (At C fz) vy y → wpAny (Md C) f.A (setAttr vo name vy) (fun _ s' => ∃ fz' σ', (∀ p ∈ fz, p ∈ fz') ∧ Same s s' ∧ SR C f fz' m σ' s' ∧ Q σ') E s
theorem tw_inst {a c : Addr} {as : List (Str × AVal)} {name : Str} {y : AVal} {Q : AHeap → Prop} (ha : σ a = some (.inst c as)) (hs : findIn C.K (.ref c) "__setattr__" = some (some (.builtin "object.__setattr__"))) (hp : plainOver C.K c = true) (ht : takerIn C.K c name = some none) (hh : hasDictIn C.K c = true)
    (hl : (setA name y as).length ≤ 1000) (h : Q (σ.set a (.inst c (setA name y as)))) : TW C n f (.obj a) name y m σ Q := fun ok fz s E vo vy x ho hy => by
  cases ho
  obtain ⟨d, es, k, mc, rest, h1, h2, h3, F, N, off, hm, back⟩ := x.ownD ha
  have hE := h3.put (x := name) (hh := PyData.keyHash C.w.params name) (t := s.toks + 1) hy
  refine set_dict (dx := d) F ok.kin N ⟨h1, rfl, rfl, h2⟩ rfl hs hp ht hh h3.isSome rfl (.head off) (by rw [hE.length]; exact hl) fun h' F' N' => ?_
  exact ⟨fz, _, sub_refl, ⟨h', s.toks + 2, rfl⟩, back h' (s.toks + 2) _ _ _ F' N' hE, h⟩
theorem w1_setAttr {o e : Expr} {name : Str} {tp pos : Pos} {Q : AFlow → AEnv → AHeap → Prop} (h : WE C n f e m σ fun y σ₁ => WE C n f o m σ₁ fun ov σ₂ => TW C n f ov name y m σ₂ fun σ₃ => Q .next m σ₃)
    (hs : swapsWith e (some (.Attribute o name tp)) pos.line f.env = pure false := by rfl) : W1 C n f (.Assign [.Attribute o name tp] e pos) m σ Q := fun ok fz s E x => by
  refine plainObj_wpAny_Assign_Attribute (wpAny_mono (h ok fz s E x) (fun v s₁ ⟨fz₁, σ₁, a, u1, e1, x1, va, q1⟩ => wpAny_mono (q1 ok fz₁ s₁ E x1) (fun ov s₂ ⟨fz₂, σ₂, b, u2, e2, x2, vb, q2⟩ => ?_) fun _ _ x => x) fun _ _ x => x) hs
  exact wpAny_mono (q2 ok fz₂ s₂ E ov v x2 vb (va.up u2)) (fun _ s₃ ⟨fz₃, σ₃, u3, e3, x3, q3⟩ => ⟨fz₃, σ₃, m, .next, fun p hp => u3 p (u2 p (u1 p hp)), (e1.trans e2).trans e3, x3, trivial, q3⟩) fun _ _ x => x
theorem we_attr {o : Expr} {name : Str} {pos : Pos} {Q : AVal → AHeap → Prop} (h : WE C n f o m σ fun ov σ₁ => T1 C n f (fun v => getAttr v name true) ov m σ₁ Q)
    (he : eval (.Attribute o name pos) f.env = (do
      let v ← eval o f.env
      standAt pos.atName
      let r ← holding [v] (getAttr v name true)
      letTemporaryGo o v r
      pure r) := by rfl) : WE C n f (.Attribute o name pos) m σ Q := fun ok fz s E x =>
  Attribute_any_ (wpAny_mono (h ok fz s E x) (fun v s₁ ⟨fz₁, σ₁, a, u1, e1, x1, va, q1⟩ => wpAny_mono (q1 ok fz₁ s₁ E v x1 va) (fun r s₂ p => .up u1 e1 p) fun _ _ x => x) fun _ _ x => x) he
def handedA : AVal → Bool
  | .raw v => handedIn v
  | _ => true
theorem V.handed {P : Addr → Obj → Prop} {v : Value} {a : AVal} (h : V P v a) (e : handedA a = true) : handedIn v = true := by
  cases h <;> first | rfl | exact e
theorem t1_attr {a c : Addr} {as : List (Str × AVal)} {name : Str} {y : AVal} {attr : Option Value} {Q : AVal → AHeap → Prop} (ha : σ a = some (.inst c as)) (hy : getA name as = some y) (hg : plainGet C.K c name = true) (hh : hasDictIn C.K c = true) (hf : findIn C.K (.ref c) name = some attr) (hn : noGet C.K attr = true) (hv : handedA y = true) (h : Q y σ) :
    T1 C n f (fun v => getAttr v name true) (.obj a) m σ Q := fun ok fz s E vo x ho => by
  cases ho
  obtain ⟨d, es, k, h1, h2, h3⟩ := x.inst ha
  obtain ⟨v, g1, g2⟩ := h3.get_some hy
  have x' := x
  obtain ⟨mc, news, δ, F, N, R, e⟩ := x
  exact get_own F ok.kin ⟨h1, rfl, rfl, h2⟩ hg hh hf hn g1 (g2.handed hv) (.tok x' g2 h)
end
end Mine

open PySem PySem.W PyProof.Rows PySem.Calls
namespace Mine
def Has (m : AEnv) : List (Str × AVal) → Prop
  | [] => True
  | p :: r => m.get p.1 = some p.2 ∧ Has m r
theorem Has.sub {m : AEnv} : ∀ {l : AEnv}, Has m l → ∀ y a, AEnv.get l y = some a → m.get y = some a
  | [], _, _, _, e => by cases e
  | (z, b) :: r, h, y, a, e => by
    unfold AEnv.get getA at e
    by_cases q : (z == y) = true
    · rw [if_pos q] at e; cases e
      have : z = y := by simpa using q
      subst this; exact h.1
    · rw [if_neg q] at e; exact h.2.sub y a e
theorem AHeap.le_refl (σ : AHeap) : σ.le σ := fun _ _ h => h
theorem AHeap.le_set {σ : AHeap} {l : Addr} {o : AObj} (h : σ l = none) : σ.le (σ.set l o) := fun a b e => by rw [AHeap.set_ne]; exact e; intro q; rw [q, h] at e; cases e
theorem hp_ne {σ : AHeap} {a c : Addr} {o : AObj} (h1 : σ a = some o) (h2 : σ c = none) : a ≠ c := fun q => by rw [q, h2] at h1; cases h1
theorem items_obj {σ : AHeap} {a : Addr} {xs : List AVal} (h : σ a = some (.list xs)) : items σ (.obj a) = some xs := by show (match σ a with | some (.list xs) => some xs | _ => none) = some xs; rw [h]
theorem ret_le {σ : AHeap} {a : AVal} {Q : AVal → AHeap → Prop} (h : Q a σ) : ∃ σ₂ : AHeap, σ₂.le σ ∧ Q (retOf (.ret a)) σ₂ := ⟨σ, AHeap.le_refl σ, h⟩
theorem fmod_pos (x : Int) {y : Int} (h : 0 ≤ y) : x.fmod y = x % y := Int.fmod_eq_emod_of_nonneg x h
theorem fmod_range (x : Int) {y : Int} (h : 0 < y) : 0 ≤ x.fmod y ∧ x.fmod y < y := by
  rw [fmod_pos x (Int.le_of_lt h)]; exact ⟨Int.emod_nonneg x (Int.ne_of_gt h), Int.emod_lt_of_pos x h⟩
theorem rng_small1 {a b : Int} (ha : -(2 ^ 62) ≤ a ∧ a < 2 ^ 62) (hb : -(2 ^ 62) ≤ b ∧ b < 2 ^ 62) : Builtin.Range.small a b 1 = true := small_one ha.1 ha.2 hb.1 hb.2
theorem rng_size1 {a : Int} {k : Nat} : Builtin.Range.rangeSize a (a + k) 1 = (k : Int) := by rw [rangeSize_nat]; congr 1; omega
theorem rng_size1' {k : Nat} : Builtin.Range.rangeSize 0 k 1 = (k : Int) := by rw [rangeSize_nat]; congr 1
theorem rngL_length {a c : Int} {k : Nat} : (rngL a c k).length = k := by simp [rngL]
theorem rngL_cons {a c : Int} {k j : Nat} {v : AVal} {r : List AVal} (h : v :: r = (rngL a c k).drop j) : j < k ∧ v = .int (a + (j : Int) * c) ∧ r = (rngL a c k).drop (j + 1) := by
  have hj : j < (rngL a c k).length := by
    rcases Nat.lt_or_ge j (rngL a c k).length with q | q
    · exact q
    · rw [List.drop_of_length_le q] at h; cases h
  rw [List.drop_eq_getElem_cons hj] at h
  obtain ⟨h1, h2⟩ := List.cons.inj h
  refine ⟨by rwa [rngL_length] at hj, ?_, h2⟩
  rw [h1]; simp [rngL]
theorem rngL_nil {a c : Int} {k j : Nat} (h : [] = (rngL a c k).drop j) : k ≤ j := by
  rcases Nat.lt_or_ge j (rngL a c k).length with q | q
  · rw [List.drop_eq_getElem_cons q] at h; cases h
  · rwa [rngL_length] at q
theorem W1.cut {C : Cx} {n : Nat} {f : Fm} {m : AEnv} {σ : AHeap} {st : Stmt} {P Q : AFlow → AEnv → AHeap → Prop} (h : W1 C n f st m σ P) (k : ∀ a m' σ', P a m' σ' → Q a m' σ') : W1 C n f st m σ Q :=
  fun ok fz s E x => wpAny_mono (h ok fz s E x) (fun v s' ⟨fz', σ', m', a, h1, h2, h3, h4, h5⟩ => ⟨fz', σ', m', a, h1, h2, h3, h4, k _ _ _ h5⟩) fun _ _ x => x
end Mine

open PySem PySem.W PyProof.Rows PySem.Calls
namespace Mine
/-- the law's own frame, where it has cells -/
theorem enter_lawC {prog : Program} {w : World} {K : Frag} {vp : Program} {loose : List Str} {mean : ExcName → Option Value} {mg mb : Str → Option Value} {H : Heap} {L fa a : Addr} {vs : List Value} {ns : List Int} {qual : Str} {scope : Scope} {cdv : Value} {body : List Stmt} {s : Shared} {Q : Flow → Shared → Prop} {E : Value → Shared → Prop} {cells : List (Addr × Obj)} (cs : List (Str × Addr)) (ml : AVal → AEnv)
    (B : Below callerA H [] H) (X : K.In H) (T : Top vp loose mean mg mb H) (hL : H.IsList a vs.toArray) (hI : IntsAre vs ns)
    (F : Fr H L s.heap (bindL (envOfC qual scope L fa cdv).kindOf [(Str.ofString "script", Value.ref a)] fun _ => none)) (N : News H L s.heap cells)
    (Y : CellsAre (bindC (envOfC qual scope L fa cdv).kindOf [(Str.ofString "script", Value.ref a)] fun _ => none) (cellsFrom (L + 1) scope.names []) cells) (hk : scope.kind = .function) (hn : ns.length ≤ 63)
    (hcs : cellsFrom (L + 1) scope.names [] = cs) (hck : ∀ p ∈ cellsFrom 0 scope.names [], scope.names.lookup p.1 ≠ some .local) (hml : ∀ v, ([(Str.ofString "script", v)].filter fun p : Str × AVal => scope.names.lookup p.1 == some .local) = ml v)
    (h : ∀ A₀ A base h₀ outer (ns : List Int), ns.length ≤ 63 → WS ⟨prog, w, K, vp, loose, mean, mg, mb, H⟩ 20 ⟨A₀, A, base, h₀, outer, L, fa, qual, scope, cdv, cs, [], none⟩ body (ml (.lst (ns.map .int))) (cellS (fun y => getA y [(Str.ofString "script", .lst (ns.map .int))]) cs fun _ => none) fun fl _ _ => fl = .ret (.bool true))
    (hQ : ∀ h' tk mc', Fr H L h' mc' → Q (.ret (.bool true)) { s with heap := h', toks := tk }) :
    wpAny (model prog w) (callerA.deeper (envOfC qual scope L fa cdv)) (execs body (envOfC qual scope L fa cdv)) Q E s := by
  have names : ∀ (names : List (Str × NameKind)) (a b : Nat) (acc acc' : List (Str × Addr)), acc.map (·.1) = acc'.map (·.1) → (cellsFrom a names acc).map (·.1) = (cellsFrom b names acc').map (·.1) := by
    intro names
    induction names with
    | nil => intro a b acc acc' h; exact h
    | cons p r ih =>
      intro a b acc acc' h
      obtain ⟨y, kd⟩ := p
      unfold cellsFrom
      split
      · exact ih _ _ _ _ (by simp [h])
      · exact ih _ _ _ _ h
  have ck : ∀ p ∈ cellsFrom (L + 1) scope.names [], scope.names.lookup p.1 ≠ some .local := fun p hp => by
    have : p.1 ∈ (cellsFrom 0 scope.names []).map (·.1) := by rw [names scope.names 0 (L + 1) [] [] rfl]; exact List.mem_map_of_mem hp
    obtain ⟨q, hq, e⟩ := List.mem_map.mp this
    rw [← e]; exact hck q hq
  have ok : Fm.Ok ⟨prog, w, K, vp, loose, mean, mg, mb, H⟩ 20 ⟨callerA, callerA.deeper (envOfC qual scope L fa cdv), H, H, [], L, fa, qual, scope, cdv, cellsFrom (L + 1) scope.names [], [], none⟩ :=
    ⟨B, X, T, fun _ _ h => h, rfl, rfl, rfl, (show 1 + claimMargin + 1 + 3 * 20 < recursionLimit by decide), (show 4 + 3 + 10 * 20 + 100 < cLine by decide), hk, hk⟩
  obtain ⟨nd, cl⟩ := cellsFrom_nd scope.names (L + 1) [] List.nodup_nil (fun p hp => by cases hp)
  have hz : Vs (At ⟨prog, w, K, vp, loose, mean, mg, mb, H⟩ []) [Value.ref a] [.lst (ns.map .int)] := by
    obtain ⟨o, h1, h2, k, h3⟩ := hL
    exact .cons (.lst (.inr h1) h2 h3 (vs_ints hI)) .nil
  have nds : [Str.ofString "script"].Nodup := by simp
  have R0 : HR ⟨prog, w, K, vp, loose, mean, mg, mb, H⟩ [] [] (fun _ => none) id [] := ⟨fun p hp => (nomatch hp), fun p hp => (nomatch hp), fun a ao e => (nomatch e), fun a ao e => (nomatch e), fun a c as e => (nomatch e), fun a c as e => (nomatch e), fun a c as b c' bs e => (nomatch e)⟩
  have R : HR ⟨prog, w, K, vp, loose, mean, mg, mb, H⟩ [] [] (cellS (fun y => getA y [(Str.ofString "script", .lst (ns.map .int))]) (cellsFrom (L + 1) scope.names []) fun _ => none) id (cells ++ []) := R0.addCells Y nd (fun p hp q hq => nomatch hq) fun p hp => by
    have hkd : (envOfC qual scope L fa cdv).kindOf p.1 ≠ some .local := ck p hp
    cases q : getA p.1 [(Str.ofString "script", .lst (ns.map .int))] with
    | none => exact .inl ⟨bindC_off (b := [(Str.ofString "script", Value.ref a)]) (by have := getA_none q; simpa using this), rfl⟩
    | some b =>
      obtain ⟨v, g1, g2, g3⟩ := bind_get (ns := [Str.ofString "script"]) (kd := (envOfC qual scope L fa cdv).kindOf) (m := fun _ => none) hz nds q
      exact .inr ⟨v, b, g3 hkd, rfl, g1⟩
  have x : SR ⟨prog, w, K, vp, loose, mean, mg, mb, H⟩ ⟨callerA, callerA.deeper (envOfC qual scope L fa cdv), H, H, [], L, fa, qual, scope, cdv, cellsFrom (L + 1) scope.names [], [], none⟩ [] ([(Str.ofString "script", .lst (ns.map .int))].filter fun p : Str × AVal => scope.names.lookup p.1 == some .local) (cellS (fun y => getA y [(Str.ofString "script", .lst (ns.map .int))]) (cellsFrom (L + 1) scope.names []) fun _ => none) s := by
    refine ⟨_, cells ++ [], id, F, by rw [List.append_nil]; exact N, R, fun y b hy => ?_⟩
    obtain ⟨g1, a', g2⟩ := getA_filter (by simp) hy
    obtain ⟨v, g3, g4, _⟩ := bind_get (ns := [Str.ofString "script"]) (kd := (envOfC qual scope L fa cdv).kindOf) (m := fun _ => none) hz nds g1
    exact ⟨v, g4 (by have : scope.names.lookup y = some .local := by simpa using g2
                     exact this), g3⟩
  have hh := h callerA (callerA.deeper (envOfC qual scope L fa cdv)) H H [] ns hn
  rw [← hcs, ← hml] at hh
  refine wpAny_mono (hh ok [] s E x) (fun fl s' ⟨fz', σ', m', a, u, es, x2, va, q⟩ => ?_) fun _ _ z => z
  subst q
  cases fl with
  | ret v =>
    cases va
    obtain ⟨h', tk, rfl⟩ := es
    obtain ⟨mc', news, δ, F', N', R, e⟩ := x2
    exact hQ h' tk mc' F'
  | _ => exact va.elim
end Mine

open PySem PySem.W PyProof.Rows PySem.Calls
namespace Mine
section
variable {C : Cx} {n : Nat} {f : Fm} {m : AEnv} {σ : AHeap}
theorem AHeap.set_set (σ : AHeap) (a : Addr) (x y : AObj) : (σ.set a x).set a y = σ.set a y := by
  funext b; unfold AHeap.set; split <;> rfl
/-- the five things of a source, as attributes -/
def srcA (s p e b c : AVal) : List (Str × AVal) := [(Str.ofString "_InputSource__system_id", s), (Str.ofString "_InputSource__public_id", p), (Str.ofString "_InputSource__encoding", e), (Str.ofString "_InputSource__bytefile", b), (Str.ofString "_InputSource__charfile", c)]
end
end Mine

open PySem PySem.W PyProof.Rows PySem.Calls
namespace Mine
/-! ## pieces of a def of the text -/
def blkOf : Stmt → Nat → List Stmt
  | .For _ _ b _ _, 0 => b
  | .For _ _ _ o _, _ => o
  | .If _ b _ _, 0 => b
  | .If _ _ o _, _ => o
  | .FunctionDef _ _ b _ _ _ _ _ _ _, _ => b
  | _, _ => []
def subs : List Stmt → List (Nat × Nat) → List Stmt
  | ss, [] => ss
  | ss, (i, j) :: r => match ss[i]? with
    | some st => subs (blkOf st j) r
    | none => []
def segOf (p : Program) (i : Nat) (path : List (Nat × Nat)) (k : Nat) : Option (Scope × List Stmt) :=
  match p.main.body[i]? with
  | some (.FunctionDef _ _ b _ _ _ sc _ _ _) => some (sc, (subs b path).drop k)
  | _ => none
def Seg (p : Program) (i : Nat) (path : List (Nat × Nat)) (k : Nat) (P : Scope → List Stmt → Prop) : Prop :=
  match segOf p i path k with
  | some (sc, ss) => P sc ss
  | none => True
theorem seg_intro {p : Program} {i : Nat} {path : List (Nat × Nat)} {k : Nat} {P : Scope → List Stmt → Prop} {kind : ScopeKind} {names : List (Str × NameKind)} {g c : Bool} {more : List (Str × Const)} {st : Stmt} {ss : List Stmt}
    (ho : segOf p i path k = some (⟨kind, names, g, c, more⟩, st :: ss)) (h : P ⟨kind, names, g, c, more⟩ (st :: ss)) : Seg p i path k P := by
  unfold Seg; rw [ho]; exact h
theorem tc_cat1 {C : Cx} {n : Nat} {f : Fm} {m : AEnv} {σ : AHeap} {fv a : AVal} {as : List AVal} {Q : AVal → AHeap → Prop} (h : TC C n f fv (a :: as) m σ Q) : TC C n f fv ([a] ++ as) m σ Q := h
/-- one statement -/
def Seg1 (p : Program) (i : Nat) (path : List (Nat × Nat)) (k : Nat) (P : Scope → Stmt → Prop) : Prop :=
  match segOf p i path k with
  | some (sc, st :: _) => P sc st
  | _ => True
theorem seg1_intro {p : Program} {i : Nat} {path : List (Nat × Nat)} {k : Nat} {P : Scope → Stmt → Prop} {kind : ScopeKind} {names : List (Str × NameKind)} {g c : Bool} {more : List (Str × Const)} {st : Stmt} {ss : List Stmt}
    (ho : segOf p i path k = some (⟨kind, names, g, c, more⟩, st :: ss)) (h : P ⟨kind, names, g, c, more⟩ st) : Seg1 p i path k P := by
  unfold Seg1; rw [ho]; exact h
end Mine

open PySem PySem.W PyProof.Rows PySem.Calls
namespace Mine
def AHeap.del (σ : AHeap) (a : Addr) : AHeap := fun b => if b = a then none else σ b
theorem AHeap.del_same (σ : AHeap) (a : Addr) : σ.del a a = none := if_pos rfl
theorem AHeap.del_ne (σ : AHeap) {a b : Addr} (h : b ≠ a) : σ.del a b = σ b := if_neg h
theorem seg1_elim {p : Program} {i : Nat} {path : List (Nat × Nat)} {k : Nat} {P : Scope → Stmt → Prop} {sc : Scope} {st : Stmt} {ss : List Stmt} (h : Seg1 p i path k P) (ho : segOf p i path k = some (sc, st :: ss)) : P sc st := by
  unfold Seg1 at h; rw [ho] at h; exact h
theorem seg_elim {p : Program} {i : Nat} {path : List (Nat × Nat)} {k : Nat} {P : Scope → List Stmt → Prop} {sc : Scope} {ss : List Stmt} (h : Seg p i path k P) (ho : segOf p i path k = some (sc, ss)) : P sc ss := by
  unfold Seg at h; rw [ho] at h; exact h
section
variable {C : Cx} {n : Nat} {f : Fm} {m : AEnv} {σ : AHeap}
/-- a list of the state is kept apart -/
theorem SR.lend {fz : Fz} {s : Shared} (x : SR C f fz m σ s) {a : Addr} {xs : List AVal} (h : σ a = some (.list xs)) : SX C f fz m (σ.del a) [a] s := by
  obtain ⟨mc, news, δ, F, N, R, e⟩ := x
  obtain ⟨o, ho⟩ := (R.ob a _ h).key
  have keepM : ∀ {p : Addr × Obj}, p ∈ news → p.1 ≠ a → p ∈ news.filter (fun p => decide (p.1 ≠ a)) := fun h q => List.mem_filter.mpr ⟨h, by simpa using q⟩
  have old : ∀ {b bo}, σ.del a b = some bo → b ≠ a ∧ σ b = some bo := fun {b bo} hb => by
    by_cases q : b = a
    · rw [q, AHeap.del_same] at hb; cases hb
    · rw [AHeap.del_ne _ q] at hb; exact ⟨q, hb⟩
  refine ⟨mc, news.filter (fun p => decide (p.1 ≠ a)), δ, F, fun p hp => N p (List.mem_filter.mp hp).1, ⟨fun p hp => keepM (R.sub p hp) (R.off a _ h p hp), R.apart, fun b bo hb => ?_, fun b bo hb => R.off b bo (old hb).2, fun b c as hb => R.doff b c as (old hb).2, fun b c as hb => ?_, fun b c as b' c' bs h1 h2 => R.dinj b c as b' c' bs (old h1).2 (old h2).2⟩, e, fun p hp q => ?_, fun q => ?_, fun b hb => ?_⟩
  · refine (R.ob b bo (old hb).2).mono (fun _ _ z => z) (fun _ hm => keepM hm (old hb).1) fun c as eb _ hm => keepM hm fun q => ?_
    have := R.dσ b c as (eb ▸ (old hb).2)
    rw [show δ b = a from q, h] at this; cases this
  · have := R.dσ b c as (old hb).2
    by_cases q : δ b = a
    · rw [q]; exact AHeap.del_same ..
    · rw [AHeap.del_ne _ q]; exact this
  · have := (List.mem_filter.mp hp).2
    exact absurd (List.mem_singleton.mp q) (by simpa using this)
  · exact absurd (List.mem_singleton.mp q).symm (N _ ho).2.1
  · rw [List.mem_singleton.mp hb]; exact (N _ ho).2.2
end
end Mine

open PySem PySem.W PyProof.Rows PySem.Calls
namespace Mine
/-! ## an attribute that is not there; a try in a called def -/
section
variable {prog : Program} {w : World} {A : Around} {E : Value → Shared → Prop} {s : Shared} {K : Frag} {x c L : Addr} {h₀ : Heap} {m : Str → Option Value} {ox : Obj} {es : List DictEntry} {n : Nat} {name : Str}
end

/-- a call out of the law's own frame -/
def Fn1 (C : Cx) (n : Nat) (fa : Addr) (as : List AVal) (σ : AHeap) (Q : AVal → AHeap → Prop) : Prop :=
  ∀ f m A, f.outer = [] → f.Ok C n → Near f A → ∀ fz s vs, SR C f fz m σ s → Vs (At C fz) vs as → codeAny (Md C) A (.call (.ref fa) ⟨vs, []⟩) (RV C f m fz s Q) s
/-- statements that raise, the state as it was -/
def XS (C : Cx) (n : Nat) (f : Fm) (ss : List Stmt) (m : AEnv) (σ : AHeap) (X : String) : Prop :=
  f.Ok C n → ∀ fz s E, SR C f fz m σ s → (∀ s₁ h' tk e fz', (∀ p ∈ fz, p ∈ fz') → Same s s₁ → SR C f fz' m σ s₁ → Heap.NewExcOf s₁.heap h' e X → E (.ref e) { s₁ with heap := h', toks := tk }) → wpAny (Md C) f.A (execs ss f.env) (fun _ _ => False) E s
section
variable {C : Cx} {n : Nat} {f : Fm} {m : AEnv} {σ : AHeap}
end
end Mine

open PySem PySem.W PyProof.Rows PySem.Calls
namespace Mine
/-! ## dicts with whole numbers as keys -/
def valA (es : List (Int × AVal)) (k : Int) : Option AVal := (es.find? fun kv => kv.1 = k).map (·.2)
def storeA (es : List (Int × AVal)) (k : Int) (v : AVal) : List (Int × AVal) := if es.any (fun kv => kv.1 = k) then es.map (fun kv => if kv.1 = k then (kv.1, v) else kv) else es ++ [(k, v)]
section
variable {C : Cx} {n : Nat} {f : Fm} {m : AEnv} {σ : AHeap}
end
end Mine

open PySem PySem.W PyProof.Rows PySem.Calls
set_option linter.unusedSectionVars false
namespace Mine
section
variable {C : Cx} {n : Nat} {f : Fm} {m : AEnv} {σ : AHeap}
/-- a list of the state that changes no more -/
theorem SR.still {fz : Fz} {s : Shared} (x : SR C f fz m σ s) {a : Addr} {xs : List AVal} (h : σ a = some (.list xs)) {y : Str} (hy : m.get y = some (.obj a)) : ∃ fz', (∀ p ∈ fz, p ∈ fz') ∧ SR C f fz' (m.set y (.lst xs)) (σ.del a) s := by
  obtain ⟨us, k, ho, hv⟩ := x.list h
  have x1 := ((x.lend h).ice (D := a) (wr := []) (by simp) ho).sr
  refine ⟨[(a, listOf us.toArray k)] ++ fz, fun p hp => List.mem_append_right _ hp, ?_⟩
  obtain ⟨mc, news, δ, F, N, R, e⟩ := x1
  refine ⟨mc, news, δ, F, N, R, fun z b hz => ?_⟩
  unfold AEnv.set at hz
  rw [getA_setA] at hz
  by_cases q : z = y
  · rw [if_pos q] at hz; cases hz
    subst q
    obtain ⟨v, h1, h2⟩ := e z _ hy
    cases h2
    exact ⟨_, h1, .lst (vs := us) (.inl (List.mem_append_left _ (List.mem_singleton.mpr rfl))) rfl rfl (hv.up fun p hp => List.mem_append_right _ hp)⟩
  · rw [if_neg q] at hz; exact e z b hz
theorem WS.still {ss : List Stmt} {Q : AFlow → AEnv → AHeap → Prop} {a : Addr} {xs : List AVal} {y : Str} (h : σ a = some (.list xs)) (hy : m.get y = some (.obj a)) (k : WS C n f ss (m.set y (.lst xs)) (σ.del a) Q) : WS C n f ss m σ Q := fun ok fz s E x => by
  obtain ⟨fz', u, x'⟩ := x.still h hy
  exact wpAny_mono (k ok fz' s E x') (fun v s' ⟨fz₁, σ₁, m₁, a₁, u1, e1, x1, va, q1⟩ => ⟨fz₁, σ₁, m₁, a₁, fun p hp => u1 p (u p hp), e1, x1, va, q1⟩) fun _ _ z => z
theorem Vs.rep {P : Addr → Obj → Prop} {vs : List Value} {xs : List AVal} (h : Vs P vs xs) : ∀ k : Nat, Vs P (List.replicate k vs).flatten (List.replicate k xs).flatten
  | 0 => by simp; exact .nil
  | k + 1 => by simp only [List.replicate_succ, List.flatten_cons]; exact h.append (h.rep k)
theorem rep_flat {α : Type} (items : Array α) (k : Nat) : List.foldl (fun x1 x2 => x1 ++ x2) #[] (List.replicate (if items.isEmpty = true then 0 else k) items) = (List.replicate k items.toList).flatten.toArray := by
  have key : ∀ (k : Nat) (acc : Array α), List.foldl (fun x1 x2 => x1 ++ x2) acc (List.replicate k items) = (acc.toList ++ (List.replicate k items.toList).flatten).toArray := by
    intro k
    induction k with
    | zero => intro acc; simp
    | succ k ih => intro acc; simp [List.replicate_succ, ih, List.append_assoc]
  split
  · rename_i h
    have : items = #[] := by simpa using h
    subst this
    simp
  · rw [key]; simp
/-- a list of the state taken k times -/
theorem t2_mulObj {a : Addr} {xs : List AVal} {x : Int} {Q : AVal → AHeap → Prop} (ha : σ a = some (.list xs)) (h0 : 0 ≤ x) (hx : x < 2 ^ 63) (hz : xs.length * x.toNat ≤ 2 ^ 24) (h : Q (.lst (List.replicate x.toNat xs).flatten) σ) : T2 C n f (binaryOp .Mult) (.obj a) (.int x) m σ Q := fun ok fz s E v w x' hv hw => by
  cases hv; cases hw
  obtain ⟨us, k, ho, hv⟩ := x'.list ha
  obtain ⟨mc, news, F, N, kk⟩ := x'.newFz
  refine mul_list (k := k) F N ho (by omega) hx (by rw [List.size_toArray, hv.length]; exact hz) fun h' F' N' => ?_
  rw [rep_flat] at N'
  exact ⟨_, σ, .lst (List.replicate x.toNat xs).flatten, fun p hp => List.mem_append_right _ hp, .mk, kk h' s.toks _ F' N', .lst (vs := (List.replicate x.toNat us).flatten) (.inl (List.mem_append_left _ (List.mem_singleton.mpr rfl))) rfl rfl ((hv.rep _).up fun p hp => List.mem_append_right _ hp), h⟩
/-- a frozen list of tuples is walked -/
theorem wit_lst {e : Expr} {Q : (AHeap → AHeap) → List (List AVal) → AHeap → Prop} (h : WE C n f e m σ fun a σ₁ => ∃ rows, a = .lst (rows.map .tup) ∧ Q id rows σ₁) : WIT C n f e m σ Q := fun ok fz s E x => by
  refine wpAny_mono (h ok fz s E x) (fun v s₁ ⟨fz₁, σ₁, a, u1, e1, x1, va, rows, ea, q1⟩ => ?_) fun _ _ x => x
  subst ea
  obtain ⟨l, o, k, us, rfl, p1, p2, p3, p4⟩ := va.lstD
  have ho := x1.at_ ok p1
  have hl : s₁.heap.IsList l us.toArray := ⟨_, ho, p2, _, p3⟩
  have hne : l ≠ s₁.heap.objs.size := Nat.ne_of_lt (Heap.lt_size ho)
  have hlen := p4.length
  rw [List.length_map] at hlen
  have each : ∀ j, ∃ Tv : Addr × List Value, j < us.length → ∃ row o k, us[j]? = some (.ref Tv.1) ∧ rows[j]? = some row ∧ At C fz₁ Tv.1 o ∧ o.cls = .type "tuple" ∧ o.data = .seq Tv.2.toArray k ∧ Vs (At C fz₁) Tv.2 row := fun j => by
    by_cases hj : j < us.length
    · have hr : j < rows.length := by omega
      obtain ⟨v, g1, g2⟩ := p4.get (i := j) (x := .tup rows[j]) (by simp [hr])
      cases g2 with
      | tup q1 q2 q3 q4 => exact ⟨(_, _), fun _ => ⟨rows[j], _, _, g1, by simp [hr], q1, q2, q3, q4⟩⟩
    · exact ⟨(0, []), fun h => absurd h hj⟩
  obtain ⟨g, hg⟩ := Classical.skolem.mp each
  have lt : ∀ j, j < us.length → (g j).1 < s₁.heap.objs.size := fun j hj => by
    obtain ⟨row, o, k, _, _, q, _⟩ := hg j hj
    exact Heap.lt_size (x1.at_ ok q)
  have W := WalksU.listOfTuples (prog := C.prog) (w := C.w) ok.handled s₁.heap.objs.size l hne us.toArray (fun j => (g j).1) (fun j => (g j).2.toArray)
    (fun j hj => by obtain ⟨row, o, k, q, _⟩ := hg j (by simpa using hj); simpa using q) (fun j hj => Nat.ne_of_lt (lt j (by simpa using hj)))
  refine wpAny_pyIter_list hl ?_
  have hp : ∀ b o, s₁.heap.get? b = some o → (s₁.heap.push { cls := .type "list_iterator", data := .fields #[.ref l, rawInt 0] }).get? b = some o := fun b o q => Heap.get?_push_of_some _ q
  refine ⟨fz₁, σ₁, s₁.heap.objs.size, [s₁.heap.objs.size], rows, (fun i h => h.IsListIter s₁.heap.objs.size l i ∧ h.IsList l us.toArray ∧ ∀ k, k < us.toArray.size → h.IsTuple (g k).1 (g k).2.toArray), fun _ => True, id, rfl, u1, e1.trans ⟨_, s₁.toks, rfl⟩, SX.ofPush (t := s₁.toks) x1, ⟨?_, ?_, ?_, ?_, fun _ _ _ => trivial, fun _ _ _ _ _ x _ => x.sr⟩, ⟨⟨_, Heap.get?_push_size _ rfl, rfl, rfl⟩, hl.at (fun o q => hp _ o q), fun k hk => ?_⟩, q1⟩
  · intro i s Q E y hy hs hQ
    have hi : i < us.toArray.size := by rw [List.size_toArray, hlen]; exact (List.getElem?_eq_some_iff.mp hy).1
    refine W.item i s Q E hi hs fun T vals h' tk hP hT hm hk => ?_
    subst hP
    obtain ⟨row, o, k, r1, r2, r3, r4, r5, r6⟩ := hg i (by simpa using hi)
    have : row = y := by rw [r2] at hy; exact Option.some.inj hy
    subst this
    refine hQ T _ h' tk r6 hT (W.apart i T h' hm) hk fun ts k pos s₂ Q₂ E₂ e2 hQ2 => ?_
    subst e2
    exact W.go ts k pos i T s₂ Q₂ E₂ hm hQ2
  · intro s Q E hs hQ
    have hz : us.toArray.size = rows.length := by rw [List.size_toArray, hlen]
    exact W.done s Q E (by rw [← hz] at hs; exact hs) fun h' tk k => hQ h' tk k trivial
  · intro i h hs b hb
    rw [List.mem_singleton.mp hb]; obtain ⟨o, h1, _⟩ := hs.1; exact ⟨o, h1⟩
  · intro i h h' hs hw hp
    refine ⟨hs.1.at fun o e => hw _ (List.mem_singleton.mpr rfl) o e, ⟨_, hp _ _ (.inl p1), p2, _, p3⟩, fun k hk => ?_⟩
    obtain ⟨row, o, k', r1, r2, r3, r4, r5, r6⟩ := hg k (by simpa using hk)
    exact ⟨o, hp _ _ (.inl r3), r4, _, r5⟩
  · obtain ⟨row, o, k', r1, r2, r3, r4, r5, r6⟩ := hg k (by simpa using hk)
    exact ⟨o, hp _ _ (x1.at_ ok r3), r4, _, r5⟩
def zipA : List AVal → List AVal → List (List AVal)
  | x :: xs, y :: ys => [x, y] :: zipA xs ys
  | _, _ => []
theorem zipA_length : ∀ {xs ys : List AVal}, (zipA xs ys).length = min xs.length ys.length
  | [], _ => by simp [zipA]
  | _ :: _, [] => by simp [zipA]
  | _ :: xs, _ :: ys => by simp [zipA, zipA_length (xs := xs) (ys := ys), Nat.succ_min_succ]
theorem zipA_get : ∀ {xs ys : List AVal} {i : Nat} {r : List AVal}, (zipA xs ys)[i]? = some r → ∃ x y, xs[i]? = some x ∧ ys[i]? = some y ∧ r = [x, y]
  | [], _, _, _, h => by simp [zipA] at h
  | _ :: _, [], _, _, h => by simp [zipA] at h
  | x :: xs, y :: ys, 0, r, h => by simp [zipA] at h; exact ⟨x, y, rfl, rfl, h.symm⟩
  | x :: xs, y :: ys, i + 1, r, h => by
    simp [zipA] at h
    obtain ⟨a, b, h1, h2, h3⟩ := zipA_get h
    exact ⟨a, b, by simpa using h1, by simpa using h2, h3⟩
/-- two frozen lists are walked side by side -/
theorem wit_zip {g : Str} {gp : Pos} {e₁ e₂ : Expr} {cp : Pos} {Q : (AHeap → AHeap) → List (List AVal) → AHeap → Prop}
    (h : WE C n f (.Name g gp) m σ fun fv σ₁ => fv = .raw (.type "zip") ∧ WL C n f [e₁, e₂] cp m σ₁ fun as σ₂ => ∃ xs ys, as = [.lst xs, .lst ys] ∧ Q id (zipA xs ys) σ₂)
    (hplain : (backTo cp (starEach [e₁, e₂] f.env)).any (·.1) = false := by rfl) : WIT C n f (.Call (.Name g gp) [e₁, e₂] [] cp) m σ Q := fun ok fz s E x => by
  refine wpAny_Call_ofName (wpAny_mono (h ok fz s E x) (fun v s₁ ⟨fz₁, σ₁, a, u1, e1, x1, va, ea, q1⟩ => ?_) fun _ _ x => x)
  subst ea; cases va
  refine cw (wpAny_mono (q1 ok fz₁ s₁ E x1) (fun vs s₂ ⟨fz₂, σ₂, as, u2, e2, x2, hvs, xs, ys, es, q2⟩ => ?_) fun _ _ x => x) hplain
  subst es
  obtain _ | ⟨h1, hvs⟩ := hvs; obtain _ | ⟨h2, hvs⟩ := hvs; cases hvs
  refine ⟨keep_type, ?_⟩
  obtain ⟨l, o, k, us, rfl, p1, p2, p3, p4⟩ := h1.lstD
  obtain ⟨l', o', k', ws, rfl, p1', p2', p3', p4'⟩ := h2.lstD
  have ho := x2.at_ ok p1
  have ho' := x2.at_ ok p1'
  have hl : s₂.heap.IsList l us.toArray := ⟨_, ho, p2, _, p3⟩
  have hl' : s₂.heap.IsList l' ws.toArray := ⟨_, ho', p2', _, p3'⟩
  have hll : l < s₂.heap.objs.size := Heap.lt_size ho
  have hll' : l' < s₂.heap.objs.size := Heap.lt_size ho'
  refine call_zip_2 hl hl' fun h' hz hTI hTO hi1 hi2 hsz kk => ?_
  have D : ZipApart (s₂.heap.objs.size + 4) (s₂.heap.objs.size + 2) (s₂.heap.objs.size + 3) s₂.heap.objs.size (s₂.heap.objs.size + 1) l l' := by
    have dl : ∀ k, l ≠ s₂.heap.objs.size + k := fun k => Nat.ne_of_lt (Nat.lt_of_lt_of_le hll (Nat.le_add_right _ _))
    have dl' : ∀ k, l' ≠ s₂.heap.objs.size + k := fun k => Nat.ne_of_lt (Nat.lt_of_lt_of_le hll' (Nat.le_add_right _ _))
    constructor <;> first | exact dl _ | exact dl' _ | exact dl 0 | exact dl' 0 | exact Nat.ne_of_lt (by omega) | exact Nat.ne_of_gt (by omega)
  have W := (WalksT.zip2 (prog := C.prog) (w := C.w) ok.handled _ _ _ _ _ _ _ D us.toArray ws.toArray)
  have st0 : IsZip h' (s₂.heap.objs.size + 4) (s₂.heap.objs.size + 2) (s₂.heap.objs.size + 3) .none ∧ IsPair h' (s₂.heap.objs.size + 2) (.ref s₂.heap.objs.size) (.ref (s₂.heap.objs.size + 1)) ∧ (∃ a b, IsPair h' (s₂.heap.objs.size + 3) a b) ∧ h'.IsListIter s₂.heap.objs.size l 0 ∧ h'.IsListIter (s₂.heap.objs.size + 1) l' 0 ∧ h'.IsList l us.toArray ∧ h'.IsList l' ws.toArray :=
    ⟨hz, hTI, ⟨_, _, hTO⟩, hi1, hi2, hl.at fun o e => kk _ o e, hl'.at fun o e => kk _ o e⟩
  refine W.self 0 _ _ _ st0 ⟨fz₂, σ₂, s₂.heap.objs.size + 4, [s₂.heap.objs.size + 4, s₂.heap.objs.size + 3, s₂.heap.objs.size, s₂.heap.objs.size + 1, s₂.heap.objs.size + 2], zipA xs ys, (fun i h => IsZip h (s₂.heap.objs.size + 4) (s₂.heap.objs.size + 2) (s₂.heap.objs.size + 3) .none ∧ IsPair h (s₂.heap.objs.size + 2) (.ref s₂.heap.objs.size) (.ref (s₂.heap.objs.size + 1)) ∧ (∃ a b, IsPair h (s₂.heap.objs.size + 3) a b) ∧ h.IsListIter s₂.heap.objs.size l i ∧ h.IsListIter (s₂.heap.objs.size + 1) l' i ∧ h.IsList l us.toArray ∧ h.IsList l' ws.toArray), fun _ => True, id, rfl, fun p hp => u2 p (u1 p hp), (e1.trans e2).trans ⟨h', s₂.toks, rfl⟩, SX.ofFresh (t := s₂.toks) x2 kk ?_, ⟨?_, ?_, ?_, ?_, fun _ _ _ => trivial, fun _ _ _ _ _ x _ => x.sr⟩, st0, q2⟩
  · intro b hb
    simp at hb
    rcases hb with rfl | rfl | rfl | rfl | rfl <;> omega
  · intro i s Q E y hy hs hQ
    obtain ⟨z, z', hz1, hz2, rfl⟩ := zipA_get hy
    have hi : i < us.toArray.size := by rw [List.size_toArray, p4.length]; exact (List.getElem?_eq_some_iff.mp hz1).1
    have hi' : i < ws.toArray.size := by rw [List.size_toArray, p4'.length]; exact (List.getElem?_eq_some_iff.mp hz2).1
    refine W.item i s Q E (by omega) hs fun T vals h' tk hP hTs hT hm hk => ?_
    obtain ⟨u, u', hu, hu', rfl⟩ := hP
    obtain ⟨w1, g1, g2⟩ := p4.get hz1
    obtain ⟨w2, g3, g4⟩ := p4'.get hz2
    have e1 : w1 = u := by have : us[i]? = some u := by simpa using hu
                           rw [g1] at this; exact Option.some.inj this
    have e2 : w2 = u' := by have : ws[i]? = some u' := by simpa using hu'
                            rw [g3] at this; exact Option.some.inj this
    subst e1; subst e2
    have hap := W.apart i T h' hm
    have hTI' : T ≠ s₂.heap.objs.size + 2 := fun q => by
      have := Heap.lt_size hs.2.1
      rw [← q] at this
      exact absurd this (Nat.not_lt.mpr hTs)
    refine hQ T [w1, w2] h' tk (.cons g2 (.cons g4 .nil)) hT (fun q => ?_) (fun b o hb e => hk b o (fun q => hb ?_) e) fun ts k pos s₃ Q₂ E₂ e3 hQ2 => ?_
    · simp only [List.mem_cons, List.not_mem_nil, or_false] at q hap
      rcases q with q | q | q | q | q
      · exact hap (.inl q)
      · exact hap (.inr (.inl q))
      · exact hap (.inr (.inr (.inl q)))
      · exact hap (.inr (.inr (.inr q)))
      · exact hTI' q
    · simp only [List.mem_cons, List.not_mem_nil, or_false] at q ⊢
      rcases q with q | q | q | q
      · exact .inl q
      · exact .inr (.inl q)
      · exact .inr (.inr (.inl q))
      · exact .inr (.inr (.inr (.inl q)))
    · subst e3
      refine W.go ts k pos i T s₃ Q₂ E₂ hm fun h₂ st k => hQ2 h₂ st fun b o hb e => k b o (fun q => hb ?_) e
      simp only [List.mem_cons, List.not_mem_nil, or_false] at q ⊢
      rcases q with q | q | q | q
      · exact .inl q
      · exact .inr (.inl q)
      · exact .inr (.inr (.inl q))
      · exact .inr (.inr (.inr (.inl q)))
  · intro s Q E hs hQ
    have hz : min us.toArray.size ws.toArray.size = (zipA xs ys).length := by rw [List.size_toArray, List.size_toArray, p4.length, p4'.length, zipA_length]
    refine W.done s Q E (by rw [hz]; exact hs) fun h' tk k => hQ h' tk (fun b o hb e => k b o (fun q => hb ?_) e) trivial
    simp only [List.mem_cons, List.not_mem_nil, or_false] at q ⊢
    rcases q with q | q | q | q
    · exact .inl q
    · exact .inr (.inl q)
    · exact .inr (.inr (.inl q))
    · exact .inr (.inr (.inr (.inl q)))
  · intro i h hs b hb
    obtain ⟨a1, a2, ⟨a, b', a3⟩, ⟨o4, a4, _⟩, ⟨o5, a5, _⟩, a6, a7⟩ := hs
    simp only [List.mem_cons, List.not_mem_nil, or_false] at hb
    rcases hb with q | q | q | q | q
    · rw [q]; exact ⟨_, a1⟩
    · rw [q]; exact ⟨_, a3⟩
    · rw [q]; exact ⟨_, a4⟩
    · rw [q]; exact ⟨_, a5⟩
    · rw [q]; exact ⟨_, a2⟩
  · intro i h h' hs hw hp
    obtain ⟨a1, a2, ⟨a, b', a3⟩, a4, a5, a6, a7⟩ := hs
    exact ⟨hw _ (by simp) _ a1, hw _ (by simp) _ a2, ⟨a, b', hw _ (by simp) _ a3⟩, a4.at fun o e => hw _ (by simp) o e, a5.at fun o e => hw _ (by simp) o e, ⟨_, hp _ _ (.inl p1), p2, _, p3⟩, ⟨_, hp _ _ (.inl p1'), p2', _, p3'⟩⟩
end
/-! ## a state by its parts -/
def up {I α : Type} [DecidableEq I] (f : I → α) (x : I) (v : α) : I → α := fun y => if y = x then v else f y
theorem up_same {I α : Type} [DecidableEq I] (f : I → α) (x : I) (v : α) : up f x v x = v := if_pos rfl
theorem up_ne {I α : Type} [DecidableEq I] (f : I → α) {x y : I} (v : α) (h : y ≠ x) : up f x v y = f y := if_neg h
def NeQ {I : Type} (ad : I → Addr) (L : I → Prop) : Prop := ∀ x y, L x → L y → x ≠ y → ad x ≠ ad y
structure Hx {I : Type} (σ : AHeap) (ad : I → Addr) (L : I → Prop) (o : I → AObj) : Prop where
  at_ : ∀ y, L y → σ (ad y) = some (o y)
  ne : NeQ ad L
section
variable {I : Type} [DecidableEq I] {σ : AHeap} {ad : I → Addr} {L : I → Prop} {o : I → AObj}
theorem Hx.set {x : I} {v : AObj} (h : Hx σ ad L o) (hx : L x) : Hx (σ.set (ad x) v) ad L (up o x v) := ⟨fun y hy => by
  by_cases e : y = x
  · subst e; rw [AHeap.set_same, up_same]
  · rw [AHeap.set_ne _ _ (h.ne y x hy hx e), up_ne _ _ e]; exact h.at_ y hy, h.ne⟩
theorem Hx.new {x : I} {v : AObj} {a : Addr} (h : Hx σ ad L o) (ha : σ a = none) (hx : ¬ L x) : Hx (σ.set a v) (up ad x a) (fun y => L y ∨ y = x) (up o x v) := by
  have na : ∀ y, L y → ad y ≠ a := fun y hy => hp_ne (h.at_ y hy) ha
  refine ⟨fun y hy => ?_, fun y z hy hz hyz => ?_⟩
  · by_cases e : y = x
    · subst e; rw [up_same, up_same, AHeap.set_same]
    · have hy' : L y := hy.resolve_right e
      rw [up_ne _ _ e, up_ne _ _ e, AHeap.set_ne _ _ (na y hy')]; exact h.at_ y hy'
  · by_cases e : y = x
    · by_cases e' : z = x
      · exact absurd (e.trans e'.symm) hyz
      · subst e; rw [up_same, up_ne _ _ e']; exact fun q => na z (hz.resolve_right e') q.symm
    · by_cases e' : z = x
      · subst e'; rw [up_same, up_ne _ _ e]; exact na y (hy.resolve_right e)
      · rw [up_ne _ _ e, up_ne _ _ e']; exact h.ne y z (hy.resolve_right e) (hz.resolve_right e') hyz
theorem Hx.sub {L' : I → Prop} (h : Hx σ ad L o) (hl : ∀ y, L' y → L y) : Hx σ ad L' o := ⟨fun y hy => h.at_ y (hl y hy), fun x y hx hy => h.ne x y (hl x hx) (hl y hy)⟩
theorem Hx.obj {o' : I → AObj} (h : Hx σ ad L o) (ho : ∀ y, L y → o y = o' y) : Hx σ ad L o' := ⟨fun y hy => by rw [← ho y hy]; exact h.at_ y hy, h.ne⟩
end
/-- the five things of a source -/
def srcV (v : Nat → AVal) : List (Str × AVal) := srcA (v 0) (v 1) (v 2) (v 3) (v 4)
end Mine

open PySem PySem.W PyProof.Rows PySem.Calls
namespace Mine
/-- the law's own frame, with cells, by the place where they begin -/
theorem enter_lawD {prog : Program} {w : World} {K : Frag} {vp : Program} {loose : List Str} {mean : ExcName → Option Value} {mg mb : Str → Option Value} {H : Heap} {L fa a : Addr} {vs : List Value} {ns : List Int} {qual : Str} {scope : Scope} {cdv : Value} {body : List Stmt} {s : Shared} {Q : Flow → Shared → Prop} {E : Value → Shared → Prop} {cells : List (Addr × Obj)} (cs : Nat → List (Str × Addr)) (ml : AVal → AEnv)
    (B : Below callerA H [] H) (X : K.In H) (T : Top vp loose mean mg mb H) (hL : H.IsList a vs.toArray) (hI : IntsAre vs ns)
    (F : Fr H L s.heap (bindL (envOfC qual scope L fa cdv).kindOf [(Str.ofString "script", Value.ref a)] fun _ => none)) (N : News H L s.heap cells)
    (Y : CellsAre (bindC (envOfC qual scope L fa cdv).kindOf [(Str.ofString "script", Value.ref a)] fun _ => none) (cellsFrom (L + 1) scope.names []) cells) (hk : scope.kind = .function) (hn : ns.length ≤ 63)
    (hcs : ∀ L : Nat, cellsFrom (L + 1) scope.names [] = cs L) (hck : ∀ p ∈ cellsFrom 0 scope.names [], scope.names.lookup p.1 ≠ some .local) (hml : ∀ v, ([(Str.ofString "script", v)].filter fun p : Str × AVal => scope.names.lookup p.1 == some .local) = ml v)
    (h : ∀ A₀ A base h₀ outer (L : Nat) (ns : List Int), ns.length ≤ 63 → WS ⟨prog, w, K, vp, loose, mean, mg, mb, H⟩ 20 ⟨A₀, A, base, h₀, outer, L, fa, qual, scope, cdv, cs L, [], none⟩ body (ml (.lst (ns.map .int))) (cellS (fun y => getA y [(Str.ofString "script", .lst (ns.map .int))]) (cs L) fun _ => none) fun fl _ _ => fl = .ret (.bool true))
    (hQ : ∀ h' tk mc', Fr H L h' mc' → Q (.ret (.bool true)) { s with heap := h', toks := tk }) :
    wpAny (model prog w) (callerA.deeper (envOfC qual scope L fa cdv)) (execs body (envOfC qual scope L fa cdv)) Q E s :=
  enter_lawC (cs L) ml B X T hL hI F N Y hk hn (hcs L) hck hml (fun A₀ A base h₀ outer ns hn => h A₀ A base h₀ outer L ns hn) hQ
theorem Hx.newL {I : Type} [DecidableEq I] {σ : AHeap} {ad : I → Addr} {xs : List I} {o : I → AObj} {a : Addr} (h : Hx σ ad (· ∈ xs) o) (x : I) (v : AObj) (ha : σ a = none) (hx : x ∉ xs) : Hx (σ.set a v) (up ad x a) (· ∈ x :: xs) (up o x v) :=
  (Hx.new h ha hx).sub fun y hy => (List.mem_cons.mp hy).elim .inr .inl
theorem Hx.nilL {I : Type} (ad : I → Addr) (o : I → AObj) : Hx (fun _ => none) ad (· ∈ ([] : List I)) o := ⟨(fun y h => nomatch h), (fun x y h => nomatch h)⟩
end Mine

open PySem PySem.W PyProof.Rows
set_option maxHeartbeats 8000000
namespace Mine
open_top hd10 for PySem.Challenge.rw_dn0301_10
end Mine

open PySem PySem.W PyProof.Rows PySem.Calls
open Mine
local macro_rules | `(tactic| walk_at "hp") => `(tactic| first
  | assumption
  | exact AHeap.set_same ..
  | (refine (AHeap.set_ne _ _ ?_).trans ?_; first | (first | assumption | exact Ne.symm (by assumption) | exact hp_ne (by assumption) (by assumption) | exact Ne.symm (hp_ne (by assumption) (by assumption)) | walk_at "hne"); walk_at "hp"))
local macro_rules | `(tactic| walk_at "we") => `(tactic| first
  | with_reducible refine we_int ?_
  | ((with_reducible refine' we_local ?h1 ?h2 ?_ ?h3 ?h4); (case h1 => rfl); (case h2 => rfl); (case h3 => decide); (case h4 => rfl))
  | ((with_reducible refine' we_cell ?h1 ?h2 ?h4 ?_ ?h3); (case h1 => rfl); (case h2 => rfl); (case h4 => walk_at "hp"); (case h3 => decide))
  | ((with_reducible refine' we_clocal ?h1 ?h2 ?h4 ?h5 ?_ ?h3); (case h1 => rfl); (case h2 => rfl); (case h4 => walk_at "hp"); (case h5 => rfl); (case h3 => decide))
  | with_reducible refine we_binop ?_
  | with_reducible refine we_str ?_
  | with_reducible refine we_none ?_
  | with_reducible refine we_bool ?_
  | with_reducible refine we_unary ?_
  | with_reducible refine we_ifexp ?_
  | with_reducible refine we_andN ?_
  | with_reducible refine we_orN ?_
  | with_reducible refine we_one ?_
  | ((with_reducible refine we_compare ?_ ?h1); (case h1 => rfl))
  | ((with_reducible refine' we_global ?h1 ?h2 ?_ ?h3); (case h1 => rfl); (case h2 => assumption); (case h3 => decide))
  | ((with_reducible refine' we_builtin ?h1 ?h2 ?h4 ?_ ?h5 ?h3); (case h1 => rfl); (case h2 => assumption); (case h4 => boot_by_name); (case h5 => decide); (case h3 => decide))
  | ((with_reducible refine we_call ?_ ?h1); (case h1 => rfl))
  | (refine we_method ?_)
  | ((with_reducible refine we_attr ?_ ?h1); (case h1 => rfl))
  | with_reducible refine we_tup ?_
  | with_reducible refine we_lst ?_
  | with_reducible refine we_sub (slice := .Name _ _) ?_
  | with_reducible refine we_sub (slice := .Constant _ _ _) ?_
  | with_reducible refine we_sub (slice := .BinOp _ _ _ _) ?_
  | with_reducible refine we_sub (slice := .UnaryOp _ _ _) ?_
  | with_reducible refine we_sub (slice := .Call _ _ _ _) ?_
  | with_reducible refine we_sub (slice := .Subscript _ _ _) ?_)
local macro_rules | `(tactic| walk_at "t2") => `(tactic| first
  | with_reducible refine t2_add ?_
  | with_reducible refine t2_sub ?_
  | with_reducible refine t2_eq ?_
  | with_reducible refine t2_ne ?_
  | with_reducible refine t2_lt ?_
  | with_reducible refine t2_gt ?_
  | ((with_reducible refine t2_div ?h1 ?h2 ?_); (case h1 => decide); (case h2 => decide))
  | ((with_reducible refine t2_mod ?h1 ?h2 ?_); (case h1 => decide); (case h2 => decide))
  | with_reducible refine t2_isNone ?_
  | with_reducible refine t2_isNotNone ?_)
local macro_rules | `(tactic| walk_at "tc") => `(tactic| first
  | with_reducible refine tc_cat1 ?_
  | walk_at "tcx"
  | ((with_reducible refine' tc_len ?h1 ?h2 ?_); (case h1 => first | rfl | exact items_obj (by walk_at "hp")); (case h2 => first | decide | (simp <;> omega)))
  | with_reducible refine tc_max ?_
  | with_reducible refine tc_min ?_)
local macro_rules | `(tactic| walk_at "fw") => `(tactic| first
  | ((with_reducible show WE _ _ _ _ _ _ _); walk_at "we")
  | ((with_reducible show WL _ _ _ _ _ _ _ _); (first | ((with_reducible refine wl_cons ?_ ?h1); (case h1 => rfl)) | with_reducible refine wl_nil ?_))
  | ((with_reducible show T2 _ _ _ _ _ _ _ _ _); walk_at "t2")
  | ((with_reducible show T1 _ _ _ _ _ _ _ _); first | with_reducible refine t1_neg ?_ | ((refine' t1_attr ?h1 ?h2 ?h3 ?h4 ?h5 ?h6 ?h7 ?_); (case h1 => walk_at "hp"); (case h2 => rfl); (case h3 => apply_assumption); (case h4 => assumption); (case h5 => assumption); (case h6 => rfl); (case h7 => first | assumption | rfl)))
  | ((with_reducible show TW _ _ _ _ _ _ _ _ _); ((refine' tw_inst ?h1 ?h2 ?h3 ?h4 ?h5 ?h6 ?_); (case h1 => walk_at "hp"); (case h2 => assumption); (case h3 => assumption); (case h4 => assumption); (case h5 => assumption); (case h6 => exact Nat.le_of_ble_eq_true (by rfl))))
  | ((with_reducible show TB _ _ _ _ _ _ _ _); with_reducible refine tb_bool ?_)
  | ((with_reducible show TG _ _ _ _ _ _ _ _); first | ((with_reducible refine' tg_fin ?h1 ?h2 ?h3 ?_); (case h1 => apply_assumption); (case h2 => assumption); (case h3 => assumption)) | ((with_reducible refine' tg_inst ?h1 ?h2 ?h3 ?h4 ?h5 ?_); (case h1 => walk_at "hp"); (case h2 => rfl); (case h3 => apply_assumption); (case h4 => assumption); (case h5 => assumption)))
  | ((with_reducible show List.length _ ≤ sizeLine ∧ _); refine And.intro (by first | decide | (simp [sizeLine_eq])) ?_)
  | ((with_reducible show (if true = true then _ else _)); rw [if_pos rfl])
  | ((with_reducible show (if false = true then _ else _)); rw [if_neg Bool.false_ne_true])
  | ((with_reducible show TC _ _ _ _ _ _ _ _); walk_at "tc")
  | ((with_reducible show WT _ _ _ _ _ _ _); first | ((with_reducible refine wt_compare ?_ ?h1); (case h1 => rfl)) | (with_reducible refine wt_bool ?_) | (with_reducible refine wt_not ?_))
  | ((with_reducible show WA _ _ _ _ _ _ _ _); first | (with_reducible refine wa_or ?_) | (with_reducible refine wa_or_nil ?_) | (with_reducible refine wa_and ?_) | (with_reducible refine wa_and_nil ?_))
  | ((with_reducible show WO _ _ _ _ _ _ _); first | (with_reducible refine wo_none ?_) | (with_reducible refine wo_some ?_))
  | ((with_reducible show WQ _ _ _ _ _ _ _); first | (with_reducible refine wq_nil ?_) | (with_reducible refine wq_one ?_))
  | ((with_reducible show WS _ _ _ _ _ _ _); (first | with_reducible refine ws_cons ?_ | with_reducible refine ws_nil ?_))
  | ((with_reducible show W1 _ _ _ _ _ _ _); (first | with_reducible refine w1_return ?_ | with_reducible refine w1_if ?_ | ((with_reducible refine w1_assign ?_ ?h1); (case h1 => rfl)) | ((with_reducible refine w1_assignT ?_ ?h1 ?h2); (case h1 => rfl); (case h2 => rfl)) | ((with_reducible refine w1_setItem ?_ ?h1); (case h1 => rfl)) | ((with_reducible refine w1_setAttr ?_ ?h1); (case h1 => rfl)) | ((with_reducible refine w1_expr ?_ ?h1 ?h2); (case h1 => rfl); (case h2 => rfl))))
  | ((with_reducible show TA _ _ _ _ _ _ _ _); (first | (refine ta_tup ?_) | (refine ta_name (ts_local (by rfl) ?_ (by rfl))) | (refine ta_name (ts_cell (by rfl) (by rfl) (by walk_at "hp") ?_)) | (with_reducible refine ta_sub ?_)))
  | ((with_reducible show TS _ _ _ _ _ _ _ _); first | (refine ts_local (by rfl) ?_ (by rfl)) | (refine ts_cell (by rfl) (by rfl) (by walk_at "hp") ?_))
  | ((with_reducible show TAs _ _ _ _ _ _ _ _); (first | (refine tas_cons ?_) | (refine tas_nil ?_)))
  | ((with_reducible show (_ = true → _) ∧ (_ = false → _)); (first | exact And.intro (fun hk => absurd hk (by decide)) (fun hk => absurd hk (by decide)) | refine And.intro (fun _ => ?_) (fun hk => absurd hk (by decide)) | refine And.intro (fun hk => absurd hk (by decide)) (fun _ => ?_) | refine And.intro (fun hk => ?_) (fun hk => ?_))))
local macro_rules | `(tactic| walk_at "fe") => `(tactic| ((fail_if_success (with_reducible show WS _ _ _ _ _ _ _)); walk_at "fw"))
namespace Mine
/-- what the text's top has -/
structure K10 (C : Cx) : Prop where
  hK : C.K = hd10.heap_39 C.w.params
  g_InputSource : nsIn C.K mainGlobals (Str.ofString "InputSource") = some (some (.ref 102))
  g__law_get : nsIn C.K mainGlobals (Str.ofString "_law_get") = some (some (.ref 113))
  g__law_set : nsIn C.K mainGlobals (Str.ofString "_law_set") = some (some (.ref 120))
  k_102 : keepIn C.K (.ref 102) = true
  k_113 : keepIn C.K (.ref 113) = true
  k_120 : keepIn C.K (.ref 120) = true
  b_divmod : nsIn C.K mainGlobals (Str.ofString "divmod") = some none
  b_len : nsIn C.K mainGlobals (Str.ofString "len") = some none
  b_range : nsIn C.K mainGlobals (Str.ofString "range") = some none
  b_zip : nsIn C.K mainGlobals (Str.ofString "zip") = some none
  mk_102 : makesIn C.K 102 = true
  pg_102 : ∀ name, plainGet C.K 102 name = true
  f_102_29 : findIn C.K (.ref 102) (Str.ofString "__init__") = some (some (.ref 29))
  i_102_29 : isFn C.K (.ref 29) = true
  k_102_29 : keepIn C.K (.ref 29) = true
  f_102_36 : findIn C.K (.ref 102) (Str.ofString "setPublicId") = some (some (.ref 36))
  i_102_36 : isFn C.K (.ref 36) = true
  k_102_36 : keepIn C.K (.ref 36) = true
  f_102_43 : findIn C.K (.ref 102) (Str.ofString "getPublicId") = some (some (.ref 43))
  i_102_43 : isFn C.K (.ref 43) = true
  k_102_43 : keepIn C.K (.ref 43) = true
  f_102_50 : findIn C.K (.ref 102) (Str.ofString "setSystemId") = some (some (.ref 50))
  i_102_50 : isFn C.K (.ref 50) = true
  k_102_50 : keepIn C.K (.ref 50) = true
  f_102_57 : findIn C.K (.ref 102) (Str.ofString "getSystemId") = some (some (.ref 57))
  i_102_57 : isFn C.K (.ref 57) = true
  k_102_57 : keepIn C.K (.ref 57) = true
  f_102_64 : findIn C.K (.ref 102) (Str.ofString "setEncoding") = some (some (.ref 64))
  i_102_64 : isFn C.K (.ref 64) = true
  k_102_64 : keepIn C.K (.ref 64) = true
  f_102_71 : findIn C.K (.ref 102) (Str.ofString "getEncoding") = some (some (.ref 71))
  i_102_71 : isFn C.K (.ref 71) = true
  k_102_71 : keepIn C.K (.ref 71) = true
  f_102_78 : findIn C.K (.ref 102) (Str.ofString "setByteStream") = some (some (.ref 78))
  i_102_78 : isFn C.K (.ref 78) = true
  k_102_78 : keepIn C.K (.ref 78) = true
  f_102_85 : findIn C.K (.ref 102) (Str.ofString "getByteStream") = some (some (.ref 85))
  i_102_85 : isFn C.K (.ref 85) = true
  k_102_85 : keepIn C.K (.ref 85) = true
  f_102_92 : findIn C.K (.ref 102) (Str.ofString "setCharacterStream") = some (some (.ref 92))
  i_102_92 : isFn C.K (.ref 92) = true
  k_102_92 : keepIn C.K (.ref 92) = true
  f_102_99 : findIn C.K (.ref 102) (Str.ofString "getCharacterStream") = some (some (.ref 99))
  i_102_99 : isFn C.K (.ref 99) = true
  k_102_99 : keepIn C.K (.ref 99) = true
  sa_102 : findIn C.K (.ref 102) "__setattr__" = some (some (.builtin "object.__setattr__"))
  po_102 : plainOver C.K 102 = true
  hd_102 : hasDictIn C.K 102 = true
  fa_102__InputSource__system_id : findIn C.K (.ref 102) (Str.ofString "_InputSource__system_id") = some none
  tk_102__InputSource__system_id : takerIn C.K 102 (Str.ofString "_InputSource__system_id") = some none
  fa_102__InputSource__public_id : findIn C.K (.ref 102) (Str.ofString "_InputSource__public_id") = some none
  tk_102__InputSource__public_id : takerIn C.K 102 (Str.ofString "_InputSource__public_id") = some none
  fa_102__InputSource__encoding : findIn C.K (.ref 102) (Str.ofString "_InputSource__encoding") = some none
  tk_102__InputSource__encoding : takerIn C.K 102 (Str.ofString "_InputSource__encoding") = some none
  fa_102__InputSource__bytefile : findIn C.K (.ref 102) (Str.ofString "_InputSource__bytefile") = some none
  tk_102__InputSource__bytefile : takerIn C.K 102 (Str.ofString "_InputSource__bytefile") = some none
  fa_102__InputSource__charfile : findIn C.K (.ref 102) (Str.ofString "_InputSource__charfile") = some none
  tk_102__InputSource__charfile : takerIn C.K 102 (Str.ofString "_InputSource__charfile") = some none
theorem k10 {C : Cx} (hK : C.K = hd10.heap_39 C.w.params) : K10 C := by
  obtain ⟨prog, w, K, vp, loose, mean, mg, mb, H⟩ := C
  dsimp only at hK
  subst hK
  constructor <;> first | kernel_rfl | rfl | (intro name; kernel_rfl)
section
variable {C : Cx} {n : Nat} {σ : AHeap} {Q : AVal → AHeap → Prop} {a : Addr} {s p e b c : AVal}
set_option maxHeartbeats 1000000 in
theorem srcInit (K : K10 C) (ha : σ a = some (.inst 102 [])) (h : Q .none (σ.set a (.inst 102 (srcA s .none .none .none .none)))) : Fn C (n + 1) 29 [.obj a, s] σ Q := by
  refine fn_plain (ns := [Str.ofString "self", Str.ofString "system_id"]) (dv := []) (da := []) (ho := by rw [K.hK]; rfl) (hcd := by rw [K.hK]; kernel_rfl) (hbind := ?_) (hd := fun _ => by first | exact .nil | exact .cons .none .nil) (hnd := by decide) (hloc := by decide) (h := ?_)
  · intro S vs hv
    match vs, hv with
    | [v1, v2], _ => first | rfl | (rw [K.hK]; rfl) | (rw [K.hK]; kernel_rfl)
  · intro A₀ A base h₀ outer L pin
    have K' := K
    cases K'
    repeat walk_at "fw"
    simp only [AHeap.set_set]
    exact ⟨_, AHeap.le_refl _, h⟩
set_option maxHeartbeats 1000000 in
theorem srcInit0 (K : K10 C) (ha : σ a = some (.inst 102 [])) (h : Q .none (σ.set a (.inst 102 (srcA .none .none .none .none .none)))) : Fn C (n + 1) 29 [.obj a] σ Q := by
  refine fn_plain (ns := [Str.ofString "self", Str.ofString "system_id"]) (dv := [.none]) (da := [.none]) (ho := by rw [K.hK]; rfl) (hcd := by rw [K.hK]; kernel_rfl) (hbind := ?_) (hd := fun _ => by first | exact .nil | exact .cons .none .nil) (hnd := by decide) (hloc := by decide) (h := ?_)
  · intro S vs hv
    match vs, hv with
    | [v1], _ => first | rfl | (rw [K.hK]; rfl) | (rw [K.hK]; kernel_rfl)
  · intro A₀ A base h₀ outer L pin
    have K' := K
    cases K'
    repeat walk_at "fw"
    simp only [AHeap.set_set]
    exact ⟨_, AHeap.le_refl _, h⟩
theorem src_setPublicId (K : K10 C) {x : AVal} (ha : σ a = some (.inst 102 (srcA s p e b c))) (h : Q .none (σ.set a (.inst 102 (srcA s x e b c)))) : Fn C (n + 1) 36 [.obj a, x] σ Q := by
  refine fn_plain (ns := [Str.ofString "self", Str.ofString "public_id"]) (dv := []) (da := []) (ho := by rw [K.hK]; rfl) (hcd := by rw [K.hK]; kernel_rfl) (hbind := ?_) (hd := fun _ => .nil) (hnd := by decide) (hloc := by decide) (h := ?_)
  · intro S vs hv
    match vs, hv with
    | [v1, v2], _ => rfl
  · intro A₀ A base h₀ outer L pin
    have K' := K
    cases K'
    repeat walk_at "fw"
    exact ⟨_, AHeap.le_refl _, h⟩
theorem src_getPublicId (K : K10 C) (ha : σ a = some (.inst 102 (srcA s p e b c))) (hh : handedA p = true) (h : Q p σ) : Fn C (n + 1) 43 [.obj a] σ Q := by
  refine fn_plain (ns := [Str.ofString "self"]) (dv := []) (da := []) (ho := by rw [K.hK]; rfl) (hcd := by rw [K.hK]; kernel_rfl) (hbind := ?_) (hd := fun _ => .nil) (hnd := by decide) (hloc := by decide) (h := ?_)
  · intro S vs hv
    match vs, hv with
    | [v], _ => rfl
  · intro A₀ A base h₀ outer L pin
    have K' := K
    cases K'
    repeat walk_at "fw"
    exact ret_le h
theorem src_setSystemId (K : K10 C) {x : AVal} (ha : σ a = some (.inst 102 (srcA s p e b c))) (h : Q .none (σ.set a (.inst 102 (srcA x p e b c)))) : Fn C (n + 1) 50 [.obj a, x] σ Q := by
  refine fn_plain (ns := [Str.ofString "self", Str.ofString "system_id"]) (dv := []) (da := []) (ho := by rw [K.hK]; rfl) (hcd := by rw [K.hK]; kernel_rfl) (hbind := ?_) (hd := fun _ => .nil) (hnd := by decide) (hloc := by decide) (h := ?_)
  · intro S vs hv
    match vs, hv with
    | [v1, v2], _ => rfl
  · intro A₀ A base h₀ outer L pin
    have K' := K
    cases K'
    repeat walk_at "fw"
    exact ⟨_, AHeap.le_refl _, h⟩
theorem src_getSystemId (K : K10 C) (ha : σ a = some (.inst 102 (srcA s p e b c))) (hh : handedA s = true) (h : Q s σ) : Fn C (n + 1) 57 [.obj a] σ Q := by
  refine fn_plain (ns := [Str.ofString "self"]) (dv := []) (da := []) (ho := by rw [K.hK]; rfl) (hcd := by rw [K.hK]; kernel_rfl) (hbind := ?_) (hd := fun _ => .nil) (hnd := by decide) (hloc := by decide) (h := ?_)
  · intro S vs hv
    match vs, hv with
    | [v], _ => rfl
  · intro A₀ A base h₀ outer L pin
    have K' := K
    cases K'
    repeat walk_at "fw"
    exact ret_le h
theorem src_setEncoding (K : K10 C) {x : AVal} (ha : σ a = some (.inst 102 (srcA s p e b c))) (h : Q .none (σ.set a (.inst 102 (srcA s p x b c)))) : Fn C (n + 1) 64 [.obj a, x] σ Q := by
  refine fn_plain (ns := [Str.ofString "self", Str.ofString "encoding"]) (dv := []) (da := []) (ho := by rw [K.hK]; rfl) (hcd := by rw [K.hK]; kernel_rfl) (hbind := ?_) (hd := fun _ => .nil) (hnd := by decide) (hloc := by decide) (h := ?_)
  · intro S vs hv
    match vs, hv with
    | [v1, v2], _ => rfl
  · intro A₀ A base h₀ outer L pin
    have K' := K
    cases K'
    repeat walk_at "fw"
    exact ⟨_, AHeap.le_refl _, h⟩
theorem src_getEncoding (K : K10 C) (ha : σ a = some (.inst 102 (srcA s p e b c))) (hh : handedA e = true) (h : Q e σ) : Fn C (n + 1) 71 [.obj a] σ Q := by
  refine fn_plain (ns := [Str.ofString "self"]) (dv := []) (da := []) (ho := by rw [K.hK]; rfl) (hcd := by rw [K.hK]; kernel_rfl) (hbind := ?_) (hd := fun _ => .nil) (hnd := by decide) (hloc := by decide) (h := ?_)
  · intro S vs hv
    match vs, hv with
    | [v], _ => rfl
  · intro A₀ A base h₀ outer L pin
    have K' := K
    cases K'
    repeat walk_at "fw"
    exact ret_le h
theorem src_setByteStream (K : K10 C) {x : AVal} (ha : σ a = some (.inst 102 (srcA s p e b c))) (h : Q .none (σ.set a (.inst 102 (srcA s p e x c)))) : Fn C (n + 1) 78 [.obj a, x] σ Q := by
  refine fn_plain (ns := [Str.ofString "self", Str.ofString "bytefile"]) (dv := []) (da := []) (ho := by rw [K.hK]; rfl) (hcd := by rw [K.hK]; kernel_rfl) (hbind := ?_) (hd := fun _ => .nil) (hnd := by decide) (hloc := by decide) (h := ?_)
  · intro S vs hv
    match vs, hv with
    | [v1, v2], _ => rfl
  · intro A₀ A base h₀ outer L pin
    have K' := K
    cases K'
    repeat walk_at "fw"
    exact ⟨_, AHeap.le_refl _, h⟩
theorem src_getByteStream (K : K10 C) (ha : σ a = some (.inst 102 (srcA s p e b c))) (hh : handedA b = true) (h : Q b σ) : Fn C (n + 1) 85 [.obj a] σ Q := by
  refine fn_plain (ns := [Str.ofString "self"]) (dv := []) (da := []) (ho := by rw [K.hK]; rfl) (hcd := by rw [K.hK]; kernel_rfl) (hbind := ?_) (hd := fun _ => .nil) (hnd := by decide) (hloc := by decide) (h := ?_)
  · intro S vs hv
    match vs, hv with
    | [v], _ => rfl
  · intro A₀ A base h₀ outer L pin
    have K' := K
    cases K'
    repeat walk_at "fw"
    exact ret_le h
theorem src_setCharacterStream (K : K10 C) {x : AVal} (ha : σ a = some (.inst 102 (srcA s p e b c))) (h : Q .none (σ.set a (.inst 102 (srcA s p e b x)))) : Fn C (n + 1) 92 [.obj a, x] σ Q := by
  refine fn_plain (ns := [Str.ofString "self", Str.ofString "charfile"]) (dv := []) (da := []) (ho := by rw [K.hK]; rfl) (hcd := by rw [K.hK]; kernel_rfl) (hbind := ?_) (hd := fun _ => .nil) (hnd := by decide) (hloc := by decide) (h := ?_)
  · intro S vs hv
    match vs, hv with
    | [v1, v2], _ => rfl
  · intro A₀ A base h₀ outer L pin
    have K' := K
    cases K'
    repeat walk_at "fw"
    exact ⟨_, AHeap.le_refl _, h⟩
theorem src_getCharacterStream (K : K10 C) (ha : σ a = some (.inst 102 (srcA s p e b c))) (hh : handedA c = true) (h : Q c σ) : Fn C (n + 1) 99 [.obj a] σ Q := by
  refine fn_plain (ns := [Str.ofString "self"]) (dv := []) (da := []) (ho := by rw [K.hK]; rfl) (hcd := by rw [K.hK]; kernel_rfl) (hbind := ?_) (hd := fun _ => .nil) (hnd := by decide) (hloc := by decide) (h := ?_)
  · intro S vs hv
    match vs, hv with
    | [v], _ => rfl
  · intro A₀ A base h₀ outer L pin
    have K' := K
    cases K'
    repeat walk_at "fw"
    exact ret_le h
end
end Mine

open PySem PySem.W PyProof.Rows PySem.Calls
local macro_rules | `(tactic| walk_at "tcx") => `(tactic| first
  | ((with_reducible refine' tc_fn ?h1 (src_getPublicId ?h2 ?h3 ?h4 ?_)); (case h1 => assumption); (case h2 => assumption); (case h3 => walk_at "hp"); (case h4 => first | rfl | assumption))
  | ((with_reducible refine' tc_fn ?h1 (src_getSystemId ?h2 ?h3 ?h4 ?_)); (case h1 => assumption); (case h2 => assumption); (case h3 => walk_at "hp"); (case h4 => first | rfl | assumption))
  | ((with_reducible refine' tc_fn ?h1 (src_getEncoding ?h2 ?h3 ?h4 ?_)); (case h1 => assumption); (case h2 => assumption); (case h3 => walk_at "hp"); (case h4 => first | rfl | assumption))
  | ((with_reducible refine' tc_fn ?h1 (src_getByteStream ?h2 ?h3 ?h4 ?_)); (case h1 => assumption); (case h2 => assumption); (case h3 => walk_at "hp"); (case h4 => first | rfl | assumption))
  | ((with_reducible refine' tc_fn ?h1 (src_getCharacterStream ?h2 ?h3 ?h4 ?_)); (case h1 => assumption); (case h2 => assumption); (case h3 => walk_at "hp"); (case h4 => first | rfl | assumption))
  | ((with_reducible refine' tc_fn ?h1 (src_setPublicId ?h2 ?h3 ?_)); (case h1 => assumption); (case h2 => assumption); (case h3 => walk_at "hp"))
  | ((with_reducible refine' tc_fn ?h1 (src_setSystemId ?h2 ?h3 ?_)); (case h1 => assumption); (case h2 => assumption); (case h3 => walk_at "hp"))
  | ((with_reducible refine' tc_fn ?h1 (src_setEncoding ?h2 ?h3 ?_)); (case h1 => assumption); (case h2 => assumption); (case h3 => walk_at "hp"))
  | ((with_reducible refine' tc_fn ?h1 (src_setByteStream ?h2 ?h3 ?_)); (case h1 => assumption); (case h2 => assumption); (case h3 => walk_at "hp"))
  | ((with_reducible refine' tc_fn ?h1 (src_setCharacterStream ?h2 ?h3 ?_)); (case h1 => assumption); (case h2 => assumption); (case h3 => walk_at "hp")))
namespace Mine

section
variable {C : Cx} {n : Nat} {σ : AHeap} {Q : AVal → AHeap → Prop}
set_option maxHeartbeats 4000000 in
theorem get10 (K : K10 C) {a : Addr} {k : Nat} {v : Nat → AVal} (hk : k < 5) (ha : σ a = some (.inst 102 (srcV v))) (hv : handedA (v k) = true) (h : Q (v k) σ) : Fn C (n + 2) 113 [.obj a, .int k] σ Q := by
  refine fn_plain (ns := [Str.ofString "source", Str.ofString "field"]) (dv := []) (da := []) (ho := by rw [K.hK]; rfl) (hcd := by rw [K.hK]; kernel_rfl) (hbind := ?_) (hd := fun _ => .nil) (hnd := by decide) (hloc := by decide) (h := ?_)
  · intro S vs hv
    match vs, hv with
    | [v1, v2], _ => rfl
  · intro A₀ A base h₀ outer L pin
    have K' := K
    cases K'
    unfold srcV at ha
    obtain rfl | rfl | rfl | rfl | rfl : k = 0 ∨ k = 1 ∨ k = 2 ∨ k = 3 ∨ k = 4 := by omega
    all_goals
      repeat walk_at "fw"
      exact ret_le h
set_option maxHeartbeats 4000000 in
theorem set10 (K : K10 C) {a : Addr} {k : Nat} {v : Nat → AVal} {x : AVal} (hk : k < 5) (ha : σ a = some (.inst 102 (srcV v))) (h : Q .none (σ.set a (.inst 102 (srcV (up v k x))))) : Fn C (n + 2) 120 [.obj a, .int k, x] σ Q := by
  refine fn_plain (ns := [Str.ofString "source", Str.ofString "field", Str.ofString "value"]) (dv := []) (da := []) (ho := by rw [K.hK]; rfl) (hcd := by rw [K.hK]; kernel_rfl) (hbind := ?_) (hd := fun _ => .nil) (hnd := by decide) (hloc := by decide) (h := ?_)
  · intro S vs hv
    match vs, hv with
    | [v1, v2, v3], _ => rfl
  · intro A₀ A base h₀ outer L pin
    have K' := K
    cases K'
    unfold srcV at ha
    obtain rfl | rfl | rfl | rfl | rfl : k = 0 ∨ k = 1 ∨ k = 2 ∨ k = 3 ∨ k = 4 := by omega
    all_goals
      repeat walk_at "fw"
      exact ret_le h
end
end Mine

open PySem PySem.W PyProof.Rows PySem.Calls
namespace Mine
abbrev Ix := Nat × Nat
def optA : Option Str → AVal
  | none => .none
  | some x => .str x
def okS (o : Option Str) : Prop := ∀ x, o = some x → PyData.strOk x = true
/-- the state's parts, as they stand -/
structure R10 where
  NS : Nat
  NR : Nat
  MS : Nat
  MC : Nat
  k : Nat
  iv : Nat → Nat → AVal
  rv : Nat → Nat → AVal
  vs : Nat → List Int
  vc : Nat → List Int
  cv : Nat → Option AVal
def row5 (v : Nat → AVal) : List AVal := [v 0, v 1, v 2, v 3, v 4]
def R10.obj (R : R10) (ad : Ix → Addr) : Ix → AObj
  | (0, i) => .cell (R.cv i)
  | (1, _) => .list ((List.range R.MS).map fun j => .obj (ad (7, j)))
  | (2, _) => .list ((List.range R.MC).map fun j => .obj (ad (8, j)))
  | (3, _) => .list ((List.range R.NS).map fun i => .obj (ad (9, i)))
  | (4, _) => .list ((List.range R.NR).map fun i => .obj (ad (6, i)))
  | (5, _) => .list (List.replicate R.k .none)
  | (6, i) => .list (row5 (R.rv i))
  | (7, j) => .list ((R.vs j).map .int)
  | (8, j) => .list ((R.vc j).map .int)
  | (_, i) => .inst 102 (srcV (R.iv i))
def R10.Live (R : R10) : Ix → Prop
  | (0, i) => i < 5
  | (1, i) => i = 0
  | (2, i) => i = 0
  | (3, i) => i = 0
  | (4, i) => i = 0
  | (5, i) => i = 0
  | (6, i) => i < R.NR
  | (7, j) => j < R.MS
  | (8, j) => j < R.MC
  | (9, i) => i < R.NS
  | _ => False
/-- fixed and moving addresses -/
def adr (fx dy : Ix → Addr) (x : Ix) : Addr := if x.1 ≤ 5 then fx x else dy x
theorem adr_up {fx dy : Ix → Addr} {k i : Nat} {a : Addr} (h : 5 < k) : up (adr fx dy) (k, i) a = adr fx (up dy (k, i) a) := by
  funext x
  unfold up adr
  by_cases e : x = (k, i)
  · subst e; simp; omega
  · simp only [if_neg e]
abbrev P10 (fx dy : Ix → Addr) (R : R10) (σ : AHeap) : Prop := Hx σ (adr fx dy) R.Live (R.obj (adr fx dy))
def fixL : List Ix := [(0, 0), (0, 1), (0, 2), (0, 3), (0, 4), (1, 0), (2, 0), (3, 0), (4, 0), (5, 0)]
def FxQ (fx : Ix → Addr) : Prop := ∀ x ∈ fixL, ∀ y ∈ fixL, x ≠ y → fx x ≠ fx y
def DQ (fx : Ix → Addr) (d : Addr) : Prop := ∀ x ∈ fixL, fx x ≠ d
theorem hfxq {fx : Ix → Addr} {x y : Ix} (h : FxQ fx) (hx : x ∈ fixL) (hy : y ∈ fixL) (hxy : x ≠ y) : fx x ≠ fx y := h x hx y hy hxy
theorem hdq {fx : Ix → Addr} {x : Ix} {d : Addr} (h : DQ fx d) (hx : x ∈ fixL) : fx x ≠ d := h x hx
theorem fix_live {R : R10} {x : Ix} (h : x ∈ fixL) : R.Live x ∧ x.1 ≤ 5 := by
  simp only [fixL, List.mem_cons, List.not_mem_nil, or_false] at h
  rcases h with rfl | rfl | rfl | rfl | rfl | rfl | rfl | rfl | rfl | rfl
  all_goals simp [R10.Live]
section
variable {fx dy : Ix → Addr} {R : R10} {σ : AHeap}
theorem P10.fxq (H : P10 fx dy R σ) : FxQ fx := fun x hx y hy hxy => by
  obtain ⟨l1, k1⟩ := fix_live (R := R) hx
  obtain ⟨l2, k2⟩ := fix_live (R := R) hy
  have := H.ne x y l1 l2 hxy
  unfold adr at this
  rwa [if_pos k1, if_pos k2] at this
theorem P10.dq (H : P10 fx dy R σ) {k i : Nat} (hk : 5 < k) (hl : R.Live (k, i)) : DQ fx (dy (k, i)) := fun x hx => by
  obtain ⟨l1, k1⟩ := fix_live (R := R) hx
  have := H.ne x (k, i) l1 hl (fun e => by rw [e] at k1; simp at k1; omega)
  unfold adr at this
  rwa [if_pos k1, if_neg (by simp; omega)] at this
theorem P10.dd (H : P10 fx dy R σ) {k i k' i' : Nat} (hk : 5 < k) (hk' : 5 < k') (hl : R.Live (k, i)) (hl' : R.Live (k', i')) (h : (k, i) ≠ (k', i')) : dy (k, i) ≠ dy (k', i') := by
  have := H.ne (k, i) (k', i') hl hl' h
  unfold adr at this
  rwa [if_neg (by simp; omega), if_neg (by simp; omega)] at this
theorem P10.cell {i : Nat} {v : Option AVal} (H : P10 fx dy R σ) (hi : i < 5) : P10 fx dy { R with cv := up R.cv i v } (σ.set (fx (0, i)) (.cell v)) := by
  refine Hx.obj (Hx.set (x := (0, i)) H hi) fun y hy => ?_
  obtain ⟨k, j⟩ := y
  by_cases e : (k, j) = (0, i)
  · cases e; simp [up, R10.obj]
  · rw [up_ne _ _ e]
    rcases k with _ | _ | _ | _ | _ | _ | _ | _ | _ | k <;> first | rfl | skip
    have : j ≠ i := fun q => e (by rw [q])
    simp [R10.obj, up, this]
theorem P10.ans (H : P10 fx dy R σ) : P10 fx dy { R with k := R.k + 1 } (σ.set (fx (5, 0)) (.list (List.replicate R.k .none ++ [.none]))) := by
  refine Hx.obj (Hx.set (x := (5, 0)) H rfl) fun y hy => ?_
  obtain ⟨k, j⟩ := y
  by_cases e : (k, j) = (5, 0)
  · cases e; simp [up, R10.obj, List.replicate_succ']
  · rw [up_ne _ _ e]
    rcases k with _ | _ | _ | _ | _ | _ | _ | _ | _ | k <;> first | rfl | skip
    have : j = 0 := hy
    exact absurd (by rw [this]) e
theorem P10.rec {p : Nat} {w : Nat → AVal} (H : P10 fx dy R σ) (hp : p < R.NR) : P10 fx dy { R with rv := up R.rv p w } (σ.set (dy (6, p)) (.list (row5 w))) := by
  refine Hx.obj (Hx.set (x := (6, p)) H hp) fun y hy => ?_
  obtain ⟨k, j⟩ := y
  by_cases e : (k, j) = (6, p)
  · cases e; simp [up, R10.obj]
  · rw [up_ne _ _ e]
    rcases k with _ | _ | _ | _ | _ | _ | _ | _ | _ | k <;> first | rfl | skip
    have : j ≠ p := fun q => e (by rw [q])
    simp [R10.obj, up, this]
theorem P10.src {p : Nat} {w : Nat → AVal} (H : P10 fx dy R σ) (hp : p < R.NS) : P10 fx dy { R with iv := up R.iv p w } (σ.set (dy (9, p)) (.inst 102 (srcV w))) := by
  refine Hx.obj (Hx.set (x := (9, p)) H hp) fun y hy => ?_
  obtain ⟨k, j⟩ := y
  by_cases e : (k, j) = (9, p)
  · cases e; simp [up, R10.obj]
  · rw [up_ne _ _ e]
    rcases k with _ | _ | _ | _ | _ | _ | _ | _ | _ | _ | k <;> first | rfl | exact hy.elim | skip
    have : j ≠ p := fun q => e (by rw [q])
    simp [R10.obj, up, this]
theorem P10.str {p : Nat} {l : List Int} (H : P10 fx dy R σ) (hp : p < R.MS) : P10 fx dy { R with vs := up R.vs p l } (σ.set (dy (7, p)) (.list (l.map .int))) := by
  refine Hx.obj (Hx.set (x := (7, p)) H hp) fun y hy => ?_
  obtain ⟨k, j⟩ := y
  by_cases e : (k, j) = (7, p)
  · cases e; simp [up, R10.obj]
  · rw [up_ne _ _ e]
    rcases k with _ | _ | _ | _ | _ | _ | _ | _ | _ | k <;> first | rfl | skip
    have : j ≠ p := fun q => e (by rw [q])
    simp [R10.obj, up, this]
theorem P10.con {p : Nat} {l : List Int} (H : P10 fx dy R σ) (hp : p < R.MC) : P10 fx dy { R with vc := up R.vc p l } (σ.set (dy (8, p)) (.list (l.map .int))) := by
  refine Hx.obj (Hx.set (x := (8, p)) H hp) fun y hy => ?_
  obtain ⟨k, j⟩ := y
  by_cases e : (k, j) = (8, p)
  · cases e; simp [up, R10.obj]
  · rw [up_ne _ _ e]
    rcases k with _ | _ | _ | _ | _ | _ | _ | _ | _ | k <;> first | rfl | skip
    have : j ≠ p := fun q => e (by rw [q])
    simp [R10.obj, up, this]
theorem range_up {n : Nat} {k : Nat} {a : Addr} {ad : Ix → Addr} : (List.range (n + 1)).map (fun j => AVal.obj (up ad (k, n) a (k, j))) = (List.range n).map (fun j => AVal.obj (ad (k, j))) ++ [.obj a] := by
  rw [List.range_succ, List.map_append]
  congr 1
  · refine List.map_congr_left fun j hj => ?_
    have : (k, j) ≠ (k, n) := fun e => by cases e; simp at hj
    rw [up_ne _ _ this]
  · simp [up]
theorem range_off {n k k' i : Nat} {a : Addr} {ad : Ix → Addr} (h : k ≠ k') : (List.range n).map (fun j => AVal.obj (up ad (k', i) a (k, j))) = (List.range n).map (fun j => AVal.obj (ad (k, j))) := by
  refine List.map_congr_left fun j hj => ?_
  rw [up_ne _ _ (fun e => h (by cases e; rfl))]
theorem P10.newStr {a : Addr} (H : P10 fx dy R σ) (ha : σ a = none) : P10 fx (up dy (7, R.MS) a) { R with MS := R.MS + 1, vs := up R.vs R.MS [] } ((σ.set a (.list [])).set (fx (1, 0)) (.list ((List.range R.MS).map (fun j => .obj (dy (7, j))) ++ [.obj a]))) := by
  have H1 := Hx.new (x := (7, R.MS)) (v := .list []) H ha (fun h => Nat.lt_irrefl _ h)
  have H2 := Hx.set (x := (1, 0)) (v := .list ((List.range R.MS).map (fun j => .obj (dy (7, j))) ++ [.obj a])) H1 (.inl rfl)
  rw [adr_up (by omega)] at H2
  refine Hx.obj (Hx.sub H2 fun y hy => ?_) fun y hy => ?_
  · obtain ⟨k, j⟩ := y
    rcases k with _ | _ | _ | _ | _ | _ | _ | _ | _ | _ | k <;> first | exact .inl hy | skip
    rcases Nat.lt_succ_iff_lt_or_eq.mp hy with h | h
    · exact .inl h
    · exact .inr (by rw [h])
  · obtain ⟨k, j⟩ := y
    rcases k with _ | _ | _ | _ | _ | _ | _ | _ | _ | _ | k
    · simp [up, R10.obj]
    · have : j = 0 := hy
      subst this
      simp only [up_same]
      show AObj.list _ = AObj.list ((List.range (R.MS + 1)).map fun j => .obj (up dy (7, R.MS) a (7, j)))
      rw [range_up]
    · simp [up, R10.obj, adr]
    · simp [up, R10.obj, adr]
    · simp [up, R10.obj, adr]
    · simp [up, R10.obj]
    · simp [up, R10.obj]
    · by_cases e : j = R.MS
      · subst e; simp [up, R10.obj]
      · simp [up, R10.obj, e]
    · simp [up, R10.obj]
    · simp [up, R10.obj]
    · exact hy.elim
theorem P10.newCon {a : Addr} (H : P10 fx dy R σ) (ha : σ a = none) : P10 fx (up dy (8, R.MC) a) { R with MC := R.MC + 1, vc := up R.vc R.MC [] } ((σ.set a (.list [])).set (fx (2, 0)) (.list ((List.range R.MC).map (fun j => .obj (dy (8, j))) ++ [.obj a]))) := by
  have H1 := Hx.new (x := (8, R.MC)) (v := .list []) H ha (fun h => Nat.lt_irrefl _ h)
  have H2 := Hx.set (x := (2, 0)) (v := .list ((List.range R.MC).map (fun j => .obj (dy (8, j))) ++ [.obj a])) H1 (.inl rfl)
  rw [adr_up (by omega)] at H2
  refine Hx.obj (Hx.sub H2 fun y hy => ?_) fun y hy => ?_
  · obtain ⟨k, j⟩ := y
    rcases k with _ | _ | _ | _ | _ | _ | _ | _ | _ | _ | k <;> first | exact .inl hy | skip
    rcases Nat.lt_succ_iff_lt_or_eq.mp hy with h | h
    · exact .inl h
    · exact .inr (by rw [h])
  · obtain ⟨k, j⟩ := y
    rcases k with _ | _ | _ | _ | _ | _ | _ | _ | _ | _ | k
    · simp [up, R10.obj]
    · simp [up, R10.obj, adr]
    · have : j = 0 := hy
      subst this
      simp only [up_same]
      show AObj.list _ = AObj.list ((List.range (R.MC + 1)).map fun j => .obj (up dy (8, R.MC) a (8, j)))
      rw [range_up]
    · simp [up, R10.obj, adr]
    · simp [up, R10.obj, adr]
    · simp [up, R10.obj]
    · simp [up, R10.obj]
    · simp [up, R10.obj]
    · by_cases e : j = R.MC
      · subst e; simp [up, R10.obj]
      · simp [up, R10.obj, e]
    · simp [up, R10.obj]
    · exact hy.elim
theorem P10.newSrc {a : Addr} {w : Nat → AVal} (H : P10 fx dy R σ) (ha : σ a = none) : P10 fx (up dy (9, R.NS) a) { R with NS := R.NS + 1, iv := up R.iv R.NS w } ((σ.set a (.inst 102 (srcV w))).set (fx (3, 0)) (.list ((List.range R.NS).map (fun j => .obj (dy (9, j))) ++ [.obj a]))) := by
  have H1 := Hx.new (x := (9, R.NS)) (v := .inst 102 (srcV w)) H ha (fun h => Nat.lt_irrefl _ h)
  have H2 := Hx.set (x := (3, 0)) (v := .list ((List.range R.NS).map (fun j => .obj (dy (9, j))) ++ [.obj a])) H1 (.inl rfl)
  rw [adr_up (by omega)] at H2
  refine Hx.obj (Hx.sub H2 fun y hy => ?_) fun y hy => ?_
  · obtain ⟨k, j⟩ := y
    rcases k with _ | _ | _ | _ | _ | _ | _ | _ | _ | _ | k <;> first | exact .inl hy | skip
    rcases Nat.lt_succ_iff_lt_or_eq.mp hy with h | h
    · exact .inl h
    · exact .inr (by rw [h])
  · obtain ⟨k, j⟩ := y
    rcases k with _ | _ | _ | _ | _ | _ | _ | _ | _ | _ | k
    · simp [up, R10.obj]
    · simp [up, R10.obj, adr]
    · simp [up, R10.obj, adr]
    · have : j = 0 := hy
      subst this
      simp only [up_same]
      show AObj.list _ = AObj.list ((List.range (R.NS + 1)).map fun j => .obj (up dy (9, R.NS) a (9, j)))
      rw [range_up]
    · simp [up, R10.obj, adr]
    · simp [up, R10.obj]
    · simp [up, R10.obj]
    · simp [up, R10.obj]
    · simp [up, R10.obj]
    · by_cases e : j = R.NS
      · subst e; simp [up, R10.obj]
      · simp [up, R10.obj, e]
    · exact hy.elim
theorem P10.newRec {a : Addr} {w : Nat → AVal} (H : P10 fx dy R σ) (ha : σ a = none) : P10 fx (up dy (6, R.NR) a) { R with NR := R.NR + 1, rv := up R.rv R.NR w } ((σ.set a (.list (row5 w))).set (fx (4, 0)) (.list ((List.range R.NR).map (fun j => .obj (dy (6, j))) ++ [.obj a]))) := by
  have H1 := Hx.new (x := (6, R.NR)) (v := .list (row5 w)) H ha (fun h => Nat.lt_irrefl _ h)
  have H2 := Hx.set (x := (4, 0)) (v := .list ((List.range R.NR).map (fun j => .obj (dy (6, j))) ++ [.obj a])) H1 (.inl rfl)
  rw [adr_up (by omega)] at H2
  refine Hx.obj (Hx.sub H2 fun y hy => ?_) fun y hy => ?_
  · obtain ⟨k, j⟩ := y
    rcases k with _ | _ | _ | _ | _ | _ | _ | _ | _ | _ | k <;> first | exact .inl hy | skip
    rcases Nat.lt_succ_iff_lt_or_eq.mp hy with h | h
    · exact .inl h
    · exact .inr (by rw [h])
  · obtain ⟨k, j⟩ := y
    rcases k with _ | _ | _ | _ | _ | _ | _ | _ | _ | _ | k
    · simp [up, R10.obj]
    · simp [up, R10.obj, adr]
    · simp [up, R10.obj, adr]
    · simp [up, R10.obj, adr]
    · have : j = 0 := hy
      subst this
      simp only [up_same]
      show AObj.list _ = AObj.list ((List.range (R.NR + 1)).map fun j => .obj (up dy (6, R.NR) a (6, j)))
      rw [range_up]
    · simp [up, R10.obj]
    · by_cases e : j = R.NR
      · subst e; simp [up, R10.obj]
      · simp [up, R10.obj, e]
    · simp [up, R10.obj]
    · simp [up, R10.obj]
    · simp [up, R10.obj]
    · exact hy.elim
end
/-- a source's thing and what is due for it -/
def Lk (dy : Ix → Addr) (M f : Nat) (x y : AVal) : Prop := (f < 3 ∧ ∃ o, okS o ∧ x = optA o ∧ y = optA o) ∨ (3 ≤ f ∧ ((x = .none ∧ y = .none) ∨ ∃ j, j < M ∧ x = .obj (dy (7, j)) ∧ y = .int (j : Int)))
structure G10 (fx dy : Ix → Addr) (R : R10) (b : Nat) (σ : AHeap) : Prop where
  H : P10 fx dy R σ
  eN : R.NR = R.NS
  eM : R.MC = R.MS
  ev : ∀ j, j < R.MS → R.vc j = R.vs j
  pos : 0 < R.NS
  hN : R.NS ≤ b + 1
  hM : R.MS ≤ b + 2
  hk : R.k ≤ 5 * b + 4
  hv : ∀ j, j < R.MS → (R.vs j).length ≤ b + 1
  lk : ∀ i, i < R.NS → ∀ f, f < 5 → Lk dy R.MS f (R.iv i f) (R.rv i f)
  con : R.cv 0 = some (.obj (fx (2, 0)))
theorem Lk.handed {dy : Ix → Addr} {M f : Nat} {x y : AVal} (h : Lk dy M f x y) : handedA x = true := by
  rcases h with ⟨_, o, _, rfl, _⟩ | ⟨_, ⟨rfl, _⟩ | ⟨j, _, rfl, _⟩⟩
  · cases o <;> rfl
  · rfl
  · rfl
theorem Lk.more {dy dy' : Ix → Addr} {M M' f : Nat} {x y : AVal} (h : Lk dy M f x y) (hM : M ≤ M') (hd : ∀ j, j < M → dy' (7, j) = dy (7, j)) : Lk dy' M' f x y := by
  rcases h with h | ⟨h, h' | ⟨j, hj, hx, hy⟩⟩
  · exact .inl h
  · exact .inr ⟨h, .inl h'⟩
  · exact .inr ⟨h, .inr ⟨j, by omega, by rw [hd j hj]; exact hx, hy⟩⟩
theorem Lk.non {dy : Ix → Addr} {M f : Nat} : Lk dy M f .none .none := by
  by_cases h : f < 3
  · exact .inl ⟨h, none, (fun x e => by cases e), rfl, rfl⟩
  · exact .inr ⟨by omega, .inl ⟨rfl, rfl⟩⟩
theorem row5_set {v : Nat → AVal} {f : Nat} {x : AVal} (h : f < 5) : (row5 v).set f x = row5 (up v f x) := by
  obtain rfl | rfl | rfl | rfl | rfl : f = 0 ∨ f = 1 ∨ f = 2 ∨ f = 3 ∨ f = 4 := by omega
  all_goals rfl
theorem row5_get {v : Nat → AVal} {f : Nat} (h : f < 5) : (row5 v)[f]? = some (v f) := by
  obtain rfl | rfl | rfl | rfl | rfl : f = 0 ∨ f = 1 ∨ f = 2 ∨ f = 3 ∨ f = 4 := by omega
  all_goals rfl
theorem at_range {n : Nat} {g : Nat → AVal} {i : Nat} (h : i < n) : ((List.range n).map g)[i]? = some (g i) := by simp [h]
def cl10 (fx : Ix → Addr) : List (Str × Addr) := [(Str.ofString "taken", fx (0, 4)), (Str.ofString "due", fx (0, 3)), (Str.ofString "source", fx (0, 2)), (Str.ofString "more", fx (0, 1)), (Str.ofString "content", fx (0, 0))]
def env10 (fx : Ix → Addr) (T : AVal) : AEnv := [(Str.ofString "script", T), (Str.ofString "streams", .obj (fx (1, 0))), (Str.ofString "answers", .obj (fx (5, 0))), (Str.ofString "sources", .obj (fx (3, 0))), (Str.ofString "record", .obj (fx (4, 0)))]
def Post10 (fx : Ix → Addr) (b : Nat) (T : AVal) (fl : AFlow) (m' : AEnv) (σ : AHeap) : Prop := fl = .next ∧ (∃ dy R, G10 fx dy R (b + 1) σ) ∧ Has m' (env10 fx T)
end Mine

open PySem PySem.W PyProof.Rows PySem.Calls
local macro_rules | `(tactic| walk_at "hne") => `(tactic| first
  | exact hfxq (by assumption) (by decide) (by decide) (by decide)
  | exact hdq (by assumption) (by decide)
  | exact Ne.symm (hdq (by assumption) (by decide)))
namespace Mine

section
variable {C : Cx} {fx dy : Ix → Addr} {R : R10} {b : Nat} {σ : AHeap}
theorem pickT {i : Int} (h0 : 0 ≤ i) (h1 : i < 4) : ∃ o, okS o ∧ ([.none, .str (Str.ofString ""), .str (Str.ofString "d"), .str (Str.ofString "UTF-8")] : List AVal)[i.toNat]? = some (optA o) := by
  obtain rfl | rfl | rfl | rfl : i = 0 ∨ i = 1 ∨ i = 2 ∨ i = 3 := by omega
  · exact ⟨none, (fun x e => by cases e), rfl⟩
  · exact ⟨some _, (fun x e => by cases e; decide +kernel), rfl⟩
  · exact ⟨some _, (fun x e => by cases e; decide +kernel), rfl⟩
  · exact ⟨some _, (fun x e => by cases e; decide +kernel), rfl⟩
/-- one thing of one source is set, and its due -/
theorem G10.field {p f : Nat} {x y : AVal} (G : G10 fx dy R b σ) (hp : p < R.NS) (hf : f < 5) (hl : Lk dy R.MS f x y) :
    G10 fx dy { R with rv := up R.rv p (up (R.rv p) f y), iv := up R.iv p (up (R.iv p) f x), k := R.k + 1 } (b + 1) (((σ.set (dy (6, p)) (.list (row5 (up (R.rv p) f y)))).set (dy (9, p)) (.inst 102 (srcV (up (R.iv p) f x)))).set (fx (5, 0)) (.list (List.replicate R.k .none ++ [.none]))) := by
  have := G.hN; have := G.hM; have := G.hk
  refine ⟨((G.H.rec (by rw [G.eN]; exact hp)).src hp).ans, G.eN, G.eM, G.ev, G.pos, by simp; omega, by simp; omega, by simp; omega, fun j hj => by have := G.hv j hj; simp; omega, fun i hi g hg => ?_, G.con⟩
  by_cases e : i = p
  · subst e
    simp only [up_same]
    by_cases e' : g = f
    · subst e'; simp only [up_same]; exact hl
    · rw [up_ne _ _ e', up_ne _ _ e']; exact G.lk i hi g hg
  · simp only [up_ne _ _ e]; exact G.lk i hi g hg
set_option maxHeartbeats 4000000 in
theorem brB (K : K10 C) {u mo : Int} {p : Nat} {T : AVal} (G : G10 fx dy R b σ) (hb : b ≤ 65) (hp : p < R.NS) (h1 : R.cv 1 = some (.int mo)) (h2 : R.cv 2 = some (.obj (dy (9, p)))) (h3 : R.cv 3 = some (.obj (dy (6, p)))) :
    Seg PySem.Challenge.pw_dn0301_10 5 [(3, 0), (2, 1), (0, 0)] 0 fun scope ss => ∀ A₀ A base h₀ outer L fa cdv pin, WS C 20 ⟨A₀, A, base, h₀, outer, L, fa, Str.ofString "law", scope, cdv, cl10 fx, pin, none⟩ ss
      ((Str.ofString "x", .int u) :: (Str.ofString "place", .int p) :: env10 fx T) σ (Post10 fx b T) := by
  refine seg_intro (by rfl) ?_
  intro A₀ A base h₀ outer L fa cdv pin
  have K' := K
  cases K'
  dsimp only [cl10, env10]
  have FQ := P10.fxq G.H
  have hpos := G.pos
  have hN := G.hN
  have hM := G.hM
  have hk := G.hk
  have c0 : σ (fx (0, 0)) = some (.cell (some (.obj (fx (2, 0))))) := by rw [← G.con]; exact G.H.at_ (0, 0) (by show 0 < 5; omega)
  have c1 : σ (fx (0, 1)) = some (.cell (some (.int mo))) := by rw [← h1]; exact G.H.at_ (0, 1) (by show 1 < 5; omega)
  have c2 : σ (fx (0, 2)) = some (.cell (some (.obj (dy (9, p))))) := by rw [← h2]; exact G.H.at_ (0, 2) (by show 2 < 5; omega)
  have c3 : σ (fx (0, 3)) = some (.cell (some (.obj (dy (6, p))))) := by rw [← h3]; exact G.H.at_ (0, 3) (by show 3 < 5; omega)
  have c4 : σ (fx (0, 4)) = some (.cell (R.cv 4)) := G.H.at_ (0, 4) (by show 4 < 5; omega)
  have o1 : σ (fx (1, 0)) = some (.list ((List.range R.MS).map fun j => .obj (dy (7, j)))) := G.H.at_ (1, 0) rfl
  have o2 : σ (fx (2, 0)) = some (.list ((List.range R.MC).map fun j => .obj (dy (8, j)))) := G.H.at_ (2, 0) rfl
  have o3 : σ (fx (3, 0)) = some (.list ((List.range R.NS).map fun i => .obj (dy (9, i)))) := G.H.at_ (3, 0) rfl
  have o4 : σ (fx (4, 0)) = some (.list ((List.range R.NR).map fun i => .obj (dy (6, i)))) := G.H.at_ (4, 0) rfl
  have o5 : σ (fx (5, 0)) = some (.list (List.replicate R.k .none)) := G.H.at_ (5, 0) rfl
  have hpR : p < R.NR := by rw [G.eN]; exact hp
  have d6 : DQ fx (dy (6, p)) := P10.dq G.H (by omega) hpR
  have d9 : DQ fx (dy (9, p)) := P10.dq G.H (by omega) hp
  have d69 : dy (6, p) ≠ dy (9, p) := P10.dd G.H (by omega) (by omega) hpR hp (by simp)
  have o6 : σ (dy (6, p)) = some (.list (row5 (R.rv p))) := G.H.at_ (6, p) hpR
  have o9 : σ (dy (9, p)) = some (.inst 102 (srcV (R.iv p))) := G.H.at_ (9, p) hp
  obtain ⟨f0, f1⟩ := fmod_range mo (y := 3) (by decide)
  obtain ⟨t0, t1⟩ := fmod_range (mo.fdiv 3) (y := 4) (by decide)
  generalize hfe : mo.fmod 3 = f at f0 f1
  obtain ⟨f, rfl⟩ : ∃ f' : Nat, f = f' := ⟨f.toNat, by omega⟩
  obtain ⟨o, ho, hoe⟩ := pickT t0 t1
  repeat walk_at "fw"
  rw [hfe]
  refine t2_item (y := optA o) rfl (by omega) (by omega) hoe ?_
  repeat walk_at "fw"
  refine tu_list o6 (by omega) (by show (f : Int) < 5; omega) (by omega) ?_
  rw [show ((f : Int)).toNat = f from rfl, row5_set (by omega)]
  repeat walk_at "fw"
  refine tg_listM (by walk_at "hp") PySem.F.slot_list_append PySem.F.type_list_append ?_
  repeat walk_at "fw"
  refine t2_item (y := optA o) (items_obj (AHeap.set_same ..)) (by omega) (by omega) (by rw [show ((f : Int)).toNat = f from rfl, row5_get (by omega), up_same]) ?_
  repeat walk_at "fw"
  refine tc_fn (by assumption) (set10 K (by omega) (by walk_at "hp") ?_)
  repeat walk_at "fw"
  refine tc_append (by walk_at "hp") (by simp [sizeLine_eq]; omega) ?_
  repeat walk_at "fw"
  exact ⟨rfl, ⟨dy, _, G.field hp (by omega) (.inl ⟨by omega, o, ho, rfl, rfl⟩)⟩, rfl, rfl, rfl, rfl, rfl, trivial⟩
set_option maxHeartbeats 4000000 in
theorem brC (K : K10 C) {u mo : Int} {p : Nat} {T : AVal} (G : G10 fx dy R b σ) (hb : b ≤ 65) (hp : p < R.NS) (h1 : R.cv 1 = some (.int mo)) (h2 : R.cv 2 = some (.obj (dy (9, p)))) (h3 : R.cv 3 = some (.obj (dy (6, p)))) :
    Seg PySem.Challenge.pw_dn0301_10 5 [(3, 0), (2, 1), (0, 1), (0, 0)] 0 fun scope ss => ∀ A₀ A base h₀ outer L fa cdv pin, WS C 20 ⟨A₀, A, base, h₀, outer, L, fa, Str.ofString "law", scope, cdv, cl10 fx, pin, none⟩ ss
      ((Str.ofString "x", .int u) :: (Str.ofString "place", .int p) :: env10 fx T) σ (Post10 fx b T) := by
  refine seg_intro (by rfl) ?_
  intro A₀ A base h₀ outer L fa cdv pin
  have K' := K
  cases K'
  dsimp only [cl10, env10]
  have FQ := P10.fxq G.H
  have hpos := G.pos
  have hN := G.hN
  have hM := G.hM
  have hk := G.hk
  have c0 : σ (fx (0, 0)) = some (.cell (some (.obj (fx (2, 0))))) := by rw [← G.con]; exact G.H.at_ (0, 0) (by show 0 < 5; omega)
  have c1 : σ (fx (0, 1)) = some (.cell (some (.int mo))) := by rw [← h1]; exact G.H.at_ (0, 1) (by show 1 < 5; omega)
  have c2 : σ (fx (0, 2)) = some (.cell (some (.obj (dy (9, p))))) := by rw [← h2]; exact G.H.at_ (0, 2) (by show 2 < 5; omega)
  have c3 : σ (fx (0, 3)) = some (.cell (some (.obj (dy (6, p))))) := by rw [← h3]; exact G.H.at_ (0, 3) (by show 3 < 5; omega)
  have c4 : σ (fx (0, 4)) = some (.cell (R.cv 4)) := G.H.at_ (0, 4) (by show 4 < 5; omega)
  have o1 : σ (fx (1, 0)) = some (.list ((List.range R.MS).map fun j => .obj (dy (7, j)))) := G.H.at_ (1, 0) rfl
  have o2 : σ (fx (2, 0)) = some (.list ((List.range R.MC).map fun j => .obj (dy (8, j)))) := G.H.at_ (2, 0) rfl
  have o3 : σ (fx (3, 0)) = some (.list ((List.range R.NS).map fun i => .obj (dy (9, i)))) := G.H.at_ (3, 0) rfl
  have o4 : σ (fx (4, 0)) = some (.list ((List.range R.NR).map fun i => .obj (dy (6, i)))) := G.H.at_ (4, 0) rfl
  have o5 : σ (fx (5, 0)) = some (.list (List.replicate R.k .none)) := G.H.at_ (5, 0) rfl
  have hpR : p < R.NR := by rw [G.eN]; exact hp
  have d6 : DQ fx (dy (6, p)) := P10.dq G.H (by omega) hpR
  have d9 : DQ fx (dy (9, p)) := P10.dq G.H (by omega) hp
  have d69 : dy (6, p) ≠ dy (9, p) := P10.dd G.H (by omega) (by omega) hpR hp (by simp)
  have o6 : σ (dy (6, p)) = some (.list (row5 (R.rv p))) := G.H.at_ (6, p) hpR
  have o9 : σ (dy (9, p)) = some (.inst 102 (srcV (R.iv p))) := G.H.at_ (9, p) hp
  obtain ⟨f0, f1⟩ := fmod_range mo (y := 2) (by decide)
  obtain ⟨f, hfe⟩ : ∃ f' : Nat, 3 + mo.fmod 2 = f' := ⟨(3 + mo.fmod 2).toNat, by omega⟩
  have hf3 : 3 ≤ f := by omega
  have hf5 : f < 5 := by omega
  repeat walk_at "fw"
  rw [hfe]
  refine tu_list o6 (by omega) (by show (f : Int) < 5; omega) (by omega) ?_
  rw [show ((f : Int)).toNat = f from rfl, row5_set (by omega)]
  repeat walk_at "fw"
  refine tg_listM (by walk_at "hp") PySem.F.slot_list_append PySem.F.type_list_append ?_
  repeat walk_at "fw"
  rw [hfe]
  refine tc_fn (by assumption) (set10 K (by omega) (by walk_at "hp") ?_)
  repeat walk_at "fw"
  refine tc_append (by walk_at "hp") (by simp [sizeLine_eq]; omega) ?_
  repeat walk_at "fw"
  exact ⟨rfl, ⟨dy, _, G.field hp (by omega) Lk.non⟩, rfl, rfl, rfl, rfl, rfl, trivial⟩
end
end Mine

open PySem PySem.W PyProof.Rows PySem.Calls
namespace Mine

section
variable {C : Cx} {fx dy : Ix → Addr} {R : R10} {b : Nat} {σ : AHeap}
theorem set_none {σ : AHeap} {x a : Addr} {o : AObj} (h : (σ.set x o) a = none) : a ≠ x ∧ σ a = none := by
  by_cases e : a = x
  · subst e; rw [AHeap.set_same] at h; cases h
  · rw [AHeap.set_ne _ _ e] at h; exact ⟨e, h⟩
set_option maxHeartbeats 4000000 in
theorem brD (K : K10 C) {u mo : Int} {p : Nat} {T : AVal} (G : G10 fx dy R b σ) (hb : b ≤ 65) (hp : p < R.NS) (h1 : R.cv 1 = some (.int mo)) (h2 : R.cv 2 = some (.obj (dy (9, p)))) (h3 : R.cv 3 = some (.obj (dy (6, p)))) :
    Seg PySem.Challenge.pw_dn0301_10 5 [(3, 0), (2, 1), (0, 1), (0, 1), (0, 0)] 0 fun scope ss => ∀ A₀ A base h₀ outer L fa cdv pin, WS C 20 ⟨A₀, A, base, h₀, outer, L, fa, Str.ofString "law", scope, cdv, cl10 fx, pin, none⟩ ss
      ((Str.ofString "x", .int u) :: (Str.ofString "place", .int p) :: env10 fx T) σ (Post10 fx b T) := by
  refine seg_intro (by rfl) ?_
  intro A₀ A base h₀ outer L fa cdv pin
  have K' := K
  cases K'
  dsimp only [cl10, env10]
  have FQ := P10.fxq G.H
  have hpos := G.pos
  have hN := G.hN
  have hM := G.hM
  have hk := G.hk
  have c0 : σ (fx (0, 0)) = some (.cell (some (.obj (fx (2, 0))))) := by rw [← G.con]; exact G.H.at_ (0, 0) (by show 0 < 5; omega)
  have c1 : σ (fx (0, 1)) = some (.cell (some (.int mo))) := by rw [← h1]; exact G.H.at_ (0, 1) (by show 1 < 5; omega)
  have c2 : σ (fx (0, 2)) = some (.cell (some (.obj (dy (9, p))))) := by rw [← h2]; exact G.H.at_ (0, 2) (by show 2 < 5; omega)
  have c3 : σ (fx (0, 3)) = some (.cell (some (.obj (dy (6, p))))) := by rw [← h3]; exact G.H.at_ (0, 3) (by show 3 < 5; omega)
  have c4 : σ (fx (0, 4)) = some (.cell (R.cv 4)) := G.H.at_ (0, 4) (by show 4 < 5; omega)
  have o1 : σ (fx (1, 0)) = some (.list ((List.range R.MS).map fun j => .obj (dy (7, j)))) := G.H.at_ (1, 0) rfl
  have o2 : σ (fx (2, 0)) = some (.list ((List.range R.MC).map fun j => .obj (dy (8, j)))) := G.H.at_ (2, 0) rfl
  have o3 : σ (fx (3, 0)) = some (.list ((List.range R.NS).map fun i => .obj (dy (9, i)))) := G.H.at_ (3, 0) rfl
  have o4 : σ (fx (4, 0)) = some (.list ((List.range R.NR).map fun i => .obj (dy (6, i)))) := G.H.at_ (4, 0) rfl
  have o5 : σ (fx (5, 0)) = some (.list (List.replicate R.k .none)) := G.H.at_ (5, 0) rfl
  have hpR : p < R.NR := by rw [G.eN]; exact hp
  have d6 : DQ fx (dy (6, p)) := P10.dq G.H (by omega) hpR
  have d9 : DQ fx (dy (9, p)) := P10.dq G.H (by omega) hp
  have d69 : dy (6, p) ≠ dy (9, p) := P10.dd G.H (by omega) (by omega) hpR hp (by simp)
  have o6 : σ (dy (6, p)) = some (.list (row5 (R.rv p))) := G.H.at_ (6, p) hpR
  have o9 : σ (dy (9, p)) = some (.inst 102 (srcV (R.iv p))) := G.H.at_ (9, p) hp
  obtain ⟨f0, f1⟩ := fmod_range mo (y := 2) (by decide)
  obtain ⟨f, hfe⟩ : ∃ f' : Nat, 3 + mo.fmod 2 = f' := ⟨(3 + mo.fmod 2).toNat, by omega⟩
  have hf3 : 3 ≤ f := by omega
  have hf5 : f < 5 := by omega
  have hl1 : ((List.range R.MS).map fun j => AVal.obj (dy (7, j))).length = R.MS := by simp
  repeat walk_at "fw"
  rw [hfe, hl1]
  refine tu_list o6 (by omega) (by show (f : Int) < 5; omega) (by omega) ?_
  rw [show ((f : Int)).toNat = f from rfl, row5_set (by omega)]
  have H1 : P10 fx dy _ _ := P10.rec (w := up (R.rv p) f (.int R.MS)) G.H hpR
  repeat walk_at "fw"
  refine tg_listM (by walk_at "hp") PySem.F.slot_list_append PySem.F.type_list_append ?_
  iterate 1 walk_at "fw"
  refine we_listM ?_
  iterate 2 walk_at "fw"
  intro a ha
  have H2 : P10 fx _ _ _ := P10.newStr H1 ha
  have hda : DQ fx a := fun x hx => hp_ne (o := _) (by
    obtain ⟨l1, k1⟩ := fix_live (R := { R with rv := up R.rv p (up (R.rv p) f (.int R.MS)) }) hx
    have := H1.at_ x l1
    unfold adr at this
    rw [if_pos k1] at this
    exact this) ha
  have h6a : dy (6, p) ≠ a := (set_none ha).1.symm
  have h9a : dy (9, p) ≠ a := hp_ne o9 (set_none ha).2
  repeat walk_at "fw"
  refine tc_append (by walk_at "hp") (by simp [sizeLine_eq]; omega) ?_
  repeat walk_at "fw"
  refine tg_listM (by walk_at "hp") PySem.F.slot_list_append PySem.F.type_list_append ?_
  iterate 1 walk_at "fw"
  refine we_listM ?_
  iterate 2 walk_at "fw"
  intro a' ha'
  have H3 : P10 fx _ _ _ := P10.newCon H2 ha'
  have hda' : DQ fx a' := fun x hx => hp_ne (o := _) (by
    obtain ⟨l1, k1⟩ := fix_live (R := { R with rv := up R.rv p (up (R.rv p) f (.int R.MS)), MS := R.MS + 1, vs := up R.vs R.MS [] }) hx
    have := H2.at_ x l1
    unfold adr at this
    rw [if_pos k1] at this
    exact this) ha'
  have h6a' : dy (6, p) ≠ a' := (set_none (set_none (set_none ha').2).2).1.symm
  have h9a' : dy (9, p) ≠ a' := hp_ne o9 (set_none (set_none (set_none ha').2).2).2
  repeat walk_at "fw"
  refine tc_append (by walk_at "hp") (by simp [sizeLine_eq, G.eM]; omega) ?_
  repeat walk_at "fw"
  refine tg_listM (by walk_at "hp") PySem.F.slot_list_append PySem.F.type_list_append ?_
  repeat walk_at "fw"
  rw [hfe]
  refine t2_itemN (y := .obj a) (items_obj (by walk_at "hp")) (by omega) (by simp; omega) (by omega) ?_ ?_
  · simp [show (-1 + ((R.MS : Int) + 1)).toNat = R.MS by omega]
  repeat walk_at "fw"
  refine tc_fn (by assumption) (set10 K (by omega) (by walk_at "hp") ?_)
  repeat walk_at "fw"
  refine tc_append (by walk_at "hp") (by simp [sizeLine_eq]; omega) ?_
  repeat walk_at "fw"
  have H4 := P10.ans (P10.src (p := p) (w := up (R.iv p) f (.obj a)) H3 hp)
  refine ⟨rfl, ⟨_, _, ⟨H4, G.eN, by show R.MC + 1 = R.MS + 1; rw [G.eM], fun j hj => ?_, G.pos, by simp; omega, by simp; omega, by simp; omega, fun j hj => ?_, fun i hi g hg => ?_, G.con⟩⟩, rfl, rfl, rfl, rfl, rfl, trivial⟩
  · show up R.vc R.MC [] j = up R.vs R.MS [] j
    rw [G.eM]
    by_cases e : j = R.MS
    · subst e; simp [up]
    · rw [up_ne _ _ e, up_ne _ _ e]; exact G.ev j (by have : j < R.MS + 1 := hj; omega)
  · show (up R.vs R.MS [] j).length ≤ b + 1 + 1
    by_cases e : j = R.MS
    · subst e; simp [up]
    · rw [up_ne _ _ e]; have := G.hv j (by have : j < R.MS + 1 := hj; omega); omega
  · show Lk (up (up dy (7, R.MS) a) (8, R.MC) a') (R.MS + 1) g (up R.iv p (up (R.iv p) f (.obj a)) i g) (up R.rv p (up (R.rv p) f (.int R.MS)) i g)
    have hdy : ∀ j, j < R.MS → (up (up dy (7, R.MS) a) (8, R.MC) a') (7, j) = dy (7, j) := fun j hj => by
      rw [up_ne _ _ (by simp), up_ne _ _ (fun e => by cases e; omega)]
    by_cases e : i = p
    · subst e
      simp only [up_same]
      by_cases e' : g = f
      · subst e'
        simp only [up_same]
        exact .inr ⟨hf3, .inr ⟨R.MS, by omega, by rw [up_ne _ _ (by simp), up_same], rfl⟩⟩
      · rw [up_ne _ _ e', up_ne _ _ e']; exact (G.lk i hi g hg).more (by omega) hdy
    · simp only [up_ne _ _ e]; exact (G.lk i hi g hg).more (by omega) hdy
set_option maxHeartbeats 4000000 in
theorem brE (K : K10 C) {u mo : Int} {p : Nat} {T : AVal} (G : G10 fx dy R b σ) (hb : b ≤ 65) (hp : p < R.NS) (h1 : R.cv 1 = some (.int mo)) (h2 : R.cv 2 = some (.obj (dy (9, p)))) (h3 : R.cv 3 = some (.obj (dy (6, p)))) :
    Seg PySem.Challenge.pw_dn0301_10 5 [(3, 0), (2, 1), (0, 1), (0, 1), (0, 1)] 0 fun scope ss => ∀ A₀ A base h₀ outer L fa cdv pin, WS C 20 ⟨A₀, A, base, h₀, outer, L, fa, Str.ofString "law", scope, cdv, cl10 fx, pin, none⟩ ss
      ((Str.ofString "x", .int u) :: (Str.ofString "place", .int p) :: env10 fx T) σ (Post10 fx b T) := by
  refine seg_intro (by rfl) ?_
  intro A₀ A base h₀ outer L fa cdv pin
  have K' := K
  cases K'
  dsimp only [cl10, env10]
  have FQ := P10.fxq G.H
  have hpos := G.pos
  have hN := G.hN
  have hM := G.hM
  have hk := G.hk
  have c0 : σ (fx (0, 0)) = some (.cell (some (.obj (fx (2, 0))))) := by rw [← G.con]; exact G.H.at_ (0, 0) (by show 0 < 5; omega)
  have c1 : σ (fx (0, 1)) = some (.cell (some (.int mo))) := by rw [← h1]; exact G.H.at_ (0, 1) (by show 1 < 5; omega)
  have c2 : σ (fx (0, 2)) = some (.cell (some (.obj (dy (9, p))))) := by rw [← h2]; exact G.H.at_ (0, 2) (by show 2 < 5; omega)
  have c3 : σ (fx (0, 3)) = some (.cell (some (.obj (dy (6, p))))) := by rw [← h3]; exact G.H.at_ (0, 3) (by show 3 < 5; omega)
  have c4 : σ (fx (0, 4)) = some (.cell (R.cv 4)) := G.H.at_ (0, 4) (by show 4 < 5; omega)
  have o1 : σ (fx (1, 0)) = some (.list ((List.range R.MS).map fun j => .obj (dy (7, j)))) := G.H.at_ (1, 0) rfl
  have o2 : σ (fx (2, 0)) = some (.list ((List.range R.MC).map fun j => .obj (dy (8, j)))) := G.H.at_ (2, 0) rfl
  have o3 : σ (fx (3, 0)) = some (.list ((List.range R.NS).map fun i => .obj (dy (9, i)))) := G.H.at_ (3, 0) rfl
  have o4 : σ (fx (4, 0)) = some (.list ((List.range R.NR).map fun i => .obj (dy (6, i)))) := G.H.at_ (4, 0) rfl
  have o5 : σ (fx (5, 0)) = some (.list (List.replicate R.k .none)) := G.H.at_ (5, 0) rfl
  have hpR : p < R.NR := by rw [G.eN]; exact hp
  have d6 : DQ fx (dy (6, p)) := P10.dq G.H (by omega) hpR
  have d9 : DQ fx (dy (9, p)) := P10.dq G.H (by omega) hp
  have d69 : dy (6, p) ≠ dy (9, p) := P10.dd G.H (by omega) (by omega) hpR hp (by simp)
  have o6 : σ (dy (6, p)) = some (.list (row5 (R.rv p))) := G.H.at_ (6, p) hpR
  have o9 : σ (dy (9, p)) = some (.inst 102 (srcV (R.iv p))) := G.H.at_ (9, p) hp
  obtain ⟨f0, f1⟩ := fmod_range mo (y := 2) (by decide)
  obtain ⟨f, hfe⟩ : ∃ f' : Nat, 3 + mo.fmod 2 = f' := ⟨(3 + mo.fmod 2).toNat, by omega⟩
  have hf3 : 3 ≤ f := by omega
  have hf5 : f < 5 := by omega
  have hlk := G.lk p hp f hf5
  with_reducible refine ws_cons ?_
  with_reducible refine w1_assignS (names := [Str.ofString "told", Str.ofString "number"]) ?_ ?hw ?hs
  case hw => rfl
  case hs => rfl
  repeat walk_at "fw"
  rw [hfe]
  refine tc_fn (by assumption) (get10 K hf5 o9 hlk.handed ?_)
  repeat walk_at "fw"
  rw [hfe]
  refine t2_item (y := R.rv p f) (items_obj o6) (by omega) (by omega) (row5_get hf5) ?_
  repeat walk_at "fw"
  refine ⟨_, rfl, rfl, tss_cons (ts_local rfl (tss_cons (ts_local rfl (tss_nil ?_))))⟩
  rcases hlk with ⟨q, _⟩ | ⟨_, ⟨hx, hy⟩ | ⟨j, hj, hx, hy⟩⟩
  · omega
  · rw [hx, hy]
    repeat walk_at "fw"
    refine t2_isNotNone rfl ?_
    repeat walk_at "fw"
    refine t2_isNotNone rfl ?_
    repeat walk_at "fw"
    have := G.hN; have := G.hM; have := G.hk
    exact ⟨rfl, ⟨dy, R, ⟨G.H, G.eN, G.eM, G.ev, G.pos, by omega, by omega, by omega, fun j hj => by have := G.hv j hj; omega, G.lk, G.con⟩⟩, rfl, rfl, rfl, rfl, rfl, trivial⟩
  · rw [hx, hy]
    have hjC : j < R.MC := by rw [G.eM]; exact hj
    have o7 : σ (dy (7, j)) = some (.list ((R.vs j).map .int)) := G.H.at_ (7, j) hj
    have o8 : σ (dy (8, j)) = some (.list ((R.vc j).map .int)) := G.H.at_ (8, j) hjC
    have d7 : DQ fx (dy (7, j)) := P10.dq G.H (by omega) hj
    have d8 : DQ fx (dy (8, j)) := P10.dq G.H (by omega) hjC
    have d78 : dy (7, j) ≠ dy (8, j) := P10.dd G.H (by omega) (by omega) hj hjC (by simp)
    have hvj := G.hv j hj
    have hvc := G.ev j hj
    repeat walk_at "fw"
    refine t2_isNotNone rfl ?_
    repeat walk_at "fw"
    refine tg_listM (by walk_at "hp") PySem.F.slot_list_append PySem.F.type_list_append ?_
    repeat walk_at "fw"
    refine tc_append (by walk_at "hp") (by simp [sizeLine_eq]; omega) ?_
    repeat walk_at "fw"
    refine t2_item (y := .obj (dy (8, j))) (items_obj (by walk_at "hp")) (by omega) (by omega) (at_range hjC) ?_
    refine tg_listM (by walk_at "hp") PySem.F.slot_list_append PySem.F.type_list_append ?_
    repeat walk_at "fw"
    refine tc_append (by walk_at "hp") (by simp [sizeLine_eq, hvc]; omega) ?_
    repeat walk_at "fw"
    have H4 := P10.con (p := j) (l := R.vc j ++ [(mo.fdiv 2).fmod 256]) (P10.str (p := j) (l := R.vs j ++ [(mo.fdiv 2).fmod 256]) G.H hj) hjC
    rw [List.map_append, List.map_append] at H4
    have := G.hN; have := G.hM; have := G.hk
    refine ⟨rfl, ⟨dy, _, ⟨H4, G.eN, G.eM, fun i hi => ?_, G.pos, by simp; omega, by simp; omega, by simp; omega, fun i hi => ?_, G.lk, G.con⟩⟩, rfl, rfl, rfl, rfl, rfl, trivial⟩
    · show up R.vc j _ i = up R.vs j _ i
      by_cases e : i = j
      · subst e; simp [up, hvc]
      · rw [up_ne _ _ e, up_ne _ _ e]; exact G.ev i hi
    · show (up R.vs j _ i).length ≤ b + 1 + 1
      by_cases e : i = j
      · subst e; simp [up]; omega
      · rw [up_ne _ _ e]; have := G.hv i hi; omega
end
end Mine

open PySem PySem.W PyProof.Rows PySem.Calls
namespace Mine

section
variable {C : Cx} {fx dy : Ix → Addr} {R : R10} {b : Nat} {σ : AHeap}
def tb (mo : Int) (f : Nat) : Bool := (mo.fdiv (2 ^ f)).fmod 2 == 1
def tk (mo : Int) : Nat → AVal := fun f => .bool (tb mo f)
theorem pow5 {j : Nat} (h : j < 5) : ((2 : Int) ^ ((j : Int)).toNat) ≠ 0 ∧ ((2 : Int) ^ ((j : Int)).toNat).natAbs < 1073741824 := by
  obtain rfl | rfl | rfl | rfl | rfl : j = 0 ∨ j = 1 ∨ j = 2 ∨ j = 3 ∨ j = 4 := by omega
  all_goals decide
/-- a source's things copied as far as j -/
def wj (mo : Int) (v : Nat → AVal) (j : Nat) : Nat → AVal := fun f => if f ≤ j then (if tb mo f = true then v f else .none) else .none
theorem wj_up {mo : Int} {v : Nat → AVal} {j : Nat} : wj mo v (j + 1) = if tb mo (j + 1) = true then up (wj mo v j) (j + 1) (v (j + 1)) else wj mo v j := by
  funext f
  unfold wj
  by_cases h : tb mo (j + 1) = true
  · rw [if_pos h]
    by_cases e : f = j + 1
    · subst e; rw [up_same]; simp [h]
    · rw [up_ne _ _ e]
      by_cases q : f ≤ j
      · rw [if_pos (by omega), if_pos q]
      · rw [if_neg (by omega), if_neg q]
  · rw [if_neg h]
    by_cases e : f = j + 1
    · subst e; simp [h]
    · by_cases q : f ≤ j
      · rw [if_pos (by omega), if_pos q]
      · rw [if_neg (by omega), if_neg q]
set_option maxHeartbeats 4000000 in
theorem brA (K : K10 C) {u mo : Int} {p : Nat} {T : AVal} (G : G10 fx dy R b σ) (hb : b ≤ 65) (hp : p < R.NS) (h1 : R.cv 1 = some (.int mo)) (h2 : R.cv 2 = some (.obj (dy (9, p)))) (h3 : R.cv 3 = some (.obj (dy (6, p)))) :
    Seg PySem.Challenge.pw_dn0301_10 5 [(3, 0), (2, 0)] 0 fun scope ss => ∀ A₀ A base h₀ outer L fa cdv pin, WS C 20 ⟨A₀, A, base, h₀, outer, L, fa, Str.ofString "law", scope, cdv, cl10 fx, pin, none⟩ ss
      ((Str.ofString "x", .int u) :: (Str.ofString "place", .int p) :: env10 fx T) σ (Post10 fx b T) := by
  refine seg_intro (by rfl) ?_
  intro A₀ A base h₀ outer L fa cdv pin
  have K' := K
  cases K'
  dsimp only [cl10, env10]
  have FQ := P10.fxq G.H
  have hpos := G.pos
  have hN := G.hN
  have hM := G.hM
  have hk := G.hk
  have c0 : σ (fx (0, 0)) = some (.cell (some (.obj (fx (2, 0))))) := by rw [← G.con]; exact G.H.at_ (0, 0) (by show 0 < 5; omega)
  have c1 : σ (fx (0, 1)) = some (.cell (some (.int mo))) := by rw [← h1]; exact G.H.at_ (0, 1) (by show 1 < 5; omega)
  have c2 : σ (fx (0, 2)) = some (.cell (some (.obj (dy (9, p))))) := by rw [← h2]; exact G.H.at_ (0, 2) (by show 2 < 5; omega)
  have c3 : σ (fx (0, 3)) = some (.cell (some (.obj (dy (6, p))))) := by rw [← h3]; exact G.H.at_ (0, 3) (by show 3 < 5; omega)
  have c4 : σ (fx (0, 4)) = some (.cell (R.cv 4)) := G.H.at_ (0, 4) (by show 4 < 5; omega)
  have o1 : σ (fx (1, 0)) = some (.list ((List.range R.MS).map fun j => .obj (dy (7, j)))) := G.H.at_ (1, 0) rfl
  have o2 : σ (fx (2, 0)) = some (.list ((List.range R.MC).map fun j => .obj (dy (8, j)))) := G.H.at_ (2, 0) rfl
  have o3 : σ (fx (3, 0)) = some (.list ((List.range R.NS).map fun i => .obj (dy (9, i)))) := G.H.at_ (3, 0) rfl
  have o4 : σ (fx (4, 0)) = some (.list ((List.range R.NR).map fun i => .obj (dy (6, i)))) := G.H.at_ (4, 0) rfl
  have o5 : σ (fx (5, 0)) = some (.list (List.replicate R.k .none)) := G.H.at_ (5, 0) rfl
  have hpR : p < R.NR := by rw [G.eN]; exact hp
  have d6 : DQ fx (dy (6, p)) := P10.dq G.H (by omega) hpR
  have d9 : DQ fx (dy (9, p)) := P10.dq G.H (by omega) hp
  have d69 : dy (6, p) ≠ dy (9, p) := P10.dd G.H (by omega) (by omega) hpR hp (by simp)
  have o6 : σ (dy (6, p)) = some (.list (row5 (R.rv p))) := G.H.at_ (6, p) hpR
  have o9 : σ (dy (9, p)) = some (.inst 102 (srcV (R.iv p))) := G.H.at_ (9, p) hp
  have hlk0 := (G.lk p hp 0 (by omega)).handed
  have hkD : ∀ f, f < 5 → handedA (R.iv p f) = true := fun f hf => (G.lk p hp f hf).handed
  have o9' : σ (dy (9, p)) = some (.inst 102 (srcA (R.iv p 0) (R.iv p 1) (R.iv p 2) (R.iv p 3) (R.iv p 4))) := o9
  iterate 2 walk_at "fw"
  refine we_compB (cl := [(Str.ofString "more", fx (0, 1))]) (fun back rest ys σ' => back = id ∧ σ' = σ ∧ ∃ j, rest = (rngL 0 1 5).drop j ∧ ys = (List.range j).map (tk mo) ∧ j ≤ 5) rfl ?_ ?_ ?_
  · refine wi ?_
    repeat walk_at "fw"
    refine tc_range1 ?_
    exact ti_rng (k := 5) (rng_small1 (by omega) (by omega)) (rng_size1' (k := 5)) ⟨by rw [rngL_length, sizeLine_eq]; omega, rfl, rfl, 0, by simp, rfl, by omega⟩
  · rintro back pin c v xs ys σ' ⟨rfl, rfl, j, h, rfl, hj5⟩ hc
    obtain ⟨hj, rfl, rfl⟩ := rngL_cons h
    rw [show (0 + (j : Int) * 1) = j by omega]
    have hcc : fx (0, 1) ≠ c := hp_ne c1 hc
    repeat walk_at "fw"
    refine t2_pow (by omega) (by omega) (by decide) ?_
    refine t2_div (pow5 hj).1 (pow5 hj).2 ?_
    repeat walk_at "fw"
    refine ⟨⟨_, AHeap.set_same ..⟩, _, AHeap.le_set hc, hc, rfl, rfl, j + 1, rfl, ?_, by omega⟩
    rw [List.range_succ, List.map_append]; rfl
  · rintro back ys σ' ⟨rfl, rfl, j, h, rfl, hj5⟩
    have hj := rngL_nil h
    obtain rfl : j = 5 := by omega
    dsimp only [id]
    have e5 : (List.range 5).map (tk mo) = row5 (tk mo) := rfl
    rw [e5]
    have H1 : P10 fx dy _ _ := P10.cell (i := 4) (v := some (.lst (row5 (tk mo)))) G.H (by omega)
    repeat walk_at "fw"
    refine tg_listM (by walk_at "hp") PySem.F.slot_list_append PySem.F.type_list_append ?_
    iterate 1 walk_at "fw"
    generalize hσ1 : σ'.set (fx (0, 4)) (AObj.cell (some (AVal.lst (row5 (tk mo))))) = σ1 at H1
    have q2 : σ1 (fx (0, 2)) = some (.cell (some (.obj (dy (9, p))))) := by subst hσ1; walk_at "hp"
    have q3 : σ1 (fx (0, 3)) = some (.cell (some (.obj (dy (6, p))))) := by subst hσ1; walk_at "hp"
    have q4 : σ1 (fx (0, 4)) = some (.cell (some (.lst (row5 (tk mo))))) := by subst hσ1; walk_at "hp"
    have s3 : σ1 (fx (3, 0)) = some (.list ((List.range R.NS).map fun i => .obj (dy (9, i)))) := by subst hσ1; walk_at "hp"
    have s4 : σ1 (fx (4, 0)) = some (.list ((List.range R.NR).map fun i => .obj (dy (6, i)))) := by subst hσ1; walk_at "hp"
    have s6 : σ1 (dy (6, p)) = some (.list (row5 (R.rv p))) := by subst hσ1; walk_at "hp"
    have s9 : σ1 (dy (9, p)) = some (.inst 102 (srcA (R.iv p 0) (R.iv p 1) (R.iv p 2) (R.iv p 3) (R.iv p 4))) := by subst hσ1; walk_at "hp"
    clear c0 c1 c2 c3 c4 o1 o2 o3 o4 o5 o6 o9 o9' h hj5 hj e5 hσ1
    with_reducible refine WE.cut (P := fun v σ'' => ∃ a, σ1 a = none ∧ v = .obj a ∧ σ'' = σ1.set a (.inst 102 (srcV (wj mo (R.iv p) 0)))) ?h1 ?_
    case h1 =>
      with_reducible refine we_ifexp ?_
      with_reducible refine wt_value ?_ ?hwv
      case hwv => intro _; rfl
      repeat walk_at "fw"
      refine t2_item (y := .bool (tb mo 0)) rfl (by omega) (by omega) rfl ?_
      repeat walk_at "fw"
      · rename_i ht
        refine tc_inst (by assumption) (by assumption) (by assumption) (by assumption) fun a ha => srcInit K (AHeap.set_same ..) ⟨rfl, a, ha, rfl, ?_⟩
        rw [AHeap.set_set]
        unfold srcV wj
        simp [ht]
      · rename_i ht
        refine tc_inst (by assumption) (by assumption) (by assumption) (by assumption) fun a ha => srcInit0 K (AHeap.set_same ..) ⟨rfl, a, ha, rfl, ?_⟩
        rw [AHeap.set_set]
        unfold srcV wj
        simp [ht]
    rintro _ _ ⟨a, ha, rfl, rfl⟩
    have H2 : P10 fx _ _ _ := P10.newSrc (w := wj mo (R.iv p) 0) H1 ha
    have hda : DQ fx a := fun x hx => hp_ne (o := _) (by
      obtain ⟨l1, k1⟩ := fix_live (R := { R with cv := up R.cv 4 (some (.lst (row5 (tk mo)))) }) hx
      have := H1.at_ x l1
      unfold adr at this
      rw [if_pos k1] at this
      exact this) ha
    have h6a : dy (6, p) ≠ a := hp_ne s6 ha
    repeat walk_at "fw"
    refine tc_append (by walk_at "hp") (by simp [sizeLine_eq]; omega) ?_
    repeat walk_at "fw"
    refine tg_listM (by walk_at "hp") PySem.F.slot_list_append PySem.F.type_list_append ?_
    iterate 1 walk_at "fw"
    refine we_compM (cl := [(Str.ofString "taken", fx (0, 4)), (Str.ofString "due", fx (0, 3))]) (fun back rest ys σ'' => back = id ∧ σ'' = (σ1.set a (.inst 102 (srcV (wj mo (R.iv p) 0)))).set (fx (3, 0)) (.list (((List.range R.NS).map fun i => .obj (dy (9, i))) ++ [.obj a])) ∧ ∃ j, rest = (rngL 0 1 5).drop j ∧ ys = (List.range j).map (fun f => if tb mo f = true then R.rv p f else .none) ∧ j ≤ 5) rfl ?_ ?_ ?_
    · refine wi ?_
      repeat walk_at "fw"
      refine tc_range1 ?_
      exact ti_rng (k := 5) (rng_small1 (by omega) (by omega)) (rng_size1' (k := 5)) ⟨by rw [rngL_length, sizeLine_eq]; omega, rfl, rfl, 0, by simp, rfl, by omega⟩
    · rintro back pin c v xs ys σ'' ⟨rfl, rfl, j, h, rfl, hj5⟩ hc
      obtain ⟨hj, rfl, rfl⟩ := rngL_cons h
      rw [show (0 + (j : Int) * 1) = j by omega]
      have z3 : fx (0, 3) ≠ c := hp_ne (o := .cell (some (.obj (dy (6, p))))) (by walk_at "hp") hc
      have z4 : fx (0, 4) ≠ c := hp_ne (o := .cell (some (.lst (row5 (tk mo))))) (by walk_at "hp") hc
      have z6 : dy (6, p) ≠ c := hp_ne (o := .list (row5 (R.rv p))) (by walk_at "hp") hc
      iterate 2 walk_at "fw"
      with_reducible refine we_ifexp ?_
      with_reducible refine wt_value ?_ ?hwv
      case hwv => intro _; rfl
      repeat walk_at "fw"
      refine t2_item (y := .bool (tb mo j)) rfl (by omega) (by omega) (row5_get hj) ?_
      repeat walk_at "fw"
      · rename_i ht
        refine ⟨⟨_, AHeap.set_same ..⟩, _, AHeap.le_set hc, hc, rfl, rfl, j + 1, rfl, ?_, by omega⟩
        rw [List.range_succ, List.map_append]; simp [ht]
      · rename_i ht
        refine t2_item (y := R.rv p j) (items_obj (by walk_at "hp")) (by omega) (by omega) (row5_get hj) ?_
        refine ⟨⟨_, AHeap.set_same ..⟩, _, AHeap.le_set hc, hc, rfl, rfl, j + 1, rfl, ?_, by omega⟩
        rw [List.range_succ, List.map_append]; simp [ht]
    · rintro back ys σ'' D ⟨rfl, rfl, j, h, rfl, hj5⟩ hD
      have hj := rngL_nil h
      obtain rfl : j = 5 := by omega
      dsimp only [id]
      have e5 : (List.range 5).map (fun f => if tb mo f = true then R.rv p f else .none) = row5 (wj mo (R.rv p) 4) := by
        show [_, _, _, _, _] = [_, _, _, _, _]
        simp [wj]
      rw [e5]
      have H3 : P10 fx _ _ _ := P10.newRec (w := wj mo (R.rv p) 4) H2 hD
      have hdD : DQ fx D := fun x hx => hp_ne (o := _) (by
        obtain ⟨l1, k1⟩ := fix_live (R := { R with cv := up R.cv 4 (some (.lst (row5 (tk mo)))), NS := R.NS + 1, iv := up R.iv R.NS (wj mo (R.iv p) 0) }) hx
        have := H2.at_ x l1
        unfold adr at this
        rw [if_pos k1] at this
        exact this) hD
      have haD : a ≠ D := hp_ne (o := .inst 102 (srcV (wj mo (R.iv p) 0))) (by walk_at "hp") hD
      repeat walk_at "fw"
      refine tc_append (by walk_at "hp") (by simp [sizeLine_eq, G.eN]; omega) ?_
      repeat walk_at "fw"
      with_reducible refine w1_for (fun rest m' σ'' => ∃ j kk, rest = (rngL 1 1 4).drop j ∧ j ≤ 4 ∧ kk ≤ R.k + j ∧ P10 fx (up (up dy (9, R.NS) a) (6, R.NR) D) { R with cv := up R.cv 4 (some (.lst (row5 (tk mo)))), NS := R.NS + 1, NR := R.NR + 1, rv := up R.rv R.NR (wj mo (R.rv p) 4), iv := up R.iv R.NS (wj mo (R.iv p) j), k := kk } σ'' ∧ m' = ((Str.ofString "x", .int u) :: (Str.ofString "place", .int p) :: env10 fx T)) ?_ ?_ ?_ ?hs
      case hs => intro _; rfl
      · refine wi ?_
        repeat walk_at "fw"
        refine tc_range2 ?_
        refine ti_rng (k := 4) (rng_small1 (by omega) (by omega)) (rng_size1 (a := 1) (k := 4)) ⟨rfl, 0, R.k, by simp, by omega, by omega, H3, rfl⟩
      · clear H1 H2 H3 q2 q3 q4 s3 s4 s6 s9 hD h hj hj5 e5
        rintro pin x xs m' σ'' ⟨j, kk, h, hj4, hkk, H, rfl⟩
        obtain ⟨hj, rfl, rfl⟩ := rngL_cons h
        have e1 : (1 + (j : Int) * 1) = ((j + 1 : Nat) : Int) := by omega
        rw [e1]
        have ep : (9, p) ≠ ((9, R.NS) : Ix) := fun e => by cases e; omega
        have q2 : σ'' (fx (0, 2)) = some (.cell (some (.obj (dy (9, p))))) := by
          have := H.at_ (0, 2) (by show 2 < 5; omega)
          rw [← h2]; exact this
        have q4 : σ'' (fx (0, 4)) = some (.cell (some (.lst (row5 (tk mo))))) := H.at_ (0, 4) (by show 4 < 5; omega)
        have s3 : σ'' (fx (3, 0)) = some (.list (((List.range R.NS).map fun i => .obj (dy (9, i))) ++ [.obj a])) := by
          rw [← range_up]
          have := H.at_ (3, 0) rfl
          refine this.trans ?_
          show some (AObj.list ((List.range (R.NS + 1)).map fun i => AVal.obj (up (up dy (9, R.NS) a) (6, R.NR) D (9, i)))) = _
          rw [range_off (by omega)]
        have s5 : σ'' (fx (5, 0)) = some (.list (List.replicate kk .none)) := H.at_ (5, 0) rfl
        have s9 : σ'' (dy (9, p)) = some (.inst 102 (srcV (R.iv p))) := by
          have := H.at_ (9, p) (by show p < R.NS + 1; omega)
          have e2 : adr fx (up (up dy (9, R.NS) a) (6, R.NR) D) (9, p) = dy (9, p) := by
            show up (up dy (9, R.NS) a) (6, R.NR) D (9, p) = _
            rw [up_ne _ _ (by simp), up_ne _ _ ep]
          rw [e2] at this
          refine this.trans ?_
          show some (AObj.inst 102 (srcV (up R.iv R.NS _ p))) = _
          rw [up_ne _ _ (by omega)]
        have sa : σ'' a = some (.inst 102 (srcV (wj mo (R.iv p) j))) := by
          have := H.at_ (9, R.NS) (by show R.NS < R.NS + 1; omega)
          have e2 : adr fx (up (up dy (9, R.NS) a) (6, R.NR) D) (9, R.NS) = a := by
            show up (up dy (9, R.NS) a) (6, R.NR) D (9, R.NS) = _
            rw [up_ne _ _ (by simp), up_same]
          rw [e2] at this
          refine this.trans ?_
          show some (AObj.inst 102 (srcV (up R.iv R.NS _ R.NS))) = _
          rw [up_same]
        walk_at "fw"
        dsimp only [Fm.withPin, env10]
        with_reducible refine ws_cons ?_
        with_reducible refine w1_if ?_
        with_reducible refine wt_value ?_ ?hwv
        case hwv => intro _; rfl
        repeat walk_at "fw"
        refine t2_item (y := .bool (tb mo (j + 1))) rfl (by omega) (by omega) (row5_get (by omega)) ?_
        repeat walk_at "fw"
        · rename_i ht
          refine tg_listM s5 PySem.F.slot_list_append PySem.F.type_list_append ?_
          repeat walk_at "fw"
          refine t2_itemN (y := .obj a) (items_obj s3) (by omega) (by simp; omega) (by omega) ?_ ?_
          · simp [show (-1 + ((R.NS : Int) + 1)).toNat = R.NS by omega]
          repeat walk_at "fw"
          refine tc_fn (by assumption) (get10 K (by omega) s9 (hkD _ (by omega)) ?_)
          repeat walk_at "fw"
          refine tc_fn (by assumption) (set10 K (by omega) sa ?_)
          repeat walk_at "fw"
          refine tc_append (by walk_at "hp") (by simp [sizeLine_eq]; omega) ?_
          repeat walk_at "fw"
          refine ⟨(Str.ofString "x", .int u) :: (Str.ofString "place", .int p) :: env10 fx T, _, Has.sub ⟨rfl, rfl, rfl, rfl, rfl, rfl, rfl, trivial⟩, AHeap.le_refl _, j + 1, kk + 1, rfl, by omega, by omega, ?_, rfl⟩
          rw [wj_up, if_pos ht]
          have H' := P10.ans (P10.src (p := R.NS) (w := up (wj mo (R.iv p) j) (j + 1) (R.iv p (j + 1))) H (by show R.NS < R.NS + 1; omega))
          have e2 : up (up dy (9, R.NS) a) (6, R.NR) D (9, R.NS) = a := by rw [up_ne _ _ (by simp), up_same]
          rw [e2] at H'
          have e3 : up (up R.iv R.NS (wj mo (R.iv p) j)) R.NS (up (wj mo (R.iv p) j) (j + 1) (R.iv p (j + 1))) = up R.iv R.NS (up (wj mo (R.iv p) j) (j + 1) (R.iv p (j + 1))) := by
            funext i; unfold up; split <;> rfl
          dsimp only at H'
          rw [e3] at H'
          exact H'
        · rename_i ht
          refine ⟨(Str.ofString "x", .int u) :: (Str.ofString "place", .int p) :: env10 fx T, _, Has.sub ⟨rfl, rfl, rfl, rfl, rfl, rfl, rfl, trivial⟩, AHeap.le_refl _, j + 1, kk, rfl, by omega, by omega, ?_, rfl⟩
          rw [wj_up, if_neg (by simp [ht])]
          exact H
      · clear H1 H2 H3 q2 q3 q4 s3 s4 s6 s9 hD hj hj5 e5 h
        rintro m' σ'' ⟨j, kk, h, hj4, hkk, H, rfl⟩
        have hj := rngL_nil h
        obtain rfl : j = 4 := by omega
        repeat walk_at "fw"
        refine ⟨rfl, ⟨_, _, ⟨H, by show R.NR + 1 = R.NS + 1; rw [G.eN], G.eM, G.ev, by show 0 < R.NS + 1; omega, by show R.NS + 1 ≤ _; omega, by show R.MS ≤ _; omega, by show kk ≤ _; omega, fun j hj => by have := G.hv j hj; show (R.vs j).length ≤ _; omega, fun i hi g hg => ?_, ?_⟩⟩, rfl, rfl, rfl, rfl, rfl, trivial⟩
        · show Lk (up (up dy (9, R.NS) a) (6, R.NR) D) R.MS g (up R.iv R.NS (wj mo (R.iv p) 4) i g) (up R.rv R.NR (wj mo (R.rv p) 4) i g)
          have hdy : ∀ j, j < R.MS → (up (up dy (9, R.NS) a) (6, R.NR) D) (7, j) = dy (7, j) := fun j hj => by
            rw [up_ne _ _ (by simp), up_ne _ _ (by simp)]
          rw [G.eN]
          by_cases e : i = R.NS
          · subst e
            rw [up_same, up_same]
            unfold wj
            simp only [if_pos (show g ≤ 4 by omega)]
            split
            · exact (G.lk p hp g hg).more (Nat.le_refl _) (by rw [G.eN] at hdy; exact hdy)
            · exact Lk.non
          · rw [up_ne _ _ e, up_ne _ _ e]
            exact (G.lk i (by have : i < R.NS + 1 := hi; omega) g hg).more (Nat.le_refl _) (by rw [G.eN] at hdy; exact hdy)
        · show up R.cv 4 (some (AVal.lst (row5 (tk mo)))) 0 = _
          rw [up_ne _ _ (by omega)]; exact G.con
end
end Mine

open PySem PySem.W PyProof.Rows PySem.Calls
namespace Mine

section
variable {C : Cx} {fx dy : Ix → Addr} {R : R10} {b : Nat} {σ : AHeap}
theorem G10.cell {i : Nat} {v : AVal} (G : G10 fx dy R b σ) (h0 : 0 < i) (hi : i < 5) : G10 fx dy { R with cv := up R.cv i (some v) } b (σ.set (fx (0, i)) (.cell (some v))) :=
  ⟨P10.cell G.H hi, G.eN, G.eM, G.ev, G.pos, G.hN, G.hM, G.hk, G.hv, G.lk, by show up R.cv i (some v) 0 = _; rw [up_ne _ _ (by omega)]; exact G.con⟩
set_option maxHeartbeats 4000000 in
theorem step10 (K : K10 C) {u : Int} {T : AVal} (G : G10 fx dy R b σ) (hb : b ≤ 65) :
    Seg PySem.Challenge.pw_dn0301_10 5 [(3, 0)] 0 fun scope ss => ∀ A₀ A base h₀ outer L fa cdv pin, WS C 20 ⟨A₀, A, base, h₀, outer, L, fa, Str.ofString "law", scope, cdv, cl10 fx, pin, none⟩ ss
      ((Str.ofString "x", .int u) :: env10 fx T) σ (Post10 fx b T) := by
  refine seg_intro (by rfl) ?_
  intro A₀ A base h₀ outer L fa cdv pin
  have K' := K
  cases K'
  dsimp only [cl10, env10]
  have FQ := P10.fxq G.H
  have hpos := G.pos
  have hN := G.hN
  have c1 : σ (fx (0, 1)) = some (.cell (R.cv 1)) := G.H.at_ (0, 1) (by show 1 < 5; omega)
  have c2 : σ (fx (0, 2)) = some (.cell (R.cv 2)) := G.H.at_ (0, 2) (by show 2 < 5; omega)
  have c3 : σ (fx (0, 3)) = some (.cell (R.cv 3)) := G.H.at_ (0, 3) (by show 3 < 5; omega)
  have o3 : σ (fx (3, 0)) = some (.list ((List.range R.NS).map fun i => .obj (dy (9, i)))) := G.H.at_ (3, 0) rfl
  have o4 : σ (fx (4, 0)) = some (.list ((List.range R.NR).map fun i => .obj (dy (6, i)))) := G.H.at_ (4, 0) rfl
  have hl3 : ((List.range R.NS).map fun i => AVal.obj (dy (9, i))).length = R.NS := by simp
  with_reducible refine ws_cons ?_
  with_reducible refine w1_assignT ?_ ?h1 ?h2
  case h1 => rfl
  case h2 => rfl
  repeat walk_at "fw"
  refine tc_divmod (by rw [hl3]; omega) (by rw [hl3]; omega) ?_
  rw [hl3]
  have hp0 := fmod_range (u.fdiv 4) (y := R.NS) (by omega)
  generalize hpe : (u.fdiv 4).fmod R.NS = p at hp0
  generalize hme : (u.fdiv 4).fdiv R.NS = mo
  obtain ⟨p, rfl⟩ : ∃ p' : Nat, p = p' := ⟨p.toNat, by omega⟩
  have hp : p < R.NS := by omega
  have hpR : p < R.NR := by rw [G.eN]; exact hp
  repeat walk_at "fw"
  refine t2_item (y := .obj (dy (9, p))) (items_obj (by walk_at "hp")) (by omega) (by omega) (at_range hp) ?_
  repeat walk_at "fw"
  refine t2_item (y := .obj (dy (6, p))) (items_obj (by walk_at "hp")) (by omega) (by omega) (at_range hpR) ?_
  repeat walk_at "fe"
  have G1 := ((G.cell (i := 1) (v := .int mo) (by omega) (by omega)).cell (i := 2) (v := .obj (dy (9, p))) (by omega) (by omega)).cell (i := 3) (v := .obj (dy (6, p))) (by omega) (by omega)
  with_reducible show WS _ _ _ _ _ _ _
  with_reducible refine WS.weaken (m' := (Str.ofString "x", .int u) :: (Str.ofString "place", .int p) :: env10 fx T) ?h1 (AHeap.le_refl _) ?_
  case h1 => exact Has.sub ⟨rfl, rfl, rfl, rfl, rfl, rfl, rfl, trivial⟩
  generalize hR : ({ R with cv := _ } : R10) = R' at G1
  have g1 : R'.cv 1 = some (.int mo) := by subst hR; rfl
  have g2 : R'.cv 2 = some (.obj (dy (9, p))) := by subst hR; rfl
  have g3 : R'.cv 3 = some (.obj (dy (6, p))) := by subst hR; rfl
  have gp : p < R'.NS := by subst hR; exact hp
  generalize hσ : ((σ.set (fx (0, 1)) (AObj.cell (some (AVal.int mo)))).set (fx (0, 2)) (AObj.cell (some (AVal.obj (dy (9, p)))))).set (fx (0, 3)) (AObj.cell (some (AVal.obj (dy (6, p))))) = σ' at G1
  have c1' : σ' (fx (0, 1)) = some (.cell (some (.int mo))) := by rw [← g1]; exact G1.H.at_ (0, 1) (by show 1 < 5; omega)
  clear c1 c2 c3 o3 o4 hσ hR
  with_reducible refine ws_cons ?_
  with_reducible refine W1.cut (P := Post10 fx b T) ?h1 ?_
  case h1 =>
    dsimp only [env10]
    with_reducible refine w1_if ?_
    repeat walk_at "fe"
    any_goals exact seg_elim (Mine.brA K G1 hb gp g1 g2 g3) rfl _ _ _ _ _ _ _ _ _
    have stop : ∀ {f' : Fm} {fl m' σ₁}, Post10 fx b T fl m' σ₁ → (match fl with | .next => WS C 20 f' [] m' σ₁ (Post10 fx b T) | fl => Post10 fx b T fl m' σ₁) := by
      rintro f' fl m' σ₁ ⟨rfl, h⟩
      exact ws_nil ⟨rfl, h⟩
    with_reducible refine ws_cons ?_
    with_reducible refine W1.cut (P := Post10 fx b T) ?_ (fun _ _ _ h => stop h)
    with_reducible refine w1_if ?_
    repeat walk_at "fe"
    any_goals exact seg_elim (Mine.brB K G1 hb gp g1 g2 g3) rfl _ _ _ _ _ _ _ _ _
    with_reducible refine ws_cons ?_
    with_reducible refine W1.cut (P := Post10 fx b T) ?_ (fun _ _ _ h => stop h)
    with_reducible refine w1_if ?_
    repeat walk_at "fe"
    all_goals (repeat walk_at "fe")
    any_goals exact seg_elim (Mine.brC K G1 hb gp g1 g2 g3) rfl _ _ _ _ _ _ _ _ _
    all_goals
      with_reducible refine ws_cons ?_
      with_reducible refine W1.cut (P := Post10 fx b T) ?_ (fun _ _ _ h => stop h)
      with_reducible refine w1_if ?_
      repeat walk_at "fe"
    all_goals (repeat walk_at "fe")
    all_goals first
      | exact seg_elim (Mine.brD K G1 hb gp g1 g2 g3) rfl _ _ _ _ _ _ _ _ _
      | exact seg_elim (Mine.brE K G1 hb gp g1 g2 g3) rfl _ _ _ _ _ _ _ _ _
  rintro fl m' σ₁ ⟨rfl, hG, hm⟩
  with_reducible show WS _ _ _ _ _ _ _
  with_reducible refine ws_nil ?_
  exact ⟨rfl, hG, hm⟩
end
end Mine

open PySem PySem.W PyProof.Rows PySem.Calls
namespace Mine

section
variable {C : Cx} {fx dy : Ix → Addr} {R : R10} {b : Nat} {σ : AHeap}
def ext (j : Nat) (v : Nat → List Int) : Nat → List Int := fun i => if i < j then v i ++ [-1 - (i : Int)] else v i
theorem ext_up {j : Nat} {v : Nat → List Int} : up (ext j v) j (v j ++ [-1 - (j : Int)]) = ext (j + 1) v := by
  funext i
  unfold up ext
  by_cases e : i = j
  · subst e; simp
  · rw [if_neg e]
    by_cases q : i < j
    · rw [if_pos q, if_pos (by omega)]
    · rw [if_neg q, if_neg (by omega)]
/-- what is asked of the state at the end -/
structure E10 (fx dy : Ix → Addr) (R : R10) (σ : AHeap) : Prop where
  H : P10 fx dy R σ
  eN : R.NR = R.NS
  eM : R.MC = R.MS
  ev : ∀ j, j < R.MS → R.vc j = R.vs j
  hN : R.NS ≤ 100
  hM : R.MS ≤ 100
  hk : R.k ≤ 1000
  lk : ∀ i, i < R.NS → ∀ f, f < 5 → Lk dy R.MS f (R.iv i f) (R.rv i f)
  con : R.cv 0 = some (.obj (fx (2, 0)))
set_option maxHeartbeats 4000000 in
theorem loop10 (K : K10 C) {T : AVal} (G : G10 fx dy R b σ) (hb : b ≤ 65) {Q : AFlow → AEnv → AHeap → Prop} (hQ : ∀ m' R' σ', E10 fx dy R' σ' → Has m' (env10 fx T) → Q .next m' σ') :
    Seg1 PySem.Challenge.pw_dn0301_10 5 [] 4 fun scope st => ∀ A₀ A base h₀ outer L fa cdv pin, W1 C 20 ⟨A₀, A, base, h₀, outer, L, fa, Str.ofString "law", scope, cdv, cl10 fx, pin, none⟩ st (env10 fx T) σ Q := by
  refine seg1_intro (by rfl) ?_
  intro A₀ A base h₀ outer L fa cdv pin
  have K' := K
  cases K'
  dsimp only [cl10]
  have hN := G.hN
  have hM := G.hM
  have hk := G.hk
  have hl1 : ((List.range R.MS).map fun j => AVal.obj (dy (7, j))).length = R.MS := by simp
  with_reducible refine w1_for (fun rest m' σ' => ∃ j, rest = (rngL 0 1 R.MS).drop j ∧ P10 fx dy { R with vs := ext j R.vs, vc := ext j R.vc } σ' ∧ m' = env10 fx T) ?_ ?_ ?_ ?hs
  case hs => intro _; rfl
  · have o1 : σ (fx (1, 0)) = some (.list ((List.range R.MS).map fun j => .obj (dy (7, j)))) := G.H.at_ (1, 0) rfl
    refine wi ?_
    dsimp only [env10]
    repeat walk_at "fw"
    refine tc_range1 ?_
    rw [hl1]
    refine ti_rng (k := R.MS) (rng_small1 (by omega) (by omega)) (rng_size1' (k := R.MS)) ⟨rfl, 0, by simp, ?_, rfl⟩
    have : ∀ v : Nat → List Int, ext 0 v = v := fun v => by funext i; simp [ext]
    rw [this, this]; exact G.H
  · rintro pin x xs m' σ' ⟨j, h, H, rfl⟩
    obtain ⟨hj, rfl, rfl⟩ := rngL_cons h
    rw [show (0 + (j : Int) * 1) = j by omega]
    have hjC : j < R.MC := by rw [G.eM]; exact hj
    have FQ := P10.fxq H
    have c0 : σ' (fx (0, 0)) = some (.cell (some (.obj (fx (2, 0))))) := by rw [← G.con]; exact H.at_ (0, 0) (by show 0 < 5; omega)
    have o1 : σ' (fx (1, 0)) = some (.list ((List.range R.MS).map fun j => .obj (dy (7, j)))) := H.at_ (1, 0) rfl
    have o2 : σ' (fx (2, 0)) = some (.list ((List.range R.MC).map fun j => .obj (dy (8, j)))) := H.at_ (2, 0) rfl
    have e1 : ∀ v : Nat → List Int, ext j v j = v j := fun v => by simp [ext]
    have o7 : σ' (dy (7, j)) = some (.list ((R.vs j).map .int)) := by rw [← e1 R.vs]; exact H.at_ (7, j) hj
    have o8 : σ' (dy (8, j)) = some (.list ((R.vc j).map .int)) := by rw [← e1 R.vc]; exact H.at_ (8, j) hjC
    have d7 : DQ fx (dy (7, j)) := P10.dq H (by omega) hj
    have d8 : DQ fx (dy (8, j)) := P10.dq H (by omega) hjC
    have d78 : dy (7, j) ≠ dy (8, j) := P10.dd H (by omega) (by omega) hj hjC (by simp)
    have hvj := G.hv j hj
    have hvc := G.ev j hj
    walk_at "fw"
    dsimp only [Fm.withPin, env10]
    repeat walk_at "fw"
    refine t2_item (y := .obj (dy (7, j))) (items_obj o1) (by omega) (by omega) (at_range hj) ?_
    refine tg_listM (by walk_at "hp") PySem.F.slot_list_append PySem.F.type_list_append ?_
    repeat walk_at "fw"
    refine tc_append (by walk_at "hp") (by simp [sizeLine_eq]; omega) ?_
    repeat walk_at "fw"
    refine t2_item (y := .obj (dy (8, j))) (items_obj (by walk_at "hp")) (by omega) (by omega) (at_range hjC) ?_
    refine tg_listM (by walk_at "hp") PySem.F.slot_list_append PySem.F.type_list_append ?_
    repeat walk_at "fw"
    refine tc_append (by walk_at "hp") (by simp [sizeLine_eq, hvc]; omega) ?_
    repeat walk_at "fw"
    have H4 := P10.con (p := j) (l := R.vc j ++ [-1 - (j : Int)]) (P10.str (p := j) (l := R.vs j ++ [-1 - (j : Int)]) H hj) hjC
    dsimp only at H4
    rw [ext_up, ext_up, List.map_append, List.map_append] at H4
    exact ⟨env10 fx T, _, Has.sub ⟨rfl, rfl, rfl, rfl, rfl, trivial⟩, AHeap.le_refl _, j + 1, rfl, H4, rfl⟩
  · rintro m' σ' ⟨j, h, H, rfl⟩
    refine hQ _ _ _ ⟨H, G.eN, G.eM, fun i hi => ?_, by show R.NS ≤ _; omega, by show R.MS ≤ _; omega, by show R.k ≤ _; omega, G.lk, G.con⟩ ⟨rfl, rfl, rfl, rfl, rfl, trivial⟩
    show ext j R.vc i = ext j R.vs i
    unfold ext
    rw [G.ev i hi]
theorem AHeap.del_at {σ : AHeap} {a b : Addr} {o : AObj} (h : σ b = some o) (hn : b ≠ a) : (σ.del a) b = some o := (AHeap.del_ne _ hn).trans h
def L10' (R : R10) (y : Ix) : Prop := R.Live y ∧ y ≠ (3, 0) ∧ y ≠ (4, 0)
theorem cellX {ad : Ix → Addr} {L : Ix → Prop} {i : Nat} {v : Option AVal} (H : Hx σ ad L (R.obj ad)) (hi : L (0, i)) : Hx (σ.set (ad (0, i)) (.cell v)) ad L ({ R with cv := up R.cv i v }.obj ad) := by
  refine Hx.obj (Hx.set (x := (0, i)) H hi) fun y hy => ?_
  obtain ⟨k, j⟩ := y
  by_cases e : (k, j) = (0, i)
  · cases e; simp [up, R10.obj]
  · rw [up_ne _ _ e]
    rcases k with _ | _ | _ | _ | _ | _ | _ | _ | _ | k <;> first | rfl | skip
    have : j ≠ i := fun q => e (by rw [q])
    simp [R10.obj, up, this]
theorem pick_take {xs : List AVal} {k : Nat} : pickA xs none (some (k : Int)) none = xs.take k := by
  rw [pickA_plain]
  simp only [Option.elim, clipAt_nat, List.drop_zero, Nat.sub_zero]
  rw [Nat.min_comm, List.take_eq_take_min (i := k)]
  rw [Nat.min_comm]
theorem pick_drop {xs : List AVal} {k : Nat} : pickA xs (some (k : Int)) none none = xs.drop k := by
  rw [pickA_plain]
  simp only [Option.elim, clipAt_nat]
  rcases Nat.le_total k xs.length with h | h
  · rw [Nat.min_eq_left h, List.take_of_length_le (by simp)]
  · rw [Nat.min_eq_right h, List.drop_of_length_le (Nat.le_refl _), List.drop_of_length_le h]; simp
/-- due numbers read -/
def wantA (dy : Ix → Addr) (y : AVal) : AVal := match y with
  | .int j => .obj (dy (8, j.toNat))
  | _ => .none
theorem rd_field {R : R10} {σ : AHeap} {i f : Nat} (ho7 : ∀ j, j < R.MS → σ (dy (7, j)) = some (.list ((R.vs j).map .int))) (ho8 : ∀ j, j < R.MS → σ (dy (8, j)) = some (.list ((R.vs j).map .int)))
    (h : Lk dy R.MS f (R.iv i f) (R.rv i f)) : ∃ d, Rd σ (R.iv i f) d ∧ Rd σ (if f < 3 then R.rv i f else wantA dy (R.rv i f)) d ∧ Dk 2 d := by
  rcases h with ⟨hf, o, ho, hx, hy⟩ | ⟨hf, ⟨hx, hy⟩ | ⟨j, hj, hx, hy⟩⟩
  · rw [if_pos hf, hx, hy]
    cases o with
    | none => exact ⟨_, .none, .none, Dk.none⟩
    | some x => exact ⟨_, .str x, .str x, Dk.str (ho x rfl)⟩
  · rw [if_neg (by omega), hx, hy]
    exact ⟨_, .none, .none, Dk.none⟩
  · rw [if_neg (by omega), hx, hy]
    have dk : Dk 2 (.list ((R.vs j).map .int)) := Dk.list fun d hd => by
      obtain ⟨i, _, rfl⟩ := List.mem_map.mp hd
      exact Dk.int
    exact ⟨_, .obj (ho7 j hj) (rdAll_ints _), .obj (ho8 j hj) (rdAll_ints _), dk⟩
set_option maxHeartbeats 4000000 in
theorem end10 (K : K10 C) {T : AVal} (G : E10 fx dy R σ) :
    Seg PySem.Challenge.pw_dn0301_10 5 [] 5 fun scope ss => ∀ A₀ A base h₀ outer L fa cdv pin, WS C 20 ⟨A₀, A, base, h₀, outer, L, fa, Str.ofString "law", scope, cdv, cl10 fx, pin, none⟩ ss (env10 fx T) σ fun fl _ _ => fl = .ret (.bool true) := by
  refine seg_intro (by rfl) ?_
  intro A₀ A base h₀ outer L fa cdv pin
  have K' := K
  cases K'
  dsimp only [cl10]
  have hN := G.hN
  have hM := G.hM
  have hk := G.hk
  have FQ := P10.fxq G.H
  have o3 : σ (fx (3, 0)) = some (.list ((List.range R.NS).map fun i => .obj (dy (9, i)))) := G.H.at_ (3, 0) rfl
  have o4 : σ (fx (4, 0)) = some (.list ((List.range R.NR).map fun i => .obj (dy (6, i)))) := G.H.at_ (4, 0) rfl
  have n34 : fx (4, 0) ≠ fx (3, 0) := hfxq FQ (by decide) (by decide) (by decide)
  refine WS.still (y := Str.ofString "sources") o3 rfl ?_
  refine WS.still (y := Str.ofString "record") (AHeap.del_at o4 n34) rfl ?_
  have H0 : Hx ((σ.del (fx (3, 0))).del (fx (4, 0))) (adr fx dy) (L10' R) (R.obj (adr fx dy)) := by
    refine ⟨fun y hy => ?_, fun x y hx hy h => G.H.ne x y hx.1 hy.1 h⟩
    refine AHeap.del_at (AHeap.del_at (G.H.at_ y hy.1) ?_) ?_
    · exact G.H.ne y (3, 0) hy.1 rfl hy.2.1
    · exact G.H.ne y (4, 0) hy.1 rfl hy.2.2
  generalize hσ0 : (σ.del (fx (3, 0))).del (fx (4, 0)) = σ0 at H0
  with_reducible refine WS.weaken (m' := [(Str.ofString "script", T), (Str.ofString "streams", .obj (fx (1, 0))), (Str.ofString "answers", .obj (fx (5, 0))), (Str.ofString "sources", .lst ((List.range R.NS).map fun i => .obj (dy (9, i)))), (Str.ofString "record", .lst ((List.range R.NR).map fun i => .obj (dy (6, i))))]) ?h1 (AHeap.le_refl _) ?_
  case h1 => exact Has.sub ⟨rfl, rfl, rfl, rfl, rfl, trivial⟩
  clear o3 o4 hσ0
  with_reducible refine ws_cons ?_
  with_reducible refine w1_forT (fun rest m' σ' => ∃ i cv', rest = (zipA ((List.range R.NS).map fun i => .obj (dy (9, i))) ((List.range R.NR).map fun i => .obj (dy (6, i)))).drop i ∧ cv' 0 = some (.obj (fx (2, 0))) ∧ Hx σ' (adr fx dy) (L10' R) ({ R with cv := cv' }.obj (adr fx dy)) ∧ m' = [(Str.ofString "script", T), (Str.ofString "streams", .obj (fx (1, 0))), (Str.ofString "answers", .obj (fx (5, 0))), (Str.ofString "sources", .lst ((List.range R.NS).map fun i => .obj (dy (9, i)))), (Str.ofString "record", .lst ((List.range R.NR).map fun i => .obj (dy (6, i))))]) ?_ ?_ ?_ ?hst ?hs
  case hst => rfl
  case hs => intro _; rfl
  · refine wit_zip ?_ ?hpl
    case hpl => rfl
    repeat walk_at "fw"
    refine And.intro rfl ?_
    repeat walk_at "fw"
    exact ⟨_, _, rfl, rfl, 0, R.cv, by simp, G.con, H0, rfl⟩
  · rintro pin x xs m' σ' ⟨i, cv', h, hc0, H, rfl⟩
    have hz := zipA_length (xs := (List.range R.NS).map fun i => AVal.obj (dy (9, i))) (ys := (List.range R.NR).map fun i => AVal.obj (dy (6, i)))
    rw [List.length_map, List.length_map, List.length_range, List.length_range, G.eN, Nat.min_self] at hz
    have hi : i < R.NS := by
      have := congrArg List.length h
      rw [List.length_drop, ← G.eN, G.eN] at this
      simp only [List.length_cons] at this
      omega
    have hx : (zipA ((List.range R.NS).map fun i => AVal.obj (dy (9, i))) ((List.range R.NR).map fun i => AVal.obj (dy (6, i))))[i]? = some x := by
      have := congrArg (fun l : List (List AVal) => l[0]?) h
      simp only [List.getElem?_cons_zero, List.getElem?_drop, Nat.add_zero] at this
      exact this.symm
    have hxs : xs = (zipA ((List.range R.NS).map fun i => AVal.obj (dy (9, i))) ((List.range R.NR).map fun i => AVal.obj (dy (6, i)))).drop (i + 1) := by
      have := congrArg List.tail h
      simpa using this
    obtain ⟨x1, x2, g1, g2, rfl⟩ := zipA_get hx
    have hiR : i < R.NR := by rw [G.eN]; exact hi
    rw [at_range hi] at g1
    rw [at_range hiR] at g2
    cases g1; cases g2
    subst hxs
    clear h hx
    have c0 : σ' (fx (0, 0)) = some (.cell (some (.obj (fx (2, 0))))) := by rw [← hc0]; exact H.at_ (0, 0) ⟨by show 0 < 5; omega, by decide, by decide⟩
    have c2 : σ' (fx (0, 2)) = some (.cell (cv' 2)) := H.at_ (0, 2) ⟨by show 2 < 5; omega, by decide, by decide⟩
    have c3 : σ' (fx (0, 3)) = some (.cell (cv' 3)) := H.at_ (0, 3) ⟨by show 3 < 5; omega, by decide, by decide⟩
    have o2 : σ' (fx (2, 0)) = some (.list ((List.range R.MC).map fun j => .obj (dy (8, j)))) := H.at_ (2, 0) ⟨rfl, by decide, by decide⟩
    have o6 : σ' (dy (6, i)) = some (.list (row5 (R.rv i))) := H.at_ (6, i) ⟨hiR, by simp, by simp⟩
    have o9 : σ' (dy (9, i)) = some (.inst 102 (srcV (R.iv i))) := H.at_ (9, i) ⟨hi, by simp, by simp⟩
    have o7 : ∀ j, j < R.MS → σ' (dy (7, j)) = some (.list ((R.vs j).map .int)) := fun j hj => H.at_ (7, j) ⟨hj, by simp, by simp⟩
    have o8 : ∀ j, j < R.MS → σ' (dy (8, j)) = some (.list ((R.vs j).map .int)) := fun j hj => by rw [← G.ev j hj]; exact H.at_ (8, j) ⟨by show j < R.MC; rw [G.eM]; exact hj, by simp, by simp⟩
    have d6 : DQ fx (dy (6, i)) := P10.dq G.H (by omega) hiR
    have d9 : DQ fx (dy (9, i)) := P10.dq G.H (by omega) hi
    have d7 : ∀ j, j < R.MS → DQ fx (dy (7, j)) := fun j hj => P10.dq G.H (by omega) hj
    have d8 : ∀ j, j < R.MS → DQ fx (dy (8, j)) := fun j hj => P10.dq G.H (by omega) (by show j < R.MC; rw [G.eM]; exact hj)
    refine And.intro rfl ?_
    dsimp only [Fm.withPin]
    repeat walk_at "fw"
    have H1 := cellX (i := 3) (v := some (.obj (dy (6, i)))) (cellX (i := 2) (v := some (.obj (dy (9, i)))) H ⟨by show 2 < 5; omega, by decide, by decide⟩) ⟨by show 3 < 5; omega, by decide, by decide⟩
    have hc0' : (up (up cv' 2 (some (.obj (dy (9, i))))) 3 (some (.obj (dy (6, i))))) 0 = some (.obj (fx (2, 0))) := hc0
    change Hx ((σ'.set (fx (0, 2)) (.cell (some (.obj (dy (9, i)))))).set (fx (0, 3)) (.cell (some (.obj (dy (6, i)))))) _ _ _ at H1
    dsimp only at H1
    generalize up (up cv' 2 (some (.obj (dy (9, i))))) 3 (some (.obj (dy (6, i)))) = cw at H1 hc0'
    have q0 : ((σ'.set (fx (0, 2)) (.cell (some (.obj (dy (9, i)))))).set (fx (0, 3)) (.cell (some (.obj (dy (6, i)))))) (fx (0, 0)) = some (.cell (some (.obj (fx (2, 0))))) := by walk_at "hp"
    have q2 : ((σ'.set (fx (0, 2)) (.cell (some (.obj (dy (9, i)))))).set (fx (0, 3)) (.cell (some (.obj (dy (6, i)))))) (fx (0, 2)) = some (.cell (some (.obj (dy (9, i))))) := by walk_at "hp"
    have q3 : ((σ'.set (fx (0, 2)) (.cell (some (.obj (dy (9, i)))))).set (fx (0, 3)) (.cell (some (.obj (dy (6, i)))))) (fx (0, 3)) = some (.cell (some (.obj (dy (6, i))))) := by walk_at "hp"
    have s2 : ((σ'.set (fx (0, 2)) (.cell (some (.obj (dy (9, i)))))).set (fx (0, 3)) (.cell (some (.obj (dy (6, i)))))) (fx (2, 0)) = some (.list ((List.range R.MC).map fun j => .obj (dy (8, j)))) := by walk_at "hp"
    have s6 : ((σ'.set (fx (0, 2)) (.cell (some (.obj (dy (9, i)))))).set (fx (0, 3)) (.cell (some (.obj (dy (6, i)))))) (dy (6, i)) = some (.list (row5 (R.rv i))) := by walk_at "hp"
    have s9 : ((σ'.set (fx (0, 2)) (.cell (some (.obj (dy (9, i)))))).set (fx (0, 3)) (.cell (some (.obj (dy (6, i)))))) (dy (9, i)) = some (.inst 102 (srcV (R.iv i))) := by walk_at "hp"
    have s7 : ∀ j, j < R.MS → ((σ'.set (fx (0, 2)) (.cell (some (.obj (dy (9, i)))))).set (fx (0, 3)) (.cell (some (.obj (dy (6, i)))))) (dy (7, j)) = some (.list ((R.vs j).map .int)) := fun j hj => by
      have z := o7 j hj; have w := d7 j hj; walk_at "hp"
    have s8 : ∀ j, j < R.MS → ((σ'.set (fx (0, 2)) (.cell (some (.obj (dy (9, i)))))).set (fx (0, 3)) (.cell (some (.obj (dy (6, i)))))) (dy (8, j)) = some (.list ((R.vs j).map .int)) := fun j hj => by
      have z := o8 j hj; have w := d8 j hj; walk_at "hp"
    generalize (σ'.set (fx (0, 2)) (.cell (some (.obj (dy (9, i)))))).set (fx (0, 3)) (.cell (some (.obj (dy (6, i))))) = σ1 at *
    clear c0 c2 c3 o2 o6 o9 o7 o8 H hc0
    refine we_slice ?_
    repeat walk_at "fw"
    refine ⟨_, _, _, _, items_obj s6, rfl, rfl, rfl, by decide, by simp [row5, sizeLine_eq], ?_⟩
    have e1 : pickA (row5 (R.rv i)) none (some 3) none = _ := pick_take (k := 3)
    rw [e1]
    have hlk := G.lk i hi
    refine we_compB (cl := [(Str.ofString "content", fx (0, 0))]) (fun back rest ys σ'' => back = id ∧ σ1 = σ'' ∧ ∃ e, [R.rv i 3, R.rv i 4] = e ++ rest ∧ ys = e.map (wantA dy)) rfl ?_ ?_ ?_
    · refine wi ?_
      refine we_slice ?_
      repeat walk_at "fw"
      refine ⟨_, _, _, _, items_obj s6, rfl, rfl, rfl, by decide, by simp [row5, sizeLine_eq], ?_⟩
      have e2 : pickA (row5 (R.rv i)) (some 3) none none = _ := pick_drop (k := 3)
      rw [e2]
      exact ti_lst ⟨by simp [row5, sizeLine_eq], rfl, rfl, [], rfl, rfl⟩
    · rintro back pin c v xs ys σ'' ⟨rfl, rfl, e, he, rfl⟩ hc
      have hv : v = .none ∨ ∃ j, j < R.MS ∧ v = .int (j : Int) := by
        have hm : v = R.rv i 3 ∨ v = R.rv i 4 := by
          have : v ∈ [R.rv i 3, R.rv i 4] := by rw [he]; simp
          simpa using this
        rcases hm with rfl | rfl
        · rcases hlk 3 (by omega) with ⟨q, _⟩ | ⟨_, ⟨_, q⟩ | ⟨j, hj, _, q⟩⟩
          · omega
          · exact .inl q
          · exact .inr ⟨j, hj, q⟩
        · rcases hlk 4 (by omega) with ⟨q, _⟩ | ⟨_, ⟨_, q⟩ | ⟨j, hj, _, q⟩⟩
          · omega
          · exact .inl q
          · exact .inr ⟨j, hj, q⟩
      have z0 : fx (0, 0) ≠ c := hp_ne q0 hc
      have z2 : fx (2, 0) ≠ c := hp_ne s2 hc
      have hMC : R.MS = R.MC := G.eM.symm
      rcases hv with rfl | ⟨j, hj, rfl⟩
      · repeat walk_at "fw"
        refine t2_isNone rfl ?_
        repeat walk_at "fw"
        exact ⟨⟨_, AHeap.set_same ..⟩, _, AHeap.le_set hc, hc, rfl, rfl, e ++ [.none], by simp [he], by simp [wantA]⟩
      · repeat walk_at "fw"
        refine t2_isNone rfl ?_
        repeat walk_at "fw"
        refine t2_item (y := .obj (dy (8, j))) (items_obj (by walk_at "hp")) (by omega) (by omega) (at_range (n := R.MC) (hMC ▸ hj)) ?_
        exact ⟨⟨_, AHeap.set_same ..⟩, _, AHeap.le_set hc, hc, rfl, rfl, e ++ [.int j], by simp [he], by simp [wantA]⟩
    · rintro back ys σ'' ⟨rfl, rfl, e, he, rfl⟩
      rw [List.append_nil] at he
      subst he
      dsimp only [id]
      refine t2_cat rfl rfl (by simp [row5, sizeLine_eq]) ?_
      repeat walk_at "fw"
      refine we_compB (cl := [(Str.ofString "source", fx (0, 2))]) (fun back rest ys σ'' => back = id ∧ σ1 = σ'' ∧ ∃ j, rest = (rngL 0 1 5).drop j ∧ ys = (List.range j).map (R.iv i) ∧ j ≤ 5) rfl ?_ ?_ ?_
      · refine wi ?_
        repeat walk_at "fw"
        refine tc_range1 ?_
        exact ti_rng (k := 5) (rng_small1 (by omega) (by omega)) (rng_size1' (k := 5)) ⟨by rw [rngL_length, sizeLine_eq]; omega, rfl, rfl, 0, by simp, rfl, by omega⟩
      · rintro back pin c v xs ys σ'' ⟨rfl, rfl, j, h, rfl, hj5⟩ hc
        obtain ⟨hj, rfl, rfl⟩ := rngL_cons h
        rw [show (0 + (j : Int) * 1) = j by omega]
        have z2 : fx (0, 2) ≠ c := hp_ne q2 hc
        have z9 : dy (9, i) ≠ c := hp_ne s9 hc
        repeat walk_at "fw"
        refine tc_fn (by assumption) (get10 K hj (by walk_at "hp") (hlk j hj).handed ?_)
        refine ⟨⟨_, AHeap.set_same ..⟩, _, AHeap.le_set hc, hc, rfl, rfl, j + 1, rfl, ?_, by omega⟩
        rw [List.range_succ, List.map_append]; rfl
      · rintro back ys σ'' ⟨rfl, rfl, j, h, rfl, hj5⟩
        have hj := rngL_nil h
        obtain rfl : j = 5 := by omega
        dsimp only [id]
        repeat walk_at "fw"
        obtain ⟨d0, r0, t0, k0⟩ := rd_field (i := i) (f := 0) s7 s8 (hlk 0 (by omega))
        obtain ⟨d1, r1, t1, k1⟩ := rd_field (i := i) (f := 1) s7 s8 (hlk 1 (by omega))
        obtain ⟨d2, r2, t2, k2⟩ := rd_field (i := i) (f := 2) s7 s8 (hlk 2 (by omega))
        obtain ⟨d3, r3, t3, k3⟩ := rd_field (i := i) (f := 3) s7 s8 (hlk 3 (by omega))
        obtain ⟨d4, r4, t4, k4⟩ := rd_field (i := i) (f := 4) s7 s8 (hlk 4 (by omega))
        refine t2_neS (d := .list [d0, d1, d2, d3, d4]) (k := 3) (Rd.lst (.cons r0 (.cons r1 (.cons r2 (.cons r3 (.cons r4 .nil)))))) (Rd.lst (.cons t0 (.cons t1 (.cons t2 (.cons t3 (.cons t4 .nil)))))) (Dk.list fun d hd => ?_) ?_
        · simp only [List.mem_cons, List.not_mem_nil, or_false] at hd
          rcases hd with rfl | rfl | rfl | rfl | rfl <;> assumption
        repeat walk_at "fw"
        exact ⟨[(Str.ofString "script", T), (Str.ofString "streams", .obj (fx (1, 0))), (Str.ofString "answers", .obj (fx (5, 0))), (Str.ofString "sources", .lst ((List.range R.NS).map fun i => .obj (dy (9, i)))), (Str.ofString "record", .lst ((List.range R.NR).map fun i => .obj (dy (6, i))))], _, Has.sub ⟨rfl, rfl, rfl, rfl, rfl, trivial⟩, AHeap.le_refl _, i + 1, cw, rfl, hc0', H1, rfl⟩
  · rintro m' σ' ⟨i, cv', h, hc0, H, rfl⟩
    have o5 : σ' (fx (5, 0)) = some (.list (List.replicate R.k .none)) := H.at_ (5, 0) ⟨rfl, by decide, by decide⟩
    have hlk : (List.replicate R.k AVal.none).length = R.k := by simp
    iterate 5 walk_at "fw"
    refine we_listM ?_
    repeat walk_at "fw"
    intro l hl
    have z5 : fx (5, 0) ≠ l := hp_ne o5 hl
    repeat walk_at "fw"
    rw [hlk]
    refine t2_mulObj (AHeap.set_same ..) (by omega) (by omega) (by simp; omega) ?_
    have e : (List.replicate ((R.k : Int)).toNat [AVal.none]).flatten = List.replicate R.k .none := by
      rw [show ((R.k : Int)).toNat = R.k from rfl]; exact lm_rep_flat_one _ _
    rw [e]
    have rdN : ∀ (σ : AHeap) (k : Nat), RdAll σ (List.replicate k .none) (List.replicate k .none) := fun σ k => by
      induction k with
      | zero => exact .nil
      | succ k ih => rw [List.replicate_succ, List.replicate_succ]; exact .cons .none ih
    refine t2_eqS (k := 1) (Rd.obj (by walk_at "hp") (rdN _ _)) (Rd.lst (rdN _ _)) (Dk.list (k := 0) fun d hd => by rw [List.eq_of_mem_replicate hd]; exact Dk.none) ?_
    rfl
end
end Mine

open PySem PySem.W PyProof.Rows PySem.Calls
open Mine

namespace Mine
def va0 : Nat → AVal
  | 0 => .str (Str.ofString "a")
  | _ => .none
def rb0 : Nat → AVal
  | 0 => .str (Str.ofString "a")
  | 1 => .str (Str.ofString "b")
  | 2 => .str (Str.ofString "c")
  | 3 => .int 0
  | _ => .int 1
def vs0 : Nat → List Int
  | 0 => [0]
  | _ => [1]
def R0 (c : Addr) : R10 := ⟨1, 1, 2, 2, 0, fun _ => va0, fun _ => rb0, vs0, vs0, fun i => if i = 0 then some (.obj c) else none⟩
/-- the source's things as the first loop sets them -/
def vz (s0 s1 : Addr) : Nat → Nat → AVal
  | 0 => va0
  | 1 => up va0 1 (.str (Str.ofString "b"))
  | 2 => up (up va0 1 (.str (Str.ofString "b"))) 2 (.str (Str.ofString "c"))
  | 3 => up (up (up va0 1 (.str (Str.ofString "b"))) 2 (.str (Str.ofString "c"))) 3 (.obj s0)
  | _ => up (up (up (up va0 1 (.str (Str.ofString "b"))) 2 (.str (Str.ofString "c"))) 3 (.obj s0)) 4 (.obj s1)
def rowz (s0 s1 : Addr) : List (List AVal) := [[.int 1, .str (Str.ofString "b")], [.int 2, .str (Str.ofString "c")], [.int 3, .obj s0], [.int 4, .obj s1]]
section
variable {C : Cx} {fx dy : Ix → Addr} {σ : AHeap}
set_option maxHeartbeats 4000000 in
theorem first10 (K : K10 C) {T : AVal} (H : P10 fx dy (R0 (fx (2, 0))) σ) {Q : AFlow → AEnv → AHeap → Prop} (hQ : ∀ m' R' σ', G10 fx dy R' 0 σ' → Has m' (env10 fx T) → Q .next m' σ') :
    Seg1 PySem.Challenge.pw_dn0301_10 5 [] 2 fun scope st => ∀ A₀ A base h₀ outer L fa cdv pin, W1 C 20 ⟨A₀, A, base, h₀, outer, L, fa, Str.ofString "law", scope, cdv, cl10 fx, pin, none⟩ st (env10 fx T) σ Q := by
  refine seg1_intro (by rfl) ?_
  intro A₀ A base h₀ outer L fa cdv pin
  have K' := K
  cases K'
  dsimp only [cl10]
  with_reducible refine w1_forT (fun rest m' σ' => ∃ j, rest = (rowz (dy (7, 0)) (dy (7, 1))).drop j ∧ j ≤ 4 ∧ P10 fx dy { R0 (fx (2, 0)) with iv := fun _ => vz (dy (7, 0)) (dy (7, 1)) j, k := j } σ' ∧ m' = env10 fx T) ?_ ?_ ?_ ?hst ?hs
  case hst => rfl
  case hs => intro _; rfl
  · have o1 : σ (fx (1, 0)) = some (.list [.obj (dy (7, 0)), .obj (dy (7, 1))]) := H.at_ (1, 0) rfl
    dsimp only [env10]
    refine wit_lst ?_
    repeat walk_at "fw"
    refine t2_item (y := .obj (dy (7, 0))) (items_obj o1) (by omega) (by omega) rfl ?_
    repeat walk_at "fw"
    refine t2_item (y := .obj (dy (7, 1))) (items_obj o1) (by omega) (by omega) rfl ?_
    repeat walk_at "fw"
    exact ⟨rowz (dy (7, 0)) (dy (7, 1)), rfl, rfl, 0, rfl, by omega, H, rfl⟩
  · rintro pin x xs m' σ' ⟨j, h, hj4, H, rfl⟩
    have hj : j < 4 := by
      have := congrArg List.length h
      rw [List.length_drop] at this
      simp [rowz] at this
      omega
    have FQ := P10.fxq H
    have o3 : σ' (fx (3, 0)) = some (.list [.obj (dy (9, 0))]) := H.at_ (3, 0) rfl
    have o5 : σ' (fx (5, 0)) = some (.list (List.replicate j .none)) := H.at_ (5, 0) rfl
    have o9 : σ' (dy (9, 0)) = some (.inst 102 (srcV (vz (dy (7, 0)) (dy (7, 1)) j))) := H.at_ (9, 0) (by show 0 < 1; omega)
    have d9 : DQ fx (dy (9, 0)) := P10.dq H (by omega) (by show 0 < 1; omega)
    have key : ∃ w : AVal, x = [.int ((j + 1 : Nat) : Int), w] ∧ xs = (rowz (dy (7, 0)) (dy (7, 1))).drop (j + 1) ∧ up (vz (dy (7, 0)) (dy (7, 1)) j) (j + 1) w = vz (dy (7, 0)) (dy (7, 1)) (j + 1) := by
      obtain rfl | rfl | rfl | rfl : j = 0 ∨ j = 1 ∨ j = 2 ∨ j = 3 := by omega
      all_goals cases h; exact ⟨_, rfl, rfl, rfl⟩
    obtain ⟨w, rfl, rfl, hw⟩ := key
    refine And.intro rfl ?_
    dsimp only [Fm.withPin, env10]
    repeat walk_at "fw"
    refine tg_listM o5 PySem.F.slot_list_append PySem.F.type_list_append ?_
    repeat walk_at "fw"
    refine t2_item (y := .obj (dy (9, 0))) (items_obj o3) (by omega) (by omega) rfl ?_
    repeat walk_at "fw"
    refine tc_fn (by assumption) (set10 K (by omega) o9 ?_)
    repeat walk_at "fw"
    refine tc_append (by walk_at "hp") (by simp [sizeLine_eq]; omega) ?_
    repeat walk_at "fw"
    refine ⟨env10 fx T, _, Has.sub ⟨rfl, rfl, rfl, rfl, rfl, trivial⟩, AHeap.le_refl _, j + 1, rfl, by omega, ?_, rfl⟩
    have H' := P10.ans (P10.src (p := 0) (w := vz (dy (7, 0)) (dy (7, 1)) (j + 1)) H (by show 0 < 1; omega))
    rw [hw]
    refine Hx.obj H' fun y hy => ?_
    obtain ⟨k, i⟩ := y
    rcases k with _ | _ | _ | _ | _ | _ | _ | _ | _ | _ | k <;> first | rfl | skip
    · have : i < 1 := hy
      obtain rfl : i = 0 := by omega
      rfl
    · exact hy.elim
  · rintro m' σ' ⟨j, h, hj4, H, rfl⟩
    have hj : j = 4 := by
      have := congrArg List.length h
      rw [List.length_drop] at this
      simp [rowz] at this
      omega
    subst hj
    refine hQ _ _ _ ⟨H, rfl, rfl, fun j hj => rfl, by show 0 < 1; omega, by show 1 ≤ 1; omega, by show 2 ≤ 2; omega, by show 4 ≤ 4; omega, fun j hj => ?_, fun i hi f hf => ?_, rfl⟩ ⟨rfl, rfl, rfl, rfl, rfl, trivial⟩
    · show (vs0 j).length ≤ 1
      unfold vs0
      split <;> simp
    · obtain rfl | rfl | rfl | rfl | rfl : f = 0 ∨ f = 1 ∨ f = 2 ∨ f = 3 ∨ f = 4 := by omega
      · exact .inl ⟨by omega, some _, (fun x e => by cases e; decide +kernel), rfl, rfl⟩
      · exact .inl ⟨by omega, some _, (fun x e => by cases e; decide +kernel), rfl, rfl⟩
      · exact .inl ⟨by omega, some _, (fun x e => by cases e; decide +kernel), rfl, rfl⟩
      · exact .inr ⟨by omega, .inr ⟨0, by show 0 < 2; omega, rfl, rfl⟩⟩
      · exact .inr ⟨by omega, .inr ⟨1, by show 1 < 2; omega, rfl, rfl⟩⟩
end
end Mine

open PySem PySem.W PyProof.Rows PySem.Calls
open Mine

namespace Mine
section
variable {C : Cx} {fx dy : Ix → Addr} {σ : AHeap}
def liveL : List Ix := [(4, 0), (6, 0), (3, 0), (9, 0), (5, 0), (2, 0), (8, 1), (8, 0), (1, 0), (7, 1), (7, 0), (0, 4), (0, 3), (0, 2), (0, 1), (0, 0)]
theorem init10 {ad : Ix → Addr} {o : Ix → AObj} (X : Hx σ ad (· ∈ liveL) o) (h : o (0, 0) = .cell (some (.obj (ad (2, 0)))) ∧ o (0, 1) = .cell none ∧ o (0, 2) = .cell none ∧ o (0, 3) = .cell none ∧ o (0, 4) = .cell none ∧
    o (1, 0) = .list [.obj (ad (7, 0)), .obj (ad (7, 1))] ∧ o (2, 0) = .list [.obj (ad (8, 0)), .obj (ad (8, 1))] ∧ o (3, 0) = .list [.obj (ad (9, 0))] ∧ o (4, 0) = .list [.obj (ad (6, 0))] ∧ o (5, 0) = .list [] ∧
    o (6, 0) = .list (row5 rb0) ∧ o (7, 0) = .list [.int 0] ∧ o (7, 1) = .list [.int 1] ∧ o (8, 0) = .list [.int 0] ∧ o (8, 1) = .list [.int 1] ∧ o (9, 0) = .inst 102 (srcV va0)) : P10 ad ad (R0 (ad (2, 0))) σ := by
  have e : adr ad ad = ad := by funext x; unfold adr; split <;> rfl
  unfold P10
  rw [e]
  obtain ⟨h1, h2, h3, h4, h5, h6, h7, h8, h9, hA, hB, hC, hD, hE, hF, hG⟩ := h
  have key : ∀ y, (R0 (ad (2, 0))).Live y → y ∈ liveL := by
    rintro ⟨k, i⟩ hy
    rcases k with _ | _ | _ | _ | _ | _ | _ | _ | _ | _ | k
    · have : i < 5 := hy
      obtain rfl | rfl | rfl | rfl | rfl : i = 0 ∨ i = 1 ∨ i = 2 ∨ i = 3 ∨ i = 4 := by omega
      all_goals decide
    · obtain rfl : i = 0 := hy
      decide
    · obtain rfl : i = 0 := hy
      decide
    · obtain rfl : i = 0 := hy
      decide
    · obtain rfl : i = 0 := hy
      decide
    · obtain rfl : i = 0 := hy
      decide
    · have : i < 1 := hy
      obtain rfl : i = 0 := by omega
      decide
    · have : i < 2 := hy
      obtain rfl | rfl : i = 0 ∨ i = 1 := by omega
      all_goals decide
    · have : i < 2 := hy
      obtain rfl | rfl : i = 0 ∨ i = 1 := by omega
      all_goals decide
    · have : i < 1 := hy
      obtain rfl : i = 0 := by omega
      decide
    · exact hy.elim
  refine Hx.obj (Hx.sub X key) fun y hy => ?_
  have := key y hy
  simp only [liveL, List.mem_cons, List.not_mem_nil, or_false] at this
  rcases this with rfl | rfl | rfl | rfl | rfl | rfl | rfl | rfl | rfl | rfl | rfl | rfl | rfl | rfl | rfl | rfl
  · exact h9
  · exact hB
  · exact h8
  · exact hG
  · exact hA
  · exact h7
  · exact hF
  · exact hE
  · exact h6
  · exact hD
  · exact hC
  · exact h5
  · exact h4
  · exact h3
  · exact h2
  · exact h1
set_option maxHeartbeats 4000000 in
theorem rest10 (K : K10 C) {ns : List Int} (hns : ns.length ≤ 63) (H : P10 fx dy (R0 (fx (2, 0))) σ) :
    Seg PySem.Challenge.pw_dn0301_10 5 [] 2 fun scope ss => ∀ A₀ A base h₀ outer L fa cdv pin, WS C 20 ⟨A₀, A, base, h₀, outer, L, fa, Str.ofString "law", scope, cdv, cl10 fx, pin, none⟩ ss (env10 fx (.lst (ns.map .int))) σ fun fl _ _ => fl = .ret (.bool true) := by
  refine seg_intro (by rfl) ?_
  intro A₀ A base h₀ outer L fa cdv pin
  have K' := K
  cases K'
  with_reducible refine ws_cons ?_
  refine seg1_elim (first10 K H ?_) rfl _ _ _ _ _ _ _ _ _
  intro m' R σ' G hm
  with_reducible show WS _ _ _ _ _ _ _
  with_reducible refine WS.weaken (Has.sub hm) (AHeap.le_refl _) ?_
  with_reducible refine ws_cons ?_
  with_reducible refine w1_for (fun xs m σ => ∃ (us : List Int) (dy : Ix → Addr) (R : R10) (b : Nat), xs = us.map .int ∧ b + us.length ≤ 65 ∧ G10 fx dy R b σ ∧ m = env10 fx (.lst (ns.map .int))) ?_ ?_ ?_ ?hs
  case hs => intro _; rfl
  · refine wi ?_
    dsimp only [env10]
    repeat walk_at "fw"
    refine t2_cat rfl rfl (by simp [sizeLine_eq]; omega) ?_
    exact ti_lst ⟨rfl, [124, 0] ++ ns, dy, R, 0, by simp, by simp; omega, G, rfl⟩
  · rintro pin x xs m' σ' ⟨us, dy, R, b, he, hb, G, rfl⟩
    cases us with
    | nil => cases he
    | cons u us =>
      cases he
      walk_at "fw"
      dsimp only [Fm.withPin]
      have hb' : b + us.length + 1 ≤ 65 := by simpa [Nat.add_assoc] using hb
      with_reducible show WS _ _ _ _ _ _ _
      with_reducible refine WS.weaken (m' := (Str.ofString "x", .int u) :: env10 fx (.lst (ns.map .int))) ?h1 (AHeap.le_refl _) ?_
      case h1 => exact Has.sub ⟨rfl, rfl, rfl, rfl, rfl, rfl, trivial⟩
      with_reducible refine WS.mono (Q := Post10 fx b (.lst (ns.map .int))) ?h1 ?_
      case h1 => exact seg_elim (Mine.step10 K G (by omega)) rfl _ _ _ _ _ _ _ _ _
      rintro fl m' σ₁ ⟨rfl, ⟨dy, R, G⟩, hm⟩
      exact ⟨_, _, Has.sub hm, AHeap.le_refl _, us, dy, R, b + 1, rfl, by omega, G, rfl⟩
  · rintro m' σ' ⟨us, dy, R, b, he, hb, G, rfl⟩
    with_reducible show WS _ _ _ _ _ _ _
    with_reducible refine ws_cons ?_
    refine seg1_elim (loop10 K G (by omega) ?_) rfl _ _ _ _ _ _ _ _ _
    intro m' R' σ' G' hm
    with_reducible show WS _ _ _ _ _ _ _
    with_reducible refine WS.weaken (Has.sub hm) (AHeap.le_refl _) ?_
    exact seg_elim (Mine.end10 K G') rfl _ _ _ _ _ _ _ _ _
end
end Mine
set_option maxHeartbeats 8000000 in
theorem PySem.Challenge.cw_dn0301_10_holds : PySem.Challenge.rw_dn0301_10.Holds :=
  Mine.hd10 (by
  w_strict (k_go0
            refine' Mine.enter_lawD ?cs ?ml ?B ?X ?T ?hL ?hI ?F ?N ?Y ?hk ?hn ?hcs ?hck ?hml ?h ?hQ
            case B => assumption
            case X => assumption
            case T => assumption
            case hL => assumption
            case hI => assumption
            case F => assumption
            case N => assumption
            case Y => assumption
            case hk => rfl
            case hn => omega
            case hck => decide +kernel
            case cs => exact (fun L => [(Str.ofString "taken", L + 5), (Str.ofString "due", L + 4), (Str.ofString "source", L + 3), (Str.ofString "more", L + 2), (Str.ofString "content", L + 1)])
            case ml => exact (fun v => [(Str.ofString "script", v)])
            case hml => intro v; kernel_rfl
            case hcs => intro L; kernel_rfl
            case hQ =>
              intro h' tk mc' F'
              wrow_close
            case h =>
              intro A₀ A base h₀ outer L ns hns
              generalize hC : Mine.Cx.mk _ _ _ _ _ _ _ _ _ = C
              have K : Mine.K10 C := by subst hC; exact Mine.k10 rfl
              clear hC
              have K' := K
              cases K'
              dsimp only [cellS]
              have X0 := Hx.nilL (I := Ix) (fun _ => 0) (fun _ => .list [])
              have X1 := X0.newL (a := L + 1) (0, 0) (.cell none) rfl (by decide)
              have X2 := X1.newL (a := L + 2) (0, 1) (.cell none) (AHeap.set_ne _ _ (Nat.ne_of_gt (by omega))) (by decide)
              have X3 := X2.newL (a := L + 3) (0, 2) (.cell none) ((AHeap.set_ne _ _ (Nat.ne_of_gt (by omega))).trans (AHeap.set_ne _ _ (Nat.ne_of_gt (by omega)))) (by decide)
              have X4 := X3.newL (a := L + 4) (0, 3) (.cell none) ((AHeap.set_ne _ _ (Nat.ne_of_gt (by omega))).trans ((AHeap.set_ne _ _ (Nat.ne_of_gt (by omega))).trans (AHeap.set_ne _ _ (Nat.ne_of_gt (by omega))))) (by decide)
              have X5 := X4.newL (a := L + 5) (0, 4) (.cell none) ((AHeap.set_ne _ _ (Nat.ne_of_gt (by omega))).trans ((AHeap.set_ne _ _ (Nat.ne_of_gt (by omega))).trans ((AHeap.set_ne _ _ (Nat.ne_of_gt (by omega))).trans (AHeap.set_ne _ _ (Nat.ne_of_gt (by omega)))))) (by decide)
              clear X0 X1 X2 X3 X4
              change WS _ _ _ _ _ (((((AHeap.set (fun _ => none) (L + 1) (.cell none)).set (L + 2) (.cell none)).set (L + 3) (.cell none)).set (L + 4) (.cell none)).set (L + 5) (.cell none)) _
              have c0 := X5.at_ (0, 0) (by decide)
              change _ = some (AObj.cell none) at c0
              generalize ((((AHeap.set (fun _ => none) (L + 1) (.cell none)).set (L + 2) (.cell none)).set (L + 3) (.cell none)).set (L + 4) (.cell none)).set (L + 5) (.cell none) = σ5 at X5 c0 ⊢
              with_reducible refine ws_cons ?_
              with_reducible refine w1_assignT ?_ ?h1 ?h2
              case h1 => rfl
              case h2 => rfl
              with_reducible refine we_tup ?_
              iterate 1 walk_at "fw"
              refine we_listM ?_
              iterate 1 walk_at "fw"
              refine we_listM ?_
              iterate 4 walk_at "fw"
              intro a0 p0
              iterate 1 walk_at "fw"
              refine we_listM ?_
              iterate 4 walk_at "fw"
              intro a1 p1
              iterate 2 walk_at "fw"
              intro a2 p2
              have X6 := X5.newL (7, 0) (.list [.int 0]) p0 (by decide)
              have X7 := X6.newL (7, 1) (.list [.int 1]) p1 (by decide)
              have X8 := X7.newL (1, 0) (.list [.obj a0, .obj a1]) p2 (by decide)
              clear X5 X6 X7
              have n0 : L + 1 ≠ a0 := hp_ne c0 p0
              have n1 : L + 1 ≠ a1 := hp_ne (o := .cell none) (by walk_at "hp") p1
              have n2 : L + 1 ≠ a2 := hp_ne (o := .cell none) (by walk_at "hp") p2
              have c1 := X8.at_ (0, 0) (by decide)
              change _ = some (AObj.cell none) at c1
              change ((σ5.set a0 (.list [.int 0])).set a1 (.list [.int 1])).set a2 (.list [.obj a0, .obj a1]) (L + 1) = some (AObj.cell none) at c1
              generalize ((σ5.set a0 (.list [.int 0])).set a1 (.list [.int 1])).set a2 (.list [.obj a0, .obj a1]) = σ8 at X8 c1 ⊢
              clear c0 p0 p1 p2 n0 n1 n2
              iterate 1 walk_at "fw"
              refine we_listM ?_
              iterate 1 walk_at "fw"
              refine we_listM ?_
              iterate 4 walk_at "fw"
              intro b0 p0
              iterate 1 walk_at "fw"
              refine we_listM ?_
              iterate 4 walk_at "fw"
              intro b1 p1
              iterate 2 walk_at "fw"
              intro b2 p2
              iterate 1 walk_at "fw"
              refine we_listM ?_
              iterate 2 walk_at "fw"
              intro an p3
              have X9 := X8.newL (8, 0) (.list [.int 0]) p0 (by decide)
              have Xa := X9.newL (8, 1) (.list [.int 1]) p1 (by decide)
              have Xb := Xa.newL (2, 0) (.list [.obj b0, .obj b1]) p2 (by decide)
              have Xc := Xb.newL (5, 0) (.list []) p3 (by decide)
              clear X8 X9 Xa Xb
              have n0 : L + 1 ≠ b0 := hp_ne c1 p0
              have n1 : L + 1 ≠ b1 := hp_ne (o := .cell none) (by walk_at "hp") p1
              have n2 : L + 1 ≠ b2 := hp_ne (o := .cell none) (by walk_at "hp") p2
              have n3 : L + 1 ≠ an := hp_ne (o := .cell none) (by walk_at "hp") p3
              have c2 : (((σ8.set b0 (.list [.int 0])).set b1 (.list [.int 1])).set b2 (.list [.obj b0, .obj b1])).set an (.list []) (L + 1) = some (AObj.cell none) := by walk_at "hp"
              have Xd := Xc.set (x := (0, 0)) (v := .cell (some (.obj b2))) (by decide)
              change Hx (((((σ8.set b0 (.list [.int 0])).set b1 (.list [.int 1])).set b2 (.list [.obj b0, .obj b1])).set an (.list [])).set (L + 1) (.cell (some (.obj b2)))) _ _ _ at Xd
              generalize (((σ8.set b0 (.list [.int 0])).set b1 (.list [.int 1])).set b2 (.list [.obj b0, .obj b1])).set an (.list []) = σ9 at Xd c2 ⊢
              clear c1 p0 p1 p2 p3 n0 n1 n2 n3 Xc
              repeat walk_at "fe"
              generalize σ9.set (L + 1) (.cell (some (.obj b2))) = σa at Xd ⊢
              clear c2
              with_reducible refine ws_cons ?_
              with_reducible refine w1_assignS (names := [Str.ofString "sources", Str.ofString "record"]) ?_ ?hw ?hs
              case hw => rfl
              case hs => rfl
              with_reducible refine we_tup ?_
              iterate 1 walk_at "fw"
              refine we_listM ?_
              iterate 6 walk_at "fw"
              refine tc_inst (c := 102) (by assumption) (by assumption) (by assumption) (by assumption) fun sr p0 => srcInit K (AHeap.set_same ..) ⟨rfl, ?_⟩
              rw [AHeap.set_set]
              iterate 2 walk_at "fw"
              intro so p1
              iterate 1 walk_at "fw"
              refine we_listM ?_
              iterate 1 walk_at "fw"
              refine we_listM ?_
              iterate 12 walk_at "fw"
              intro rl p2
              iterate 2 walk_at "fw"
              intro ro p3
              have Xe := Xd.newL (9, 0) (.inst 102 (srcV va0)) p0 (by decide)
              have Xf := Xe.newL (3, 0) (.list [.obj sr]) p1 (by decide)
              have Xg := Xf.newL (6, 0) (.list (row5 rb0)) p2 (by decide)
              have Xh := Xg.newL (4, 0) (.list [.obj rl]) p3 (by decide)
              clear Xd Xe Xf Xg
              repeat walk_at "fe"
              refine ⟨_, rfl, rfl, tss_cons (ts_local rfl (tss_cons (ts_local rfl (tss_nil ?_))))⟩
              have H0 := init10 Xh ⟨rfl, rfl, rfl, rfl, rfl, rfl, rfl, rfl, rfl, rfl, rfl, rfl, rfl, rfl, rfl, rfl⟩
              with_reducible show WS _ _ _ _ _ _ _
              with_reducible refine WS.weaken (m' := [(Str.ofString "script", .lst (ns.map .int)), (Str.ofString "streams", .obj a2), (Str.ofString "answers", .obj an), (Str.ofString "sources", .obj so), (Str.ofString "record", .obj ro)]) ?h1 (AHeap.le_refl _) ?_
              case h1 => exact Has.sub ⟨rfl, rfl, rfl, rfl, rfl, trivial⟩
              exact seg_elim (Mine.rest10 K hns H0) rfl _ _ _ _ _ _ _ _ _))

