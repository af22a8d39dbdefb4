import PyProof.Rows.All
import Wide.All
import OpenK.AllK
import Wide.FinOn
import Lean
import PySem.Challenge.RW_dn0301_11
set_option compiler.extract_closed false
open PySem PySem.W PyProof.Rows PySem.Calls
set_option Elab.async false
set_option maxRecDepth 100000
set_option linter.unusedVariables false
namespace Mine

/-! ## abstract values, objects, contexts -/
inductive AVal where
  | none
  | bool (b : Bool)
  | int (i : Int)
  | str (s : Str)
  | bytes (b : Array UInt8)
  | raw (v : Value)
  | obj (a : Addr)
  | fin (C : Addr)
  | lst (xs : List AVal)
  | tup (xs : List AVal)
  | rng (a b c : Int)

inductive AObj where
  | inst (C : Addr) (as : List (Str × AVal))
  | list (xs : List AVal)
  | dict (es : List (Int × AVal))
  | cell (v : Option AVal)
  | ns (as : List (Str × AVal))

structure Cx where
  prog : Program
  w : World
  K : Frag
  vp : Program
  loose : List Str
  mean : ExcName → Option Value
  mg : Str → Option Value
  mb : Str → Option Value
  H : Heap

abbrev Fz := List (Addr × Obj)
def At (C : Cx) (fz : Fz) (a : Addr) (o : Obj) : Prop := (a, o) ∈ fz ∨ C.H.get? a = some o
theorem At.mono {C : Cx} {fz fz' : Fz} (h : ∀ p ∈ fz, p ∈ fz') {a : Addr} {o : Obj} (x : At C fz a o) : At C fz' a o := x.imp (h _) id

abbrev tupOf (vs : List Value) : Obj := { cls := .type "tuple", data := .seq vs.toArray }

mutual
inductive V (P : Addr → Obj → Prop) : Value → AVal → Prop
  | none : V P .none .none
  | bool (b : Bool) : V P (.bool b) (.bool b)
  | int (i : Int) (t : Tok) : V P (.int i t) (.int i)
  | str (x : Str) (t : Tok) : V P (.str x t) (.str x)
  | bytes (b : Array UInt8) (t : Tok) : V P (.bytes b t) (.bytes b)
  | raw (v : Value) : V P v (.raw v)
  | obj (a : Addr) : V P (.ref a) (.obj a)
  | fin {a d C : Addr} : P a (instObj C d) → P d (dictOf [] 0) → V P (.ref a) (.fin C)
  | lst {a : Addr} {o : Obj} {n : Nat} {vs : List Value} {xs : List AVal} : P a o → o.cls = .type "list" → o.data = .seq vs.toArray n → Vs P vs xs → V P (.ref a) (.lst xs)
  | tup {a : Addr} {o : Obj} {n : Nat} {vs : List Value} {xs : List AVal} : P a o → o.cls = .type "tuple" → o.data = .seq vs.toArray n → Vs P vs xs → V P (.ref a) (.tup xs)
  | rng {r : Addr} {a b c : Int} {t u v : Tok} : P r { cls := .type "range", dict := none, data := .fields #[.int a t, .int b u, .int c v], slots := #[] } → V P (.ref r) (.rng a b c)
inductive Vs (P : Addr → Obj → Prop) : List Value → List AVal → Prop
  | nil : Vs P [] []
  | cons {v : Value} {av : AVal} {vs : List Value} {xs : List AVal} : V P v av → Vs P vs xs → Vs P (v :: vs) (av :: xs)
end

mutual
theorem V.mono {P P' : Addr → Obj → Prop} (k : ∀ a o, P a o → P' a o) : ∀ {v : Value} {x : AVal}, V P v x → V P' v x
  | _, _, .none => .none
  | _, _, .bool b => .bool b
  | _, _, .int i t => .int i t
  | _, _, .str x t => .str x t
  | _, _, .bytes b t => .bytes b t
  | _, _, .raw v => .raw v
  | _, _, .obj a => .obj a
  | _, _, .fin h1 h2 => .fin (k _ _ h1) (k _ _ h2)
  | _, _, .lst h1 h2 h3 h4 => .lst (k _ _ h1) h2 h3 (Vs.mono k h4)
  | _, _, .tup h1 h2 h3 h4 => .tup (k _ _ h1) h2 h3 (Vs.mono k h4)
  | _, _, .rng h1 => .rng (k _ _ h1)
theorem Vs.mono {P P' : Addr → Obj → Prop} (k : ∀ a o, P a o → P' a o) : ∀ {vs : List Value} {xs : List AVal}, Vs P vs xs → Vs P' vs xs
  | _, _, .nil => .nil
  | _, _, .cons h1 h2 => .cons (V.mono k h1) (Vs.mono k h2)
end
theorem V.up {C : Cx} {fz fz' : Fz} (h : ∀ p ∈ fz, p ∈ fz') {v : Value} {x : AVal} (a : V (At C fz) v x) : V (At C fz') v x := a.mono fun _ _ => At.mono h
theorem Vs.up {C : Cx} {fz fz' : Fz} (h : ∀ p ∈ fz, p ∈ fz') {v : List Value} {x : List AVal} (a : Vs (At C fz) v x) : Vs (At C fz') v x := a.mono fun _ _ => At.mono h
theorem Vs.length {P : Addr → Obj → Prop} : ∀ {vs : List Value} {xs : List AVal}, Vs P vs xs → vs.length = xs.length
  | _, _, .nil => rfl
  | _, _, .cons _ h => by simp [h.length]
theorem Vs.append {P : Addr → Obj → Prop} : ∀ {vs : List Value} {xs : List AVal} {ws : List Value} {ys : List AVal}, Vs P vs xs → Vs P ws ys → Vs P (vs ++ ws) (xs ++ ys)
  | _, _, _, _, .nil, h => h
  | _, _, _, _, .cons a b, h => .cons a (b.append h)
theorem Vs.get {P : Addr → Obj → Prop} : ∀ {vs : List Value} {xs : List AVal}, Vs P vs xs → ∀ {i : Nat} {x : AVal}, xs[i]? = some x → ∃ v, vs[i]? = some v ∧ V P v x
  | _, _, .nil, _, _, e => by simp at e
  | _, _, .cons a b, 0, _, e => by simp at e; subst e; exact ⟨_, rfl, a⟩
  | _, _, .cons a b, i + 1, _, e => by simp at e; obtain ⟨v, h1, h2⟩ := b.get e; exact ⟨v, by simpa using h1, h2⟩
theorem Vs.take {P : Addr → Obj → Prop} : ∀ {vs : List Value} {xs : List AVal}, Vs P vs xs → ∀ (i : Nat), Vs P (vs.take i) (xs.take i)
  | _, _, _, 0 => by simp; exact .nil
  | _, _, .nil, _ + 1 => .nil
  | _, _, .cons a b, i + 1 => .cons a (b.take i)
theorem Vs.drop {P : Addr → Obj → Prop} : ∀ {vs : List Value} {xs : List AVal}, Vs P vs xs → ∀ (i : Nat), Vs P (vs.drop i) (xs.drop i)
  | _, _, h, 0 => h
  | _, _, .nil, _ + 1 => .nil
  | _, _, .cons a b, i + 1 => b.drop i
theorem Vs.reverse {P : Addr → Obj → Prop} : ∀ {vs : List Value} {xs : List AVal}, Vs P vs xs → Vs P vs.reverse xs.reverse
  | _, _, .nil => .nil
  | _, _, .cons a b => by simp only [List.reverse_cons]; exact b.reverse.append (.cons a .nil)

/-! ## attribute dicts -/
inductive Es (P : Addr → Obj → Prop) : List DictEntry → List (Str × AVal) → Prop
  | nil : Es P [] []
  | cons {h : Int} {x : Str} {t : Tok} {v : Value} {av : AVal} {es : List DictEntry} {as : List (Str × AVal)} : V P v av → Es P es as → Es P (⟨h, .str x t, v⟩ :: es) ((x, av) :: as)
def getA (x : Str) : List (Str × AVal) → Option AVal
  | [] => none
  | (y, a) :: r => if y == x then some a else getA x r
def setA (x : Str) (v : AVal) : List (Str × AVal) → List (Str × AVal)
  | [] => [(x, v)]
  | (y, a) :: r => if y == x then (y, v) :: r else (y, a) :: setA x v r
theorem Es.mono {P P' : Addr → Obj → Prop} (k : ∀ a o, P a o → P' a o) : ∀ {es : List DictEntry} {as : List (Str × AVal)}, Es P es as → Es P' es as
  | _, _, .nil => .nil
  | _, _, .cons a b => .cons (a.mono k) (b.mono k)
theorem Es.length {P : Addr → Obj → Prop} : ∀ {es : List DictEntry} {as : List (Str × AVal)}, Es P es as → es.length = as.length
  | _, _, .nil => rfl
  | _, _, .cons _ b => by simp [b.length]
theorem Es.noRef {P : Addr → Obj → Prop} : ∀ {es : List DictEntry} {as : List (Str × AVal)}, Es P es as → es.any (·.refKey) = false
  | _, _, .nil => rfl
  | _, _, .cons _ b => by rw [List.any_cons, b.noRef]; rfl
theorem getL_cons_hit {x : Str} {e : DictEntry} {es : List DictEntry} (h : e.key.isStr x = true) : getL x (e :: es) = some (some e.val) := by
  unfold getL; rw [List.find?_cons, h]
theorem Es.get_some {P : Addr → Obj → Prop} {x : Str} : ∀ {es : List DictEntry} {as : List (Str × AVal)}, Es P es as → ∀ {a : AVal}, getA x as = some a → ∃ v, getL x es = some (some v) ∧ V P v a
  | _, _, .nil, _, e => by cases e
  | _, _, .cons (h := hh) (x := y) (t := t) (v := v) (es := es) (as := as) q b, a, e => by
    unfold getA at e
    by_cases hy : (y == x) = true
    · rw [if_pos hy] at e; cases e
      exact ⟨v, getL_cons_hit hy, q⟩
    · rw [if_neg hy] at e
      obtain ⟨u, h1, h2⟩ := b.get_some e
      refine ⟨u, ?_, h2⟩
      have hy' : Value.isStr (.str y t) x = false := by show (y == x) = false; exact Bool.eq_false_iff.mpr hy
      unfold getL at h1 ⊢
      rw [List.find?_cons]
      simp only [hy']
      revert h1
      cases List.find? (fun x_1 => x_1.key.isStr x) es with
      | none => intro h1; rw [List.any_cons]; revert h1; cases es.any (·.refKey) <;> intro h1 <;> cases h1
      | some e' => exact id
theorem Es.get_none {P : Addr → Obj → Prop} {x : Str} : ∀ {es : List DictEntry} {as : List (Str × AVal)}, Es P es as → getA x as = none → getL x es = some none
  | _, _, .nil, _ => rfl
  | _, _, .cons (h := hh) (x := y) (t := t) (v := v) (es := es) (as := as) q b, e => by
    unfold getA at e
    by_cases hy : (y == x) = true
    · rw [if_pos hy] at e; cases e
    · rw [if_neg hy] at e
      have h1 := b.get_none e
      have hy' : Value.isStr (.str y t) x = false := by show (y == x) = false; exact Bool.eq_false_iff.mpr hy
      unfold getL at h1 ⊢
      rw [List.find?_cons]
      simp only [hy']
      revert h1
      cases List.find? (fun x_1 => x_1.key.isStr x) es with
      | none => rw [List.any_cons, b.noRef]; intro _; rfl
      | some e' => exact id
theorem Es.isSome {P : Addr → Obj → Prop} {x : Str} {es : List DictEntry} {as : List (Str × AVal)} (h : Es P es as) : (getL x es).isSome = true := by
  cases q : getA x as with
  | none => rw [h.get_none q]; rfl
  | some a => obtain ⟨v, e, _⟩ := h.get_some q; rw [e]; rfl
theorem Es.put {P : Addr → Obj → Prop} {x : Str} {hh : Int} {t : Tok} {v : Value} {a : AVal} (hv : V P v a) : ∀ {es : List DictEntry} {as : List (Str × AVal)}, Es P es as → Es P (putL x hh (.str x t) v es) (setA x a as)
  | _, _, .nil => .cons hv .nil
  | _, _, .cons (h := h') (x := y) (t := t') (v := v') (es := es) (as := as) q b => by
    unfold putL setA
    by_cases hy : (y == x) = true
    · have hy' : Value.isStr (.str y t') x = true := hy
      rw [if_pos hy, if_pos hy']; exact .cons hv b
    · have hy' : ¬ Value.isStr (.str y t') x = true := hy
      rw [if_neg hy, if_neg hy']; exact .cons q (b.put hv)

/-! ## abstract heap -/
abbrev AHeap := Addr → Option AObj
def AHeap.set (σ : AHeap) (a : Addr) (o : AObj) : AHeap := fun b => if b = a then some o else σ b
@[simp] theorem AHeap.set_same (σ : AHeap) (a : Addr) (o : AObj) : σ.set a o a = some o := if_pos rfl
theorem AHeap.set_ne (σ : AHeap) {a b : Addr} (o : AObj) (h : b ≠ a) : σ.set a o b = σ b := if_neg h
def AHeap.le (σ σ' : AHeap) : Prop := ∀ a o, σ a = some o → σ' a = some o

/-- what stands under names -/
def ER (P : Addr → Obj → Prop) (m : List (Str × AVal)) (mc : Str → Option Value) : Prop := ∀ x a, getA x m = some a → ∃ v, mc x = some v ∧ V P v a
theorem ER.mono {P P' : Addr → Obj → Prop} (k : ∀ a o, P a o → P' a o) {m : List (Str × AVal)} {mc : Str → Option Value} (h : ER P m mc) : ER P' m mc := fun x a e => by obtain ⟨v, h1, h2⟩ := h x a e; exact ⟨v, h1, h2.mono k⟩
/-- a dict with whole numbers as keys -/
inductive Ks (P : Addr → Obj → Prop) : List (Int × Value) → List (Int × AVal) → Prop
  | nil : Ks P [] []
  | cons {k : Int} {v : Value} {a : AVal} {kvs : List (Int × Value)} {es : List (Int × AVal)} : V P v a → Ks P kvs es → Ks P ((k, v) :: kvs) ((k, a) :: es)
theorem Ks.mono {P P' : Addr → Obj → Prop} (k : ∀ a o, P a o → P' a o) : ∀ {kvs : List (Int × Value)} {es : List (Int × AVal)}, Ks P kvs es → Ks P' kvs es
  | _, _, .nil => .nil
  | _, _, .cons a b => .cons (a.mono k) (b.mono k)
def OR (P : Addr → Obj → Prop) (news : List (Addr × Obj)) (d a : Addr) : AObj → Prop
  | .inst C as => (a, instObj C d) ∈ news ∧ ∃ es n, (d, dictOf es n) ∈ news ∧ Es P es as
  | .list xs => ∃ vs n, (a, listOf vs.toArray n) ∈ news ∧ Vs P vs xs
  | .dict es => ∃ o kvs, (a, o) ∈ news ∧ (∀ prog w, o.IsDictOf (intKind prog w) kvs) ∧ Ks P kvs es
  | .ns as => ∃ o mc, (a, o) ∈ news ∧ LCg.NsObj o mc ∧ ER P as mc
  | .cell none => ∃ o, (a, o) ∈ news ∧ o.data = .cell none
  | .cell (some x) => ∃ o v, (a, o) ∈ news ∧ o.data = .cell (some v) ∧ V P v x

structure HR (C : Cx) (fz pin : Fz) (σ : AHeap) (δ : Addr → Addr) (news : List (Addr × Obj)) : Prop where
  sub : ∀ p ∈ fz ++ pin, p ∈ news
  apart : ∀ p ∈ fz, ∀ q ∈ pin, p.1 ≠ q.1
  ob : ∀ a ao, σ a = some ao → OR (At C fz) news (δ a) a ao
  off : ∀ a ao, σ a = some ao → ∀ p ∈ fz ++ pin, p.1 ≠ a
  doff : ∀ a c as, σ a = some (.inst c as) → ∀ p ∈ fz ++ pin, p.1 ≠ δ a
  dσ : ∀ a c as, σ a = some (.inst c as) → σ (δ a) = none
  dinj : ∀ a c as b c' bs, σ a = some (.inst c as) → σ b = some (.inst c' bs) → δ a = δ b → a = b

theorem OR.key {P : Addr → Obj → Prop} {news : List (Addr × Obj)} {d a : Addr} {o : AObj} (h : OR P news d a o) : ∃ o', (a, o') ∈ news := by
  cases o with
  | inst C as => exact ⟨_, h.1⟩
  | list xs => obtain ⟨vs, n, h, _⟩ := h; exact ⟨_, h⟩
  | dict es => obtain ⟨o, kvs, h, _⟩ := h; exact ⟨o, h⟩
  | ns as => obtain ⟨o, mc, h, _⟩ := h; exact ⟨o, h⟩
  | cell v => cases v with
    | none => obtain ⟨o, h, _⟩ := h; exact ⟨o, h⟩
    | some v => obtain ⟨o, _, h, _⟩ := h; exact ⟨o, h⟩
theorem OR.mono {P P' : Addr → Obj → Prop} {news news' : List (Addr × Obj)} {d a : Addr} {o : AObj} (k : ∀ a o, P a o → P' a o) (h : OR P news d a o) (hn : ∀ o', (a, o') ∈ news → (a, o') ∈ news') (hd : ∀ c as, o = .inst c as → ∀ o', (d, o') ∈ news → (d, o') ∈ news') : OR P' news' d a o := by
  cases o with
  | inst C as => obtain ⟨h1, es, n, h2, h3⟩ := h; exact ⟨hn _ h1, es, n, hd _ _ rfl _ h2, h3.mono k⟩
  | list xs => obtain ⟨vs, n, h1, h2⟩ := h; exact ⟨vs, n, hn _ h1, h2.mono k⟩
  | dict es => obtain ⟨o, kvs, h1, h2, h3⟩ := h; exact ⟨o, kvs, hn _ h1, h2, h3.mono k⟩
  | ns as => obtain ⟨o, mc, h1, h2, h3⟩ := h; exact ⟨o, mc, hn _ h1, h2, h3.mono k⟩
  | cell v => cases v with
    | none => obtain ⟨o, h1, h2⟩ := h; exact ⟨o, hn _ h1, h2⟩
    | some v => obtain ⟨o, v, h1, h2, h3⟩ := h; exact ⟨o, v, hn _ h1, h2, h3.mono k⟩

/-! ## frames, the state -/
structure Fm where
  A₀ : Around
  A : Around
  base : Heap
  h₀ : Heap
  outer : List Env
  L : Addr
  a : Addr
  cn : Str
  cs : Scope
  ccd : Value
  cl : List (Str × Addr)
  pin : Fz
  comp : Option (Scope × List (Str × Addr) × Addr)
@[reducible] def Fm.withPin (f : Fm) (p : Fz) : Fm := { f with pin := p }
/-- the function's own surroundings -/
@[reducible] def Fm.fenv (f : Fm) : Env := envX f.cn f.cs f.L f.a f.ccd f.cl
/-- those of a row built in it -/
@[reducible] def Fm.envOn (f : Fm) : Option (Scope × List (Str × Addr) × Addr) → Env
  | none => f.fenv
  | some (sc, cl, c) => compEnvC sc cl c f.fenv
@[reducible] def Fm.env (f : Fm) : Env := f.envOn f.comp
@[reducible] def Fm.withComp (f : Fm) (k : Option (Scope × List (Str × Addr) × Addr)) (p : Fz) : Fm := { f with comp := k, pin := p }

structure Fm.Ok (C : Cx) (n : Nat) (f : Fm) : Prop where
  below : Below f.A₀ f.base f.outer f.h₀
  kin : C.K.In f.h₀
  top : Top C.vp C.loose C.mean C.mg C.mb f.h₀
  hk : ∀ b o, C.H.get? b = some o → f.h₀.get? b = some o
  stack : f.A.frames = some (f.fenv :: f.outer)
  handled : f.A.handled = none
  guards : f.A.guards = some []
  depth : f.A.depth + 3 * n < recursionLimit
  units : f.A.units + 10 * n + 100 < cLine
  kind : f.cs.kind = .function
  ckind : f.env.scope.kind = .function

abbrev AEnv := List (Str × AVal)
def AEnv.get (m : AEnv) (x : Str) : Option AVal := getA x m
def AEnv.set (m : AEnv) (x : Str) (v : AVal) : AEnv := setA x v m
theorem getA_setA {x y : Str} {v : AVal} : ∀ {m : List (Str × AVal)}, getA y (setA x v m) = if y = x then some v else getA y m
  | [] => by
    unfold setA getA
    by_cases h : y = x
    · simp [h]
    · have : ¬ (x = y) := fun e => h e.symm
      simp [h, this, getA]
  | (z, a) :: r => by
    unfold setA
    by_cases hz : (z == x) = true
    · rw [if_pos hz]
      have hz' : z = x := by simpa using hz
      subst hz'
      unfold getA
      by_cases h : y = z
      · simp [h]
      · have : ¬ (z = y) := fun e => h e.symm
        simp [h, this]
    · rw [if_neg hz]
      unfold getA
      by_cases h : (z == y) = true
      · rw [if_pos h, if_pos h]
        have hz' : z = y := by simpa using h
        subst hz'
        have : ¬ z = x := by simpa using hz
        rw [if_neg this]
      · rw [if_neg h, if_neg h]; exact getA_setA
def SR (C : Cx) (f : Fm) (fz : Fz) (m : AEnv) (σ : AHeap) (s : Shared) : Prop :=
  ∃ mc news δ, Fr f.h₀ f.L s.heap mc ∧ News f.h₀ f.L s.heap news ∧ HR C fz f.pin σ δ news ∧ ER (At C fz) m mc
def Same (s s' : Shared) : Prop := ∃ h tk, s' = { s with heap := h, toks := tk }
theorem Same.rfl {s : Shared} : Same s s := ⟨s.heap, s.toks, by cases s; exact Eq.refl _⟩
theorem Same.mk {s : Shared} {h : Heap} {tk : Nat} : Same s { s with heap := h, toks := tk } := ⟨h, tk, Eq.refl _⟩
theorem Same.trans {s s₁ s₂ : Shared} (a : Same s s₁) (b : Same s₁ s₂) : Same s s₂ := by
  obtain ⟨h, t, e⟩ := a; obtain ⟨h', t', e'⟩ := b; subst e; subst e'; exact ⟨h', t', Eq.refl _⟩

section
variable {C : Cx} {f : Fm} {fz : Fz} {m : AEnv} {σ : AHeap} {s : Shared}
theorem SR.at_ {n : Nat} (ok : f.Ok C n) (x : SR C f fz m σ s) {a : Addr} {o : Obj} (h : At C fz a o) : s.heap.get? a = some o := by
  obtain ⟨mc, news, δ, F, N, R, _⟩ := x
  rcases h with h | h
  · exact (N _ (R.sub _ (List.mem_append_left _ h))).1
  · exact F.keep _ _ (ok.hk _ _ h)
theorem SR.weaken (x : SR C f fz m σ s) {m' : AEnv} {σ' : AHeap} (hm : ∀ y a, m'.get y = some a → m.get y = some a) (hσ : σ'.le σ) : SR C f fz m' σ' s := by
  obtain ⟨mc, news, δ, F, N, R, e⟩ := x
  refine ⟨mc, news, δ, F, N, ⟨R.sub, R.apart, fun a o h => R.ob a o (hσ _ _ h), fun a o h => R.off a o (hσ _ _ h), fun a c as h => R.doff a c as (hσ _ _ h), fun a c as h => ?_, fun a c as b c' bs h1 h2 => R.dinj a c as b c' bs (hσ _ _ h1) (hσ _ _ h2)⟩, fun y a h => e y a (hm _ _ h)⟩
  cases q : σ' (δ a) with
  | none => rfl
  | some o => have := hσ _ _ q; rw [R.dσ a c as (hσ _ _ h)] at this; cases this
theorem news_lt {h₀ h : Heap} {L : Addr} {news : List (Addr × Obj)} (N : News h₀ L h news) {p : Addr × Obj} (hp : p ∈ news) : p.1 < h.objs.size := Heap.lt_size (N p hp).1

/-- a heap that only grew -/
theorem SR.grow (x : SR C f fz m σ s) {h' : Heap} {t : Nat} (k : ∀ b o, s.heap.get? b = some o → h'.get? b = some o) : SR C f fz m σ { s with heap := h', toks := t } := by
  obtain ⟨mc, news, δ, F, N, R, e⟩ := x
  exact ⟨mc, news, δ, F.grownK k, fun p hp => ⟨k _ _ (N p hp).1, (N p hp).2⟩, R, e⟩

/-- new objects, frozen from the start -/
theorem SR.freeze (x : SR C f fz m σ s) {h' : Heap} {t : Nat} (k : ∀ b o, s.heap.get? b = some o → h'.get? b = some o) (new : List (Addr × Obj)) (hn : ∀ p ∈ new, s.heap.get? p.1 = none ∧ s.heap.objs.size ≤ p.1 ∧ h'.get? p.1 = some p.2) :
    SR C f (new ++ fz) m σ { s with heap := h', toks := t } := by
  obtain ⟨mc, news, δ, F, N, R, e⟩ := x
  have key : ∀ a ao, σ a = some ao → a < s.heap.objs.size := fun a ao h => by obtain ⟨o, h⟩ := (R.ob a ao h).key; exact news_lt N h
  have dkey : ∀ a c as, σ a = some (.inst c as) → δ a < s.heap.objs.size := fun a c as h => by obtain ⟨_, es, n, h, _⟩ := R.ob a _ h; exact news_lt N h
  have up : ∀ p ∈ fz, p ∈ new ++ fz := fun p hp => List.mem_append_right _ hp
  have split : ∀ p ∈ (new ++ fz) ++ f.pin, p ∈ new ∨ p ∈ fz ++ f.pin := fun p hp => by
    rw [List.append_assoc] at hp; exact List.mem_append.mp hp
  refine ⟨mc, new ++ news, δ, F.grownK k, fun p hp => ?_, ⟨fun p hp => ?_, fun p hp q hq => ?_, fun a ao h => ?_, fun a ao h p hp => ?_, fun a c as h p hp => ?_, R.dσ, R.dinj⟩, fun y a h => ?_⟩
  · rcases List.mem_append.mp hp with hp | hp
    · obtain ⟨h1, h2, h3⟩ := hn p hp
      refine ⟨h3, fun q => ?_, ?_⟩
      · obtain ⟨oL, _, _, hL, _⟩ := F.ns; rw [q, hL] at h1; cases h1
      · cases q : f.h₀.get? p.1 with
        | none => rfl
        | some o => rw [F.keep _ _ q] at h1; cases h1
    · exact ⟨k _ _ (N p hp).1, (N p hp).2⟩
  · rcases split p hp with hp | hp
    · exact List.mem_append_left _ hp
    · exact List.mem_append_right _ (R.sub _ hp)
  · rcases List.mem_append.mp hp with hp | hp
    · exact fun e => absurd (news_lt N (R.sub _ (List.mem_append_right _ hq))) (Nat.not_lt.mpr (e ▸ (hn p hp).2.1))
    · exact R.apart p hp q hq
  · exact (R.ob a ao h).mono (fun _ _ => At.mono up) (fun _ q => List.mem_append_right _ q) fun _ _ _ _ q => List.mem_append_right _ q
  · rcases split p hp with hp | hp
    · exact fun q => absurd (key a ao h) (Nat.not_lt.mpr (q ▸ (hn p hp).2.1))
    · exact R.off a ao h p hp
  · rcases split p hp with hp | hp
    · exact fun q => absurd (dkey a c as h) (Nat.not_lt.mpr (q ▸ (hn p hp).2.1))
    · exact R.doff a c as h p hp
  · obtain ⟨v, h1, h2⟩ := e y a h; exact ⟨v, h1, h2.up up⟩
end
end Mine

open PySem PySem.W PyProof.Rows PySem.Calls
namespace Mine
def upd (news : List (Addr × Obj)) (D : Addr) (o : Obj) : List (Addr × Obj) := (D, o) :: news.filter (fun p => decide (p.1 ≠ D))
theorem mem_upd {news : List (Addr × Obj)} {D : Addr} {o : Obj} {p : Addr × Obj} (h : p ∈ news) (hn : p.1 ≠ D) : p ∈ upd news D o :=
  List.mem_cons_of_mem _ (List.mem_filter.mpr ⟨h, by simpa using hn⟩)
theorem news_upd' {h₀ h h' : Heap} {L D : Addr} {news : List (Addr × Obj)} {o o' : Obj} (N : News h₀ L h news) (hD : (D, o) ∈ news) (hs : Heap.SameBut D h h') (ho : h'.get? D = some o') : News h₀ L h' (upd news D o') := by
  intro p hp
  rcases List.mem_cons.mp hp with rfl | hp
  · exact ⟨ho, (N _ hD).2⟩
  · obtain ⟨h1, h2⟩ := List.mem_filter.mp hp
    have h2 : p.1 ≠ D := by simpa using h2
    exact ⟨(hs.2 _ h2).trans (N p h1).1, (N p h1).2⟩

section
variable {C : Cx} {f : Fm} {fz : Fz} {m : AEnv} {σ : AHeap} {s : Shared}

theorem SR.list (x : SR C f fz m σ s) {a : Addr} {xs : List AVal} (h : σ a = some (.list xs)) : ∃ vs n, s.heap.get? a = some (listOf vs.toArray n) ∧ Vs (At C fz) vs xs := by
  obtain ⟨mc, news, δ, F, N, R, e⟩ := x
  obtain ⟨vs, n, h1, h2⟩ := R.ob a _ h
  exact ⟨vs, n, (N _ h1).1, h2⟩
theorem SR.inst (x : SR C f fz m σ s) {a c : Addr} {as : List (Str × AVal)} (h : σ a = some (.inst c as)) : ∃ d es n, s.heap.get? a = some (instObj c d) ∧ s.heap.get? d = some (dictOf es n) ∧ Es (At C fz) es as := by
  obtain ⟨mc, news, δ, F, N, R, e⟩ := x
  obtain ⟨h1, es, n, h2, h3⟩ := R.ob a _ h
  exact ⟨_, es, n, (N _ h1).1, (N _ h2).1, h3⟩
theorem SR.lt (x : SR C f fz m σ s) {a : Addr} {o : AObj} (h : σ a = some o) : a < s.heap.objs.size := by
  obtain ⟨mc, news, δ, F, N, R, e⟩ := x
  obtain ⟨o, h⟩ := (R.ob a _ h).key; exact news_lt N h
theorem SR.fresh (x : SR C f fz m σ s) {a : Addr} (h : s.heap.objs.size ≤ a) : σ a = none := by
  cases q : σ a with
  | none => rfl
  | some o => exact absurd (x.lt q) (Nat.not_lt.mpr h)

/-- a list's, a cell's object is changed -/
theorem SR.change (x : SR C f fz m σ s) {a : Addr} {ao ao' : AObj} {h' : Heap} {t : Nat} {o' : Obj} (h : σ a = some ao) (hn : ∀ c as, ao ≠ .inst c as) (hn' : ∀ c as, ao' ≠ .inst c as) (hs : Heap.SameBut a s.heap h') (ho : h'.get? a = some o')
    (hr : ∀ news d, (a, o') ∈ news → OR (At C fz) news d a ao') : SR C f fz m (σ.set a ao') { s with heap := h', toks := t } := by
  obtain ⟨mc, news, δ, F, N, R, e⟩ := x
  obtain ⟨o, hm⟩ := (R.ob a _ h).key
  have dn : ∀ b c as, σ b = some (.inst c as) → δ b ≠ a := fun b c as hb q => by have := R.dσ b c as hb; rw [q, h] at this; cases this
  have keep : ∀ {b c as}, σ.set a ao' b = some (.inst c as) → b ≠ a ∧ σ b = some (.inst c as) := fun {b c as} hb => by
    by_cases q : b = a
    · subst q; rw [AHeap.set_same] at hb; exact absurd (Option.some.inj hb) (hn' c as)
    · rw [AHeap.set_ne _ _ q] at hb; exact ⟨q, hb⟩
  refine ⟨mc, upd news a o', δ, F.change hs (N _ hm).2.1 (N _ hm).2.2, news_upd' N hm hs ho, ⟨fun p hp => mem_upd (R.sub p hp) (R.off a _ h p hp), R.apart, fun b bo hb => ?_, fun b bo hb p hp => ?_, fun b c as hb p hp => R.doff b c as (keep hb).2 p hp, fun b c as hb => ?_, fun b c as b' c' bs h1 h2 => R.dinj b c as b' c' bs (keep h1).2 (keep h2).2⟩, e⟩
  · by_cases q : b = a
    · subst q; rw [AHeap.set_same] at hb; cases hb; exact hr _ _ (List.mem_cons_self ..)
    · rw [AHeap.set_ne _ _ q] at hb
      exact (R.ob b bo hb).mono (fun _ _ x => x) (fun _ hm => mem_upd hm q) fun c as eb _ hm => mem_upd hm (dn b c as (eb ▸ hb))
  · by_cases q : b = a
    · subst q; exact R.off b _ h p hp
    · rw [AHeap.set_ne _ _ q] at hb; exact R.off b bo hb p hp
  · rw [AHeap.set_ne _ _ (dn b c as (keep hb).2)]; exact R.dσ b c as (keep hb).2
theorem SR.setList (x : SR C f fz m σ s) {a : Addr} {xs xs' : List AVal} {h' : Heap} {t n : Nat} {vs' : List Value} (h : σ a = some (.list xs)) (hs : Heap.SameBut a s.heap h') (ho : h'.get? a = some (listOf vs'.toArray n)) (hv : Vs (At C fz) vs' xs') :
    SR C f fz m (σ.set a (.list xs')) { s with heap := h', toks := t } := x.change h (fun _ _ => nofun) (fun _ _ => nofun) hs ho fun _ _ hm => ⟨_, _, hm, hv⟩
theorem SR.setCell (x : SR C f fz m σ s) {a : Addr} {v₀ : Option AVal} {v : AVal} {u : Value} {h' : Heap} {t : Nat} {o' : Obj} (h : σ a = some (.cell v₀)) (hs : Heap.SameBut a s.heap h') (ho : h'.get? a = some o') (hd : o'.data = .cell (some u)) (hv : V (At C fz) u v) :
    SR C f fz m (σ.set a (.cell (some v))) { s with heap := h', toks := t } := x.change h (fun _ _ => nofun) (fun _ _ => nofun) hs ho fun _ _ hm => ⟨_, _, hm, hd, hv⟩

/-- new mutable things -/
theorem SR.newThing (x : SR C f fz m σ s) {a : Addr} {ao : AObj} {h' : Heap} {t : Nat} {o : Obj} (hn : ∀ c as, ao ≠ .inst c as) (k : ∀ b o, s.heap.get? b = some o → h'.get? b = some o) (ha : s.heap.objs.size ≤ a) (ho : h'.get? a = some o)
    (hr : ∀ news d, (a, o) ∈ news → OR (At C fz) news d a ao) : SR C f fz m (σ.set a ao) { s with heap := h', toks := t } := by
  have hσ := x.fresh ha
  obtain ⟨mc, news, δ, F, N, R, e⟩ := x
  have hnone : s.heap.get? a = none := by
    cases q : s.heap.get? a with
    | none => rfl
    | some o => exact absurd (Heap.lt_size q) (Nat.not_lt.mpr ha)
  have nn : ∀ p ∈ news, p.1 ≠ a := fun p hp q => absurd (news_lt N hp) (Nat.not_lt.mpr (q ▸ ha))
  have keep : ∀ {b c as}, σ.set a ao b = some (.inst c as) → b ≠ a ∧ σ b = some (.inst c as) := fun {b c as} hb => by
    by_cases q : b = a
    · subst q; rw [AHeap.set_same] at hb; exact absurd (Option.some.inj hb) (hn c as)
    · rw [AHeap.set_ne _ _ q] at hb; exact ⟨q, hb⟩
  have dn : ∀ b c as, σ b = some (.inst c as) → δ b ≠ a := fun b c as hb => by obtain ⟨_, es, n, h, _⟩ := R.ob b _ hb; exact nn _ h
  refine ⟨mc, (a, o) :: news, δ, F.grownK k, fun p hp => ?_, ⟨fun p hp => .tail _ (R.sub p hp), R.apart, fun b bo hb => ?_, fun b bo hb p hp => ?_, fun b c as hb p hp => R.doff b c as (keep hb).2 p hp, fun b c as hb => ?_, fun b c as b' c' bs h1 h2 => R.dinj b c as b' c' bs (keep h1).2 (keep h2).2⟩, e⟩
  · rcases List.mem_cons.mp hp with rfl | hp
    · refine ⟨ho, fun q => ?_, ?_⟩
      · obtain ⟨oL, _, _, hL, _⟩ := F.ns; dsimp only at q; rw [q, hL] at hnone; cases hnone
      · cases q : f.h₀.get? a with
        | none => rfl
        | some o => rw [F.keep _ _ q] at hnone; cases hnone
    · exact ⟨k _ _ (N p hp).1, (N p hp).2⟩
  · by_cases q : b = a
    · subst q; rw [AHeap.set_same] at hb; cases hb; exact hr _ _ (List.mem_cons_self ..)
    · rw [AHeap.set_ne _ _ q] at hb
      exact (R.ob b bo hb).mono (fun _ _ x => x) (fun _ hm => .tail _ hm) fun c as eb _ hm => .tail _ hm
  · by_cases q : b = a
    · subst q; exact nn _ (R.sub p hp)
    · rw [AHeap.set_ne _ _ q] at hb; exact R.off b bo hb p hp
  · rw [AHeap.set_ne _ _ (dn b c as (keep hb).2)]; exact R.dσ b c as (keep hb).2
theorem SR.newList (x : SR C f fz m σ s) {a : Addr} {xs : List AVal} {h' : Heap} {t n : Nat} {vs : List Value} (k : ∀ b o, s.heap.get? b = some o → h'.get? b = some o) (ha : s.heap.objs.size ≤ a) (ho : h'.get? a = some (listOf vs.toArray n)) (hv : Vs (At C fz) vs xs) :
    SR C f fz m (σ.set a (.list xs)) { s with heap := h', toks := t } := x.newThing (fun _ _ => nofun) k ha ho fun _ _ hm => ⟨_, _, hm, hv⟩
/-- a name of the frame is stored -/
theorem SR.store (x : SR C f fz m σ s) {y : Str} {v : Value} {a : AVal} (hv : V (At C fz) v a) :
    ∃ mc news, Fr f.h₀ f.L s.heap mc ∧ News f.h₀ f.L s.heap news ∧ ∀ h' t, Fr f.h₀ f.L h' (fun z => if z = y then some v else mc z) → News f.h₀ f.L h' news → SR C f fz (m.set y a) σ { s with heap := h', toks := t } := by
  obtain ⟨mc, news, δ, F, N, R, e⟩ := x
  refine ⟨mc, news, F, N, fun h' t F' N' => ⟨_, news, δ, F', N', R, fun z b hz => ?_⟩⟩
  unfold AEnv.get AEnv.set at hz
  rw [getA_setA] at hz
  by_cases q : z = y
  · rw [if_pos q] at hz; cases hz; exact ⟨v, if_pos q, hv⟩
  · rw [if_neg q] at hz; obtain ⟨u, h1, h2⟩ := e z b hz; exact ⟨u, (if_neg q).trans h1, h2⟩
end
end Mine

open PySem PySem.W PyProof.Rows PySem.Calls
namespace Mine
abbrev Md (C : Cx) : Model := model C.prog C.w

def PV (C : Cx) (f : Fm) (m : AEnv) (fz : Fz) (s : Shared) (Q : AVal → AHeap → Prop) (v : Value) (s' : Shared) : Prop :=
  ∃ fz' σ' a, (∀ p ∈ fz, p ∈ fz') ∧ Same s s' ∧ SR C f fz' m σ' s' ∧ V (At C fz') v a ∧ Q a σ'
def PL (C : Cx) (f : Fm) (m : AEnv) (fz : Fz) (s : Shared) (Q : List AVal → AHeap → Prop) (v : List Value) (s' : Shared) : Prop :=
  ∃ fz' σ' a, (∀ p ∈ fz, p ∈ fz') ∧ Same s s' ∧ SR C f fz' m σ' s' ∧ Vs (At C fz') v a ∧ Q a σ'
def PB (C : Cx) (f : Fm) (m : AEnv) (fz : Fz) (s : Shared) (Q : Bool → AHeap → Prop) (b : Bool) (s' : Shared) : Prop :=
  ∃ fz' σ', (∀ p ∈ fz, p ∈ fz') ∧ Same s s' ∧ SR C f fz' m σ' s' ∧ Q b σ'
inductive AFlow where
  | next | brk | cont
  | ret (a : AVal)
def FV (P : Addr → Obj → Prop) : Flow → AFlow → Prop
  | .next, .next => True
  | .brk, .brk => True
  | .cont, .cont => True
  | .ret v, .ret a => V P v a
  | _, _ => False
def PS (C : Cx) (f : Fm) (fz : Fz) (s : Shared) (Q : AFlow → AEnv → AHeap → Prop) (fl : Flow) (s' : Shared) : Prop :=
  ∃ fz' σ' m' a, (∀ p ∈ fz, p ∈ fz') ∧ Same s s' ∧ SR C f fz' m' σ' s' ∧ FV (At C fz') fl a ∧ Q a m' σ'

theorem PV.el {C : Cx} {f : Fm} {m : AEnv} {fz : Fz} {s : Shared} {Q : AVal → AHeap → Prop} {v : Value} {s' : Shared} {P : Prop} (h : PV C f m fz s Q v s') (k : ∀ fz' σ' a, (∀ p ∈ fz, p ∈ fz') → Same s s' → SR C f fz' m σ' s' → V (At C fz') v a → Q a σ' → P) : P := by
  obtain ⟨fz', σ', a, h1, h2, h3, h4, h5⟩ := h; exact k fz' σ' a h1 h2 h3 h4 h5
theorem PL.el {C : Cx} {f : Fm} {m : AEnv} {fz : Fz} {s : Shared} {Q : List AVal → AHeap → Prop} {v : List Value} {s' : Shared} {P : Prop} (h : PL C f m fz s Q v s') (k : ∀ fz' σ' a, (∀ p ∈ fz, p ∈ fz') → Same s s' → SR C f fz' m σ' s' → Vs (At C fz') v a → Q a σ' → P) : P := by
  obtain ⟨fz', σ', a, h1, h2, h3, h4, h5⟩ := h; exact k fz' σ' a h1 h2 h3 h4 h5
theorem PB.el {C : Cx} {f : Fm} {m : AEnv} {fz : Fz} {s : Shared} {Q : Bool → AHeap → Prop} {b : Bool} {s' : Shared} {P : Prop} (h : PB C f m fz s Q b s') (k : ∀ fz' σ', (∀ p ∈ fz, p ∈ fz') → Same s s' → SR C f fz' m σ' s' → Q b σ' → P) : P := by
  obtain ⟨fz', σ', h1, h2, h3, h5⟩ := h; exact k fz' σ' h1 h2 h3 h5
theorem PS.el {C : Cx} {f : Fm} {fz : Fz} {s : Shared} {Q : AFlow → AEnv → AHeap → Prop} {fl : Flow} {s' : Shared} {P : Prop} (h : PS C f fz s Q fl s') (k : ∀ fz' σ' m' a, (∀ p ∈ fz, p ∈ fz') → Same s s' → SR C f fz' m' σ' s' → FV (At C fz') fl a → Q a m' σ' → P) : P := by
  obtain ⟨fz', σ', m', a, h1, h2, h3, h4, h5⟩ := h; exact k fz' σ' m' a h1 h2 h3 h4 h5
theorem PU.el {C : Cx} {f : Fm} {fz : Fz} {s : Shared} {Q : AEnv → AHeap → Prop} {s' : Shared} {P : Prop} (h : ∃ fz' σ' m', (∀ p ∈ fz, p ∈ fz') ∧ Same s s' ∧ SR C f fz' m' σ' s' ∧ Q m' σ') (k : ∀ fz' σ' m', (∀ p ∈ fz, p ∈ fz') → Same s s' → SR C f fz' m' σ' s' → Q m' σ' → P) : P := by
  obtain ⟨fz', σ', m', h1, h2, h3, h5⟩ := h; exact k fz' σ' m' h1 h2 h3 h5
theorem PH.el {C : Cx} {f : Fm} {m : AEnv} {fz : Fz} {s : Shared} {Q : AHeap → Prop} {s' : Shared} {P : Prop} (h : ∃ fz' σ', (∀ p ∈ fz, p ∈ fz') ∧ Same s s' ∧ SR C f fz' m σ' s' ∧ Q σ') (k : ∀ fz' σ', (∀ p ∈ fz, p ∈ fz') → Same s s' → SR C f fz' m σ' s' → Q σ' → P) : P := by
  obtain ⟨fz', σ', h1, h2, h3, h5⟩ := h; exact k fz' σ' h1 h2 h3 h5
def WE (C : Cx) (n : Nat) (f : Fm) (e : Expr) (m : AEnv) (σ : AHeap) (Q : AVal → AHeap → Prop) : Prop :=
  f.Ok C n → ∀ fz s E, SR C f fz m σ s → wpAny (Md C) f.A (eval e f.env) (PV C f m fz s Q) E s
def WL (C : Cx) (n : Nat) (f : Fm) (es : List Expr) (pos : Pos) (m : AEnv) (σ : AHeap) (Q : List AVal → AHeap → Prop) : Prop :=
  f.Ok C n → ∀ fz s E, SR C f fz m σ s → wpAny (Md C) f.A (spliced (backTo pos (starEach es f.env))) (PL C f m fz s Q) E s
def WT (C : Cx) (n : Nat) (f : Fm) (e : Expr) (m : AEnv) (σ : AHeap) (Q : Bool → AHeap → Prop) : Prop :=
  f.Ok C n → ∀ fz s E, SR C f fz m σ s → wpAny (Md C) f.A (isTrue e f.env (eval e f.env)) (PB C f m fz s Q) E s
/-- trees over one, two, many values -/
def T1 (C : Cx) (n : Nat) (f : Fm) (t : Value → Sem Value) (a : AVal) (m : AEnv) (σ : AHeap) (Q : AVal → AHeap → Prop) : Prop :=
  f.Ok C n → ∀ fz s E v, SR C f fz m σ s → V (At C fz) v a → wpAny (Md C) f.A (t v) (PV C f m fz s Q) E s
def T2 (C : Cx) (n : Nat) (f : Fm) (t : Value → Value → Sem Value) (a b : AVal) (m : AEnv) (σ : AHeap) (Q : AVal → AHeap → Prop) : Prop :=
  f.Ok C n → ∀ fz s E v w, SR C f fz m σ s → V (At C fz) v a → V (At C fz) w b → wpAny (Md C) f.A (t v w) (PV C f m fz s Q) E s
def TL (C : Cx) (n : Nat) (f : Fm) (t : List Value → Sem Value) (as : List AVal) (m : AEnv) (σ : AHeap) (Q : AVal → AHeap → Prop) : Prop :=
  f.Ok C n → ∀ fz s E vs, SR C f fz m σ s → Vs (At C fz) vs as → wpAny (Md C) f.A (t vs) (PV C f m fz s Q) E s
def TB (C : Cx) (n : Nat) (f : Fm) (t : Value → Sem Bool) (a : AVal) (m : AEnv) (σ : AHeap) (Q : Bool → AHeap → Prop) : Prop :=
  f.Ok C n → ∀ fz s E v, SR C f fz m σ s → V (At C fz) v a → wpAny (Md C) f.A (t v) (PB C f m fz s Q) E s
def W1 (C : Cx) (n : Nat) (f : Fm) (st : Stmt) (m : AEnv) (σ : AHeap) (Q : AFlow → AEnv → AHeap → Prop) : Prop :=
  f.Ok C n → ∀ fz s E, SR C f fz m σ s → wpAny (Md C) f.A (exec st f.env) (PS C f fz s Q) E s
def WS (C : Cx) (n : Nat) (f : Fm) (ss : List Stmt) (m : AEnv) (σ : AHeap) (Q : AFlow → AEnv → AHeap → Prop) : Prop :=
  f.Ok C n → ∀ fz s E, SR C f fz m σ s → wpAny (Md C) f.A (execs ss f.env) (PS C f fz s Q) E s

section
variable {C : Cx} {n : Nat} {f : Fm} {m : AEnv} {σ : AHeap} {s s₁ s' : Shared} {fz fz₁ : Fz}
theorem sub_refl {fz : Fz} : ∀ p ∈ fz, p ∈ fz := fun _ h => h
theorem PV.up {Q : AVal → AHeap → Prop} {v : Value} (h : ∀ p ∈ fz, p ∈ fz₁) (hs : Same s s₁) (x : PV C f m fz₁ s₁ Q v s') : PV C f m fz s Q v s' := by
  obtain ⟨fz', σ', a, h1, h2, h3, h4, h5⟩ := x
  exact ⟨fz', σ', a, fun p hp => h1 p (h p hp), hs.trans h2, h3, h4, h5⟩
theorem PB.up {Q : Bool → AHeap → Prop} {v : Bool} (h : ∀ p ∈ fz, p ∈ fz₁) (hs : Same s s₁) (x : PB C f m fz₁ s₁ Q v s') : PB C f m fz s Q v s' := by
  obtain ⟨fz', σ', h1, h2, h3, h5⟩ := x
  exact ⟨fz', σ', fun p hp => h1 p (h p hp), hs.trans h2, h3, h5⟩
theorem PS.up {Q : AFlow → AEnv → AHeap → Prop} {v : Flow} (h : ∀ p ∈ fz, p ∈ fz₁) (hs : Same s s₁) (x : PS C f fz₁ s₁ Q v s') : PS C f fz s Q v s' := by
  obtain ⟨fz', σ', m', a, h1, h2, h3, h4, h5⟩ := x
  exact ⟨fz', σ', m', a, fun p hp => h1 p (h p hp), hs.trans h2, h3, h4, h5⟩
theorem PV.here {Q : AVal → AHeap → Prop} {v : Value} {a : AVal} (x : SR C f fz m σ s) (hv : V (At C fz) v a) (q : Q a σ) : PV C f m fz s Q v s := ⟨fz, σ, a, sub_refl, .rfl, x, hv, q⟩
theorem PV.tok {Q : AVal → AHeap → Prop} {v : Value} {a : AVal} {t : Nat} (x : SR C f fz m σ s) (hv : V (At C fz) v a) (q : Q a σ) : PV C f m fz s Q v { s with toks := t } := ⟨fz, σ, a, sub_refl, .mk, x, hv, q⟩

/-! ## consequence -/
theorem WS.mono {ss : List Stmt} {Q Q' : AFlow → AEnv → AHeap → Prop} (h : WS C n f ss m σ Q) (k : ∀ a m σ, Q a m σ → Q' a m σ) : WS C n f ss m σ Q' :=
  fun ok fz s E x => wpAny_mono (h ok fz s E x) (fun v s' hq => hq.el fun fz' σ' m' a h1 h2 h3 h4 h5 => ⟨fz', σ', m', a, h1, h2, h3, h4, k _ _ _ h5⟩) fun _ _ x => x
theorem WS.weaken {ss : List Stmt} {m' : AEnv} {σ' : AHeap} {Q : AFlow → AEnv → AHeap → Prop} (hm : ∀ y a, m'.get y = some a → m.get y = some a) (hσ : σ'.le σ) (h : WS C n f ss m' σ' Q) : WS C n f ss m σ Q :=
  fun ok fz s E x => h ok fz s E (x.weaken hm hσ)

/-! ## expressions -/
theorem we_int {i : Int} {k : Nat} {pos : Pos} {Q : AVal → AHeap → Prop} (h : Q (.int i) σ) : WE C n f (.Constant (.int i) k pos) m σ Q :=
  fun ok fz s E x => wpAny_Constant_int (.tok x (.int _ _) h)
theorem we_str {i : Str} {k : Nat} {pos : Pos} {Q : AVal → AHeap → Prop} (h : Q (.str i) σ) : WE C n f (.Constant (.str i) k pos) m σ Q :=
  fun ok fz s E x => wpAny_Constant_str (.tok x (.str _ _) h)
theorem we_none {k : Nat} {pos : Pos} {Q : AVal → AHeap → Prop} (h : Q .none σ) : WE C n f (.Constant .none k pos) m σ Q :=
  fun ok fz s E x => wpAny_Constant_none (.here x .none h)
theorem we_bool {b : Bool} {k : Nat} {pos : Pos} {Q : AVal → AHeap → Prop} (h : Q (.bool b) σ) : WE C n f (.Constant (.bool b) k pos) m σ Q :=
  fun ok fz s E x => wpAny_Constant_bool (.here x (.bool b) h)
theorem we_local {y : Str} {pos : Pos} {a : AVal} {Q : AVal → AHeap → Prop} (hl : f.fenv.kindOf y = some .local) (hv : m.get y = some a) (h : Q a σ) (hd : (y == ("__debug__" : Str)) = false := by decide) (hcm : f.comp = none := by rfl) : WE C n f (.Name y pos) m σ Q := fun ok fz s E x => by
  have x' := x
  obtain ⟨mc, news, δ, F, N, R, e⟩ := x
  obtain ⟨v, h1, h2⟩ := e y a hv
  have he : f.env = f.fenv := by unfold Fm.env; rw [hcm]
  rw [he]
  exact nameX_L F h1 (.here x' h2 h) ok.kind hl hd
/-- a name of a row that is being built -/
theorem we_clocal {y : Str} {pos : Pos} {sc : Scope} {cl : List (Str × Addr)} {c : Addr} {as : List (Str × AVal)} {a : AVal} {Q : AVal → AHeap → Prop} (hcm : f.comp = some (sc, cl, c)) (hl : f.env.kindOf y = some .local) (hc : σ c = some (.ns as)) (hv : getA y as = some a) (h : Q a σ) (hd : (y == ("__debug__" : Str)) = false := by decide) : WE C n f (.Name y pos) m σ Q := fun ok fz s E x => by
  have x' := x
  obtain ⟨mc, news, δ, F, N, R, e⟩ := x
  obtain ⟨o, mc', h1, h2, h3⟩ := R.ob c _ hc
  obtain ⟨v, h4, h5⟩ := h3 y a hv
  have hL : f.env.locals = c := by unfold Fm.env; rw [hcm]; rfl
  exact wpAny_Name (wpAny_loadName_local ok.ckind hl (by rw [hL]; exact h2.ns (N _ h1).1) h4 (.here x' h5 h)) hd
theorem we_cell {y : Str} {pos : Pos} {c : Addr} {a : AVal} {Q : AVal → AHeap → Prop} (hl : f.env.kindOf y = some .cell) (hc : f.env.cells.lookup y = some c) (hv : σ c = some (.cell (some a))) (h : Q a σ) (hd : (y == ("__debug__" : Str)) = false := by decide) : WE C n f (.Name y pos) m σ Q := fun ok fz s E x => by
  have x' := x
  obtain ⟨mc, news, δ, F, N, R, e⟩ := x
  obtain ⟨o, v, h1, h2, h3⟩ := R.ob c _ hv
  exact wpAny_Name (wpAny_loadName_cell ok.ckind hl hc ⟨o, N.get h1, h2⟩ (.here x' h3 h)) hd
theorem we_global {y : Str} {pos : Pos} {v : Value} {Q : AVal → AHeap → Prop} (hl : f.env.kindOf y = some .globalImplicit) (hv : nsIn C.K mainGlobals y = some (some v)) (h : Q (.raw v) σ) (hd : (y == ("__debug__" : Str)) = false := by decide) : WE C n f (.Name y pos) m σ Q := fun ok fz s E x => by
  have x' := x
  obtain ⟨mc, news, δ, F, N, R, e⟩ := x
  have hg : f.env.globals = mainGlobals := by unfold Fm.env; cases f.comp <;> rfl
  have T := topRead_of ok.top
  exact Name_function_global ok.ckind hl (loadGlobal_global (env := f.env) (by rw [hg]; exact T.g.keeps F.keep) (mg_of ok.kin T.g hv) (.here x' (.raw v) h)) hd
theorem we_builtin {y : Str} {pos : Pos} {v : Value} {Q : AVal → AHeap → Prop} (hl : f.env.kindOf y = some .globalImplicit) (hv : nsIn C.K mainGlobals y = some none) (hb : bootBuiltins y = some v) (h : Q (.raw v) σ) (hn : y ≠ "__name__" := by decide) (hd : (y == ("__debug__" : Str)) = false := by decide) :
    WE C n f (.Name y pos) m σ Q := fun ok fz s E x => by
  have x' := x
  obtain ⟨mc, news, δ, F, N, R, e⟩ := x
  have hg : f.env.globals = mainGlobals := by unfold Fm.env; cases f.comp <;> rfl
  have hbb : f.env.builtins = builtinsNs := by unfold Fm.env; cases f.comp <;> rfl
  have T := topRead_of ok.top
  exact Name_function_global ok.ckind hl (loadGlobal_builtin (env := f.env) (by rw [hg]; exact T.g.keeps F.keep) (mg_none_of ok.kin T.g hv) (by rw [hbb]; exact T.b.keeps F.keep) ((T.builtins y hn).trans hb) (.here x' (.raw v) h)) hd
theorem we_binop {l r : Expr} {op : Operator} {pos : Pos} {Q : AVal → AHeap → Prop} (h : WE C n f l m σ fun a σ₁ => WE C n f r m σ₁ fun b σ₂ => T2 C n f (binaryOp op) a b m σ₂ Q) : WE C n f (.BinOp l op r pos) m σ Q := fun ok fz s E x => by
  refine wpAny_BinOp (wpAny_mono (h ok fz s E x) (fun v s₁ hq => hq.el fun fz₁ σ₁ a u1 e1 x1 va q1 => wpAny_mono (q1 ok fz₁ s₁ E x1) (fun w s₂ hq => hq.el fun fz₂ σ₂ b u2 e2 x2 vb q2 => ?_) fun _ _ x => x) fun _ _ x => x)
  exact wpAny_mono (q2 ok fz₂ s₂ E v w x2 (va.up u2) vb) (fun r s₃ p => .up (fun p hp => u2 p (u1 p hp)) (e1.trans e2) p) fun _ _ x => x
theorem we_compare {l r : Expr} {op : CmpOp} {pos : Pos} {Q : AVal → AHeap → Prop} (h : WE C n f l m σ fun a σ₁ => WE C n f r m σ₁ fun b σ₂ => T2 C n f (compareOp op) a b m σ₂ Q) (hm : behindInMarks op r = false := by rfl) :
    WE C n f (.Compare l [op] [r] pos) m σ Q := fun ok fz s E x => by
  refine wpAny_Compare1 (wpAny_mono (h ok fz s E x) (fun v s₁ hq => hq.el fun fz₁ σ₁ a u1 e1 x1 va q1 => wpAny_mono (q1 ok fz₁ s₁ E x1) (fun w s₂ hq => hq.el fun fz₂ σ₂ b u2 e2 x2 vb q2 => ?_) fun _ _ x => x) fun _ _ x => x) hm
  exact wpAny_mono (q2 ok fz₂ s₂ E v w x2 (va.up u2) vb) (fun r s₃ p => .up (fun p hp => u2 p (u1 p hp)) (e1.trans e2) p) fun _ _ x => x
theorem we_unary {l : Expr} {op : UnaryOp} {pos : Pos} {Q : AVal → AHeap → Prop} (h : WE C n f l m σ fun a σ₁ => T1 C n f (unaryOp op) a m σ₁ Q) : WE C n f (.UnaryOp op l pos) m σ Q := fun ok fz s E x => by
  refine wpAny_UnaryOp (wpAny_mono (h ok fz s E x) (fun v s₁ hq => hq.el fun fz₁ σ₁ a u1 e1 x1 va q1 => ?_) fun _ _ x => x)
  exact wpAny_mono (q1 ok fz₁ s₁ E v x1 va) (fun r s₃ p => .up u1 e1 p) fun _ _ x => x
theorem we_ifexp {t b o : Expr} {pos : Pos} {Q : AVal → AHeap → Prop} (h : WT C n f t m σ fun c σ₁ => (c = true → WE C n f b m σ₁ Q) ∧ (c = false → WE C n f o m σ₁ Q)) : WE C n f (.IfExp t b o pos) m σ Q := fun ok fz s E x => by
  refine wpAny_IfExp (wpAny_mono (h ok fz s E x) (fun c s₁ hq => hq.el fun fz₁ σ₁ u1 e1 x1 q1 => ?_) fun _ _ x => x)
  cases c with
  | true => exact wpAny_mono (q1.1 rfl ok fz₁ s₁ E x1) (fun r s₃ p => .up u1 e1 p) fun _ _ x => x
  | false => exact wpAny_mono (q1.2 rfl ok fz₁ s₁ E x1) (fun r s₃ p => .up u1 e1 p) fun _ _ x => x
/-! ## rows of expressions -/
theorem wl_nil {pos : Pos} {Q : List AVal → AHeap → Prop} (h : Q [] σ) : WL C n f [] pos m σ Q := fun ok fz s E x => wpAny_items_nil ⟨fz, σ, [], sub_refl, .rfl, x, .nil, h⟩
theorem wl_cons {e : Expr} {es : List Expr} {pos : Pos} {Q : List AVal → AHeap → Prop} (h : WE C n f e m σ fun a σ₁ => WL C n f es pos m σ₁ fun as σ₂ => Q (a :: as) σ₂)
    (he : starEach (e :: es) f.env = (false, eval e f.env) :: starEach es f.env := by rfl) : WL C n f (e :: es) pos m σ Q := fun ok fz s E x => by
  refine wpAny_items_cons (wpAny_mono (h ok fz s E x) (fun v s₁ hq => hq.el fun fz₁ σ₁ a u1 e1 x1 va q1 => wpAny_mono (q1 ok fz₁ s₁ E x1) (fun w s₂ hq => hq.el fun fz₂ σ₂ b u2 e2 x2 vb q2 => ?_) fun _ _ x => x) fun _ _ x => x) he
  exact ⟨fz₂, σ₂, a :: b, fun p hp => u2 p (u1 p hp), e1.trans e2, x2, .cons (va.up u2) vb, q2⟩
/-- a list display, frozen; and one that may change -/
theorem we_lst {es : List Expr} {pos : Pos} {Q : AVal → AHeap → Prop} (h : WL C n f es pos m σ fun as σ₁ => as.length ≤ sizeLine ∧ Q (.lst as) σ₁) : WE C n f (.List es pos) m σ Q := fun ok fz s E x => by
  refine wpAny_List (wpAny_mono (h ok fz s E x) (fun vs s₁ hq => hq.el fun fz₁ σ₁ as u1 e1 x1 va ⟨q0, q1⟩ => ⟨by rw [va.length]; exact q0, ?_⟩) fun _ _ x => x)
  have hs : s₁.heap.get? s₁.heap.objs.size = none := by
    cases q : s₁.heap.get? s₁.heap.objs.size with
    | none => rfl
    | some o => exact absurd (Heap.lt_size q) (Nat.lt_irrefl _)
  refine ⟨[(s₁.heap.objs.size, listOf vs.toArray 0)] ++ fz₁, σ₁, .lst as, fun p hp => List.mem_append_right _ (u1 p hp), e1.trans ⟨_, _, rfl⟩, x1.freeze (t := s₁.toks) (fun b o e => Heap.get?_push_of_some _ e) _ ?_, .lst (.inl (List.mem_append_left _ (List.mem_singleton.mpr rfl))) rfl rfl (va.up fun p hp => List.mem_append_right _ hp), q1⟩
  intro p hp
  rw [List.mem_singleton.mp hp]
  exact ⟨hs, Nat.le_refl _, Heap.get?_push_size _ rfl⟩
theorem we_tup {es : List Expr} {k : Nat} {pos : Pos} {Q : AVal → AHeap → Prop} (h : WL C n f es pos m σ fun as σ₁ => as.length ≤ sizeLine ∧ Q (.tup as) σ₁) : WE C n f (.Tuple es k pos) m σ Q := fun ok fz s E x => by
  refine wpAny_Tuple (wpAny_mono (h ok fz s E x) (fun vs s₁ hq => hq.el fun fz₁ σ₁ as u1 e1 x1 va ⟨q0, q1⟩ => ⟨by rw [va.length]; exact q0, ?_⟩) fun _ _ x => x)
  have hs : s₁.heap.get? s₁.heap.objs.size = none := by
    cases q : s₁.heap.get? s₁.heap.objs.size with
    | none => rfl
    | some o => exact absurd (Heap.lt_size q) (Nat.lt_irrefl _)
  refine ⟨[(s₁.heap.objs.size, tupOf vs)] ++ fz₁, σ₁, .tup as, fun p hp => List.mem_append_right _ (u1 p hp), e1.trans ⟨_, _, rfl⟩, x1.freeze (t := s₁.toks) (fun b o e => Heap.get?_push_of_some _ e) _ ?_, .tup (.inl (List.mem_append_left _ (List.mem_singleton.mpr rfl))) rfl rfl (va.up fun p hp => List.mem_append_right _ hp), q1⟩
  intro p hp
  rw [List.mem_singleton.mp hp]
  exact ⟨hs, Nat.le_refl _, Heap.get?_push_size _ rfl⟩
theorem we_listM {es : List Expr} {pos : Pos} {Q : AVal → AHeap → Prop} (h : WL C n f es pos m σ fun as σ₁ => as.length ≤ sizeLine ∧ ∀ a, σ₁ a = none → Q (.obj a) (σ₁.set a (.list as))) : WE C n f (.List es pos) m σ Q := fun ok fz s E x => by
  refine wpAny_List (wpAny_mono (h ok fz s E x) (fun vs s₁ hq => hq.el fun fz₁ σ₁ as u1 e1 x1 va ⟨q0, q1⟩ => ⟨by rw [va.length]; exact q0, ?_⟩) fun _ _ x => x)
  exact ⟨fz₁, _, .obj s₁.heap.objs.size, u1, e1.trans ⟨_, _, rfl⟩, x1.newList (t := s₁.toks) (fun b o e => Heap.get?_push_of_some _ e) (Nat.le_refl _) (Heap.get?_push_size _ rfl) va, .obj _, q1 _ (x1.fresh (Nat.le_refl _))⟩

/-! ## tests -/
theorem wt_compare {l r : Expr} {op : CmpOp} {pos : Pos} {Q : Bool → AHeap → Prop} (h : WE C n f l m σ fun a σ₁ => WE C n f r m σ₁ fun b σ₂ => T2 C n f (compareOp op) a b m σ₂ fun c σ₃ => TB C n f truthy c m σ₃ Q) (hm : behindInMarks op r = false := by rfl) :
    WT C n f (.Compare l [op] [r] pos) m σ Q := fun ok fz s E x => by
  refine wpAny_isTrue_Compare1 (wpAny_mono (h ok fz s E x) (fun v s₁ hq => hq.el fun fz₁ σ₁ a u1 e1 x1 va q1 => wpAny_mono (q1 ok fz₁ s₁ E x1) (fun w s₂ hq => hq.el fun fz₂ σ₂ b u2 e2 x2 vb q2 => ?_) fun _ _ x => x) fun _ _ x => x) hm
  refine wpAny_mono (q2 ok fz₂ s₂ E v w x2 (va.up u2) vb) (fun r s₃ hq => hq.el fun fz₃ σ₃ c u3 e3 x3 vc q3 => ?_) fun _ _ x => x
  exact wpAny_mono (q3 ok fz₃ s₃ E r x3 vc) (fun b s₄ p => .up (fun p hp => u3 p (u2 p (u1 p hp))) ((e1.trans e2).trans e3) p) fun _ _ x => x
theorem wt_not {t : Expr} {pos : Pos} {Q : Bool → AHeap → Prop} (h : WT C n f t m σ fun b σ₁ => Q (!b) σ₁) : WT C n f (.UnaryOp .Not t pos) m σ Q := fun ok fz s E x =>
  wpAny_isTrue_Not (wpAny_mono (h ok fz s E x) (fun v s₁ hq => hq.el fun fz₁ σ₁ u1 e1 x1 q1 => ⟨fz₁, σ₁, u1, e1, x1, q1⟩) fun _ _ x => x)
theorem wt_value {e : Expr} {Q : Bool → AHeap → Prop} (h : WE C n f e m σ fun a σ₁ => TB C n f truthy a m σ₁ Q) (he : ∀ whole, isTrue e f.env whole = (do let v ← whole; standAt e.pos; holding [v] (truthy v)) := by intro _; rfl) : WT C n f e m σ Q := fun ok fz s E x => by
  refine wpAny_isTrue_value (wpAny_mono (h ok fz s E x) (fun v s₁ hq => hq.el fun fz₁ σ₁ a u1 e1 x1 va q1 => ?_) fun _ _ x => x) (he _)
  exact wpAny_mono (q1 ok fz₁ s₁ E v x1 va) (fun b s₄ p => .up u1 e1 p) fun _ _ x => x
/-- a chain of tests in a condition -/
def WA (C : Cx) (n : Nat) (f : Fm) (op : BoolOp) (es : List Expr) (m : AEnv) (σ : AHeap) (Q : Bool → AHeap → Prop) : Prop :=
  f.Ok C n → ∀ fz s E, SR C f fz m σ s → wpAny (Md C) f.A (allTrue op es f.env) (PB C f m fz s Q) E s
theorem wt_bool {op : BoolOp} {es : List Expr} {pos : Pos} {Q : Bool → AHeap → Prop} (h : WA C n f op es m σ Q) : WT C n f (.BoolOp op es pos) m σ Q := fun ok fz s E x => wpAny_isTrue_BoolOp (h ok fz s E x)
theorem wa_and_nil {Q : Bool → AHeap → Prop} (h : Q true σ) : WA C n f .And [] m σ Q := fun ok fz s E x => wpAny_allTrue_And_nil ⟨fz, σ, sub_refl, .rfl, x, h⟩
theorem wa_or_nil {Q : Bool → AHeap → Prop} (h : Q false σ) : WA C n f .Or [] m σ Q := fun ok fz s E x => wpAny_allTrue_Or_nil ⟨fz, σ, sub_refl, .rfl, x, h⟩
theorem wa_and {e : Expr} {es : List Expr} {Q : Bool → AHeap → Prop} (h : WT C n f e m σ fun b σ₁ => (b = true → WA C n f .And es m σ₁ Q) ∧ (b = false → Q false σ₁)) : WA C n f .And (e :: es) m σ Q := fun ok fz s E x => by
  refine wpAny_allTrue_And_cons (wpAny_mono (h ok fz s E x) (fun c s₁ hq => hq.el fun fz₁ σ₁ u1 e1 x1 q1 => ?_) fun _ _ x => x)
  cases c with
  | true => exact wpAny_mono (q1.1 rfl ok fz₁ s₁ E x1) (fun r s₃ p => .up u1 e1 p) fun _ _ x => x
  | false => exact ⟨fz₁, σ₁, u1, e1, x1, q1.2 rfl⟩
theorem wa_or {e : Expr} {es : List Expr} {Q : Bool → AHeap → Prop} (h : WT C n f e m σ fun b σ₁ => (b = true → Q true σ₁) ∧ (b = false → WA C n f .Or es m σ₁ Q)) : WA C n f .Or (e :: es) m σ Q := fun ok fz s E x => by
  refine wpAny_allTrue_Or_cons (wpAny_mono (h ok fz s E x) (fun c s₁ hq => hq.el fun fz₁ σ₁ u1 e1 x1 q1 => ?_) fun _ _ x => x)
  cases c with
  | false => exact wpAny_mono (q1.2 rfl ok fz₁ s₁ E x1) (fun r s₃ p => .up u1 e1 p) fun _ _ x => x
  | true => exact ⟨fz₁, σ₁, u1, e1, x1, q1.1 rfl⟩
theorem tb_bool {b : Bool} {Q : Bool → AHeap → Prop} (h : Q b σ) : TB C n f truthy (.bool b) m σ Q := fun ok fz s E v x hv => by
  cases hv; exact wpAny_truthy_bool ⟨fz, σ, sub_refl, .rfl, x, h⟩

/-! ## statements -/
theorem ws_nil {Q : AFlow → AEnv → AHeap → Prop} (h : Q .next m σ) : WS C n f [] m σ Q := fun ok fz s E x => wpAny_execs_nil ⟨fz, σ, m, .next, sub_refl, .rfl, x, trivial, h⟩
theorem ws_cons {st : Stmt} {ss : List Stmt} {Q : AFlow → AEnv → AHeap → Prop} (h : W1 C n f st m σ fun a m' σ' => match a with | .next => WS C n f ss m' σ' Q | a => Q a m' σ') : WS C n f (st :: ss) m σ Q := fun ok fz s E x => by
  refine wpAny_execs_cons (wpAny_mono (h ok fz s E x) (fun fl s₁ hq => hq.el fun fz₁ σ₁ m₁ a u1 e1 x1 va q1 => ?_) fun _ _ x => x)
  cases fl with
  | next =>
    cases a with
    | next => exact wpAny_mono (q1 ok fz₁ s₁ E x1) (fun r s₃ p => .up u1 e1 p) fun _ _ x => x
    | _ => exact va.elim
  | brk => cases a <;> first | exact ⟨fz₁, σ₁, m₁, _, u1, e1, x1, va, q1⟩ | exact va.elim
  | cont => cases a <;> first | exact ⟨fz₁, σ₁, m₁, _, u1, e1, x1, va, q1⟩ | exact va.elim
  | ret v => cases a <;> first | exact ⟨fz₁, σ₁, m₁, _, u1, e1, x1, va, q1⟩ | exact va.elim
theorem w1_return {e : Expr} {pos : Pos} {Q : AFlow → AEnv → AHeap → Prop} (h : WE C n f e m σ fun a σ₁ => Q (.ret a) m σ₁) : W1 C n f (.Return (some e) pos) m σ Q := fun ok fz s E x =>
  wpAny_Return_some (wpAny_mono (h ok fz s E x) (fun v s₁ hq => hq.el fun fz₁ σ₁ a u1 e1 x1 va q1 => ⟨fz₁, σ₁, m, .ret a, u1, e1, x1, va, q1⟩) fun _ _ x => x)
theorem w1_if {t : Expr} {b o : List Stmt} {pos : Pos} {Q : AFlow → AEnv → AHeap → Prop} (h : WT C n f t m σ fun c σ₁ => (c = true → WS C n f b m σ₁ Q) ∧ (c = false → WS C n f o m σ₁ Q)) : W1 C n f (.If t b o pos) m σ Q := fun ok fz s E x => by
  refine wpAny_If (wpAny_mono (h ok fz s E x) (fun c s₁ hq => hq.el fun fz₁ σ₁ u1 e1 x1 q1 => ?_) fun _ _ x => x)
  cases c with
  | true => exact wpAny_mono (q1.1 rfl ok fz₁ s₁ E x1) (fun r s₃ p => .up u1 e1 p) fun _ _ x => x
  | false => exact wpAny_mono (q1.2 rfl ok fz₁ s₁ E x1) (fun r s₃ p => .up u1 e1 p) fun _ _ x => x
/-- storing a value under a name: as a tree -/
def TS (C : Cx) (n : Nat) (f : Fm) (y : Str) (a : AVal) (m : AEnv) (σ : AHeap) (Q : AEnv → AHeap → Prop) : Prop :=
  f.Ok C n → ∀ fz s E v, SR C f fz m σ s → V (At C fz) v a → wpAny (Md C) f.A (storeName f.env y v) (fun _ s' => ∃ fz' σ' m', (∀ p ∈ fz, p ∈ fz') ∧ Same s s' ∧ SR C f fz' m' σ' s' ∧ Q m' σ') E s
theorem ts_local {y : Str} {a : AVal} {Q : AEnv → AHeap → Prop} (hl : f.fenv.kindOf y = some .local) (h : Q (m.set y a) σ) (hcm : f.comp = none := by rfl) : TS C n f y a m σ Q := fun ok fz s E v x hv => by
  have he : f.env = f.fenv := by unfold Fm.env; rw [hcm]
  rw [he]
  obtain ⟨mc, news, F, N, k⟩ := x.store (y := y) hv
  exact storeX_L F N (fun h' F' N' => ⟨fz, σ, _, sub_refl, .mk, k h' _ F' N', h⟩) ok.kind hl
theorem ts_cell {y : Str} {a : AVal} {c : Addr} {v₀ : Option AVal} {Q : AEnv → AHeap → Prop} (hl : f.env.kindOf y = some .cell) (hc : f.env.cells.lookup y = some c) (hv : σ c = some (.cell v₀)) (h : Q m (σ.set c (.cell (some a)))) : TS C n f y a m σ Q := fun ok fz s E v x va => by
  have x' := x
  obtain ⟨mc, news, δ, F, N, R, e⟩ := x
  obtain ⟨o, u, ho, hd⟩ : ∃ o u, (c, o) ∈ news ∧ o.data = .cell u := by
    cases v₀ with
    | none => obtain ⟨o, h1, h2⟩ := R.ob c _ hv; exact ⟨o, _, h1, h2⟩
    | some a => obtain ⟨o, u, h1, h2, _⟩ := R.ob c _ hv; exact ⟨o, _, h1, h2⟩
  refine wpAny_storeName_cell ok.ckind hl hc ⟨o, (N _ ho).1, hd⟩ fun h' hv' hs => ?_
  obtain ⟨o', ho', hd'⟩ := hv'
  exact ⟨fz, _, m, sub_refl, ⟨_, _, rfl⟩, x'.setCell (t := s.toks) hv hs ho' hd' va, h⟩
theorem w1_assign {y : Str} {py : Pos} {e : Expr} {pos : Pos} {Q : AFlow → AEnv → AHeap → Prop} (h : WE C n f e m σ fun a σ₁ => TS C n f y a m σ₁ fun m' σ' => Q .next m' σ')
    (hs : swapsWith e (some (.Name y py)) pos.line f.env = pure false := by rfl) : W1 C n f (.Assign [.Name y py] e pos) m σ Q := fun ok fz s E x => by
  refine wpAny_Assign_Name (wpAny_mono (h ok fz s E x) (fun v s₁ hq => hq.el fun fz₁ σ₁ a u1 e1 x1 va q1 => ?_) fun _ _ x => x) hs
  exact wpAny_mono (q1 ok fz₁ s₁ E v x1 va) (fun _ s₂ hq => PU.el hq fun fz₂ σ₂ m₂ u2 e2 x2 q2 => ⟨fz₂, σ₂, m₂, .next, fun p hp => u2 p (u1 p hp), e1.trans e2, x2, trivial, q2⟩) fun _ _ x => x
end
end Mine

open PySem PySem.W PyProof.Rows PySem.Calls
namespace Mine
def Near (f : Fm) (A : Around) : Prop := A.frames = f.A.frames ∧ A.handled = f.A.handled ∧ A.guards = f.A.guards ∧ A.depth ≤ f.A.depth + 2 ∧ A.units ≤ f.A.units + 4
theorem Near.refl {f : Fm} : Near f f.A := ⟨rfl, rfl, rfl, by omega, by omega⟩
def RV (C : Cx) (f : Fm) (m : AEnv) (fz : Fz) (s : Shared) (Q : AVal → AHeap → Prop) (r : Result) (s' : Shared) : Prop := ∃ v, r = .ok (.ret v) ∧ PV C f m fz s Q v s'
/-- what a call of a def of the text does -/
def Fn (C : Cx) (n : Nat) (fa : Addr) (as : List AVal) (σ : AHeap) (Q : AVal → AHeap → Prop) : Prop :=
  ∀ f m A, f.Ok C n → Near f A → ∀ fz s vs, SR C f fz m σ s → Vs (At C fz) vs as → codeAny (Md C) A (.call (.ref fa) ⟨vs, []⟩) (RV C f m fz s Q) s
def Keep (C : Cx) (h : Heap) (v : Value) : Prop := ∃ k, (k = Keeper.frame ∨ k = Keeper.machine ∨ k = Keeper.boundFrame) ∧ Looks (Md C) h (keeperOf v) k
/-- a call -/
def TC (C : Cx) (n : Nat) (f : Fm) (fv : AVal) (as : List AVal) (m : AEnv) (σ : AHeap) (Q : AVal → AHeap → Prop) : Prop :=
  f.Ok C n → ∀ fz s E v vs, SR C f fz m σ s → V (At C fz) v fv → Vs (At C fz) vs as → Keep C s.heap v ∧ wpAny (Md C) f.A (call v vs) (PV C f m fz s Q) E s
/-- a method looked up -/
def TG (C : Cx) (n : Nat) (f : Fm) (name : Str) (ov : AVal) (m : AEnv) (σ : AHeap) (Q : AVal → List AVal → AHeap → Prop) : Prop :=
  f.Ok C n → ∀ fz s E v pl, SR C f fz m σ s → V (At C fz) v ov → wpAny (Md C) f.A (getMethod v name pl) (fun fx s' => ∃ fz' σ' fa as, (∀ p ∈ fz, p ∈ fz') ∧ Same s s' ∧ SR C f fz' m σ' s' ∧ V (At C fz') fx.1 fa ∧ Vs (At C fz') fx.2 as ∧ Q fa as σ') E s

section
variable {C : Cx} {n : Nat} {f : Fm} {m : AEnv} {σ : AHeap}
theorem cw {pos : Pos} {v : Value} {first : List Value} {args : List Expr} {s : Shared} {E : Value → Shared → Prop} {Q : Value → Shared → Prop}
    (h : wpAny (Md C) f.A (spliced (backTo pos (starEach args f.env))) (fun vs s₁ => Keep C s₁.heap v ∧ wpAny (Md C) f.A (call v (first ++ vs)) Q E s₁) E s)
    (hplain : (backTo pos (starEach args f.env)).any (·.1) = false := by rfl) : wpAny (Md C) f.A (callWith pos v first (backTo pos (starEach args f.env)) (backToKw pos (keywordEach [] f.env))) Q E s := by
  show wpAny (Md C) f.A (callWith pos v first (backTo pos (starEach args f.env)) []) Q E s
  revert h hplain
  generalize backTo pos (starEach args f.env) = l
  intro h hplain
  refine callWith_of (P := fun h => Keep C h v) (by rw [hplain]; rfl) (fun h k => k) ?_
  cases l with
  | nil =>
    unfold evalArgs
    show wpAny _ _ (spliced [] >>= _) _ E s
    exact wpAny_bind (wpAny_mono h (fun vs s₁ h₁ => wpAny_bind (wpAny_pure (wpAny_holding (wpAny_bind (wpAny_pure (wpAny_bind (wpAny_pure (wpAny_pure h₁)))))))) fun _ _ x => x)
  | cons p l => 
    obtain ⟨b, x⟩ := p
    cases b with
    | true => cases hplain
    | false => exact evalArgs_plain h
theorem we_call {g : Str} {gp : Pos} {args : List Expr} {pos : Pos} {Q : AVal → AHeap → Prop} (h : WE C n f (.Name g gp) m σ fun fv σ₁ => WL C n f args pos m σ₁ fun as σ₂ => TC C n f fv as m σ₂ Q)
    (hplain : (backTo pos (starEach args f.env)).any (·.1) = false := by rfl) : WE C n f (.Call (.Name g gp) args [] pos) m σ Q := fun ok fz s E x => by
  refine wpAny_Call_ofName (wpAny_mono (h ok fz s E x) (fun v s₁ hq => hq.el fun fz₁ σ₁ a u1 e1 x1 va q1 => cw (wpAny_mono (q1 ok fz₁ s₁ E x1) (fun vs s₂ hq => hq.el fun fz₂ σ₂ as u2 e2 x2 vs' q2 => ?_) fun _ _ x => x) hplain) fun _ _ x => x)
  obtain ⟨k, c⟩ := q2 ok fz₂ s₂ E v vs x2 (va.up u2) vs'
  exact ⟨k, wpAny_mono c (fun r s₃ p => .up (fun p hp => u2 p (u1 p hp)) (e1.trans e2) p) fun _ _ x => x⟩
theorem we_method {o : Expr} {name : Str} {apos pos : Pos} {args : List Expr} {pl : Sem Bool} {Q : AVal → AHeap → Prop}
    (h : WE C n f o m σ fun ov σ₁ => TG C n f name ov m σ₁ fun fv first σ₂ => WL C n f args pos m σ₂ fun as σ₃ => TC C n f fv (first ++ as) m σ₃ Q)
    (he : eval (.Call (.Attribute o name apos) args [] pos) f.env = (do
      let ov ← eval o f.env
      standAt apos.atName
      let (g, first) ← holding [ov] (getMethod ov name pl)
      callWith pos g first (backTo pos (starEach args f.env)) (backToKw pos (keywordEach [] f.env))) := by rfl)
    (hplain : (backTo pos (starEach args f.env)).any (·.1) = false := by rfl) : WE C n f (.Call (.Attribute o name apos) args [] pos) m σ Q := fun ok fz s E x => by
  refine methodCall_KW (pl := pl) (wpAny_mono (h ok fz s E x) (fun v s₁ hq => hq.el fun fz₁ σ₁ a u1 e1 x1 va q1 => wpAny_mono (q1 ok fz₁ s₁ E v pl x1 va) (fun fx s₂ ⟨fz₂, σ₂, fa, fs, u2, e2, x2, vf, vfs, q2⟩ => cw (wpAny_mono (q2 ok fz₂ s₂ E x2) (fun vs s₃ hq => hq.el fun fz₃ σ₃ as u3 e3 x3 vs' q3 => ?_) fun _ _ x => x) hplain) fun _ _ x => x) fun _ _ x => x) he
  obtain ⟨k, c⟩ := q3 ok fz₃ s₃ E fx.1 (fx.2 ++ vs) x3 (vf.up u3) ((vfs.up u3).append vs')
  exact ⟨k, wpAny_mono c (fun r s₄ p => .up (fun p hp => u3 p (u2 p (u1 p hp))) ((e1.trans e2).trans e3) p) fun _ _ x => x⟩

/-! ## methods of own instances -/
theorem tg_inst {a c g : Addr} {as : List (Str × AVal)} {name : Str} {Q : AVal → List AVal → AHeap → Prop} (hσ : σ a = some (.inst c as)) (hn : getA name as = none) (hg : plainGet C.K c name = true)
    (hf : findIn C.K (.ref c) name = some (some (.ref g))) (ht : isFn C.K (.ref g) = true) (h : Q (.raw (.ref g)) [.obj a] σ) : TG C n f name (.obj a) m σ Q := fun ok fz s E v pl x hv => by
  cases hv
  obtain ⟨d, es, k, h1, h2, h3⟩ := x.inst hσ
  have x' := x
  obtain ⟨mc, news, δ, F, N, R, e⟩ := x
  exact method_inst F ok.kin (⟨h1, rfl, rfl, h2⟩ : InstAt s.heap a (instObj c d) c (some (dictOf es k))) hg hf ht (h3.get_none hn) ⟨fz, σ, _, _, sub_refl, .rfl, x', .raw _, .cons (.obj a) .nil, h⟩
theorem keep_K {g : Value} (ok : f.Ok C n) {fz : Fz} {s : Shared} (x : SR C f fz m σ s) (hk : keepIn C.K g = true) : Keep C s.heap g := by
  obtain ⟨mc, news, δ, F, N, R, e⟩ := x
  exact keeps_K hk _ (ok.kin.keeps F.keep)
theorem tc_fn {g : Addr} {as : List AVal} {Q : AVal → AHeap → Prop} (hk : keepIn C.K (.ref g) = true) (h : Fn C n g as σ Q) : TC C n f (.raw (.ref g)) as m σ Q := fun ok fz s E v vs x hv hvs => by
  cases hv
  refine ⟨keep_K ok x hk, wpAny_call (codeAny_mono (h f m f.A ok .refl fz s vs x hvs) fun r s' ⟨v, e, p⟩ => ?_)⟩
  subst e; exact p

/-! ## a def of the text, without cells -/
def retOf : AFlow → AVal
  | .ret a => a
  | _ => .none
theorem lookup_nd {β : Type} : ∀ {l : List (Str × β)}, (l.map (·.1)).Nodup → ∀ {y : Str} {v : β}, (y, v) ∈ l → l.lookup y = some v
  | [], _, _, _, h => nomatch h
  | (z, u) :: l, nd, y, v, h => by
    rw [List.map_cons, List.nodup_cons] at nd
    rcases List.mem_cons.mp h with e | h
    · cases e; simp
    · have : y ≠ z := fun e => nd.1 (List.mem_map.mpr ⟨_, h, e⟩)
      rw [List.lookup_cons]
      have hb : (y == z) = false := by simpa using this
      rw [hb]
      exact lookup_nd nd.2 h
theorem lookup_zip {P : Addr → Obj → Prop} : ∀ {ns : List Str} {vs : List Value} {as : List AVal}, Vs P vs as → ns.Nodup → ∀ {y : Str} {a : AVal}, getA y (ns.zip as) = some a → ∃ v, (ns.zip vs).reverse.lookup y = some v ∧ V P v a := by
  intro ns vs as h
  have key : ∀ {ns : List Str} {vs : List Value} {as : List AVal}, Vs P vs as → ns.Nodup → ∀ {y : Str} {a : AVal}, getA y (ns.zip as) = some a → ∃ v, (y, v) ∈ ns.zip vs ∧ V P v a := by
    intro ns
    induction ns with
    | nil => intro vs as _ _ y a e; cases as <;> cases e
    | cons z ns ih =>
      intro vs as h hd y a e
      cases h with
      | nil => cases e
      | cons hv h =>
        rw [List.zip_cons_cons] at e
        unfold getA at e
        by_cases q : (z == y) = true
        · rw [if_pos q] at e; cases e
          have : z = y := by simpa using q
          subst this
          exact ⟨_, List.mem_cons_self .., hv⟩
        · rw [if_neg q] at e
          obtain ⟨v, h1, h2⟩ := ih h (List.nodup_cons.mp hd).2 e
          exact ⟨v, List.mem_cons_of_mem _ h1, h2⟩
  intro hd y a e
  obtain ⟨v, h1, h2⟩ := key h hd e
  refine ⟨v, ?_, h2⟩
  have nd : ((ns.zip vs).reverse.map (·.1)).Nodup := by
    rw [List.map_reverse]
    refine List.pairwise_reverse.mpr (List.Pairwise.imp (fun h => Ne.symm h) ?_)
    have : (ns.zip vs).map (·.1) = ns.take vs.length := by
      clear h hd e h1 h2 key
      induction ns generalizing vs with
      | nil => simp
      | cons z ns ih => cases vs with
        | nil => simp
        | cons v vs => simp [ih]
    rw [this]
    exact List.Nodup.sublist (List.take_sublist ..) hd
  exact lookup_nd nd (List.mem_reverse.mpr h1)

theorem fn_plain {fa : Addr} {name qual : Str} {params : Arguments} {body : List Stmt} {scope : Scope} {dV kV doc pm cdv ct oc : Value} {an od : Option Addr} {osl : Array (Option Value)} {as da : List AVal} {ns : List Str} {dv : List Value} {Q : AVal → AHeap → Prop}
    (ho : C.K.lookup fa = some ⟨oc, od, .func (fnOf name qual params body scope dV kV doc pm an cdv ct), osl⟩) (hcd : codeIn C.K cdv qual = true)
    (hbind : ∀ S vs, vs.length = as.length → peek C.K S (bindArgs (fnOf name qual params body scope dV kV doc pm an cdv ct) ⟨vs, []⟩) = some (ns.zip (vs ++ dv)))
    (hd : ∀ P, Vs P dv da) (hnd : ns.Nodup) (hloc : ∀ y ∈ ns, scope.names.lookup y = some .local)
    (h : ∀ A₀ A base h₀ outer L pin, WS C n ⟨A₀, A, base, h₀, outer, L, fa, qual, scope, cdv, [], pin, none⟩ body (ns.zip (as ++ da)) σ fun fl _ σ' => ∃ σ₂ : AHeap, σ₂.le σ' ∧ Q (retOf fl) σ₂)
    (hco : scope.isCoroutine = false := by rfl) (hgen : scope.isGenerator = false := by rfl) (hk : scope.kind = .function := by rfl) (hcell : ∀ x ∈ scope.names, x.2 ≠ .cell := by decide) :
    Fn C (n + 1) fa as σ Q := fun f m A ok hn fz s vs x hvs => by
  obtain ⟨mc, news, δ, F, N, R, e⟩ := x
  have X := ok.kin.keeps F.keep
  have e2 := ok.depth
  have e3 := ok.units
  obtain ⟨n1, n2, n3, n4, n5⟩ := hn
  have hlen := hvs.length
  refine code_def (env := f.fenv) (binds := ns.zip (vs ++ dv)) ok.below F ok.kin N ok.top (n1.trans ok.stack) rfl ok.kind ho hcd (by omega) (kp_binds X fun S => hbind S vs hlen) (fun y hy => hloc _ (List.of_mem_zip hy).1) (fun g L' h₁ FG F' N' B' KG TG => ?_) hco hgen hk hcell
  let f' : Fm := ⟨A, A.deeper (envOf qual scope L' fa cdv), f.base, g, f.fenv :: f.outer, L', fa, qual, scope, cdv, [], f.pin, none⟩
  have hkH : ∀ b o, C.H.get? b = some o → g.get? b = some o := fun b o hb => FG.keep b o (ok.hk b o hb)
  have ok' : f'.Ok C n := ⟨B', KG, TG, hkH, Around.frames_deeper B'.stack, n2.trans ok.handled, n3.trans ok.guards, by show A.depth + 1 + 3 * n < _; omega, by show A.units + 3 + 10 * n + 100 < _; omega, hk, hk⟩
  have hz := hvs.append (hd (At C fz))
  have x' : SR C f' fz (ns.zip (as ++ da)) σ { s with heap := h₁, toks := s.toks + (ns.zip (vs ++ dv)).length } :=
    ⟨_, news, δ, F', N', R, fun y a hy => lookup_zip hz hnd hy⟩
  refine wpAny_mono (h A _ f.base g (f.fenv :: f.outer) L' f.pin ok' fz _ _ x') (fun fl s' hq => hq.el fun fz' σ' m' a u es x2 va ⟨σ₂, hle, q⟩ => ?_) fun _ _ z => z
  obtain ⟨mc', news', δ', F2, N2, R2, e2⟩ := x2.weaken (fun _ _ h => h) hle
  refine leaveK_ F2 N2 fun FK NK => ⟨_, rfl, fz', σ₂, retOf a, u, ?_, ⟨mc, news', δ', FK, NK, R2, fun y b hy => ?_⟩, ?_, q⟩
  · obtain ⟨hh, tt, ee⟩ := es; exact ⟨hh, tt, ee⟩
  · obtain ⟨v, h1, h2⟩ := e y b hy; exact ⟨v, h1, h2.up u⟩
  · cases fl <;> cases a <;> first | exact va.elim | exact .none | exact va
end
end Mine

open PySem PySem.W PyProof.Rows PySem.Calls
namespace Mine
/-! ## storing -/
def PU (C : Cx) (f : Fm) (fz : Fz) (s : Shared) (Q : AEnv → AHeap → Prop) (s' : Shared) : Prop := ∃ fz' σ' m', (∀ p ∈ fz, p ∈ fz') ∧ Same s s' ∧ SR C f fz' m' σ' s' ∧ Q m' σ'
def TA (C : Cx) (n : Nat) (f : Fm) (t : Expr) (a : AVal) (m : AEnv) (σ : AHeap) (Q : AEnv → AHeap → Prop) : Prop :=
  f.Ok C n → ∀ fz s E v, SR C f fz m σ s → V (At C fz) v a → wpAny (Md C) f.A (assign t f.env v) (fun _ => PU C f fz s Q) E s
def TAs (C : Cx) (n : Nat) (f : Fm) (ts : List Expr) (as : List AVal) (m : AEnv) (σ : AHeap) (Q : AEnv → AHeap → Prop) : Prop :=
  f.Ok C n → ∀ fz s E vs, SR C f fz m σ s → Vs (At C fz) vs as → wpAny (Md C) f.A (assignInOrder ((assignEach ts f.env).map (·.2)) vs) (fun _ => PU C f fz s Q) E s
def TSs (C : Cx) (n : Nat) (f : Fm) (ys : List Str) (as : List AVal) (m : AEnv) (σ : AHeap) (Q : AEnv → AHeap → Prop) : Prop :=
  f.Ok C n → ∀ fz s E vs, SR C f fz m σ s → Vs (At C fz) vs as → wpAny (Md C) f.A (assignInOrder (ys.map fun y => bindName f.env y) vs) (fun _ => PU C f fz s Q) E s
section
variable {C : Cx} {n : Nat} {f : Fm} {m : AEnv} {σ : AHeap}
theorem PU.up {s s₁ s' : Shared} {fz fz₁ : Fz} {Q : AEnv → AHeap → Prop} (h : ∀ p ∈ fz, p ∈ fz₁) (hs : Same s s₁) (x : PU C f fz₁ s₁ Q s') : PU C f fz s Q s' := by
  obtain ⟨fz', σ', m', h1, h2, h3, h4⟩ := x
  exact ⟨fz', σ', m', fun p hp => h1 p (h p hp), hs.trans h2, h3, h4⟩
theorem ta_name {y : Str} {pos : Pos} {a : AVal} {Q : AEnv → AHeap → Prop} (h : TS C n f y a m σ Q) : TA C n f (.Name y pos) a m σ Q := fun ok fz s E v x hv => assign_Name (h ok fz s E v x hv)
theorem tas_nil {Q : AEnv → AHeap → Prop} (h : Q m σ) : TAs C n f [] [] m σ Q := fun ok fz s E vs x hv => by cases hv; exact wpAny_assignInOrder_none ⟨fz, σ, m, sub_refl, .rfl, x, h⟩
theorem tas_cons {t : Expr} {ts : List Expr} {a : AVal} {as : List AVal} {Q : AEnv → AHeap → Prop} (h : TA C n f t a m σ fun m' σ' => TAs C n f ts as m' σ' Q)
    (he : (assignEach (t :: ts) f.env).map (·.2) = assign t f.env :: (assignEach ts f.env).map (·.2) := by rfl) : TAs C n f (t :: ts) (a :: as) m σ Q := fun ok fz s E vs x hv => by
  cases hv with
  | cons hv hvs =>
    rw [he]
    refine wpAny_assignInOrder_more (wpAny_mono (h ok fz s E _ x hv) (fun _ s₁ hq => PU.el hq fun fz₁ σ₁ m₁ u1 e1 x1 q1 => ?_) fun _ _ x => x)
    exact wpAny_mono (q1 ok fz₁ s₁ E _ x1 (hvs.up u1)) (fun _ s₂ p => .up u1 e1 p) fun _ _ x => x
theorem tss_nil {Q : AEnv → AHeap → Prop} (h : Q m σ) : TSs C n f [] [] m σ Q := fun ok fz s E vs x hv => by cases hv; exact wpAny_assignInOrder_none ⟨fz, σ, m, sub_refl, .rfl, x, h⟩
theorem tss_cons {y : Str} {ys : List Str} {a : AVal} {as : List AVal} {Q : AEnv → AHeap → Prop} (h : TS C n f y a m σ fun m' σ' => TSs C n f ys as m' σ' Q) : TSs C n f (y :: ys) (a :: as) m σ Q := fun ok fz s E vs x hv => by
  cases hv with
  | cons hv hvs =>
    refine wpAny_assignInOrder_more (wpAny_bindName (wpAny_mono (h ok fz s E _ x hv) (fun _ s₁ hq => PU.el hq fun fz₁ σ₁ m₁ u1 e1 x1 q1 => ?_) fun _ _ x => x))
    exact wpAny_mono (q1 ok fz₁ s₁ E _ x1 (hvs.up u1)) (fun _ s₂ p => .up u1 e1 p) fun _ _ x => x
theorem ext_keeps {h h' : Heap} (e : Heap.ExtBut h.objs.size h h') : ∀ b o, h.get? b = some o → h'.get? b = some o := fun b o q => e b o (Nat.ne_of_lt (Heap.lt_size q)) q
theorem V.tuple_ {fz : Fz} {s : Shared} (ok : f.Ok C n) (x : SR C f fz m σ s) {v : Value} {xs : List AVal} (h : V (At C fz) v (.tup xs)) : ∃ t vs, v = .ref t ∧ s.heap.IsTuple t vs.toArray ∧ Vs (At C fz) vs xs := by
  cases h with
  | tup h1 h2 h3 h4 => exact ⟨_, _, rfl, ⟨_, x.at_ ok h1, h2, _, h3⟩, h4⟩
theorem V.list_ {fz : Fz} {s : Shared} (ok : f.Ok C n) (x : SR C f fz m σ s) {v : Value} {xs : List AVal} (h : V (At C fz) v (.lst xs)) : ∃ t vs, v = .ref t ∧ s.heap.IsList t vs.toArray ∧ Vs (At C fz) vs xs := by
  cases h with
  | lst h1 h2 h3 h4 => exact ⟨_, _, rfl, ⟨_, x.at_ ok h1, h2, _, h3⟩, h4⟩
theorem ta_tup {ts : List Expr} {k : Nat} {pos : Pos} {as : List AVal} {Q : AEnv → AHeap → Prop} (h : TAs C n f ts as m σ Q) (hn : (assignEach ts f.env).length = as.length := by rfl) (hstar : (assignEach ts f.env).findIdx? (·.1) = none := by rfl) :
    TA C n f (.Tuple ts k pos) (.tup as) m σ Q := fun ok fz s E v x hv => by
  obtain ⟨t, vs, rfl, ht, hvs⟩ := hv.tuple_ ok x
  refine wpAny_assign_Tuple ok.handled ht (by rw [hn, List.size_toArray, hvs.length]) hstar fun h' he => ?_
  exact wpAny_mono (h ok fz { s with heap := h' } E vs (x.grow (t := s.toks) (ext_keeps he)) hvs) (fun _ s₂ p => .up sub_refl ⟨h', s.toks, rfl⟩ p) fun _ _ x => x
theorem w1_assignT {ts : List Expr} {k : Nat} {tp : Pos} {e : Expr} {pos : Pos} {Q : AFlow → AEnv → AHeap → Prop} (h : WE C n f e m σ fun a σ₁ => TA C n f (.Tuple ts k tp) a m σ₁ fun m' σ' => Q .next m' σ')
    (hs : swapsWithSole [.Tuple ts k tp] e pos.line f.env = pure false := by rfl) (hw : swappedStores [.Tuple ts k tp] e f.env = pure none := by rfl) : W1 C n f (.Assign [.Tuple ts k tp] e pos) m σ Q := fun ok fz s E x => by
  refine Assign_Tuple (wpAny_mono (h ok fz s E x) (fun v s₁ hq => hq.el fun fz₁ σ₁ a u1 e1 x1 va q1 => ?_) fun _ _ x => x) hs hw
  exact wpAny_mono (q1 ok fz₁ s₁ E v x1 va) (fun _ s₂ hq => PU.el hq fun fz₂ σ₂ m₂ u2 e2 x2 q2 => ⟨fz₂, σ₂, m₂, .next, fun p hp => u2 p (u1 p hp), e1.trans e2, x2, trivial, q2⟩) fun _ _ x => x
theorem w1_assignS {ts : List Expr} {k : Nat} {tp : Pos} {e : Expr} {pos : Pos} {names : List Str} {Q : AFlow → AEnv → AHeap → Prop} (h : WE C n f e m σ fun a σ₁ => ∃ as, a = .tup as ∧ as.length = names.length ∧ TSs C n f names.reverse as.reverse m σ₁ fun m' σ' => Q .next m' σ')
    (hw : swappedStores [.Tuple ts k tp] e f.env = pure (some names)) (hs : swapsWithSole [.Tuple ts k tp] e pos.line f.env = pure false := by rfl) : W1 C n f (.Assign [.Tuple ts k tp] e pos) m σ Q := fun ok fz s E x => by
  refine Assign_Tuple_swapped (wpAny_mono (h ok fz s E x) (fun v s₁ hq => hq.el fun fz₁ σ₁ a u1 e1 x1 va ⟨as, ea, hl, q1⟩ => ?_) fun _ _ x => x) hs hw
  subst ea
  obtain ⟨t, vs, rfl, ht, hvs⟩ := va.tuple_ ok x1
  have hlen : names.length = vs.toArray.size := by rw [List.size_toArray, hvs.length, hl]
  rw [hlen]
  refine wpAny_unpackItems_tuple ok.handled ht fun h' he => ?_
  exact wpAny_mono (q1 ok fz₁ { s₁ with heap := h' } E vs.reverse (x1.grow (t := s₁.toks) (ext_keeps he)) hvs.reverse) (fun _ s₂ hq => PU.el hq fun fz₂ σ₂ m₂ u2 e2 x2 q2 => ⟨fz₂, σ₂, m₂, .next, fun p hp => u2 p (u1 p hp), (e1.trans ⟨h', s₁.toks, rfl⟩).trans e2, x2, trivial, q2⟩) fun _ _ x => x

/-! ## loops -/
/-- the state, with some addresses kept apart -/
def SX (C : Cx) (f : Fm) (fz : Fz) (m : AEnv) (σ : AHeap) (wr : List Addr) (s : Shared) : Prop :=
  ∃ mc news δ, Fr f.h₀ f.L s.heap mc ∧ News f.h₀ f.L s.heap news ∧ HR C fz f.pin σ δ news ∧ ER (At C fz) m mc ∧ (∀ p ∈ news, p.1 ∉ wr) ∧ f.L ∉ wr ∧ ∀ b ∈ wr, f.h₀.get? b = none
theorem SX.sr {fz : Fz} {wr : List Addr} {s : Shared} (x : SX C f fz m σ wr s) : SR C f fz m σ s := by
  obtain ⟨mc, news, δ, F, N, R, e, _⟩ := x; exact ⟨mc, news, δ, F, N, R, e⟩
theorem SX.step {fz : Fz} {wr : List Addr} {s : Shared} {h' : Heap} {t : Nat} (x : SX C f fz m σ wr s) (k : ∀ b o, b ∉ wr → s.heap.get? b = some o → h'.get? b = some o) : SX C f fz m σ wr { s with heap := h', toks := t } := by
  obtain ⟨mc, news, δ, F, N, R, e, h1, h2, h3⟩ := x
  refine ⟨mc, news, δ, ⟨F.ns.at' fun o q => k _ o h2 q, fun b o q => k b o (fun hb => by rw [h3 b hb] at q; cases q) (F.keep b o q), F.above⟩, fun p hp => ⟨k _ _ (h1 p hp) (N p hp).1, (N p hp).2⟩, R, e, h1, h2, h3⟩
def ownP (wr : List Addr) (h : Heap) : Fz := wr.filterMap fun b => (h.get? b).map fun o => (b, o)
theorem mem_ownP {wr : List Addr} {h : Heap} {p : Addr × Obj} : p ∈ ownP wr h ↔ p.1 ∈ wr ∧ h.get? p.1 = some p.2 := by
  unfold ownP
  rw [List.mem_filterMap]
  constructor
  · rintro ⟨b, hb, e⟩
    obtain ⟨o, ho, rfl⟩ := Option.map_eq_some_iff.mp e
    exact ⟨hb, ho⟩
  · rintro ⟨h1, h2⟩
    exact ⟨p.1, h1, by rw [h2]; rfl⟩
theorem SX.pin {fz : Fz} {wr : List Addr} {s : Shared} (x : SX C f fz m σ wr s) : SR C (f.withPin (ownP wr s.heap ++ f.pin)) fz m σ s := by
  obtain ⟨mc, news, δ, F, N, R, e, h1, h2, h3⟩ := x
  have off : ∀ {p : Addr × Obj}, p ∈ ownP wr s.heap → p.1 ∈ wr := fun hp => (mem_ownP.mp hp).1
  have three : ∀ p ∈ fz ++ (ownP wr s.heap ++ f.pin), p ∈ ownP wr s.heap ∨ p ∈ fz ++ f.pin := fun p hp => by
    rcases List.mem_append.mp hp with hp | hp
    · exact .inr (List.mem_append_left _ hp)
    · rcases List.mem_append.mp hp with hp | hp
      · exact .inl hp
      · exact .inr (List.mem_append_right _ hp)
  refine ⟨mc, ownP wr s.heap ++ news, δ, F, fun p hp => ?_, ⟨fun p hp => ?_, fun p hp q hq => ?_, fun a ao h => (R.ob a ao h).mono (fun _ _ z => z) (fun _ q => List.mem_append_right _ q) fun _ _ _ _ q => List.mem_append_right _ q, fun a ao h p hp => ?_, fun a c as h p hp => ?_, R.dσ, R.dinj⟩, e⟩
  · rcases List.mem_append.mp hp with hp | hp
    · obtain ⟨a, b⟩ := mem_ownP.mp hp
      exact ⟨b, fun q => h2 (q ▸ a), h3 _ a⟩
    · exact N p hp
  · rcases three p hp with hp | hp
    · exact List.mem_append_left _ hp
    · exact List.mem_append_right _ (R.sub p hp)
  · rcases List.mem_append.mp hq with hq | hq
    · exact fun q' => h1 p (R.sub p (List.mem_append_left _ hp)) (q' ▸ off hq)
    · exact R.apart p hp q hq
  · rcases three p hp with hp | hp
    · obtain ⟨o, ho⟩ := (R.ob a ao h).key
      exact fun q => h1 _ ho (by show a ∈ wr; rw [← q]; exact off hp)
    · exact R.off a ao h p hp
  · rcases three p hp with hp | hp
    · obtain ⟨_, es, k, ho, _⟩ := R.ob a _ h
      exact fun q => h1 _ ho (by show δ a ∈ wr; rw [← q]; exact off hp)
    · exact R.doff a c as h p hp
theorem SX.unpin {fz : Fz} {wr : List Addr} {s : Shared} {own : Fz} (hl : ∀ b ∈ wr, ∃ o, (b, o) ∈ own) (hp : ∀ p ∈ f.pin, p.1 ∉ wr) (h2 : f.L ∉ wr) (h3 : ∀ b ∈ wr, f.h₀.get? b = none) (x : SR C (f.withPin (own ++ f.pin)) fz m σ s) : SX C f fz m σ wr s := by
  obtain ⟨mc, news, δ, F, N, R, e⟩ := x
  have inpin : ∀ {b o}, (b, o) ∈ own → (b, o) ∈ fz ++ (own ++ f.pin) := fun h => List.mem_append_right _ (List.mem_append_left _ h)
  have keepM : ∀ {p : Addr × Obj}, p ∈ news → p.1 ∉ wr → p ∈ news.filter (fun p => decide (p.1 ∉ wr)) := fun h q => List.mem_filter.mpr ⟨h, by simpa using q⟩
  have anw : ∀ a ao, σ a = some ao → a ∉ wr := fun a ao h q => by obtain ⟨o, ho⟩ := hl a q; exact R.off a ao h _ (inpin ho) rfl
  have dnw : ∀ a c as, σ a = some (.inst c as) → δ a ∉ wr := fun a c as h q => by obtain ⟨o, ho⟩ := hl _ q; exact R.doff a c as h _ (inpin ho) rfl
  have up : ∀ p ∈ fz ++ f.pin, p ∈ fz ++ (own ++ f.pin) := fun p hp => (List.mem_append.mp hp).elim (fun h => List.mem_append_left _ h) fun h => List.mem_append_right _ (List.mem_append_right _ h)
  refine ⟨mc, news.filter (fun p => decide (p.1 ∉ wr)), δ, F, fun p hp => N p (List.mem_filter.mp hp).1, ⟨fun p hp' => keepM (R.sub p (up p hp')) ?_, fun p hp q hq => R.apart p hp q (List.mem_append_right _ hq), fun a ao h => (R.ob a ao h).mono (fun _ _ z => z) (fun _ q => keepM q (anw a ao h)) fun c as ea _ q => keepM q (dnw a c as (ea ▸ h)), fun a ao h p hp => R.off a ao h p (up p hp), fun a c as h p hp => R.doff a c as h p (up p hp), R.dσ, R.dinj⟩, e, fun p hp => by simpa using (List.mem_filter.mp hp).2, h2, h3⟩
  rcases List.mem_append.mp hp' with h | h
  · intro q
    obtain ⟨o, ho⟩ := hl _ q
    exact R.apart p h _ (List.mem_append_left _ ho) rfl
  · exact hp p h
theorem Fm.Ok.pin {n : Nat} {p : Fz} (ok : f.Ok C n) : (f.withPin p).Ok C n := ⟨ok.below, ok.kin, ok.top, ok.hk, ok.stack, ok.handled, ok.guards, ok.depth, ok.units, ok.kind, ok.ckind⟩

/-- what a value yields when it is walked -/
structure Wk (C : Cx) (f : Fm) (fz : Fz) (I : Addr) (wr : List Addr) (xs : List AVal) (St : Nat → Heap → Prop) (Lent : Heap → Prop) (back : AHeap → AHeap) : Prop where
  go : ∀ i (s : Shared) (Q : Option Value → Shared → Prop) (E : Value → Shared → Prop) x, xs[i]? = some x → St i s.heap →
    (∀ v h' tk, V (At C fz) v x → St (i + 1) h' → (∀ b o, b ∉ wr → s.heap.get? b = some o → h'.get? b = some o) → Q (some v) { s with heap := h', toks := tk }) → wpAny (Md C) f.A (pyNext (.ref I)) Q E s
  done : ∀ (s : Shared) (Q : Option Value → Shared → Prop) (E : Value → Shared → Prop), St xs.length s.heap →
    (∀ h' tk, (∀ b o, b ∉ wr → s.heap.get? b = some o → h'.get? b = some o) → Lent h' → Q none { s with heap := h', toks := tk }) → wpAny (Md C) f.A (pyNext (.ref I)) Q E s
  live : ∀ i h, St i h → ∀ b ∈ wr, ∃ o, h.get? b = some o
  frame : ∀ i h h', St i h → (∀ b ∈ wr, ∀ o, h.get? b = some o → h'.get? b = some o) → (∀ b o, At C fz b o ∨ (b, o) ∈ f.pin → h'.get? b = some o) → St i h'
  lent : ∀ i h, St i h → Lent h
  back : ∀ fz' m' σ' s', (∀ p ∈ fz, p ∈ fz') → SX C f fz' m' σ' wr s' → Lent s'.heap → SR C f fz' m' (back σ') s'
  self : ∀ i (s : Shared) (Q : Value → Shared → Prop) (E : Value → Shared → Prop), St i s.heap → Q (.ref I) s → wpAny (Md C) f.A (pyIter (.ref I)) Q E s
  lentF : ∀ (h h' : Heap), Lent h → (∀ b ∈ wr, ∀ o, h.get? b = some o → h'.get? b = some o) → Lent h'
structure WkT (C : Cx) (f : Fm) (fz : Fz) (I : Addr) (wr : List Addr) (xs : List (List AVal)) (St : Nat → Heap → Prop) (Lent : Heap → Prop) (back : AHeap → AHeap) : Prop where
  go : ∀ i (s : Shared) (Q : Option Value → Shared → Prop) (E : Value → Shared → Prop) x, xs[i]? = some x → St i s.heap →
    (∀ T vs h' tk, Vs (At C fz) vs x → h'.IsTuple T vs.toArray → T ∉ wr → (∀ b o, b ∉ wr → s.heap.get? b = some o → h'.get? b = some o) →
      (∀ ts k pos (s₂ : Shared) (Q₂ : Unit → Shared → Prop) (E₂ : Value → Shared → Prop), s₂.heap = h' → (∀ h₂, St (i + 1) h₂ → (∀ b o, b ∉ wr → h'.get? b = some o → h₂.get? b = some o) → Q₂ () { s₂ with heap := h₂ }) → wpAny (Md C) f.A (letOwnedTupleGo (.Tuple ts k pos) (.ref I) (.ref T)) Q₂ E₂ s₂) →
      Q (some (.ref T)) { s with heap := h', toks := tk }) → wpAny (Md C) f.A (pyNext (.ref I)) Q E s
  done : ∀ (s : Shared) (Q : Option Value → Shared → Prop) (E : Value → Shared → Prop), St xs.length s.heap →
    (∀ h' tk, (∀ b o, b ∉ wr → s.heap.get? b = some o → h'.get? b = some o) → Lent h' → Q none { s with heap := h', toks := tk }) → wpAny (Md C) f.A (pyNext (.ref I)) Q E s
  live : ∀ i h, St i h → ∀ b ∈ wr, ∃ o, h.get? b = some o
  frame : ∀ i h h', St i h → (∀ b ∈ wr, ∀ o, h.get? b = some o → h'.get? b = some o) → (∀ b o, At C fz b o ∨ (b, o) ∈ f.pin → h'.get? b = some o) → St i h'
  lent : ∀ i h, St i h → Lent h
  back : ∀ fz' m' σ' s', (∀ p ∈ fz, p ∈ fz') → SX C f fz' m' σ' wr s' → Lent s'.heap → SR C f fz' m' (back σ') s'
/-- the head of a for: the value and its iterator -/
def WI (C : Cx) (n : Nat) (f : Fm) (e : Expr) (m : AEnv) (σ : AHeap) (Q : (AHeap → AHeap) → List AVal → AHeap → Prop) : Prop :=
  f.Ok C n → ∀ fz s E, SR C f fz m σ s → wpAny (Md C) f.A (eval e f.env) (fun v s₁ => wpAny (Md C) f.A (pyIter v) (fun it s' => ∃ fz' σ' I wr xs St Lent back, it = .ref I ∧ (∀ p ∈ fz, p ∈ fz') ∧ Same s s' ∧ SX C f fz' m σ' wr s' ∧ Wk C f fz' I wr xs St Lent back ∧ St 0 s'.heap ∧ Q back xs σ') E s₁) E s
def WIT (C : Cx) (n : Nat) (f : Fm) (e : Expr) (m : AEnv) (σ : AHeap) (Q : (AHeap → AHeap) → List (List AVal) → AHeap → Prop) : Prop :=
  f.Ok C n → ∀ fz s E, SR C f fz m σ s → wpAny (Md C) f.A (eval e f.env) (fun v s₁ => wpAny (Md C) f.A (pyIter v) (fun it s' => ∃ fz' σ' I wr xs St Lent back, it = .ref I ∧ (∀ p ∈ fz, p ∈ fz') ∧ Same s s' ∧ SX C f fz' m σ' wr s' ∧ WkT C f fz' I wr xs St Lent back ∧ St 0 s'.heap ∧ Q back xs σ') E s₁) E s
def TI (C : Cx) (n : Nat) (f : Fm) (a : AVal) (m : AEnv) (σ : AHeap) (Q : (AHeap → AHeap) → List AVal → AHeap → Prop) : Prop :=
  f.Ok C n → ∀ fz s E v, SR C f fz m σ s → V (At C fz) v a → wpAny (Md C) f.A (pyIter v) (fun it s' => ∃ fz' σ' I wr xs St Lent back, it = .ref I ∧ (∀ p ∈ fz, p ∈ fz') ∧ Same s s' ∧ SX C f fz' m σ' wr s' ∧ Wk C f fz' I wr xs St Lent back ∧ St 0 s'.heap ∧ Q back xs σ') E s
theorem wi {e : Expr} {Q : (AHeap → AHeap) → List AVal → AHeap → Prop} (h : WE C n f e m σ fun a σ₁ => TI C n f a m σ₁ Q) : WI C n f e m σ Q := fun ok fz s E x =>
  wpAny_mono (h ok fz s E x) (fun v s₁ hq => hq.el fun fz₁ σ₁ a u1 e1 x1 va q1 => wpAny_mono (q1 ok fz₁ s₁ E v x1 va) (fun it s₂ ⟨fz₂, σ₂, I, wr, xs, St, Lent, back, ei, u2, e2, r⟩ => ⟨fz₂, σ₂, I, wr, xs, St, Lent, back, ei, fun p hp => u2 p (u1 p hp), e1.trans e2, r⟩) fun _ _ x => x) fun _ _ x => x
/-- one turn: what must hold behind the body -/
def Turn (back : AHeap → AHeap) (Inv : AEnv → AHeap → Prop) (Q : AFlow → AEnv → AHeap → Prop) : AFlow → AEnv → AHeap → Prop
  | .next, m, σ => ∃ m' σ', (∀ y a, AEnv.get m' y = some a → AEnv.get m y = some a) ∧ AHeap.le σ' σ ∧ Inv m' σ'
  | .cont, m, σ => ∃ m' σ', (∀ y a, AEnv.get m' y = some a → AEnv.get m y = some a) ∧ AHeap.le σ' σ ∧ Inv m' σ'
  | .brk, m, σ => Q .next m (back σ)
  | .ret a, m, σ => Q (.ret a) m (back σ)
theorem w1_forB {y : Str} {py : Pos} {iter : Expr} {body : List Stmt} {pos : Pos} {Q : AFlow → AEnv → AHeap → Prop} (Inv : (AHeap → AHeap) → List AVal → AEnv → AHeap → Prop)
    (h : WI C n f iter m σ fun back xs σ₂ => Inv back xs m σ₂)
    (turn : ∀ back pin x xs m' σ', Inv back (x :: xs) m' σ' → TS C n (f.withPin pin) y x m' σ' fun m₁ σ₁ => WS C n (f.withPin pin) body m₁ σ₁ (Turn back (Inv back xs) Q))
    (done : ∀ back m' σ', Inv back [] m' σ' → Q .next m' (back σ')) (hs : ∀ x, foldedSetIterable iter f.env x = pure x := by intro _; rfl) : W1 C n f (.For (.Name y py) iter body [] pos) m σ Q := fun ok fz s E x => by
  refine wpAny_For (wpAny_mono (h ok fz s E x) (fun v s₁ q1 => wpAny_mono q1 (fun it s₂ ⟨fz₂, σ₂, I, wr, xs, St, Lent, back, ei, u2, e2, x2, W, st, q2⟩ => ?_) fun _ _ x => x) fun _ _ x => x) hs
  subst ei
  have hpin : ∀ p ∈ f.pin, p.1 ∉ wr := by
    obtain ⟨mc, news, δ, F, N, R, e, h1, h2, h3⟩ := x2
    exact fun p hp => h1 p (R.sub p (List.mem_append_right _ hp))
  have hL : f.L ∉ wr := by obtain ⟨mc, news, δ, F, N, R, e, h1, h2, h3⟩ := x2; exact h2
  have h0 : ∀ b ∈ wr, f.h₀.get? b = none := by obtain ⟨mc, news, δ, F, N, R, e, h1, h2, h3⟩ := x2; exact h3
  refine codeAny_forLoop (fun k s' => ∃ fz' m' σ' i, (∀ p ∈ fz₂, p ∈ fz') ∧ Same s₂ s' ∧ SX C f fz' m' σ' wr s' ∧ St i s'.heap ∧ Inv back (xs.drop i) m' σ' ∧ i ≤ xs.length ∧ k = xs.length - i) ?_ (xs.length) ⟨fz₂, m, σ₂, 0, sub_refl, .rfl, x2, st, q2, Nat.zero_le _, rfl⟩
  rintro k s' ⟨fz', m', σ', i, u3, e3, x3, st3, q3, hi, rfl⟩
  have uu : ∀ p ∈ fz, p ∈ fz' := fun p hp => u3 p (u2 p hp)
  cases hx : xs[i]? with
  | none =>
    have hlen : i = xs.length := by have := List.getElem?_eq_none_iff.mp hx; omega
    subst hlen
    refine W.done _ _ _ st3 fun h' tk k hl => wpAny_execs_nil ?_
    rw [List.drop_length] at q3
    exact ⟨fz', back σ', m', .next, uu, (e2.trans e3).trans ⟨_, _, rfl⟩, W.back _ _ _ _ u3 (x3.step (t := tk) k) hl, trivial, done _ _ _ q3⟩
  | some b =>
    obtain ⟨hlt, hb⟩ := List.getElem?_eq_some_iff.mp hx
    have hd : xs.drop i = b :: xs.drop (i + 1) := by rw [List.drop_eq_getElem_cons hlt, hb]
    rw [hd] at q3
    refine W.go i _ _ _ b hx st3 fun v h' tk hv st' k => ?_
    have x4 := x3.step (t := tk) k
    have x5 := x4.pin
    refine PyProof.Rows.assign_Name (wpAny_mono (turn back (ownP wr h' ++ f.pin) b _ m' σ' q3 ok.pin fz' _ _ v x5 (hv.up u3)) (fun _ s₅ hq => PU.el hq fun fz₅ σ₅ m₅ u5 e5 x6 q5 => ?_) fun _ _ x => x)
    refine wpAny_mono (q5 ok.pin fz₅ s₅ _ x6) (fun fl s₆ hq => hq.el fun fz₆ σ₆ m₆ a₆ u6 e6 x7 va6 q6 => ?_) fun _ _ x => x
    have es : Same s s₆ := ((((e2.trans e3).trans ⟨_, _, rfl⟩).trans e5).trans e6)
    have us : ∀ p ∈ fz, p ∈ fz₆ := fun p hp => u6 p (u5 p (uu p hp))
    have u26 : ∀ p ∈ fz₂, p ∈ fz₆ := fun p hp => u6 p (u5 p (u3 p hp))
    have un : ∀ {m' : AEnv} {σ' : AHeap}, SR C (f.withPin (ownP wr h' ++ f.pin)) fz₆ m' σ' s₆ → SX C f fz₆ m' σ' wr s₆ := fun x => SX.unpin (fun b hb => by obtain ⟨o, ho⟩ := W.live _ _ st' b hb; exact ⟨o, (mem_ownP (p := (b, o))).mpr ⟨hb, ho⟩⟩) hpin hL h0 x
    have st6 : St (i + 1) s₆.heap := by
      refine W.frame _ _ _ st' (fun b hb o ho => ?_) fun b o q => ?_
      · obtain ⟨mc, news, δ, F, N, R, e⟩ := x7
        exact (N _ (R.sub _ (List.mem_append_right _ (List.mem_append_left _ ((mem_ownP (p := (b, o))).mpr ⟨hb, ho⟩))))).1
      · rcases q with q | q
        · exact (x7.at_ ok.pin (q.mono u26))
        · obtain ⟨mc, news, δ, F, N, R, e⟩ := x7
          exact (N _ (R.sub _ (List.mem_append_right _ (List.mem_append_right _ q)))).1
    have bk := W.back _ _ _ _ u26 (un x7) (W.lent _ _ st6)
    have next : Turn back (Inv back (xs.drop (i + 1))) Q .next m₆ σ₆ → ∃ m, m < xs.length - i ∧ ∃ fz' m' σ' i, (∀ p ∈ fz₂, p ∈ fz') ∧ Same s₂ s₆ ∧ SX C f fz' m' σ' wr s₆ ∧ St i s₆.heap ∧ Inv back (xs.drop i) m' σ' ∧ i ≤ xs.length ∧ m = xs.length - i := by
      rintro ⟨m₇, σ₇, hm, hσ, q7⟩
      exact ⟨xs.length - (i + 1), by omega, fz₆, m₇, σ₇, i + 1, u26, ((e3.trans ⟨_, _, rfl⟩).trans e5).trans e6, un (x7.weaken hm hσ), st6, q7, hlt, rfl⟩
    cases fl with
    | next => cases a₆ <;> first | exact next q6 | exact va6.elim
    | cont => cases a₆ <;> first | exact next q6 | exact va6.elim
    | brk => cases a₆ <;> first | exact ⟨fz₆, back σ₆, m₆, .next, us, es, bk, trivial, q6⟩ | exact va6.elim
    | ret r => cases a₆ <;> first | exact ⟨fz₆, back σ₆, m₆, .ret _, us, es, bk, va6, q6⟩ | exact va6.elim
theorem w1_forTB {ts : List Expr} {tk : Nat} {tp : Pos} {iter : Expr} {body : List Stmt} {pos : Pos} {Q : AFlow → AEnv → AHeap → Prop} (Inv : (AHeap → AHeap) → List (List AVal) → AEnv → AHeap → Prop)
    (h : WIT C n f iter m σ fun back xs σ₂ => Inv back xs m σ₂)
    (turn : ∀ back pin x xs m' σ', Inv back (x :: xs) m' σ' → (assignEach ts f.env).length = x.length ∧ TAs C n (f.withPin pin) ts x m' σ' fun m₁ σ₁ => WS C n (f.withPin pin) body m₁ σ₁ (Turn back (Inv back xs) Q))
    (done : ∀ back m' σ', Inv back [] m' σ' → Q .next m' (back σ')) (hstar : (assignEach ts f.env).findIdx? (·.1) = none := by rfl) (hs : ∀ x, foldedSetIterable iter f.env x = pure x := by intro _; rfl) : W1 C n f (.For (.Tuple ts tk tp) iter body [] pos) m σ Q := fun ok fz s E x => by
  refine wpAny_For (wpAny_mono (h ok fz s E x) (fun v s₁ q1 => wpAny_mono q1 (fun it s₂ ⟨fz₂, σ₂, I, wr, xs, St, Lent, back, ei, u2, e2, x2, W, st, q2⟩ => ?_) fun _ _ x => x) fun _ _ x => x) hs
  subst ei
  have hpin : ∀ p ∈ f.pin, p.1 ∉ wr := by
    obtain ⟨mc, news, δ, F, N, R, e, h1, h2, h3⟩ := x2
    exact fun p hp => h1 p (R.sub p (List.mem_append_right _ hp))
  have hL : f.L ∉ wr := by obtain ⟨mc, news, δ, F, N, R, e, h1, h2, h3⟩ := x2; exact h2
  have h0 : ∀ b ∈ wr, f.h₀.get? b = none := by obtain ⟨mc, news, δ, F, N, R, e, h1, h2, h3⟩ := x2; exact h3
  refine codeAny_forLoop_any (fun k s' => ∃ fz' m' σ' i, (∀ p ∈ fz₂, p ∈ fz') ∧ Same s₂ s' ∧ SX C f fz' m' σ' wr s' ∧ St i s'.heap ∧ Inv back (xs.drop i) m' σ' ∧ i ≤ xs.length ∧ k = xs.length - i) ?_ (xs.length) ⟨fz₂, m, σ₂, 0, sub_refl, .rfl, x2, st, q2, Nat.zero_le _, rfl⟩
  rintro k s' ⟨fz', m', σ', i, u3, e3, x3, st3, q3, hi, rfl⟩
  have uu : ∀ p ∈ fz, p ∈ fz' := fun p hp => u3 p (u2 p hp)
  cases hx : xs[i]? with
  | none =>
    have hlen : i = xs.length := by have := List.getElem?_eq_none_iff.mp hx; omega
    subst hlen
    refine W.done _ _ _ st3 fun h' tk k hl => wpAny_execs_nil ?_
    rw [List.drop_length] at q3
    exact ⟨fz', back σ', m', .next, uu, (e2.trans e3).trans ⟨_, _, rfl⟩, W.back _ _ _ _ u3 (x3.step (t := tk) k) hl, trivial, done _ _ _ q3⟩
  | some b =>
    obtain ⟨hlt, hb⟩ := List.getElem?_eq_some_iff.mp hx
    have hd : xs.drop i = b :: xs.drop (i + 1) := by rw [List.drop_eq_getElem_cons hlt, hb]
    rw [hd] at q3
    refine W.go i _ _ _ b hx st3 fun T vs h₁ tk₁ hvs hT hTw k₁ hgo => ?_
    refine hgo _ _ _ _ _ _ rfl fun h' st' k₂ => ?_
    have x4 := (x3.step (t := tk₁) k₁).step (t := tk₁) k₂
    have x5 := x4.pin
    obtain ⟨hn, tn⟩ := turn back (ownP wr h' ++ f.pin) b _ m' σ' q3
    have hT' : h'.IsTuple T vs.toArray := by obtain ⟨o, ho, r⟩ := hT; exact ⟨o, k₂ _ _ hTw ho, r⟩
    refine wpAny_assign_Tuple ok.handled hT' (by rw [hn, List.size_toArray, hvs.length]) hstar fun h'' he => ?_
    have x5' := x5.grow (t := tk₁) (ext_keeps he)
    refine wpAny_mono (tn ok.pin fz' { s' with heap := h'', toks := tk₁ } _ vs x5' (hvs.up u3)) (fun _ s₅ hq => PU.el hq fun fz₅ σ₅ m₅ u5 e5 x6 q5 => ?_) fun _ _ x => x
    refine wpAny_mono (q5 ok.pin fz₅ s₅ _ x6) (fun fl s₆ hq => hq.el fun fz₆ σ₆ m₆ a₆ u6 e6 x7 va6 q6 => ?_) fun _ _ x => x
    have e35 : Same s₂ s₆ := ((e3.trans ⟨h'', tk₁, rfl⟩).trans e5).trans e6
    have us : ∀ p ∈ fz, p ∈ fz₆ := fun p hp => u6 p (u5 p (uu p hp))
    have u26 : ∀ p ∈ fz₂, p ∈ fz₆ := fun p hp => u6 p (u5 p (u3 p hp))
    have un : ∀ {m' : AEnv} {σ' : AHeap}, SR C (f.withPin (ownP wr h' ++ f.pin)) fz₆ m' σ' s₆ → SX C f fz₆ m' σ' wr s₆ := fun x => SX.unpin (fun b hb => by obtain ⟨o, ho⟩ := W.live _ _ st' b hb; exact ⟨o, (mem_ownP (p := (b, o))).mpr ⟨hb, ho⟩⟩) hpin hL h0 x
    have st6 : St (i + 1) s₆.heap := by
      refine W.frame _ _ _ st' (fun b hb o ho => ?_) fun b o q => ?_
      · obtain ⟨mc, news, δ, F, N, R, e⟩ := x7
        exact (N _ (R.sub _ (List.mem_append_right _ (List.mem_append_left _ ((mem_ownP (p := (b, o))).mpr ⟨hb, ho⟩))))).1
      · rcases q with q | q
        · exact (x7.at_ ok.pin (q.mono u26))
        · obtain ⟨mc, news, δ, F, N, R, e⟩ := x7
          exact (N _ (R.sub _ (List.mem_append_right _ (List.mem_append_right _ q)))).1
    have bk := W.back _ _ _ _ u26 (un x7) (W.lent _ _ st6)
    have next : Turn back (Inv back (xs.drop (i + 1))) Q .next m₆ σ₆ → ∃ m, m < xs.length - i ∧ ∃ fz' m' σ' i, (∀ p ∈ fz₂, p ∈ fz') ∧ Same s₂ s₆ ∧ SX C f fz' m' σ' wr s₆ ∧ St i s₆.heap ∧ Inv back (xs.drop i) m' σ' ∧ i ≤ xs.length ∧ m = xs.length - i := by
      rintro ⟨m₇, σ₇, hm, hσ, q7⟩
      exact ⟨xs.length - (i + 1), by omega, fz₆, m₇, σ₇, i + 1, u26, e35, un (x7.weaken hm hσ), st6, q7, hlt, rfl⟩
    cases fl with
    | next => cases a₆ <;> first | exact next q6 | exact va6.elim
    | cont => cases a₆ <;> first | exact next q6 | exact va6.elim
    | brk => cases a₆ <;> first | exact ⟨fz₆, back σ₆, m₆, .next, us, e2.trans e35, bk, trivial, q6⟩ | exact va6.elim
    | ret r => cases a₆ <;> first | exact ⟨fz₆, back σ₆, m₆, .ret _, us, e2.trans e35, bk, va6, q6⟩ | exact va6.elim
end
end Mine

open PySem PySem.W PyProof.Rows PySem.Calls
namespace Mine
section
variable {C : Cx} {n : Nat} {f : Fm} {m : AEnv} {σ : AHeap}
theorem ge_none {h : Heap} {a : Addr} (ha : h.objs.size ≤ a) : h.get? a = none := by
  cases q : h.get? a with
  | none => rfl
  | some o => exact absurd (Heap.lt_size q) (Nat.not_lt.mpr ha)
/-- one new frozen object -/
theorem PV.new {fz : Fz} {s : Shared} {Q : AVal → AHeap → Prop} {a : AVal} {h' : Heap} {t : Nat} {b : Addr} {o : Obj} (x : SR C f fz m σ s) (k : ∀ b o, s.heap.get? b = some o → h'.get? b = some o) (hb : s.heap.objs.size ≤ b) (ho : h'.get? b = some o)
    (hv : ∀ fz', (b, o) ∈ fz' → (∀ p ∈ fz, p ∈ fz') → V (At C fz') (.ref b) a) (q : Q a σ) : PV C f m fz s Q (.ref b) { s with heap := h', toks := t } :=
  ⟨[(b, o)] ++ fz, σ, a, fun p hp => List.mem_append_right _ hp, .mk, x.freeze (t := t) k _ (fun p hp => by rw [List.mem_singleton.mp hp]; exact ⟨ge_none hb, hb, ho⟩), hv _ (List.mem_append_left _ (List.mem_singleton.mpr rfl)) (fun p hp => List.mem_append_right _ hp), q⟩
theorem PV.push {fz : Fz} {s : Shared} {Q : AVal → AHeap → Prop} {a : AVal} {t : Nat} {o : Obj} (x : SR C f fz m σ s) (hf : o.isFreed = false) (hv : ∀ fz', (s.heap.objs.size, o) ∈ fz' → (∀ p ∈ fz, p ∈ fz') → V (At C fz') (.ref s.heap.objs.size) a) (q : Q a σ) :
    PV C f m fz s Q (.ref s.heap.objs.size) { s with heap := s.heap.push o, toks := t } := .new x (fun b o e => Heap.get?_push_of_some _ e) (Nat.le_refl _) (Heap.get?_push_size _ hf) hv q
/-! ## ints -/
section
variable {Q : AVal → AHeap → Prop} {a b : Int}
theorem t2_add (h : Q (.int (a + b)) σ) : T2 C n f (binaryOp .Add) (.int a) (.int b) m σ Q := fun ok fz s E v w x hv hw => by cases hv; cases hw; exact add_int (.tok x (.int _ _) h)
theorem t2_sub (h : Q (.int (a - b)) σ) : T2 C n f (binaryOp .Sub) (.int a) (.int b) m σ Q := fun ok fz s E v w x hv hw => by cases hv; cases hw; exact sub_int (.tok x (.int _ _) h)
theorem t2_div (hb : b ≠ 0) (hs : b.natAbs < 1073741824) (h : Q (.int (a.fdiv b)) σ) : T2 C n f (binaryOp .FloorDiv) (.int a) (.int b) m σ Q := fun ok fz s E v w x hv hw => by cases hv; cases hw; exact floordiv_int hb (.tok x (.int _ _) h) (.inl (PyProof.noPylong_small hs))
theorem t2_mod (hb : b ≠ 0) (hs : b.natAbs < 1073741824) (h : Q (.int (a.fmod b)) σ) : T2 C n f (binaryOp .Mod) (.int a) (.int b) m σ Q := fun ok fz s E v w x hv hw => by cases hv; cases hw; exact mod_int' hb (.tok x (.int _ _) h)
theorem t1_neg (h : Q (.int (-a)) σ) : T1 C n f (unaryOp .USub) (.int a) m σ Q := fun ok fz s E v x hv => by cases hv; exact PyProof.Rows.neg_int (.tok x (.int _ _) h)
theorem t2_eq (h : Q (.bool (a == b)) σ) : T2 C n f (compareOp .Eq) (.int a) (.int b) m σ Q := fun ok fz s E v w x hv hw => by cases hv; cases hw; exact PyProof.Rows.eq_int (.here x (.bool _) h)
theorem t2_lt (h : Q (.bool (decide (a < b))) σ) : T2 C n f (compareOp .Lt) (.int a) (.int b) m σ Q := fun ok fz s E v w x hv hw => by cases hv; cases hw; exact PyProof.Rows.lt_int (.here x (.bool _) h)
end

/-! ## None -/
def isNone : AVal → Option Bool
  | .none => some true
  | .raw _ => Option.none
  | _ => some false
theorem isNone_ok {P : Addr → Obj → Prop} {v : Value} {a : AVal} {b : Bool} (h : V P v a) (e : isNone a = some b) : (v == Value.none) = b := by
  cases h <;> simp [isNone] at e <;> subst e <;> rfl
theorem t2_isNotNone {a : AVal} {b : Bool} {Q : AVal → AHeap → Prop} (e : isNone a = some b) (h : Q (.bool (!b)) σ) : T2 C n f (compareOp .IsNot) a .none m σ Q := fun ok fz s E v w x hv hw => by
  have := isNone_ok hv e
  cases hw; exact isNot_none (by rw [this]; exact .here x (.bool _) h)

/-! ## builtins called -/
theorem keep_builtin {h : Heap} {i : String} : Keep C h (.builtin i) := ⟨.machine, .inr (.inl rfl), Looks.of_pure rfl⟩
theorem keep_type {h : Heap} {i : String} : Keep C h (.type i) := ⟨.machine, .inr (.inl rfl), Looks.of_pure rfl⟩
theorem tc_range1 {a : Int} {Q : AVal → AHeap → Prop} (h : Q (.rng 0 a 1) σ) : TC C n f (.raw (.type "range")) [.int a] m σ Q := fun ok fz s E v vs x hv hvs => by
  cases hv; obtain _ | ⟨h1, h2⟩ := hvs; cases h2; cases h1
  exact ⟨keep_type, call_range_1 (.push x rfl (fun fz' h _ => .rng (.inl h)) h)⟩
/-! ## iterators -/
theorem SX.ofPush {fz : Fz} {s : Shared} {o : Obj} {t : Nat} (x : SR C f fz m σ s) : SX C f fz m σ [s.heap.objs.size] { s with heap := s.heap.push o, toks := t } := by
  obtain ⟨mc, news, δ, F, N, R, e⟩ := x
  obtain ⟨oL, a1, a2, hL, a3⟩ := id F.ns
  refine ⟨mc, news, δ, F.push o, fun p hp => ⟨Heap.get?_push_of_some _ (N p hp).1, (N p hp).2⟩, R, e, fun p hp hm => ?_, fun hm => ?_, fun b hb => ?_⟩
  · exact absurd (news_lt N hp) (by rw [List.mem_singleton.mp hm]; exact Nat.lt_irrefl _)
  · exact absurd (Heap.lt_size hL) (by rw [List.mem_singleton.mp hm]; exact Nat.lt_irrefl _)
  · rw [List.mem_singleton.mp hb]
    cases q : f.h₀.get? s.heap.objs.size with
    | none => rfl
    | some o => exact absurd (Heap.lt_size (F.keep _ _ q)) (Nat.lt_irrefl _)
theorem ti_lst {xs : List AVal} {Q : (AHeap → AHeap) → List AVal → AHeap → Prop} (h : Q id xs σ) : TI C n f (.lst xs) m σ Q := fun ok fz s E v x hv => by
  cases hv with
  | lst p1 p2 p3 p4 =>
    rename_i l o k vs
    have ho := x.at_ ok p1
    have hl : s.heap.IsList l vs.toArray := ⟨_, ho, p2, _, p3⟩
    have hne : l ≠ s.heap.objs.size := Nat.ne_of_lt (Heap.lt_size ho)
    refine wpAny_pyIter_list hl ?_
    have W := Walks.list (prog := C.prog) (w := C.w) ok.handled s.heap.objs.size l hne vs.toArray
    refine ⟨fz, σ, s.heap.objs.size, [s.heap.objs.size], xs, fun i h => h.IsListIter s.heap.objs.size l i ∧ h.IsList l vs.toArray, fun _ => True, id, rfl, sub_refl, ⟨_, s.toks, rfl⟩, SX.ofPush (t := s.toks) x, ⟨?_, ?_, ?_, ?_, fun _ _ _ => trivial, fun _ _ _ _ _ x _ => x.sr, fun i s Q E h q => W.self i s Q E h q, fun _ _ _ _ => trivial⟩, ⟨⟨_, Heap.get?_push_size _ rfl, rfl, rfl⟩, hl.at fun o e => Heap.get?_push_of_some _ e⟩, h⟩
    · intro i s Q E y hy hs hQ
      have hi : i < vs.toArray.size := by rw [List.size_toArray, p4.length]; exact (List.getElem?_eq_some_iff.mp hy).1
      refine W.item i s Q E hi hs fun v h' tk hv => hQ v h' tk ?_
      obtain ⟨u, h1, h2⟩ := p4.get hy
      have : vs[i]? = some v := by simpa using hv
      rw [h1] at this; cases this; exact h2
    · intro s Q E hs hQ
      have hz : vs.toArray.size = xs.length := by rw [List.size_toArray, p4.length]
      refine W.done s Q E (by rw [hz]; exact hs) fun h' tk k => hQ h' tk k trivial
    · intro i h hs b hb
      rw [List.mem_singleton.mp hb]
      obtain ⟨o, h1, _⟩ := hs.1; exact ⟨o, h1⟩
    · intro i h h' hs hw hp
      exact ⟨hs.1.at fun o e => hw _ (List.mem_singleton.mpr rfl) o e, ⟨_, hp _ _ (.inl p1), p2, _, p3⟩⟩
def rngL (a c : Int) (k : Nat) : List AVal := (List.range k).map fun (i : Nat) => AVal.int (a + (i : Int) * c)
theorem ti_rng {a b c : Int} {k : Nat} {Q : (AHeap → AHeap) → List AVal → AHeap → Prop} (hsmall : Builtin.Range.small a b c = true) (hk : Builtin.Range.rangeSize a b c = (k : Int)) (h : Q id (rngL a c k) σ) : TI C n f (.rng a b c) m σ Q := fun ok fz s E v x hv => by
  cases hv with
  | rng p1 =>
    have ho := x.at_ ok p1
    refine wpAny_pyIter_range ho hsmall ?_
    have W := Walks.range (prog := C.prog) (w := C.w) ok.handled s.heap.objs.size a c k
    have hlen : (rngL a c k).length = k := by simp [rngL]
    refine ⟨fz, σ, s.heap.objs.size, [s.heap.objs.size], rngL a c k, fun i h => IsRangeIter h s.heap.objs.size (a + (i : Nat) * c) ((k : Int) - (i : Nat)) c, fun _ => True, id, rfl, sub_refl, ⟨_, s.toks, rfl⟩, SX.ofPush (t := s.toks) x, ⟨?_, ?_, ?_, ?_, fun _ _ _ => trivial, fun _ _ _ _ _ x _ => x.sr, fun i s Q E h q => W.self i s Q E h q, fun _ _ _ _ => trivial⟩, ?_, h⟩
    · intro i s Q E y hy hs hQ
      have hi : i < k := by have := (List.getElem?_eq_some_iff.mp hy).1; omega
      refine W.item i s Q E hi hs fun v h' tk hv => hQ v h' tk ?_
      obtain ⟨t, rfl⟩ := hv
      have : y = .int (a + i * c) := by simp [rngL, hi] at hy; exact hy.symm
      subst this
      exact .int _ _
    · intro s Q E hs hQ
      exact W.done s Q E (by rw [hlen] at hs; exact hs) fun h' tk k => hQ h' tk k trivial
    · intro i h hs b hb
      rw [List.mem_singleton.mp hb]
      exact ⟨_, hs⟩
    · intro i h h' hs hw hp
      exact hw _ (List.mem_singleton.mpr rfl) _ hs
    · show IsRangeIter _ _ _ _ _
      rw [hk]
      simpa using Heap.get?_push_size s.heap (o := { cls := .type "range_iterator", data := .fields #[rawInt a, rawInt k, rawInt c] }) rfl
theorem w1_for {y : Str} {py : Pos} {iter : Expr} {body : List Stmt} {pos : Pos} {Q : AFlow → AEnv → AHeap → Prop} (Inv : List AVal → AEnv → AHeap → Prop)
    (h : WI C n f iter m σ fun back xs σ₂ => back = id ∧ Inv xs m σ₂)
    (turn : ∀ pin x xs m' σ', Inv (x :: xs) m' σ' → TS C n (f.withPin pin) y x m' σ' fun m₁ σ₁ => WS C n (f.withPin pin) body m₁ σ₁ (Turn id (Inv xs) Q))
    (done : ∀ m' σ', Inv [] m' σ' → Q .next m' σ') (hs : ∀ x, foldedSetIterable iter f.env x = pure x := by intro _; rfl) : W1 C n f (.For (.Name y py) iter body [] pos) m σ Q := by
  refine w1_forB (fun back xs m σ => back = id ∧ Inv xs m σ) h (fun back pin x xs m' σ' ⟨e, q⟩ => ?_) (fun back m' σ' ⟨e, q⟩ => by subst e; exact done _ _ q) hs
  subst e
  have key : Turn id (Inv xs) Q = Turn id (fun m σ => id = (id : AHeap → AHeap) ∧ Inv xs m σ) Q := by
    funext a m σ; cases a <;> simp [Turn]
  rw [← key]
  exact turn pin x xs m' σ' q
end
end Mine

open PySem PySem.W PyProof.Rows PySem.Calls
namespace Mine
section
variable {C : Cx} {n : Nat} {f : Fm} {m : AEnv} {σ : AHeap}
theorem HR.addFz {fz pin : Fz} {δ : Addr → Addr} {news : List (Addr × Obj)} (R : HR C fz pin σ δ news) (new : Fz) (hn : ∀ p ∈ new, ∀ q ∈ news, q.1 ≠ p.1) : HR C (new ++ fz) pin σ δ (new ++ news) := by
  have up : ∀ p ∈ fz, p ∈ new ++ fz := fun p hp => List.mem_append_right _ hp
  have split : ∀ p ∈ (new ++ fz) ++ pin, p ∈ new ∨ p ∈ fz ++ pin := fun p hp => by rw [List.append_assoc] at hp; exact List.mem_append.mp hp
  refine ⟨fun p hp => ?_, fun p hp q hq => ?_, fun a ao h => (R.ob a ao h).mono (fun _ _ => At.mono up) (fun _ q => List.mem_append_right _ q) fun _ _ _ _ q => List.mem_append_right _ q, fun a ao h p hp => ?_, fun a c as h p hp => ?_, R.dσ, R.dinj⟩
  · rcases split p hp with hp | hp
    · exact List.mem_append_left _ hp
    · exact List.mem_append_right _ (R.sub _ hp)
  · rcases List.mem_append.mp hp with hp | hp
    · exact fun e => hn p hp q (R.sub _ (List.mem_append_right _ hq)) e.symm
    · exact R.apart p hp q hq
  · rcases split p hp with hp | hp
    · obtain ⟨o, ho⟩ := (R.ob a ao h).key; exact fun q => hn p hp _ ho q.symm
    · exact R.off a ao h p hp
  · rcases split p hp with hp | hp
    · obtain ⟨_, es, k, ho, _⟩ := R.ob a _ h; exact fun q => hn p hp _ ho q.symm
    · exact R.doff a c as h p hp
theorem ER.up {fz fz' : Fz} {mc : Str → Option Value} (h : ∀ p ∈ fz, p ∈ fz') (e : ER (At C fz) m mc) : ER (At C fz') m mc := fun y a hy => by obtain ⟨v, h1, h2⟩ := e y a hy; exact ⟨v, h1, h2.up h⟩

/-! ## things of a class -/
theorem HR.addInst {fz pin : Fz} {δ : Addr → Addr} {news : List (Addr × Obj)} {y d c : Addr} (R : HR C fz pin σ δ news) (l1 : ∀ q ∈ news, q.1 < d) (l2 : d < y) :
    HR C fz pin (σ.set y (.inst c [])) (fun b => if b = y then d else δ b) ((y, instObj c d) :: (d, dictOf [] 0) :: news) := by
  have ny : ∀ q ∈ news, q.1 ≠ y := fun q hq => Nat.ne_of_lt (Nat.lt_trans (l1 q hq) l2)
  have nd : ∀ q ∈ news, q.1 ≠ d := fun q hq => Nat.ne_of_lt (l1 q hq)
  have ky : ∀ b bo, σ b = some bo → b ≠ y ∧ b ≠ d := fun b bo hb => by obtain ⟨o, h⟩ := (R.ob b bo hb).key; exact ⟨ny _ h, nd _ h⟩
  have kd : ∀ b c as, σ b = some (.inst c as) → δ b ≠ y ∧ δ b ≠ d := fun b c as hb => by obtain ⟨_, es, k, h, _⟩ := R.ob b _ hb; exact ⟨ny _ h, nd _ h⟩
  have hσd : σ d = none := by
    cases q : σ d with
    | none => rfl
    | some o => exact absurd rfl (ky d o q).2
  have hne : y ≠ d := Nat.ne_of_gt l2
  refine ⟨fun p hp => .tail _ (.tail _ (R.sub p hp)), R.apart, fun b bo hb => ?_, fun b bo hb p hp => ?_, fun b c₁ as hb p hp => ?_, fun b c₁ as hb => ?_, fun b c₁ as b' c' bs h1 h2 => ?_⟩
  · by_cases q : b = y
    · subst q; rw [AHeap.set_same] at hb; cases hb
      rw [if_pos rfl]
      exact ⟨List.mem_cons_self .., [], 0, .tail _ (List.mem_cons_self ..), .nil⟩
    · rw [AHeap.set_ne _ _ q] at hb
      rw [if_neg q]
      exact (R.ob b bo hb).mono (fun _ _ x => x) (fun _ hm => .tail _ (.tail _ hm)) fun c as eb _ hm => .tail _ (.tail _ hm)
  · by_cases q : b = y
    · subst q; exact ny _ (R.sub p hp)
    · rw [AHeap.set_ne _ _ q] at hb; exact R.off b bo hb p hp
  · by_cases q : b = y
    · rw [if_pos q]; exact nd _ (R.sub p hp)
    · rw [AHeap.set_ne _ _ q] at hb; rw [if_neg q]; exact R.doff b c₁ as hb p hp
  · by_cases q : b = y
    · rw [if_pos q, AHeap.set_ne _ _ (Ne.symm hne)]; exact hσd
    · rw [AHeap.set_ne _ _ q] at hb; rw [if_neg q, AHeap.set_ne _ _ (kd b c₁ as hb).1]; exact R.dσ b c₁ as hb
  · by_cases q : b = y <;> by_cases q' : b' = y
    · intro _; rw [q, q']
    · rw [AHeap.set_ne _ _ q'] at h2; rw [if_pos q, if_neg q']; exact fun e => absurd e.symm (kd b' c' bs h2).2
    · rw [AHeap.set_ne _ _ q] at h1; rw [if_neg q, if_pos q']; exact fun e => absurd e (kd b c₁ as h1).2
    · rw [AHeap.set_ne _ _ q] at h1; rw [AHeap.set_ne _ _ q'] at h2; rw [if_neg q, if_neg q']; exact R.dinj b c₁ as b' c' bs h1 h2
theorem HR.noneAt {fz pin : Fz} {δ : Addr → Addr} {news : List (Addr × Obj)} {y : Addr} (R : HR C fz pin σ δ news) (l : ∀ q ∈ news, q.1 ≠ y) : σ y = none := by
  cases q : σ y with
  | none => rfl
  | some o => obtain ⟨o, h⟩ := (R.ob y o q).key; exact absurd rfl (l _ h)
/-- a thing of a class with an own __init__ -/
theorem tc_inst {c g : Addr} {as : List AVal} {Q : AVal → AHeap → Prop} (hk : keepIn C.K (.ref c) = true) (hm : makesIn C.K c = true) (hi : findIn C.K (.ref c) "__init__" = some (some (.ref g))) (hf : isFn C.K (.ref g) = true)
    (h : ∀ a, σ a = none → Fn C n g (.obj a :: as) (σ.set a (.inst c [])) fun r σ' => r = .none ∧ Q (.obj a) σ') : TC C n f (.raw (.ref c)) as m σ Q := fun ok fz s E v vs x hv hvs => by
  cases hv
  refine ⟨keep_K ok x hk, ?_⟩
  obtain ⟨mc, news, δ, F, N, R, e⟩ := x
  refine call_cls F ok.kin N hm hi hf fun y d h' F' N' l1 l2 => ?_
  have x' : SR C f fz m (σ.set y (.inst c [])) { s with heap := h' } := ⟨mc, _, _, F', N', R.addInst l1 l2, e⟩
  have hn : Near f (f.A.under (.builtin "type.__call__" ⟨.ref c :: vs, []⟩)) := ⟨rfl, rfl, rfl, by show f.A.depth + 1 ≤ _; omega, by show f.A.units + 1 ≤ _; omega⟩
  refine codeAny_mono (h y (R.noneAt fun q hq => Nat.ne_of_lt (Nat.lt_trans (l1 q hq) l2)) f m _ ok hn fz _ (.ref y :: vs) x' (.cons (.obj y) hvs)) fun r s' ⟨v, er, fz', σ', a, u, es, x2, va, q0, q⟩ => ?_
  subst er; subst q0
  cases va
  exact ⟨rfl, fz', σ', .obj y, u, Same.trans ⟨h', s.toks, rfl⟩ es, x2, .obj y, q⟩

/-! ## type, is -/
/-! ## functions of ints -/
/-! ## lists -/
theorem SR.newFz {fz : Fz} {s : Shared} (x : SR C f fz m σ s) : ∃ mc news, Fr f.h₀ f.L s.heap mc ∧ News f.h₀ f.L s.heap news ∧
    ∀ h' t o, Fr f.h₀ f.L h' mc → News f.h₀ f.L h' ((s.heap.objs.size, o) :: news) → SR C f ([(s.heap.objs.size, o)] ++ fz) m σ { s with heap := h', toks := t } := by
  obtain ⟨mc, news, δ, F, N, R, e⟩ := x
  refine ⟨mc, news, F, N, fun h' t o F' N' => ⟨mc, _, δ, F', N', R.addFz [(s.heap.objs.size, o)] fun p hp q hq => ?_, e.up fun p hp => List.mem_append_right _ hp⟩⟩
  rw [List.mem_singleton.mp hp]
  exact Nat.ne_of_lt (news_lt N hq)
theorem SR.newL {fz : Fz} {s : Shared} (x : SR C f fz m σ s) : ∃ mc news, Fr f.h₀ f.L s.heap mc ∧ News f.h₀ f.L s.heap news ∧ σ s.heap.objs.size = none ∧
    ∀ h' t vs k xs, Fr f.h₀ f.L h' mc → News f.h₀ f.L h' ((s.heap.objs.size, listOf vs.toArray k) :: news) → Vs (At C fz) vs xs → SR C f fz m (σ.set s.heap.objs.size (.list xs)) { s with heap := h', toks := t } := by
  have hf := x.fresh (Nat.le_refl _)
  obtain ⟨mc, news, δ, F, N, R, e⟩ := x
  refine ⟨mc, news, F, N, hf, fun h' t vs k xs F' N' hv => ⟨mc, (s.heap.objs.size, listOf vs.toArray k) :: news, δ, F', N', ?_, e⟩⟩
  have nn : ∀ q ∈ news, q.1 ≠ s.heap.objs.size := fun q hq => Nat.ne_of_lt (news_lt N hq)
  have keep : ∀ {b c as}, σ.set s.heap.objs.size (.list xs) b = some (.inst c as) → b ≠ s.heap.objs.size ∧ σ b = some (.inst c as) := fun {b c as} hb => by
    by_cases q : b = s.heap.objs.size
    · subst q; rw [AHeap.set_same] at hb; cases hb
    · rw [AHeap.set_ne _ _ q] at hb; exact ⟨q, hb⟩
  have dn : ∀ b c as, σ b = some (.inst c as) → δ b ≠ s.heap.objs.size := fun b c as hb => by obtain ⟨_, es, n, h, _⟩ := R.ob b _ hb; exact nn _ h
  refine ⟨fun p hp => .tail _ (R.sub p hp), R.apart, fun b bo hb => ?_, fun b bo hb p hp => ?_, fun b c as hb p hp => R.doff b c as (keep hb).2 p hp, fun b c as hb => ?_, fun b c as b' c' bs h1 h2 => R.dinj b c as b' c' bs (keep h1).2 (keep h2).2⟩
  · by_cases q : b = s.heap.objs.size
    · subst q; rw [AHeap.set_same] at hb; cases hb; exact ⟨vs, k, List.mem_cons_self .., hv⟩
    · rw [AHeap.set_ne _ _ q] at hb
      exact (R.ob b bo hb).mono (fun _ _ x => x) (fun _ hm => .tail _ hm) fun c as eb _ hm => .tail _ hm
  · by_cases q : b = s.heap.objs.size
    · subst q; exact nn _ (R.sub p hp)
    · rw [AHeap.set_ne _ _ q] at hb; exact R.off b bo hb p hp
  · rw [AHeap.set_ne _ _ (dn b c as (keep hb).2)]; exact R.dσ b c as (keep hb).2
/-- a list, frozen or not: its items now -/
def items (σ : AHeap) : AVal → Option (List AVal)
  | .lst xs => some xs
  | .obj a => match σ a with
    | some (.list xs) => some xs
    | _ => none
  | _ => none
theorem V.items {fz : Fz} {s : Shared} (ok : f.Ok C n) (x : SR C f fz m σ s) {v : Value} {a : AVal} {xs : List AVal} (h : V (At C fz) v a) (e : items σ a = some xs) : ∃ l vs, v = .ref l ∧ s.heap.IsList l vs.toArray ∧ Vs (At C fz) vs xs := by
  cases h with
  | obj a =>
    have e' : (match σ a with | some (.list xs) => some xs | _ => Option.none) = some xs := e
    split at e'
    · rename_i ys hs; cases e'
      obtain ⟨vs, k, h1, h2⟩ := x.list hs
      exact ⟨a, vs, rfl, ⟨_, h1, rfl, _, rfl⟩, h2⟩
    · cases e'
  | lst h1 h2 h3 h4 => cases e; exact ⟨_, _, rfl, ⟨_, x.at_ ok h1, h2, _, h3⟩, h4⟩
  | _ => cases e
theorem t2_cat {a b : AVal} {xs ys : List AVal} {Q : AVal → AHeap → Prop} (ha : items σ a = some xs) (hb : items σ b = some ys) (hl : xs.length + ys.length ≤ sizeLine) (h : Q (.lst (xs ++ ys)) σ) : T2 C n f (binaryOp .Add) a b m σ Q := fun ok fz s E v w x hv hw => by
  obtain ⟨l, vs, rfl, hlv, hvs⟩ := hv.items ok x ha
  obtain ⟨l', ws, rfl, hlw, hws⟩ := hw.items ok x hb
  obtain ⟨mc, news, F, N, k⟩ := x.newFz
  refine add_lists F N hlv hlw (fun h' F' N' => ?_) (by rw [hvs.length, hws.length]; exact hl)
  exact ⟨_, σ, .lst (xs ++ ys), fun p hp => List.mem_append_right _ hp, ⟨h', s.toks, rfl⟩, k h' s.toks _ F' N', .lst (.inl (List.mem_append_left _ (List.mem_singleton.mpr rfl))) rfl rfl ((hvs.append hws).up fun p hp => List.mem_append_right _ hp), h⟩
theorem t2_catM {a b : AVal} {xs ys : List AVal} {Q : AVal → AHeap → Prop} (ha : items σ a = some xs) (hb : items σ b = some ys) (hl : xs.length + ys.length ≤ sizeLine) (h : ∀ l, σ l = none → Q (.obj l) (σ.set l (.list (xs ++ ys)))) : T2 C n f (binaryOp .Add) a b m σ Q := fun ok fz s E v w x hv hw => by
  obtain ⟨l, vs, rfl, hlv, hvs⟩ := hv.items ok x ha
  obtain ⟨l', ws, rfl, hlw, hws⟩ := hw.items ok x hb
  obtain ⟨mc, news, F, N, hno, k⟩ := x.newL
  refine add_lists F N hlv hlw (fun h' F' N' => ?_) (by rw [hvs.length, hws.length]; exact hl)
  exact ⟨fz, _, .obj s.heap.objs.size, sub_refl, ⟨h', s.toks, rfl⟩, k h' s.toks _ 0 _ F' N' (hvs.append hws), .obj _, h _ hno⟩
theorem tc_len {a : AVal} {xs : List AVal} {Q : AVal → AHeap → Prop} (ha : items σ a = some xs) (hl : xs.length < 2 ^ 62) (h : Q (.int xs.length) σ) : TC C n f (.raw (.builtin "len")) [a] m σ Q := fun ok fz s E v vs x hv hvs => by
  cases hv; obtain _ | ⟨h1, h2⟩ := hvs; cases h2
  obtain ⟨l, us, rfl, hlv, hus⟩ := h1.items ok x ha
  have e : us.toArray.size = xs.length := by rw [List.size_toArray, hus.length]
  refine ⟨keep_builtin, len_list hlv (by rw [e]; omega) ?_⟩
  rw [e]
  exact .tok x (.int _ _) h
end
end Mine

open PySem PySem.W PyProof.Rows PySem.Calls
namespace Mine
section
variable {C : Cx} {n : Nat} {f : Fm} {m : AEnv} {σ : AHeap}
theorem V.lstD {P : Addr → Obj → Prop} {v : Value} {xs : List AVal} (h : V P v (.lst xs)) : ∃ l o k us, v = .ref l ∧ P l o ∧ o.cls = .type "list" ∧ o.data = .seq (List.toArray us) k ∧ Vs P us xs := by
  cases h with
  | lst p1 p2 p3 p4 => exact ⟨_, _, _, _, rfl, p1, p2, p3, p4⟩
def enumFrom (k : Nat) : List AVal → List (List AVal)
  | [] => []
  | x :: xs => [.int k, x] :: enumFrom (k + 1) xs
theorem w1_forT {ts : List Expr} {tk : Nat} {tp : Pos} {iter : Expr} {body : List Stmt} {pos : Pos} {Q : AFlow → AEnv → AHeap → Prop} (Inv : List (List AVal) → AEnv → AHeap → Prop)
    (h : WIT C n f iter m σ fun back xs σ₂ => back = id ∧ Inv xs m σ₂)
    (turn : ∀ pin x xs m' σ', Inv (x :: xs) m' σ' → (assignEach ts f.env).length = x.length ∧ TAs C n (f.withPin pin) ts x m' σ' fun m₁ σ₁ => WS C n (f.withPin pin) body m₁ σ₁ (Turn id (Inv xs) Q))
    (done : ∀ m' σ', Inv [] m' σ' → Q .next m' σ') (hstar : (assignEach ts f.env).findIdx? (·.1) = none := by rfl) (hs : ∀ x, foldedSetIterable iter f.env x = pure x := by intro _; rfl) : W1 C n f (.For (.Tuple ts tk tp) iter body [] pos) m σ Q := by
  refine w1_forTB (fun back xs m σ => back = id ∧ Inv xs m σ) h (fun back pin x xs m' σ' ⟨e, q⟩ => ?_) (fun back m' σ' ⟨e, q⟩ => by subst e; exact done _ _ q) hstar hs
  subst e
  have key : Turn id (Inv xs) Q = Turn id (fun m σ => id = (id : AHeap → AHeap) ∧ Inv xs m σ) Q := by
    funext a m σ; cases a <;> simp [Turn]
  rw [← key]
  exact turn pin x xs m' σ' q
end
end Mine
namespace Mine
section
variable {C : Cx} {n : Nat} {f : Fm} {m : AEnv} {σ : AHeap}
/-! ## methods of lists -/
theorem tg_list {a : Addr} {xs : List AVal} {name : Str} {id : String} {Q : AVal → List AVal → AHeap → Prop} (slot : Slot "list" name id) (hty : typeOf (.builtin id) = pure (.type "method_descriptor")) (ha : σ a = some (.list xs)) (h : Q (.raw (.builtin id)) [.obj a] σ) : TG C n f name (.obj a) m σ Q := fun ok fz s E v pl x hv => by
  cases hv
  obtain ⟨vs, k, h1, h2⟩ := x.list ha
  exact getMethod_list_of slot hty ⟨_, h1, rfl, _, rfl⟩ ⟨_, h1, rfl⟩ ⟨fz, σ, _, _, sub_refl, .rfl, x, .raw _, .cons (.obj a) .nil, h⟩
def scalar : AVal → Bool
  | .none => true
  | .bool _ => true
  | .int _ => true
  | .str _ => true
  | _ => false
def notNone : AVal → Bool
  | .none => false
  | _ => true
end
end Mine

open PySem PySem.W PyProof.Rows PySem.Calls
namespace Mine
end Mine
namespace Mine
theorem vs_ints {P : Addr → Obj → Prop} : ∀ {vs : List Value} {ns : List Int}, IntsAre vs ns → Vs P vs (ns.map .int)
  | _, _, .nil => .nil
  | _, _, .cons n t r => .cons (.int n t) (vs_ints r)
end Mine

open PySem PySem.W PyProof.Rows PySem.Calls
namespace Mine
section
variable {C : Cx} {n : Nat} {f : Fm} {m : AEnv} {σ : AHeap}
theorem WE.cut {e : Expr} {Q P : AVal → AHeap → Prop} (h : WE C n f e m σ P) (k : ∀ a σ₁, P a σ₁ → Q a σ₁) : WE C n f e m σ Q := fun ok fz s E x =>
  wpAny_mono (h ok fz s E x) (fun v s₁ hq => hq.el fun fz₁ σ₁ a u1 e1 x1 va q1 => ⟨fz₁, σ₁, a, u1, e1, x1, va, k _ _ q1⟩) fun _ _ x => x

/-! ## items by place -/
theorem we_sub {value slice : Expr} {pos : Pos} {Q : AVal → AHeap → Prop} (h : WE C n f value m σ fun a σ₁ => WE C n f slice m σ₁ fun b σ₂ => T2 C n f (subscriptTail value slice) a b m σ₂ Q) : WE C n f (.Subscript value slice pos) m σ Q := fun ok fz s E x => by
  refine Subscript_ (wpAny_mono (h ok fz s E x) (fun v s₁ hq => hq.el fun fz₁ σ₁ a u1 e1 x1 va q1 => wpAny_mono (q1 ok fz₁ s₁ E x1) (fun w s₂ hq => hq.el fun fz₂ σ₂ b u2 e2 x2 vb q2 => ?_) fun _ _ x => x) fun _ _ x => x)
  exact wpAny_mono (q2 ok fz₂ s₂ E v w x2 (va.up u2) vb) (fun r s₃ p => .up (fun p hp => u2 p (u1 p hp)) (e1.trans e2) p) fun _ _ x => x
theorem t2_item {value slice : Expr} {a : AVal} {i : Int} {xs : List AVal} {y : AVal} {Q : AVal → AHeap → Prop} (ha : items σ a = some xs) (h0 : 0 ≤ i) (hf : i < 2 ^ 63) (hy : xs[i.toNat]? = some y) (h : Q y σ)
    (hs : ∀ l u, subscripted slice false (.ref l) (.int i u) = operate [.ref l, .int i u] (getItem (.ref l) (.int i u)) := by intro _ _; rfl) : T2 C n f (subscriptTail value slice) a (.int i) m σ Q := fun ok fz s E v w x hv hw => by
  cases hw
  obtain ⟨l, vs, rfl, hl, hvs⟩ := hv.items ok x ha
  obtain ⟨u, g1, g2⟩ := hvs.get hy
  exact tail_any hl.typeIs slot_list_getitem.lookup (wpAny_getItem_list (x := u) hl h0 hf (by simpa using g1) (.here x g2 h)) (hs _ _)
/-! ## slices -/
def WO (C : Cx) (n : Nat) (f : Fm) (e : Option Expr) (m : AEnv) (σ : AHeap) (Q : AVal → AHeap → Prop) : Prop :=
  f.Ok C n → ∀ fz s E, SR C f fz m σ s → wpAny (Md C) f.A (evalPart e f.env) (PV C f m fz s Q) E s
theorem wo_none {Q : AVal → AHeap → Prop} (h : Q .none σ) : WO C n f none m σ Q := fun ok fz s E x => wpAny_pure (.here x .none h)
theorem wo_some {e : Expr} {Q : AVal → AHeap → Prop} (h : WE C n f e m σ Q) : WO C n f (some e) m σ Q := fun ok fz s E x => h ok fz s E x
def part : AVal → Option (Option Int)
  | .none => some none
  | .int i => some (some i)
  | _ => none
theorem V.part {P : Addr → Obj → Prop} {v : Value} {a : AVal} {p : Option Int} (h : V P v a) (e : part a = some p) : IsPart v p := by
  cases h <;> cases e
  · exact .none
  · exact .int _ _
def pickA (xs : List AVal) (lo hi st : Option Int) : List AVal :=
  (sliceRange (sliceBounds lo hi st xs.length).1 (sliceBounds lo hi st xs.length).2.1 (sliceBounds lo hi st xs.length).2.2).filterMap (xs[·]?)
theorem Vs.pickAll {P : Addr → Obj → Prop} {vs : List Value} {xs : List AVal} (h : Vs P vs xs) : ∀ ks : List Nat, Vs P (ks.filterMap (vs[·]?)) (ks.filterMap (xs[·]?))
  | [] => .nil
  | k :: ks => by
    have ih := h.pickAll ks
    cases e : xs[k]? with
    | none =>
      have : vs[k]? = none := by rw [List.getElem?_eq_none_iff] at e ⊢; rw [h.length]; exact e
      simpa [List.filterMap_cons, e, this] using ih
    | some x =>
      obtain ⟨v, h1, h2⟩ := h.get e
      simpa [List.filterMap_cons, e, h1] using Vs.cons h2 ih
theorem Vs.pick {P : Addr → Obj → Prop} {vs : List Value} {xs : List AVal} (h : Vs P vs xs) (lo hi st : Option Int) : Vs P (slicePick vs.toArray lo hi st).toList (pickA xs lo hi st) := by
  unfold slicePick pickA
  simp only [List.size_toArray, h.length, List.getElem?_toArray, List.toList_toArray]
  exact h.pickAll _
theorem pickA_plain (xs : List AVal) (lo hi : Option Int) : pickA xs lo hi none = (xs.drop (lo.elim 0 (clipAt xs.length))).take (hi.elim xs.length (clipAt xs.length) - lo.elim 0 (clipAt xs.length)) := by
  unfold pickA
  rw [sliceBounds_plain]
  have := pick_run (xs.toArray)
  simp only [List.getElem?_toArray, List.toList_toArray] at this
  simp only [sliceRange_one]
  exact this _ _
theorem pickA_rev (xs : List AVal) : pickA xs none none (some (-1)) = xs.reverse := by
  have e : sliceRange ((xs.length : Int) - 1) (-1) (-1) = (List.range xs.length).map fun k => xs.length - 1 - k := by
    unfold sliceRange
    have h0 : ¬ ((-1 : Int) > 0) := by decide
    simp only [h0, if_false]
    by_cases h : (xs.length : Int) - 1 > -1
    · have h2 : ((xs.length : Int) - 1 - -1 - -1 - 1) / (- -1) = (xs.length : Int) := by
        rw [show (- -1 : Int) = 1 by decide, Int.ediv_one]; omega
      rw [if_pos h, h2, Int.toNat_natCast]
      apply List.map_congr_left
      intro k _
      omega
    · have : xs.length = 0 := by omega
      simp [this]
  have h0 : ¬ ((-1 : Int) > 0) := by decide
  unfold pickA
  simp only [sliceBounds, Option.getD_some, h0, if_false]
  rw [e]
  apply List.ext_getElem?
  intro i
  rw [List.filterMap_map]
  have key : ∀ k, k ≤ xs.length → (List.range k).filterMap ((fun x => xs[x]?) ∘ fun k => xs.length - 1 - k) = xs.reverse.take k := by
    intro k
    induction k with
    | zero => intro _; simp
    | succ k ih =>
      intro hk
      rw [List.range_succ, List.filterMap_append, ih (by omega), List.take_add_one, List.getElem?_reverse (by omega)]
      congr 1
  rw [key _ (Nat.le_refl _), List.take_of_length_le (by simp)]
theorem sub_slice {st : Option Expr} {lower upper : Option Expr} {p : Pos} {o i : Value} : ∃ ops, subscripted (.Slice lower upper st p) false o i = operate ops (getItem o i) := by
  cases st with
  | none => exact ⟨_, rfl⟩
  | some e => exact ⟨_, rfl⟩
theorem slice_core {value : Expr} {lower upper step : Option Expr} {p pos : Pos} {fz : Fz} {s : Shared} {E : Value → Shared → Prop} {R : Value → Shared → Prop} (ok : f.Ok C n) (x : SR C f fz m σ s)
    (h : WE C n f value m σ fun a σ₁ => WO C n f lower m σ₁ fun l σ₂ => WO C n f upper m σ₂ fun u σ₃ => WO C n f step m σ₃ fun st σ₄ =>
      ∃ xs lo hi sp, items σ₄ a = some xs ∧ part l = some lo ∧ part u = some hi ∧ part st = some sp ∧ sp ≠ some 0 ∧ xs.length ≤ sizeLine ∧
        ∀ fz' s' vs h', (∀ p ∈ fz, p ∈ fz') → Same s s' → SR C f fz' m σ₄ s' → Vs (At C fz') vs (pickA xs lo hi sp) → (∀ b o, s'.heap.get? b = some o → h'.get? b = some o) → h'.get? (s'.heap.objs.size + 1) = some (listOf vs.toArray 0) → R (.ref (s'.heap.objs.size + 1)) { s' with heap := h' }) :
    wpAny (Md C) f.A (eval (.Subscript value (.Slice lower upper step p) pos) f.env) R E s := by
  refine Subscript_ (wpAny_mono (h ok fz s E x) (fun v s₁ hq => hq.el fun fz₁ σ₁ a u1 e1 x1 va q1 => wpAny_Slice (wpAny_mono (q1 ok fz₁ s₁ E x1) (fun l s₂ hq => hq.el fun fz₂ σ₂ al u2 e2 x2 vl q2 => wpAny_mono (q2 ok fz₂ s₂ E x2) (fun u s₃ hq => hq.el fun fz₃ σ₃ au u3 e3 x3 vu q3 => wpAny_mono (q3 ok fz₃ s₃ E x3) (fun st s₄ hq => hq.el fun fz₄ σ₄ ast u4 e4 x4 vst ⟨xs, lo, hi, sp, hx, hlo, hhi, hsp, h0, hz, k⟩ => ?_) fun _ _ x => x) fun _ _ x => x) fun _ _ x => x)) fun _ _ x => x)
  obtain ⟨b, vs, rfl, hl, hvs⟩ := (((va.up u2).up u3).up u4).items ok x4 hx
  have hl' : (s₄.heap.push { cls := .type "slice", data := .fields #[l, u, st] }).IsList b vs.toArray := hl.push _
  obtain ⟨ops, hs⟩ := sub_slice (st := step) (lower := lower) (upper := upper) (p := p) (o := .ref b) (i := .ref s₄.heap.objs.size)
  refine tail_any hl'.typeIs slot_list_getitem.lookup (wpAny_getItem_list_slice hl' (Heap.IsSliceOf.new ..) (vl.part hlo) (vu.part hhi) (vst.part hsp) h0 ?_ (by rw [List.size_toArray, hvs.length]; exact hz)) hs
  rw [Heap.size_push]
  have hp := hvs.pick lo hi sp
  have e : slicePick vs.toArray lo hi sp = (slicePick vs.toArray lo hi sp).toList.toArray := by simp
  refine k fz₄ s₄ (slicePick vs.toArray lo hi sp).toList _ (fun p hp => u4 p (u3 p (u2 p (u1 p hp)))) (((e1.trans e2).trans e3).trans e4) x4 hp (fun b o e => Heap.get?_push_of_some _ (Heap.get?_push_of_some _ e)) ?_
  rw [← e]
  have := Heap.get?_push_size (s₄.heap.push { cls := .type "slice", data := .fields #[l, u, st] }) (o := { cls := .type "list", data := .seq (slicePick vs.toArray lo hi sp) }) rfl
  rw [Heap.size_push] at this
  exact this
theorem we_slice {value : Expr} {lower upper step : Option Expr} {p pos : Pos} {Q : AVal → AHeap → Prop}
    (h : WE C n f value m σ fun a σ₁ => WO C n f lower m σ₁ fun l σ₂ => WO C n f upper m σ₂ fun u σ₃ => WO C n f step m σ₃ fun st σ₄ =>
      ∃ xs lo hi sp, items σ₄ a = some xs ∧ part l = some lo ∧ part u = some hi ∧ part st = some sp ∧ sp ≠ some 0 ∧ xs.length ≤ sizeLine ∧ Q (.lst (pickA xs lo hi sp)) σ₄) :
    WE C n f (.Subscript value (.Slice lower upper step p) pos) m σ Q := fun ok fz s E x => by
  refine slice_core ok x (WE.cut h fun a σ₁ h1 ok fz s E x => wpAny_mono (h1 ok fz s E x) (fun v s₁ hq => hq.el fun fz₁ σ₁ a u1 e1 x1 va q1 => ⟨fz₁, σ₁, a, u1, e1, x1, va, fun ok fz s E x => wpAny_mono (q1 ok fz s E x) (fun v s₁ hq => hq.el fun fz₁ σ₁ a u1 e1 x1 va q1 => ⟨fz₁, σ₁, a, u1, e1, x1, va, fun ok fz s E x => wpAny_mono (q1 ok fz s E x) (fun v s₁ hq => hq.el fun fz₁ σ₁ a u1 e1 x1 va q1 => ⟨fz₁, σ₁, a, u1, e1, x1, va, ?_⟩) fun _ _ x => x⟩) fun _ _ x => x⟩) fun _ _ x => x)
  obtain ⟨xs, lo, hi, sp, h1, h2, h3, h4, h5, h6, q⟩ := q1
  exact ⟨xs, lo, hi, sp, h1, h2, h3, h4, h5, h6, fun fz' s' vs h' u e x' hv k ho => PV.up u e (PV.new (t := s'.toks) x' k (Nat.le_succ _) ho (fun fz'' hm hu => .lst (.inl hm) rfl rfl (hv.up hu)) q)⟩
/-! ## changing a list -/
theorem mapSeq_listOf (g : Array Value → Array Value) (its : Array Value) (k : Nat) : ∃ k', Obj.mapSeq g (listOf its k) = listOf (g its) k' := ⟨_, rfl⟩
theorem SR.updList {fz : Fz} {s : Shared} {a : Addr} {xs xs' : List AVal} {vs : List Value} {k : Nat} (x : SR C f fz m σ s) (h : σ a = some (.list xs)) (ho : s.heap.get? a = some (listOf vs.toArray k)) (g : Array Value → Array Value) (hg : Vs (At C fz) (g vs.toArray).toList xs') (t : Nat) :
    SR C f fz m (σ.set a (.list xs')) { s with heap := s.heap.update a (Obj.mapSeq g), toks := t } := by
  obtain ⟨k', e⟩ := mapSeq_listOf g vs.toArray k
  have ho' : (s.heap.update a (Obj.mapSeq g)).get? a = some (listOf (g vs.toArray).toList.toArray k') := by
    rw [Heap.get?_update_self _ ho (by rw [e]; rfl), e]
  exact x.setList (t := t) h (Heap.SameBut.update ..) ho' hg
theorem tg_listM {a : Addr} {xs : List AVal} {name : Str} {id : String} {Q : AVal → List AVal → AHeap → Prop} (ha : σ a = some (.list xs)) (slot : Slot "list" name id) (hty : typeOf (.builtin id) = pure (.type "method_descriptor")) (h : Q (.raw (.builtin id)) [.obj a] σ) : TG C n f name (.obj a) m σ Q :=
  tg_list slot hty ha h
theorem tc_append {a : Addr} {xs : List AVal} {y : AVal} {Q : AVal → AHeap → Prop} (ha : σ a = some (.list xs)) (hl : xs.length ≤ sizeLine) (h : Q .none (σ.set a (.list (xs ++ [y])))) : TC C n f (.raw (.builtin "list.append")) [.obj a, y] m σ Q := fun ok fz s E v vs x hv hvs => by
  cases hv; obtain _ | ⟨h1, h2⟩ := hvs; obtain _ | ⟨h2, h3⟩ := h2; cases h3; cases h1
  obtain ⟨us, k, ho, p4⟩ := x.list ha
  refine ⟨keep_builtin, append_at ho (fun h' hs ho' => ?_) (by rw [List.size_toArray, p4.length]; exact hl)⟩
  rename_i w
  refine ⟨fz, _, .none, sub_refl, ⟨h', s.toks, rfl⟩, x.setList (t := s.toks) (vs' := us ++ [w]) ha hs (by simpa using ho') (p4.append (.cons h2 .nil)), .none, h⟩
theorem tc_insert {a : Addr} {xs : List AVal} {i : Int} {y : AVal} {j : Nat} {Q : AVal → AHeap → Prop} (ha : σ a = some (.list xs)) (hf : Builtin.List.listFitsIndex i = true) (hj : (if i < 0 then (i + (xs.length : Int)).toNat else min i.toNat xs.length) = j) (hl : xs.length ≤ sizeLine) (h : Q .none (σ.set a (.list (xs.take j ++ y :: xs.drop j)))) : TC C n f (.raw (.builtin "list.insert")) [.obj a, .int i, y] m σ Q := fun ok fz s E v vs x hv hvs => by
  cases hv; obtain _ | ⟨h1, h2⟩ := hvs; obtain _ | ⟨h2, h3⟩ := h2; obtain _ | ⟨h3, h4⟩ := h3; cases h4; cases h1; cases h2
  rename_i w t
  obtain ⟨us, k, ho, p4⟩ := x.list ha
  refine ⟨keep_builtin, call_meets PySem.F.slot_list_insert ⟨_, ho, rfl⟩ PySem.F.entry_list_insert (PySem.F.args_list_insert_3 _ _ _) (AutoSeq1.list_insert_list_int_val_1 a us.toArray k i t w (by rw [hf]; decide) (by rw [List.size_toArray, p4.length]; exact hl)) ⟨ho, ?_⟩⟩
  refine ⟨fz, _, .none, sub_refl, ⟨_, s.toks, rfl⟩, x.updList ha ho _ ?_ s.toks, .none, h⟩
  simp only [List.size_toArray, p4.length, hj]
  have := ((p4.take j).append (.cons h3 (p4.drop j)))
  have e : List.take (xs.length - j) (List.drop j us) = List.drop j us := List.take_of_length_le (by simp [p4.length])
  simpa [e, p4.length] using this
theorem Vs.eraseIdx {P : Addr → Obj → Prop} : ∀ {vs : List Value} {xs : List AVal}, Vs P vs xs → ∀ (i : Nat), Vs P (vs.eraseIdx i) (xs.eraseIdx i)
  | _, _, .nil, _ => .nil
  | _, _, .cons a b, 0 => b
  | _, _, .cons a b, i + 1 => .cons a (b.eraseIdx i)
theorem tc_pop {a : Addr} {xs : List AVal} {i : Int} {y : AVal} {j : Nat} {Q : AVal → AHeap → Prop} (ha : σ a = some (.list xs)) (hf : Builtin.List.listFitsIndex i = true) (hj : seqIndex? i xs.length = some j) (hy : xs[j]? = some y) (hl : xs.length ≤ sizeLine) (h : Q y (σ.set a (.list (xs.eraseIdx j)))) : TC C n f (.raw (.builtin "list.pop")) [.obj a, .int i] m σ Q := fun ok fz s E v vs x hv hvs => by
  cases hv; obtain _ | ⟨h1, h2⟩ := hvs; obtain _ | ⟨h2, h3⟩ := h2; cases h3; cases h1; cases h2
  rename_i t
  obtain ⟨us, k, ho, p4⟩ := x.list ha
  obtain ⟨u, g1, g2⟩ := p4.get hy
  refine ⟨keep_builtin, call_meets PySem.F.slot_list_pop ⟨_, ho, rfl⟩ PySem.F.entry_list_pop (PySem.F.args_list_pop_2 _ _) (PySem.MeetsSeq.list_pop_at a us.toArray k i t j u hf (by rw [List.size_toArray, p4.length]; exact hj) (by simpa using g1) (by rw [List.size_toArray, p4.length]; exact hl)) ⟨ho, ?_⟩⟩
  refine ⟨fz, _, y, sub_refl, ⟨_, s.toks, rfl⟩, x.updList ha ho _ ?_ s.toks, g2, h⟩
  have := p4.eraseIdx j
  simpa using this
/-- storing at a place: as a tree -/
def TU (C : Cx) (n : Nat) (f : Fm) (o i y : AVal) (m : AEnv) (σ : AHeap) (Q : AHeap → Prop) : Prop :=
  f.Ok C n → ∀ fz s E vo vi vy, SR C f fz m σ s → V (At C fz) vo o → V (At C fz) vi i → V (At C fz) vy y → wpAny (Md C) f.A (setItem vo vi vy) (fun _ s' => ∃ fz' σ', (∀ p ∈ fz, p ∈ fz') ∧ Same s s' ∧ SR C f fz' m σ' s' ∧ Q σ') E s
theorem w1_expr {e : Expr} {pos : Pos} {Q : AFlow → AEnv → AHeap → Prop} (h : WE C n f e m σ fun _ σ₁ => Q .next m σ₁) (hi : interactive f.env = false := by rfl) (hs : swapsWith e none pos.line f.env = pure false := by rfl) : W1 C n f (.Expr e pos) m σ Q := fun ok fz s E x => by
  refine wpAny_Expr_any (hi := hi) (hs := hs) (wpAny_mono (h ok fz s E x) (fun v s₁ hq => hq.el fun fz₁ σ₁ a u1 e1 x1 va q1 => ⟨fz₁, σ₁, m, .next, u1, e1, x1, trivial, q1⟩) fun _ _ x => x)
end
end Mine

open PySem PySem.W PyProof.Rows PySem.Calls
namespace Mine
section
variable {C : Cx} {n : Nat} {f : Fm} {m : AEnv} {σ : AHeap}
/-! ## rows built by a comprehension -/
def WQ (C : Cx) (n : Nat) (f : Fm) (ifs : List Expr) (m : AEnv) (σ : AHeap) (Q : Bool → AHeap → Prop) : Prop :=
  f.Ok C n → ∀ fz s E, SR C f fz m σ s → wpAny (Md C) f.A (forIn ifs true fun c r => if r = true then do let ok ← isTrue c f.env (eval c f.env); pure (ForInStep.yield ok) else pure (ForInStep.yield r)) (PB C f m fz s Q) E s
theorem wq_nil {Q : Bool → AHeap → Prop} (h : Q true σ) : WQ C n f [] m σ Q := fun ok fz s E x => wpAny_tests_nil ⟨fz, σ, sub_refl, .rfl, x, h⟩
theorem SX.sub {fz : Fz} {wr wr' : List Addr} {s : Shared} (h : ∀ b ∈ wr', b ∈ wr) (x : SX C f fz m σ wr s) : SX C f fz m σ wr' s := by
  obtain ⟨mc, news, δ, F, N, R, e, h1, h2, h3⟩ := x
  exact ⟨mc, news, δ, F, N, R, e, fun p hp q => h1 p hp (h _ q), fun q => h2 (h _ q), fun b hb => h3 b (h _ hb)⟩
theorem SX.wide {fz : Fz} {wr : List Addr} {s : Shared} {h' : Heap} {t : Nat} (x : SX C f fz m σ wr s) (new : List Addr) (k : ∀ b o, s.heap.get? b = some o → h'.get? b = some o) (hw : ∀ b ∈ new, s.heap.objs.size ≤ b) : SX C f fz m σ (new ++ wr) { s with heap := h', toks := t } := by
  obtain ⟨mc, news, δ, F, N, R, e, h1, h2, h3⟩ := x
  obtain ⟨oL, a1, a2, hL, a3⟩ := id F.ns
  refine ⟨mc, news, δ, F.grownK k, fun p hp => ⟨k _ _ (N p hp).1, (N p hp).2⟩, R, e, fun p hp hm => ?_, fun hm => ?_, fun b hb => ?_⟩
  · rcases List.mem_append.mp hm with hm | hm
    · exact absurd (news_lt N hp) (Nat.not_lt.mpr (hw _ hm))
    · exact h1 p hp hm
  · rcases List.mem_append.mp hm with hm | hm
    · exact absurd (Heap.lt_size hL) (Nat.not_lt.mpr (hw _ hm))
    · exact h2 hm
  · rcases List.mem_append.mp hb with hm | hm
    · cases q : f.h₀.get? b with
      | none => rfl
      | some o => exact absurd (Heap.lt_size (F.keep _ _ q)) (Nat.not_lt.mpr (hw _ hm))
    · exact h3 b hm
/-- an address that was kept apart becomes a frozen thing -/
theorem SX.ice {fz : Fz} {wr : List Addr} {s : Shared} {D : Addr} {o : Obj} (x : SX C f fz m σ (D :: wr) s) (hD : D ∉ wr) (ho : s.heap.get? D = some o) : SX C f ([(D, o)] ++ fz) m σ wr s := by
  obtain ⟨mc, news, δ, F, N, R, e, h1, h2, h3⟩ := x
  refine ⟨mc, [(D, o)] ++ news, δ, F, fun p hp => ?_, R.addFz [(D, o)] (fun p hp q hq => ?_), e.up fun p hp => List.mem_append_right _ hp, fun p hp q => ?_, fun q => h2 (List.mem_cons_of_mem _ q), fun b hb => h3 b (List.mem_cons_of_mem _ hb)⟩
  · rcases List.mem_append.mp hp with hp | hp
    · rw [List.mem_singleton.mp hp]; exact ⟨ho, fun q => h2 (by rw [← q]; exact List.mem_cons_self ..), h3 D (List.mem_cons_self ..)⟩
    · exact N p hp
  · rw [List.mem_singleton.mp hp]; exact fun e => h1 q hq (by rw [e]; exact List.mem_cons_self ..)
  · rcases List.mem_append.mp hp with hp | hp
    · rw [List.mem_singleton.mp hp] at q; exact hD q
    · exact h1 p hp (List.mem_cons_of_mem _ q)
/-- the row's own names become a thing of the state -/
theorem SX.names {fz : Fz} {wr : List Addr} {s : Shared} {c : Addr} {mc' : Str → Option Value} {as : List (Str × AVal)} {k : Option (Scope × List (Str × Addr) × Addr)} (x : SX C f fz m σ (c :: wr) s) (hc : c ∉ wr) (hns : s.heap.Ns c mc') (he : ER (At C fz) as mc') :
    σ c = none ∧ SR C (f.withComp k (ownP wr s.heap ++ f.pin)) fz m (σ.set c (.ns as)) s := by
  obtain ⟨o, ho, hn⟩ := LCg.ns_obj hns
  have hwr := (SX.sub (wr' := wr) (fun b hb => List.mem_cons_of_mem _ hb) x)
  obtain ⟨mc, news, δ, F, N, R, e, h1, h2, h3⟩ := x
  have nn : ∀ q ∈ news, q.1 ≠ c := fun q hq e => h1 q hq (by rw [e]; exact List.mem_cons_self ..)
  have hno : σ c = none := R.noneAt nn
  have off : ∀ {p : Addr × Obj}, p ∈ ownP wr s.heap → p.1 ∈ wr := fun hp => (mem_ownP.mp hp).1
  have three : ∀ p ∈ fz ++ (ownP wr s.heap ++ f.pin), p ∈ ownP wr s.heap ∨ p ∈ fz ++ f.pin := fun p hp => by
    rcases List.mem_append.mp hp with hp | hp
    · exact .inr (List.mem_append_left _ hp)
    · rcases List.mem_append.mp hp with hp | hp
      · exact .inl hp
      · exact .inr (List.mem_append_right _ hp)
  have keep : ∀ {b c' as'}, σ.set c (.ns as) b = some (.inst c' as') → b ≠ c ∧ σ b = some (.inst c' as') := fun {b c' as'} hb => by
    by_cases q : b = c
    · subst q; rw [AHeap.set_same] at hb; cases hb
    · rw [AHeap.set_ne _ _ q] at hb; exact ⟨q, hb⟩
  have dn : ∀ b c' as', σ b = some (.inst c' as') → δ b ≠ c := fun b c' as' hb => by obtain ⟨_, es, n, h, _⟩ := R.ob b _ hb; exact nn _ h
  have up : ∀ {p}, p ∈ news → p ∈ (c, o) :: (ownP wr s.heap ++ news) := fun h => .tail _ (List.mem_append_right _ h)
  refine ⟨hno, mc, (c, o) :: (ownP wr s.heap ++ news), δ, F, fun p hp => ?_, ⟨fun p hp => ?_, fun p hp q hq => ?_, fun b bo hb => ?_, fun b bo hb p hp => ?_, fun b c' as' hb p hp => ?_, fun b c' as' hb => ?_, fun b c' as' b' c'' bs g1 g2 => R.dinj b c' as' b' c'' bs (keep g1).2 (keep g2).2⟩, e⟩
  · rcases List.mem_cons.mp hp with rfl | hp
    · exact ⟨ho, fun q => h2 (by rw [← q]; exact List.mem_cons_self ..), h3 c (List.mem_cons_self ..)⟩
    · rcases List.mem_append.mp hp with hp | hp
      · obtain ⟨a, b⟩ := mem_ownP.mp hp
        exact ⟨b, fun q => h2 (List.mem_cons_of_mem _ (q ▸ a)), h3 _ (List.mem_cons_of_mem _ a)⟩
      · exact N p hp
  · rcases three p hp with hp | hp
    · exact .tail _ (List.mem_append_left _ hp)
    · exact up (R.sub p hp)
  · rcases List.mem_append.mp hq with hq | hq
    · exact fun q' => h1 p (R.sub p (List.mem_append_left _ hp)) (List.mem_cons_of_mem _ (q' ▸ off hq))
    · exact R.apart p hp q hq
  · by_cases q : b = c
    · subst q; rw [AHeap.set_same] at hb; cases hb; exact ⟨o, mc', List.mem_cons_self .., hn, he⟩
    · rw [AHeap.set_ne _ _ q] at hb
      exact (R.ob b bo hb).mono (fun _ _ x => x) (fun _ hm => up hm) fun _ _ eb _ hm => up hm
  · by_cases q : b = c
    · rcases three p hp with hp | hp
      · exact fun q' => hc (by rw [← q, ← q']; exact off hp)
      · rw [q]; exact nn _ (R.sub p hp)
    · rw [AHeap.set_ne _ _ q] at hb
      rcases three p hp with hp | hp
      · obtain ⟨o, ho⟩ := (R.ob b bo hb).key
        exact fun q => h1 _ ho (List.mem_cons_of_mem _ (by show b ∈ wr; rw [← q]; exact off hp))
      · exact R.off b bo hb p hp
  · rcases three p hp with hp | hp
    · obtain ⟨_, es, k, ho, _⟩ := R.ob b _ (keep hb).2
      exact fun q => h1 _ ho (List.mem_cons_of_mem _ (by show δ b ∈ wr; rw [← q]; exact off hp))
    · exact R.doff b c' as' (keep hb).2 p hp
  · rw [AHeap.set_ne _ _ (dn b c' as' (keep hb).2)]; exact R.dσ b c' as' (keep hb).2
theorem SX.unname {fz : Fz} {wr : List Addr} {s : Shared} {own : Fz} {c : Addr} {as : List (Str × AVal)} {σ' : AHeap} {k : Option (Scope × List (Str × Addr) × Addr)} (hl : ∀ b ∈ wr, ∃ o, (b, o) ∈ own) (hp : ∀ p ∈ f.pin, p.1 ∉ wr) (h2 : f.L ∉ wr) (h3 : ∀ b ∈ wr, f.h₀.get? b = none)
    (x : SR C (f.withComp k (own ++ f.pin)) fz m σ s) (hc : σ c = some (.ns as)) (hσ : σ'.le σ) (hσc : σ' c = none) : SX C f fz m σ' (c :: wr) s ∧ ∃ mc', s.heap.Ns c mc' := by
  have x' : SR C (f.withPin (own ++ f.pin)) fz m σ s := x
  have x'' := SX.unpin hl hp h2 h3 x'
  obtain ⟨mc, news, δ, F, N, R, e, g1, g2, g3⟩ := x''
  obtain ⟨o, mc', hm, hn, _⟩ := R.ob c _ hc
  have hN := N _ hm
  have inst : ∀ {a c' as'}, σ' a = some (.inst c' as') → σ a = some (.inst c' as') := fun h => hσ _ _ h
  have dc : ∀ a c' as', σ a = some (.inst c' as') → δ a ≠ c := fun a c' as' h q => by have := R.dσ a c' as' h; rw [q, hc] at this; cases this
  have keepM : ∀ {p : Addr × Obj}, p ∈ news → p.1 ≠ c → p ∈ news.filter (fun p => decide (p.1 ≠ c)) := fun h q => List.mem_filter.mpr ⟨h, by simpa using q⟩
  have ne : ∀ {a ao}, σ' a = some ao → a ≠ c := fun h q => by rw [q, hσc] at h; cases h
  refine ⟨⟨mc, news.filter (fun p => decide (p.1 ≠ c)), δ, F, fun p hp => N p (List.mem_filter.mp hp).1, ⟨fun p hp => keepM (R.sub p hp) (R.off c _ hc p hp), R.apart, fun a ao h => (R.ob a ao (hσ _ _ h)).mono (fun _ _ z => z) (fun _ q => keepM q (ne h)) fun c' as' ea _ q => keepM q (dc a c' as' (inst (ea ▸ h))), fun a ao h => R.off a ao (hσ _ _ h), fun a c' as' h => R.doff a c' as' (inst h), fun a c' as' h => ?_, fun a c' as' b c'' bs q1 q2 => R.dinj a c' as' b c'' bs (inst q1) (inst q2)⟩, e, fun p hp q => ?_, fun q => ?_, fun b hb => ?_⟩, mc', hn.ns hN.1⟩
  · cases q : σ' (δ a) with
    | none => rfl
    | some o => have := hσ _ _ q; rw [R.dσ a c' as' (inst h)] at this; cases this
  · obtain ⟨q1, q2⟩ := List.mem_filter.mp hp
    rcases List.mem_cons.mp q with q | q
    · exact (by simpa using q2 : p.1 ≠ c) q
    · exact g1 p q1 q
  · rcases List.mem_cons.mp q with q | q
    · exact hN.2.1 q.symm
    · exact g2 q
  · rcases List.mem_cons.mp hb with rfl | hb
    · exact hN.2.2
    · exact g3 b hb
theorem Fm.Ok.comp {n : Nat} {sc : Scope} {cl : List (Str × Addr)} {c : Addr} {p : Fz} (ok : f.Ok C n) (hk : sc.kind = .function) : (f.withComp (some (sc, cl, c)) p).Ok C n := ⟨ok.below, ok.kin, ok.top, ok.hk, ok.stack, ok.handled, ok.guards, ok.depth, ok.units, ok.kind, hk⟩

theorem comp_block {elt iter : Expr} {x : Str} {px : Pos} {ifs : List Expr} {scope : Scope} {cl : List (Str × Addr)} {pos : Pos} {fz₂ : Fz} {σ₂ : AHeap} {I : Addr} {wr : List Addr} {xs : List AVal} {St : Nat → Heap → Prop} {Lent : Heap → Prop} {back : AHeap → AHeap} {s₂ : Shared} {E : Value → Shared → Prop} {RR : Value → Addr → Result → Shared → Prop}
    (Inv : List AVal → List AVal → AHeap → Prop) (ok : f.Ok C n) (hcf : f.comp = none) (hcell : ∀ y ∈ scope.names, y.2 ≠ .cell) (hkind : scope.kind = .function) (hx : scope.names.lookup x = some .local)
    (x2 : SX C f fz₂ m σ₂ wr s₂) (W : Wk C f fz₂ I wr xs St Lent back) (st : St 0 s₂.heap) (hz : xs.length ≤ sizeLine) (q2 : Inv xs [] σ₂)
    (turn : ∀ pin c v xs ys σ', Inv (v :: xs) ys σ' → σ' c = none → WQ C n (f.withComp (some (scope, cl, c)) pin) ifs m (σ'.set c (.ns [(x, v)])) fun b σ₁ => if b = true then WE C n (f.withComp (some (scope, cl, c)) pin) elt m σ₁ fun y σ₂ => (∃ as, σ₂ c = some (.ns as)) ∧ ∃ σ₃ : AHeap, σ₃.le σ₂ ∧ σ₃ c = none ∧ Inv xs (ys ++ [y]) σ₃ else (∃ as, σ₁ c = some (.ns as)) ∧ ∃ σ₃ : AHeap, σ₃.le σ₁ ∧ σ₃ c = none ∧ Inv xs ys σ₃)
    (done : ∀ c D fz' σ' ys vs k h tk mc', (∀ p ∈ fz₂, p ∈ fz') → SX C f fz' m σ' (c :: D :: wr) { s₂ with heap := h, toks := tk } → c ∉ wr → D ∉ wr → c ≠ D → h.Ns c mc' → h.get? D = some (listOf vs.toArray k) → Vs (At C fz') vs ys → Lent h → Inv [] ys σ' → RR (.ref D) c (.ok .next) { s₂ with heap := h, toks := tk }) :
    wpAny (Md C) f.A (newList []) (fun acc s₃ => wpAny (Md C) f.A (newFunctionEnv scope f.env.globals cl [] f.env.qual none .none (some f.env)) (fun cenv s₄ =>
      codeAny (Md C) f.A (.compStart (.ListComp elt [⟨.Name x px, iter, ifs, 0⟩] scope pos) 0 (.ref I) acc { cenv with scope := relabel scope f.env }) (RR acc cenv.locals) s₄) E s₃) E s₂ := by
  have hfe : f.env = f.fenv := by unfold Fm.env; rw [hcf]
  refine wpAny_newObj_type (wpAny_newFunctionEnv hcell (by intro y hy; simp at hy) (fun h₁ hns₁ hsb₁ => ?_) hkind)
  dsimp only at hns₁ hsb₁ ⊢
  generalize hH2 : s₂.heap.push { cls := .type "list", dict := none, data := .seq ([] : List Value).toArray } = H2 at hns₁ hsb₁ ⊢
  have hC : H2.objs.size = s₂.heap.objs.size + 1 := by rw [← hH2, Heap.size_push]
  have hDC : s₂.heap.objs.size ≠ H2.objs.size := by rw [hC]; exact Nat.ne_of_lt (Nat.lt_succ_self _)
  have below : ∀ b, b < s₂.heap.objs.size → b ≠ H2.objs.size ∧ b ≠ s₂.heap.objs.size := fun b hb => ⟨by rw [hC]; exact Nat.ne_of_lt (Nat.lt_succ_of_lt hb), Nat.ne_of_lt hb⟩
  have old : ∀ b o, s₂.heap.get? b = some o → h₁.get? b = some o := fun b o e => hsb₁.extBut b o (below b (Heap.lt_size e)).1 (Heap.get?_push_of_some _ (hH2 ▸ Heap.get?_push_of_some _ e))
  have hacc : h₁.get? s₂.heap.objs.size = some (listOf ([] : List Value).toArray 0) := hsb₁.extBut _ _ hDC (Heap.get?_push_of_some _ (hH2 ▸ Heap.get?_push_size _ rfl))
  generalize hD : s₂.heap.objs.size = D at *
  generalize hCc : H2.objs.size = c at *
  have wlt : ∀ b ∈ wr, b < D := fun b hb => by obtain ⟨o, ho⟩ := W.live _ _ st b hb; rw [← hD]; exact Heap.lt_size ho
  have hDw : D ∉ wr := fun q => Nat.lt_irrefl _ (wlt _ q)
  have hcw : c ∉ wr := fun q => by exact absurd (wlt _ q) (by rw [hC]; exact Nat.not_lt.mpr (Nat.le_succ _))
  have hst₁ : St 0 h₁ := W.frame _ _ _ st (fun b _ o e => old b o e) fun b o q => by
    rcases q with q | q
    · exact old _ _ (x2.sr.at_ ok q)
    · obtain ⟨mc, news, δ, F, N, R, e, _⟩ := x2
      exact old _ _ (N _ (R.sub _ (List.mem_append_right _ q))).1
  have x3 : SX C f fz₂ m σ₂ (c :: D :: wr) { s₂ with heap := h₁, toks := s₂.toks + ([] : List (Str × Value)).length } := x2.wide (t := s₂.toks + ([] : List (Str × Value)).length) [c, D] old (fun b hb => by
    rcases List.mem_cons.mp hb with rfl | hb
    · rw [hC, hD]; exact Nat.le_succ _
    · rw [List.mem_singleton.mp hb, hD]; exact Nat.le_refl _)
  have hpin : ∀ p ∈ f.pin, p.1 ∉ D :: wr := by
    obtain ⟨mc, news, δ, F, N, R, e, h1, h2, h3⟩ := x3
    exact fun p hp q => h1 p (R.sub p (List.mem_append_right _ hp)) (List.mem_cons_of_mem _ q)
  have hL : f.L ∉ D :: wr := by obtain ⟨mc, news, δ, F, N, R, e, h1, h2, h3⟩ := x3; exact fun q => h2 (List.mem_cons_of_mem _ q)
  have h0 : ∀ b ∈ D :: wr, f.h₀.get? b = none := by obtain ⟨mc, news, δ, F, N, R, e, h1, h2, h3⟩ := x3; exact fun b hb => h3 b (List.mem_cons_of_mem _ hb)
  have hcD : c ∉ D :: wr := fun q => by
    rcases List.mem_cons.mp q with q | q
    · exact hDC q.symm
    · exact hcw q
  have loop : ∀ s₃ : Shared, s₃ = { s₂ with heap := h₁, toks := s₂.toks + ([] : List (Str × Value)).length } →
      codeAny (Md C) f.A (.compLoop (.ListComp elt [⟨.Name x px, iter, ifs, 0⟩] scope pos) 0 (.ref I) (.ref D) (compEnvC scope cl c f.env)) (RR (.ref D) c) s₃ := by
    rintro s₃ rfl
    refine codeAny_compLoop_tests (fun k s' => ∃ fz' σ' i h tk ys vs kk mc', s' = { s₂ with heap := h, toks := tk } ∧ (∀ p ∈ fz₂, p ∈ fz') ∧ SX C f fz' m σ' (c :: D :: wr) s' ∧ h.Ns c mc' ∧ h.get? D = some (listOf vs.toArray kk) ∧ Vs (At C fz') vs ys ∧ ys.length ≤ i ∧ St i h ∧ Inv (xs.drop i) ys σ' ∧ i ≤ xs.length ∧ k = xs.length - i) ?_ xs.length
      ⟨fz₂, σ₂, 0, h₁, _, [], [], 0, _, rfl, sub_refl, x3, hns₁, hacc, .nil, Nat.le_refl _, hst₁, q2, Nat.zero_le _, rfl⟩
    rintro k s' ⟨fz', σ', i, h, tk, ys, vs, kk, mc', rfl, u3, x4, hns, hD4, hvs, hyl, st4, q4, hi, rfl⟩
    cases hxi : xs[i]? with
    | none =>
      have hlen : i = xs.length := by have := List.getElem?_eq_none_iff.mp hxi; omega
      subst hlen
      refine W.done _ _ _ st4 fun h' tk' kp hl => ?_
      rw [List.drop_length] at q4
      exact done c D fz' σ' ys vs kk h' tk' mc' u3 (x4.step (t := tk') fun b o hb e => kp b o (fun q => hb (List.mem_cons_of_mem _ (List.mem_cons_of_mem _ q))) e) hcw hDw (Ne.symm hDC) (hns.at' fun o e => kp _ o hcw e) (kp _ _ hDw hD4) hvs hl q4
    | some b =>
      obtain ⟨hlt, hb⟩ := List.getElem?_eq_some_iff.mp hxi
      have hd : xs.drop i = b :: xs.drop (i + 1) := by rw [List.drop_eq_getElem_cons hlt, hb]
      rw [hd] at q4
      refine W.go i _ _ _ b hxi st4 fun v h₂ tk₂ hv st5 kp => ?_
      refine wpAny_assign_Name (wpAny_storeName_local (lookup_relabel_local hx) (hns.at' fun o e => kp _ o hcw e) (fun h₃ hn₃ hs₃ => ?_) (by simp [compEnvC, relabel, hkind]))
      have x5 : SX C f fz' m σ' (c :: D :: wr) { s₂ with heap := h₃, toks := tk₂ + 1 } := x4.step (t := tk₂ + 1) fun b o hb e => hs₃.extBut b o (fun q => hb (by rw [q]; exact List.mem_cons_self ..)) (kp b o (fun q => hb (List.mem_cons_of_mem _ (List.mem_cons_of_mem _ q))) e)
      have hD5 : h₃.get? D = some (listOf vs.toArray kk) := hs₃.extBut _ _ hDC (kp _ _ hDw hD4)
      have st6 : St (i + 1) h₃ := by
        refine W.frame _ _ _ st5 (fun b hb o e => hs₃.extBut b o (fun q => hcw (by have q' : b = c := q; rw [← q']; exact hb)) e) fun b o q => ?_
        rcases q with q | q
        · exact x5.sr.at_ ok (q.mono u3)
        · obtain ⟨mc, news, δ, F, N, R, e, _⟩ := x5
          exact (N _ (R.sub _ (List.mem_append_right _ q))).1
      have he : ER (At C fz') [(x, b)] (fun y => if y = x then some v else mc' y) := fun y a hy => by
        unfold getA at hy
        by_cases q : (x == y) = true
        · rw [if_pos q] at hy; cases hy
          have : x = y := by simpa using q
          exact ⟨v, if_pos this.symm, hv.up u3⟩
        · rw [if_neg q] at hy; cases hy
      obtain ⟨hcn, x6⟩ := SX.names (k := some (scope, cl, c)) x5 hcD hn₃ he
      have hee : compEnvC scope cl c f.env = (f.withComp (some (scope, cl, c)) (ownP (D :: wr) h₃ ++ f.pin)).env := by rw [hfe]
      have live : ∀ b ∈ D :: wr, ∃ o, (b, o) ∈ ownP (D :: wr) h₃ := fun b hb => by
        rcases List.mem_cons.mp hb with rfl | hb'
        · exact ⟨_, mem_ownP.mpr ⟨hb, hD5⟩⟩
        · obtain ⟨o, ho⟩ := W.live _ _ st6 b hb'; exact ⟨o, mem_ownP.mpr ⟨hb, ho⟩⟩
      have after : ∀ {fz₇ σ₇ s₇}, (∀ p ∈ fz', p ∈ fz₇) → SR C (f.withComp (some (scope, cl, c)) (ownP (D :: wr) h₃ ++ f.pin)) fz₇ m σ₇ s₇ → St (i + 1) s₇.heap ∧ s₇.heap.get? D = some (listOf vs.toArray kk) := by
        intro fz₇ σ₇ s₇ u7 x7
        have pinned : ∀ {b o}, (b, o) ∈ ownP (D :: wr) h₃ ++ f.pin → s₇.heap.get? b = some o := fun {b o} hm => by
          obtain ⟨mc, news, δ, F, N, R, e⟩ := x7
          exact (N _ (R.sub _ (List.mem_append_right _ hm))).1
        refine ⟨W.frame _ _ _ st6 (fun b hb o ho => pinned (List.mem_append_left _ (mem_ownP.mpr ⟨List.mem_cons_of_mem _ hb, ho⟩))) fun b o q => ?_, pinned (List.mem_append_left _ (mem_ownP.mpr ⟨List.mem_cons_self .., hD5⟩))⟩
        rcases q with q | q
        · exact x7.at_ (ok.comp hkind) ((q.mono u3).mono u7)
        · exact pinned (List.mem_append_right _ q)
      rw [hee]
      refine wpAny_mono (turn (ownP (D :: wr) h₃ ++ f.pin) c b _ ys σ' q4 hcn (ok.comp hkind) fz' _ _ x6) (fun bb s₇ hq => hq.el fun fz₇ σ₇ u7 e7 x7 q7 => ?_) fun _ _ x => x
      cases bb with
      | false =>
        rw [if_neg (by decide)] at q7 ⊢
        obtain ⟨⟨as, has⟩, σ₃, hle, hσc, q7⟩ := q7
        obtain ⟨x8, mc8, hn8⟩ := SX.unname live hpin hL h0 x7 has hle hσc
        obtain ⟨st8, hD8⟩ := after u7 x7
        obtain ⟨hh, tt, ee⟩ := e7
        subst ee
        exact ⟨xs.length - (i + 1), by omega, fz₇, σ₃, i + 1, hh, tt, ys, vs, kk, mc8, rfl, fun p hp => u7 p (u3 p hp), x8, hn8, hD8, hvs.up u7, by omega, st8, q7, hlt, rfl⟩
      | true =>
        rw [if_pos rfl] at q7 ⊢
        refine wpAny_mono (q7 (ok.comp hkind) fz₇ s₇ _ x7) (fun y s₈ hq => hq.el fun fz₈ σ₈ ya u8 e8 x8 vy q8 => ?_) fun _ _ x => x
        obtain ⟨⟨as, has⟩, σ₃, hle, hσc, q8⟩ := q8
        obtain ⟨x9, mc9, hn9⟩ := SX.unname live hpin hL h0 x8 has hle hσc
        obtain ⟨st9, hD9⟩ := after (fun p hp => u8 p (u7 p hp)) x8
        obtain ⟨hh, tt, ee⟩ := e7.trans e8
        subst ee
        refine append_at (hsz := by rw [List.size_toArray, hvs.length]; omega) hD9 fun h₅ hs₅ hD₅ => ?_
        refine ⟨xs.length - (i + 1), by omega, fz₈, σ₃, i + 1, h₅, tt, ys ++ [ya], vs ++ [y], kk + 1, mc9, rfl, fun p hp => u8 p (u7 p (u3 p hp)), x9.step (t := tt) fun b o hb e => hs₅.extBut b o (fun q => hb (by rw [q]; exact List.mem_cons_of_mem _ (List.mem_cons_self ..))) e, hn9.sameBut hs₅ (Ne.symm hDC), by simpa using hD₅, ((hvs.up u7).up u8).append (.cons vy .nil), by simp; omega, ?_, q8, hlt, rfl⟩
        refine W.frame _ _ _ st9 (fun b hb o e => hs₅.extBut b o (fun q => hDw (q ▸ hb)) e) fun b o q => ?_
        have ne : b ≠ D := fun e => by
          rcases q with q | q
          · rcases q with q | q
            · obtain ⟨mc, news, δ, F, N, R, e', g1, g2, g3⟩ := x2.wide (t := s₂.toks) [c, D] old (fun b hb => by
                rcases List.mem_cons.mp hb with rfl | hb
                · rw [hC, hD]; exact Nat.le_succ _
                · rw [List.mem_singleton.mp hb, hD]; exact Nat.le_refl _)
              exact g1 _ (R.sub _ (List.mem_append_left _ q)) (by rw [e]; exact List.mem_cons_of_mem _ (List.mem_cons_self ..))
            · have := ok.hk _ _ q; rw [e, h0 D (List.mem_cons_self ..)] at this; cases this
          · exact hpin _ q (by rw [e]; exact List.mem_cons_self ..)
        have : hh.get? b = some o := by
          rcases q with q | q
          · exact x8.at_ (ok.comp hkind) (((q.mono u3).mono u7).mono u8)
          · obtain ⟨mc, news, δ, F, N, R, e⟩ := x8
            exact (N _ (R.sub _ (List.mem_append_right _ (List.mem_append_right _ q)))).1
        exact hs₅.extBut b o ne this
  exact codeAny_compStart_list (loop _ rfl) (W.self 0 _ _ _ hst₁ (loop _ rfl))

/-- a row built from a walk: as a value -/
theorem we_compB {elt iter : Expr} {x : Str} {px : Pos} {ifs : List Expr} {scope : Scope} {cl : List (Str × Addr)} {pos : Pos} {Q : AVal → AHeap → Prop} (Inv : (AHeap → AHeap) → List AVal → List AVal → AHeap → Prop)
    (hclos : closureFor scope f.env = pure cl)
    (h : WI C n f iter m σ fun back xs σ₂ => xs.length ≤ sizeLine ∧ Inv back xs [] σ₂)
    (turn : ∀ back pin c v xs ys σ', Inv back (v :: xs) ys σ' → σ' c = none → WQ C n (f.withComp (some (scope, cl, c)) pin) ifs m (σ'.set c (.ns [(x, v)])) fun b σ₁ => if b = true then WE C n (f.withComp (some (scope, cl, c)) pin) elt m σ₁ fun y σ₂ => (∃ as, σ₂ c = some (.ns as)) ∧ ∃ σ₃ : AHeap, σ₃.le σ₂ ∧ σ₃ c = none ∧ Inv back xs (ys ++ [y]) σ₃ else (∃ as, σ₁ c = some (.ns as)) ∧ ∃ σ₃ : AHeap, σ₃.le σ₁ ∧ σ₃ c = none ∧ Inv back xs ys σ₃)
    (done : ∀ back ys σ', Inv back [] ys σ' → Q (.lst ys) (back σ'))
    (hcf : f.comp = none := by rfl) (hcell : ∀ y ∈ scope.names, y.2 ≠ .cell := by decide) (hkind : scope.kind = .function := by rfl) (hnames : ∀ y ∈ scope.names, y.2 = .local → scope.names.lookup y.1 = some .local := by decide) (hx : scope.names.lookup x = some .local := by rfl)
    (hs : ∀ x, foldedSetIterable iter f.env x = pure x := by intro _; rfl) : WE C n f (.ListComp elt [⟨.Name x px, iter, ifs, 0⟩] scope pos) m σ Q := fun ok fz s E x0 => by
  rw [eval_ListComp]
  refine wpAny_comprehension_free (use := none) rfl hs hclos hkind hnames (wpAny_mono (h ok fz s E x0) (fun v s₁ q1 => wpAny_mono q1 (fun it s₂ ⟨fz₂, σ₂, I, wr, xs, St, Lent, back, ei, u2, e2, x2, W, st, hz, q2⟩ => ?_) fun _ _ x => x) fun _ _ x => x)
  subst ei
  refine comp_block (RR := fun acc c => compPost (Md C) f.A E none (PV C f m fz s Q) acc c) (Inv back) ok hcf hcell hkind hx x2 W st hz q2 (fun pin c v xs ys σ' => turn back pin c v xs ys σ') ?_
  intro c D fz' σ' ys vs k h tk mc' u3 x3 hcw hDw hcD hns hD hvs hl q3
  refine ⟨mc', hns, fun h'' hs'' => ?_⟩
  have hk : ∀ b o, b ∉ c :: D :: wr → h.get? b = some o → h''.get? b = some o := fun b o hb e => hs''.extBut b o (fun q => hb (by rw [q]; exact List.mem_cons_self ..)) e
  have x4 : SX C f fz' m σ' (c :: D :: wr) { s₂ with heap := h'', toks := tk } := x3.step (t := tk) hk
  have x5 : SX C f fz' m σ' (D :: wr) { s₂ with heap := h'', toks := tk } := x4.sub fun b hb => List.mem_cons_of_mem _ hb
  have hD' : h''.get? D = some (listOf vs.toArray k) := hs''.extBut _ _ (Ne.symm hcD) hD
  have x6 := x5.ice hDw hD'
  have x7 := W.back _ _ _ _ (fun p hp => List.mem_append_right _ (u3 p hp)) x6 (W.lentF _ _ hl fun b hb o e => hs''.extBut b o (fun q => hcw (q ▸ hb)) e)
  exact ⟨_, _, .lst ys, fun p hp => List.mem_append_right _ (u3 p (u2 p hp)), e2.trans ⟨_, _, rfl⟩, x7, .lst (.inl (List.mem_append_left _ (List.mem_singleton.mpr rfl))) rfl rfl (hvs.up fun p hp => List.mem_append_right _ hp), done _ _ _ q3⟩
end
end Mine

open PySem PySem.W PyProof.Rows PySem.Calls
namespace Mine
section
variable {C : Cx} {n : Nat} {f : Fm} {m : AEnv} {σ : AHeap}
theorem HR.addThing {fz pin : Fz} {δ : Addr → Addr} {news : List (Addr × Obj)} {D : Addr} {o : Obj} {ao : AObj} (R : HR C fz pin σ δ news) (hn : ∀ c as, ao ≠ .inst c as) (nn : ∀ q ∈ news, q.1 ≠ D) (hr : ∀ news d, (D, o) ∈ news → OR (At C fz) news d D ao) : HR C fz pin (σ.set D ao) δ ((D, o) :: news) := by
  have keep : ∀ {b c as}, σ.set D ao b = some (.inst c as) → b ≠ D ∧ σ b = some (.inst c as) := fun {b c as} hb => by
    by_cases q : b = D
    · subst q; rw [AHeap.set_same] at hb; exact absurd (Option.some.inj hb) (hn _ _)
    · rw [AHeap.set_ne _ _ q] at hb; exact ⟨q, hb⟩
  have dn : ∀ b c as, σ b = some (.inst c as) → δ b ≠ D := fun b c as hb => by obtain ⟨_, es, n, h, _⟩ := R.ob b _ hb; exact nn _ h
  refine ⟨fun p hp => .tail _ (R.sub p hp), R.apart, fun b bo hb => ?_, fun b bo hb p hp => ?_, fun b c as hb p hp => R.doff b c as (keep hb).2 p hp, fun b c as hb => ?_, fun b c as b' c' bs h1 h2 => R.dinj b c as b' c' bs (keep h1).2 (keep h2).2⟩
  · by_cases q : b = D
    · subst q; rw [AHeap.set_same] at hb; cases hb; exact hr _ _ (List.mem_cons_self ..)
    · rw [AHeap.set_ne _ _ q] at hb
      exact (R.ob b bo hb).mono (fun _ _ x => x) (fun _ hm => .tail _ hm) fun c as eb _ hm => .tail _ hm
  · by_cases q : b = D
    · subst q; exact nn _ (R.sub p hp)
    · rw [AHeap.set_ne _ _ q] at hb; exact R.off b bo hb p hp
  · rw [AHeap.set_ne _ _ (dn b c as (keep hb).2)]; exact R.dσ b c as (keep hb).2

/-! ## a def of the text, with cells -/
def cellS (cm : Str → Option AVal) : List (Str × Addr) → AHeap → AHeap
  | [], σ => σ
  | (y, c) :: r, σ => (cellS cm r σ).set c (.cell (cm y))
theorem HR.addCells {fz pin : Fz} {δ : Addr → Addr} {news : List (Addr × Obj)} {cm : Str → Option Value} {acm : Str → Option AVal} (R : HR C fz pin σ δ news) :
    ∀ {cs : List (Str × Addr)} {cells : List (Addr × Obj)}, CellsAre cm cs cells → (cs.map (·.2)).Nodup → (∀ p ∈ cs, ∀ q ∈ news, q.1 ≠ p.2) → (∀ p ∈ cs, (cm p.1 = none ∧ acm p.1 = none) ∨ ∃ v a, cm p.1 = some v ∧ acm p.1 = some a ∧ V (At C fz) v a) → HR C fz pin (cellS acm cs σ) δ (cells ++ news)
  | _, _, .nil, _, _, _ => R
  | _, _, .cons (n := y) (c := c) (o := o) (cs := cs) (cells := cells) hd r, hnd, hoff, hval => by
    have hnd' := List.nodup_cons.mp (by simpa using hnd : (c :: cs.map (·.2)).Nodup)
    have ih := R.addCells r hnd'.2 (fun p hp => hoff p (List.mem_cons_of_mem _ hp)) (fun p hp => hval p (List.mem_cons_of_mem _ hp))
    have keys : ∀ {cs : List (Str × Addr)} {cells : List (Addr × Obj)}, CellsAre cm cs cells → ∀ q ∈ cells, q.1 ∈ cs.map (·.2) := by
      intro cs cells h
      induction h with
      | nil => intro q hq; cases hq
      | cons _ _ ih =>
        intro q hq
        rcases List.mem_cons.mp hq with rfl | hq
        · exact List.mem_cons_self ..
        · exact List.mem_cons_of_mem _ (ih q hq)
    refine ih.addThing (ao := .cell (acm y)) (fun _ _ => nofun) (fun q hq e => ?_) fun news d hm => ?_
    · rcases List.mem_append.mp hq with hq | hq
      · exact hnd'.1 (by rw [← e]; exact keys r q hq)
      · exact hoff (y, c) (List.mem_cons_self ..) q hq e
    · rcases hval (y, c) (List.mem_cons_self ..) with ⟨h1, h2⟩ | ⟨v, a, h1, h2, h3⟩
      · have h1' : cm y = none := h1
        have h2' : acm y = none := h2
        rw [h2']; exact ⟨o, hm, by rw [hd, h1']⟩
      · have h1' : cm y = some v := h1
        have h2' : acm y = some a := h2
        rw [h2']; exact ⟨o, v, hm, by rw [hd, h1'], h3⟩
theorem cellsFrom_nd : ∀ (names : List (Str × NameKind)) (k : Nat) (acc : List (Str × Addr)), (acc.map (·.2)).Nodup → (∀ p ∈ acc, p.2 < k) → ((cellsFrom k names acc).map (·.2)).Nodup ∧ ∀ p ∈ cellsFrom k names acc, p ∈ acc ∨ k ≤ p.2
  | [], _, acc, h, _ => ⟨h, fun p hp => .inl hp⟩
  | (y, kd) :: r, k, acc, h, hl => by
    unfold cellsFrom
    by_cases hk : (kd == .cell) = true
    · rw [if_pos hk]
      obtain ⟨h1, h2⟩ := cellsFrom_nd r (k + 1) ((y, k) :: acc) (by
        rw [List.map_cons, List.nodup_cons]
        refine ⟨fun hm => ?_, h⟩
        obtain ⟨p, hp, e⟩ := List.mem_map.mp hm
        have := hl p hp
        have e' : p.2 = k := e
        rw [e'] at this
        exact Nat.lt_irrefl _ this) (fun p hp => by
        rcases List.mem_cons.mp hp with rfl | hp
        · exact Nat.lt_succ_self _
        · exact Nat.lt_succ_of_lt (hl p hp))
      refine ⟨h1, fun p hp => ?_⟩
      rcases h2 p hp with q | q
      · rcases List.mem_cons.mp q with rfl | q
        · exact .inr (Nat.le_refl _)
        · exact .inl q
      · exact .inr (Nat.le_of_succ_le q)
    · rw [if_neg hk]; exact cellsFrom_nd r k acc h hl
theorem bindL_off {kd : Str → Option NameKind} {y : Str} : ∀ {b : List (Str × Value)} {m : Str → Option Value}, y ∉ b.map (·.1) → bindL kd b m y = m y
  | [], _, _ => rfl
  | (z, v) :: r, m, h => by
    unfold bindL
    have h1 : y ≠ z := fun e => h (by rw [e]; exact List.mem_cons_self ..)
    rw [bindL_off fun q => h (List.mem_cons_of_mem _ q)]
    split
    · exact if_neg h1
    · rfl
theorem bindC_off {kd : Str → Option NameKind} {y : Str} : ∀ {b : List (Str × Value)} {m : Str → Option Value}, y ∉ b.map (·.1) → bindC kd b m y = m y
  | [], _, _ => rfl
  | (z, v) :: r, m, h => by
    unfold bindC
    have h1 : y ≠ z := fun e => h (by rw [e]; exact List.mem_cons_self ..)
    rw [bindC_off fun q => h (List.mem_cons_of_mem _ q)]
    split
    · rfl
    · exact if_neg h1
theorem zip_keys {α : Type} : ∀ {ns : List Str} {vs : List α} {y : Str}, y ∈ (ns.zip vs).map (·.1) → y ∈ ns
  | [], _, _, h => by simp at h
  | _ :: _, [], _, h => by simp at h
  | z :: ns, v :: vs, y, h => by
    rcases List.mem_cons.mp (by simpa using h : y ∈ z :: (ns.zip vs).map (·.1)) with rfl | h
    · exact List.mem_cons_self ..
    · exact List.mem_cons_of_mem _ (zip_keys h)
theorem bind_get {P : Addr → Obj → Prop} {kd : Str → Option NameKind} {y : Str} {a : AVal} : ∀ {ns : List Str} {vs : List Value} {as : List AVal} {m : Str → Option Value}, Vs P vs as → ns.Nodup → getA y (ns.zip as) = some a → ∃ v, V P v a ∧ (kd y = some .local → bindL kd (ns.zip vs) m y = some v) ∧ (kd y ≠ some .local → bindC kd (ns.zip vs) m y = some v)
  | [], _, _, _, _, _, h => by simp [getA] at h
  | _ :: _, _, _, _, .nil, _, h => by simp [getA] at h
  | z :: ns, v :: vs, x :: as, m, .cons h1 h2, nd, h => by
    obtain ⟨n1, n2⟩ := List.nodup_cons.mp nd
    rw [List.zip_cons_cons] at h
    unfold getA at h
    by_cases q : (z == y) = true
    · rw [if_pos q] at h; cases h
      have q' : z = y := by simpa using q
      subst q'
      refine ⟨v, h1, fun hk => ?_, fun hk => ?_⟩
      · rw [List.zip_cons_cons]; unfold bindL
        rw [bindL_off fun q => n1 (zip_keys q), if_pos hk]; exact if_pos rfl
      · rw [List.zip_cons_cons]; unfold bindC
        rw [bindC_off fun q => n1 (zip_keys q), if_neg hk]; exact if_pos rfl
    · rw [if_neg q] at h
      obtain ⟨u, g1, g2, g3⟩ := bind_get (m := if kd z = some .local then fun y => if y = z then some v else m y else m) h2 n2 h
      obtain ⟨u', g1', g2', g3'⟩ := bind_get (kd := kd) (m := if kd z = some .local then m else fun y => if y = z then some v else m y) h2 n2 h
      by_cases hk : kd y = some .local
      · exact ⟨u, g1, fun _ => by rw [List.zip_cons_cons]; exact g2 hk, fun e => absurd hk e⟩
      · exact ⟨u', g1', fun e => absurd e hk, fun _ => by rw [List.zip_cons_cons]; exact g3' hk⟩
theorem getA_none {y : Str} : ∀ {l : List (Str × AVal)}, getA y l = none → y ∉ l.map (·.1)
  | [], _, h => by simp at h
  | (z, a) :: r, e, h => by
    unfold getA at e
    by_cases q : (z == y) = true
    · rw [if_pos q] at e; cases e
    · rw [if_neg q] at e
      rcases List.mem_cons.mp (by simpa using h : y ∈ z :: r.map (·.1)) with rfl | h
      · simp at q
      · exact getA_none e h
theorem getA_filter {q : Str × AVal → Bool} {y : Str} {a : AVal} : ∀ {l : List (Str × AVal)}, (l.map (·.1)).Nodup → getA y (l.filter q) = some a → getA y l = some a ∧ ∃ a', q (y, a') = true
  | [], _, h => by simp [getA] at h
  | (z, b) :: r, nd, h => by
    obtain ⟨n1, n2⟩ := List.nodup_cons.mp (by simpa using nd : (z :: r.map (·.1)).Nodup)
    by_cases hq : q (z, b) = true
    · rw [List.filter_cons_of_pos hq] at h
      unfold getA at h ⊢
      by_cases e : (z == y) = true
      · rw [if_pos e] at h; rw [if_pos e]
        have : z = y := by simpa using e
        subst this
        exact ⟨h, b, hq⟩
      · rw [if_neg e] at h; rw [if_neg e]; exact getA_filter n2 h
    · rw [List.filter_cons_of_neg hq] at h
      obtain ⟨h1, h2⟩ := getA_filter n2 h
      refine ⟨?_, h2⟩
      unfold getA
      by_cases e : (z == y) = true
      · have : z = y := by simpa using e
        subst this
        have hm : z ∈ r.map (·.1) := by
          refine Classical.byContradiction fun hn => ?_
          have : getA z r = none := by
            clear h h1 h2 nd n2
            induction r with
            | nil => rfl
            | cons p r ih =>
              obtain ⟨w, c⟩ := p
              simp only [List.map_cons, List.mem_cons, not_or] at hn
              unfold getA
              have : ¬ (w == z) = true := by simpa using fun e : w = z => hn.1 e.symm
              rw [if_neg this]
              exact ih (by simpa using hn.2) hn.2
          rw [this] at h1; cases h1
        exact absurd hm n1
      · rw [if_neg e]; exact h1
end
end Mine

open PySem PySem.W PyProof.Rows PySem.Calls
namespace Mine
/-! ## data compared -/
mutual
inductive Rd (σ : AHeap) : AVal → PyData → Prop
  | none : Rd σ .none .none
  | bool (b : Bool) : Rd σ (.bool b) (.bool b)
  | int (i : Int) : Rd σ (.int i) (.int i)
  | str (x : Str) : Rd σ (.str x) (.str x)
  | lst {xs : List AVal} {ds : List PyData} : RdAll σ xs ds → Rd σ (.lst xs) (.list ds)
  | tup {xs : List AVal} {ds : List PyData} : RdAll σ xs ds → Rd σ (.tup xs) (.tuple ds)
  | obj {a : Addr} {xs : List AVal} {ds : List PyData} : σ a = some (.list xs) → RdAll σ xs ds → Rd σ (.obj a) (.list ds)
inductive RdAll (σ : AHeap) : List AVal → List PyData → Prop
  | nil : RdAll σ [] []
  | cons {a : AVal} {d : PyData} {xs : List AVal} {ds : List PyData} : Rd σ a d → RdAll σ xs ds → RdAll σ (a :: xs) (d :: ds)
end
section
variable {C : Cx} {n : Nat} {f : Fm} {m : AEnv} {σ : AHeap}
mutual
theorem Rd.reads {fz : Fz} {s : Shared} (ok : f.Ok C n) (x : SR C f fz m σ s) : ∀ {a : AVal} {d : PyData}, Rd σ a d → ∀ {v : Value}, V (At C fz) v a → ∃ as, Reads s.heap v d as
  | _, _, .none, _, h => by cases h; exact ⟨_, .none⟩
  | _, _, .bool b, _, h => by cases h; exact ⟨_, .bool b⟩
  | _, _, .int i, _, h => by cases h; exact ⟨_, .int i _⟩
  | _, _, .str y, _, h => by cases h; exact ⟨_, .str y _⟩
  | _, _, .lst r, _, h => by
    cases h with
    | lst h1 h2 h3 h4 => obtain ⟨as, q⟩ := RdAll.reads ok x r h4; exact ⟨_, .list (x.at_ ok h1) h2 h3 (by simpa using q)⟩
  | _, _, .tup r, _, h => by
    cases h with
    | tup h1 h2 h3 h4 => obtain ⟨as, q⟩ := RdAll.reads ok x r h4; exact ⟨_, .tuple (x.at_ ok h1) h2 h3 (by simpa using q)⟩
  | _, _, .obj e r, _, h => by
    cases h with
    | obj a =>
      obtain ⟨vs, k, h1, h2⟩ := x.list e
      obtain ⟨as, q⟩ := RdAll.reads ok x r h2
      exact ⟨_, .list h1 rfl rfl (by simpa using q)⟩
theorem RdAll.reads {fz : Fz} {s : Shared} (ok : f.Ok C n) (x : SR C f fz m σ s) : ∀ {xs : List AVal} {ds : List PyData}, RdAll σ xs ds → ∀ {vs : List Value}, Vs (At C fz) vs xs → ∃ as, ReadsAll s.heap vs ds as
  | _, _, .nil, _, h => by cases h; exact ⟨_, .nil⟩
  | _, _, .cons r rs, _, h => by
    cases h with
    | cons h1 h2 =>
      obtain ⟨as, q1⟩ := Rd.reads ok x r h1
      obtain ⟨bs, q2⟩ := RdAll.reads ok x rs h2
      exact ⟨_, .cons q1 q2⟩
end
def Dk (k : Nat) (d : PyData) : Prop := d.canLay0 = true ∧ d.depth ≤ k
theorem Dk.int {k : Nat} {i : Int} : Dk k (.int i) := ⟨rfl, Nat.zero_le _⟩
theorem Dk.none {k : Nat} : Dk k .none := ⟨rfl, Nat.zero_le _⟩
theorem Dk.str {k : Nat} {x : Str} (h : PyData.strOk x = true) : Dk k (.str x) := ⟨h, Nat.zero_le _⟩
theorem dk_all {k : Nat} : ∀ {ds : List PyData}, (∀ d ∈ ds, Dk k d) → PyData.canLayAll0 ds = true ∧ PyData.depthAll ds ≤ k
  | [], _ => ⟨rfl, Nat.zero_le _⟩
  | d :: ds, h => by
    obtain ⟨a, b⟩ := h d (List.mem_cons_self ..)
    obtain ⟨c, e⟩ := dk_all fun x hx => h x (List.mem_cons_of_mem _ hx)
    exact ⟨by rw [PyData.canLayAll0, a, c]; rfl, by rw [PyData.depthAll]; exact Nat.max_le.mpr ⟨b, e⟩⟩
theorem Dk.list {k : Nat} {ds : List PyData} (h : ∀ d ∈ ds, Dk k d) : Dk (k + 1) (.list ds) := by
  obtain ⟨a, b⟩ := dk_all h
  exact ⟨by rw [PyData.canLay0]; exact a, by rw [PyData.depth]; omega⟩
theorem Dk.shaped {k : Nat} {d : PyData} (h : Dk k d) (hk : k ≤ 64) : PySem.SeqAt.shaped d = true := by
  unfold PySem.SeqAt.shaped
  rw [h.1, Bool.true_and, decide_eq_true_eq]
  exact Nat.le_trans h.2 hk
theorem t2_eqD {a b : AVal} {da db : PyData} {k : Nat} {Q : AVal → AHeap → Prop} (ra : Rd σ a da) (rb : Rd σ b db) (ha : Dk k da) (hb : Dk k db) (h : Q (.bool (PyData.eqv da db)) σ) (hk : k ≤ 64 := by decide) : T2 C n f (compareOp .Eq) a b m σ Q := fun ok fz s E v w x hv hw => by
  obtain ⟨as, r1⟩ := ra.reads ok x hv
  obtain ⟨bs, r2⟩ := rb.reads ok x hw
  have := ok.units
  exact eq_dataH r1 r2 (ha.shaped hk) (hb.shaped hk) (by omega) (.here x (.bool _) h)
theorem t2_neD {a b : AVal} {da db : PyData} {k : Nat} {Q : AVal → AHeap → Prop} (ra : Rd σ a da) (rb : Rd σ b db) (ha : Dk k da) (hb : Dk k db) (h : Q (.bool (!PyData.eqv da db)) σ) (hk : k ≤ 64 := by decide) : T2 C n f (compareOp .NotEq) a b m σ Q := fun ok fz s E v w x hv hw => by
  obtain ⟨as, r1⟩ := ra.reads ok x hv
  obtain ⟨bs, r2⟩ := rb.reads ok x hw
  have := ok.units
  exact ne_dataH r1 r2 (ha.shaped hk) (hb.shaped hk) (by omega) (.here x (.bool _) h)
theorem t2_eqS {a b : AVal} {d : PyData} {k : Nat} {Q : AVal → AHeap → Prop} (ra : Rd σ a d) (rb : Rd σ b d) (hd : Dk k d) (h : Q (.bool true) σ) (hk : k ≤ 64 := by decide) : T2 C n f (compareOp .Eq) a b m σ Q :=
  t2_eqD ra rb hd hd (by rw [PySem.SeqAt.eqv_refl d hd.1]; exact h) hk
theorem t2_neS {a b : AVal} {d : PyData} {k : Nat} {Q : AVal → AHeap → Prop} (ra : Rd σ a d) (rb : Rd σ b d) (hd : Dk k d) (h : Q (.bool false) σ) (hk : k ≤ 64 := by decide) : T2 C n f (compareOp .NotEq) a b m σ Q :=
  t2_neD ra rb hd hd (by rw [PySem.SeqAt.eqv_refl d hd.1]; exact h) hk
theorem rdAll_ints : ∀ (ns : List Int), RdAll σ (ns.map .int) (ns.map .int)
  | [] => .nil
  | i :: ns => .cons (.int i) (rdAll_ints ns)
/-! ## attributes -/
theorem SR.ownD {fz : Fz} {s : Shared} (x : SR C f fz m σ s) {a c : Addr} {as : List (Str × AVal)} (h : σ a = some (.inst c as)) :
    ∃ d es k mc rest, s.heap.get? a = some (instObj c d) ∧ s.heap.get? d = some (dictOf es k) ∧ Es (At C fz) es as ∧ Fr f.h₀ f.L s.heap mc ∧ News f.h₀ f.L s.heap ((d, dictOf es k) :: rest) ∧ (∀ p ∈ rest, p.1 ≠ d) ∧ (a, instObj c d) ∈ rest ∧
      ∀ h' t es' k' as', Fr f.h₀ f.L h' mc → News f.h₀ f.L h' ((d, dictOf es' k') :: rest) → Es (At C fz) es' as' → SR C f fz m (σ.set a (.inst c as')) { s with heap := h', toks := t } := by
  obtain ⟨mc, news, δ, F, N, R, e⟩ := x
  obtain ⟨h1, es, k, h2, h3⟩ := R.ob a _ h
  have hne : a ≠ δ a := fun q => by have := R.dσ a c as h; rw [← q, h] at this; cases this
  have keepM : ∀ {p : Addr × Obj}, p ∈ news → p.1 ≠ δ a → p ∈ news.filter (fun p => decide (p.1 ≠ δ a)) := fun h q => List.mem_filter.mpr ⟨h, by simpa using q⟩
  refine ⟨δ a, es, k, mc, news.filter (fun p => decide (p.1 ≠ δ a)), (N _ h1).1, (N _ h2).1, h3, F, fun p hp => ?_, fun p hp => by simpa using (List.mem_filter.mp hp).2, keepM h1 hne, fun h' t es' k' as' F' N' hE => ?_⟩
  · rcases List.mem_cons.mp hp with rfl | hp
    · exact N _ h2
    · exact N _ (List.mem_filter.mp hp).1
  · have σne : ∀ b bo, σ b = some bo → b ≠ δ a := fun b bo hb q => by have := R.dσ a c as h; rw [← q, hb] at this; cases this
    have back : ∀ {b c' bs}, σ.set a (.inst c as') b = some (.inst c' bs) → ∃ bs', σ b = some (.inst c' bs') := fun {b c' bs} hb => by
      by_cases q : b = a
      · subst q; rw [AHeap.set_same] at hb; cases hb; exact ⟨as, h⟩
      · rw [AHeap.set_ne _ _ q] at hb; exact ⟨bs, hb⟩
    refine ⟨mc, _, δ, F', N', ⟨fun p hp => .tail _ (keepM (R.sub p hp) (R.doff a c as h p hp)), R.apart, fun b bo hb => ?_, fun b bo hb p hp => ?_, fun b c' bs hb p hp => ?_, fun b c' bs hb => ?_, fun b c' bs b' c'' bs' g1 g2 => ?_⟩, e⟩
    · by_cases q : b = a
      · subst q; rw [AHeap.set_same] at hb; cases hb
        exact ⟨.tail _ (keepM h1 hne), es', k', List.mem_cons_self .., hE⟩
      · rw [AHeap.set_ne _ _ q] at hb
        refine (R.ob b bo hb).mono (fun _ _ z => z) (fun _ hm => .tail _ (keepM hm (σne b bo hb))) fun c' bs eb _ hm => .tail _ (keepM hm fun q' => ?_)
        subst eb
        exact q (R.dinj b c' bs a c as hb h q')
    · by_cases q : b = a
      · subst q; exact R.off b _ h p hp
      · rw [AHeap.set_ne _ _ q] at hb; exact R.off b bo hb p hp
    · obtain ⟨bs', hb'⟩ := back hb; exact R.doff b c' bs' hb' p hp
    · obtain ⟨bs', hb'⟩ := back hb
      have hd := R.dσ b c' bs' hb'
      rw [AHeap.set_ne _ _ (fun q => by rw [q, h] at hd; cases hd)]; exact hd
    · obtain ⟨x1, y1⟩ := back g1; obtain ⟨x2, y2⟩ := back g2; exact R.dinj b c' x1 b' c'' x2 y1 y2
/-- an attribute stored, as a tree -/
def TW (C : Cx) (n : Nat) (f : Fm) (o : AVal) (name : Str) (y : AVal) (m : AEnv) (σ : AHeap) (Q : AHeap → Prop) : Prop :=
  f.Ok C n → ∀ fz s E vo vy, SR C f fz m σ s → V (At C fz) vo o → V (At C fz) vy y → wpAny (Md C) f.A (setAttr vo name vy) (fun _ s' => ∃ fz' σ', (∀ p ∈ fz, p ∈ fz') ∧ Same s s' ∧ SR C f fz' m σ' s' ∧ Q σ') E s
theorem tw_inst {a c : Addr} {as : List (Str × AVal)} {name : Str} {y : AVal} {Q : AHeap → Prop} (ha : σ a = some (.inst c as)) (hs : findIn C.K (.ref c) "__setattr__" = some (some (.builtin "object.__setattr__"))) (hp : plainOver C.K c = true) (ht : takerIn C.K c name = some none) (hh : hasDictIn C.K c = true)
    (hl : (setA name y as).length ≤ 1000) (h : Q (σ.set a (.inst c (setA name y as)))) : TW C n f (.obj a) name y m σ Q := fun ok fz s E vo vy x ho hy => by
  cases ho
  obtain ⟨d, es, k, mc, rest, h1, h2, h3, F, N, off, hm, back⟩ := x.ownD ha
  have hE := h3.put (x := name) (hh := PyData.keyHash C.w.params name) (t := s.toks + 1) hy
  refine set_dict (dx := d) F ok.kin N ⟨h1, rfl, rfl, h2⟩ rfl hs hp ht hh h3.isSome rfl (.head off) (by rw [hE.length]; exact hl) fun h' F' N' => ?_
  exact ⟨fz, _, sub_refl, ⟨h', s.toks + 2, rfl⟩, back h' (s.toks + 2) _ _ _ F' N' hE, h⟩
theorem w1_setAttr {o e : Expr} {name : Str} {tp pos : Pos} {Q : AFlow → AEnv → AHeap → Prop} (h : WE C n f e m σ fun y σ₁ => WE C n f o m σ₁ fun ov σ₂ => TW C n f ov name y m σ₂ fun σ₃ => Q .next m σ₃)
    (hs : swapsWith e (some (.Attribute o name tp)) pos.line f.env = pure false := by rfl) : W1 C n f (.Assign [.Attribute o name tp] e pos) m σ Q := fun ok fz s E x => by
  refine plainObj_wpAny_Assign_Attribute (wpAny_mono (h ok fz s E x) (fun v s₁ hq => hq.el fun fz₁ σ₁ a u1 e1 x1 va q1 => wpAny_mono (q1 ok fz₁ s₁ E x1) (fun ov s₂ hq => hq.el fun fz₂ σ₂ b u2 e2 x2 vb q2 => ?_) fun _ _ x => x) fun _ _ x => x) hs
  exact wpAny_mono (q2 ok fz₂ s₂ E ov v x2 vb (va.up u2)) (fun _ s₃ hq => PH.el hq fun fz₃ σ₃ u3 e3 x3 q3 => ⟨fz₃, σ₃, m, .next, fun p hp => u3 p (u2 p (u1 p hp)), (e1.trans e2).trans e3, x3, trivial, q3⟩) fun _ _ x => x
theorem we_attr {o : Expr} {name : Str} {pos : Pos} {Q : AVal → AHeap → Prop} (h : WE C n f o m σ fun ov σ₁ => T1 C n f (fun v => getAttr v name true) ov m σ₁ Q)
    (he : eval (.Attribute o name pos) f.env = (do
      let v ← eval o f.env
      standAt pos.atName
      let r ← holding [v] (getAttr v name true)
      letTemporaryGo o v r
      pure r) := by rfl) : WE C n f (.Attribute o name pos) m σ Q := fun ok fz s E x =>
  Attribute_any_ (wpAny_mono (h ok fz s E x) (fun v s₁ hq => hq.el fun fz₁ σ₁ a u1 e1 x1 va q1 => wpAny_mono (q1 ok fz₁ s₁ E v x1 va) (fun r s₂ p => .up u1 e1 p) fun _ _ x => x) fun _ _ x => x) he
def handedA : AVal → Bool
  | .raw v => handedIn v
  | _ => true
theorem V.handed {P : Addr → Obj → Prop} {v : Value} {a : AVal} (h : V P v a) (e : handedA a = true) : handedIn v = true := by
  cases h <;> first | rfl | exact e
theorem t1_attr {a c : Addr} {as : List (Str × AVal)} {name : Str} {y : AVal} {attr : Option Value} {Q : AVal → AHeap → Prop} (ha : σ a = some (.inst c as)) (hy : getA name as = some y) (hg : plainGet C.K c name = true) (hh : hasDictIn C.K c = true) (hf : findIn C.K (.ref c) name = some attr) (hn : noGet C.K attr = true) (hv : handedA y = true) (h : Q y σ) :
    T1 C n f (fun v => getAttr v name true) (.obj a) m σ Q := fun ok fz s E vo x ho => by
  cases ho
  obtain ⟨d, es, k, h1, h2, h3⟩ := x.inst ha
  obtain ⟨v, g1, g2⟩ := h3.get_some hy
  have x' := x
  obtain ⟨mc, news, δ, F, N, R, e⟩ := x
  exact get_own F ok.kin ⟨h1, rfl, rfl, h2⟩ hg hh hf hn g1 (g2.handed hv) (.tok x' g2 h)
theorem t2_isNotObj {a : Addr} {Q : AVal → AHeap → Prop} (h : Q (.bool false) σ) : T2 C n f (compareOp .IsNot) (.obj a) (.obj a) m σ Q := fun ok fz s E v w x hv hw => by
  cases hv; cases hw; exact wpAny_isNot_ref_self (.here x (.bool _) h)
end
end Mine

open PySem PySem.W PyProof.Rows PySem.Calls
namespace Mine
def Has (m : AEnv) : List (Str × AVal) → Prop
  | [] => True
  | p :: r => m.get p.1 = some p.2 ∧ Has m r
theorem Has.sub {m : AEnv} : ∀ {l : AEnv}, Has m l → ∀ y a, AEnv.get l y = some a → m.get y = some a
  | [], _, _, _, e => by cases e
  | (z, b) :: r, h, y, a, e => by
    unfold AEnv.get getA at e
    by_cases q : (z == y) = true
    · rw [if_pos q] at e; cases e
      have : z = y := by simpa using q
      subst this; exact h.1
    · rw [if_neg q] at e; exact h.2.sub y a e
theorem AHeap.le_refl (σ : AHeap) : σ.le σ := fun _ _ h => h
theorem AHeap.le_set {σ : AHeap} {l : Addr} {o : AObj} (h : σ l = none) : σ.le (σ.set l o) := fun a b e => by rw [AHeap.set_ne]; exact e; intro q; rw [q, h] at e; cases e
theorem hp_ne {σ : AHeap} {a c : Addr} {o : AObj} (h1 : σ a = some o) (h2 : σ c = none) : a ≠ c := fun q => by rw [q, h2] at h1; cases h1
theorem items_obj {σ : AHeap} {a : Addr} {xs : List AVal} (h : σ a = some (.list xs)) : items σ (.obj a) = some xs := by show (match σ a with | some (.list xs) => some xs | _ => none) = some xs; rw [h]
theorem ret_le {σ : AHeap} {a : AVal} {Q : AVal → AHeap → Prop} (h : Q a σ) : ∃ σ₂ : AHeap, σ₂.le σ ∧ Q (retOf (.ret a)) σ₂ := ⟨σ, AHeap.le_refl σ, h⟩
theorem ret_le' {σ₂ σ : AHeap} {a : AVal} {Q : AVal → AHeap → Prop} (hl : σ₂.le σ) (h : Q a σ₂) : ∃ σ₂ : AHeap, σ₂.le σ ∧ Q (retOf (.ret a)) σ₂ := ⟨σ₂, hl, h⟩
theorem fmod_pos (x : Int) {y : Int} (h : 0 ≤ y) : x.fmod y = x % y := Int.fmod_eq_emod_of_nonneg x h
theorem fmod_range (x : Int) {y : Int} (h : 0 < y) : 0 ≤ x.fmod y ∧ x.fmod y < y := by
  rw [fmod_pos x (Int.le_of_lt h)]; exact ⟨Int.emod_nonneg x (Int.ne_of_gt h), Int.emod_lt_of_pos x h⟩
theorem rng_small1 {a b : Int} (ha : -(2 ^ 62) ≤ a ∧ a < 2 ^ 62) (hb : -(2 ^ 62) ≤ b ∧ b < 2 ^ 62) : Builtin.Range.small a b 1 = true := small_one ha.1 ha.2 hb.1 hb.2
theorem rng_size1' {k : Nat} : Builtin.Range.rangeSize 0 k 1 = (k : Int) := by rw [rangeSize_nat]; congr 1
theorem rngL_length {a c : Int} {k : Nat} : (rngL a c k).length = k := by simp [rngL]
theorem rngL_cons {a c : Int} {k j : Nat} {v : AVal} {r : List AVal} (h : v :: r = (rngL a c k).drop j) : j < k ∧ v = .int (a + (j : Int) * c) ∧ r = (rngL a c k).drop (j + 1) := by
  have hj : j < (rngL a c k).length := by
    rcases Nat.lt_or_ge j (rngL a c k).length with q | q
    · exact q
    · rw [List.drop_of_length_le q] at h; cases h
  rw [List.drop_eq_getElem_cons hj] at h
  obtain ⟨h1, h2⟩ := List.cons.inj h
  refine ⟨by rwa [rngL_length] at hj, ?_, h2⟩
  rw [h1]; simp [rngL]
theorem rngL_nil {a c : Int} {k j : Nat} (h : [] = (rngL a c k).drop j) : k ≤ j := by
  rcases Nat.lt_or_ge j (rngL a c k).length with q | q
  · rw [List.drop_eq_getElem_cons q] at h; cases h
  · rwa [rngL_length] at q
theorem W1.weaken {C : Cx} {n : Nat} {f : Fm} {m : AEnv} {σ : AHeap} {st : Stmt} {m' : AEnv} {σ' : AHeap} {Q : AFlow → AEnv → AHeap → Prop} (hm : ∀ y a, m'.get y = some a → m.get y = some a) (hσ : σ'.le σ) (h : W1 C n f st m' σ' Q) : W1 C n f st m σ Q :=
  fun ok fz s E x => h ok fz s E (x.weaken hm hσ)
theorem W1.cut {C : Cx} {n : Nat} {f : Fm} {m : AEnv} {σ : AHeap} {st : Stmt} {P Q : AFlow → AEnv → AHeap → Prop} (h : W1 C n f st m σ P) (k : ∀ a m' σ', P a m' σ' → Q a m' σ') : W1 C n f st m σ Q :=
  fun ok fz s E x => wpAny_mono (h ok fz s E x) (fun v s' hq => hq.el fun fz' σ' m' a h1 h2 h3 h4 h5 => ⟨fz', σ', m', a, h1, h2, h3, h4, k _ _ _ h5⟩) fun _ _ x => x
end Mine

open PySem PySem.W PyProof.Rows PySem.Calls
namespace Mine
/-- the law's own frame, where it has cells -/
theorem enter_lawC {prog : Program} {w : World} {K : Frag} {vp : Program} {loose : List Str} {mean : ExcName → Option Value} {mg mb : Str → Option Value} {H : Heap} {L fa a : Addr} {vs : List Value} {ns : List Int} {qual : Str} {scope : Scope} {cdv : Value} {body : List Stmt} {s : Shared} {Q : Flow → Shared → Prop} {E : Value → Shared → Prop} {cells : List (Addr × Obj)} (cs : List (Str × Addr)) (ml : AVal → AEnv)
    (B : Below callerA H [] H) (X : K.In H) (T : Top vp loose mean mg mb H) (hL : H.IsList a vs.toArray) (hI : IntsAre vs ns)
    (F : Fr H L s.heap (bindL (envOfC qual scope L fa cdv).kindOf [(Str.ofString "script", Value.ref a)] fun _ => none)) (N : News H L s.heap cells)
    (Y : CellsAre (bindC (envOfC qual scope L fa cdv).kindOf [(Str.ofString "script", Value.ref a)] fun _ => none) (cellsFrom (L + 1) scope.names []) cells) (hk : scope.kind = .function) (hn : ns.length ≤ 63)
    (hcs : cellsFrom (L + 1) scope.names [] = cs) (hck : ∀ p ∈ cellsFrom 0 scope.names [], scope.names.lookup p.1 ≠ some .local) (hml : ∀ v, ([(Str.ofString "script", v)].filter fun p : Str × AVal => scope.names.lookup p.1 == some .local) = ml v)
    (h : ∀ A₀ A base h₀ outer (ns : List Int), ns.length ≤ 63 → WS ⟨prog, w, K, vp, loose, mean, mg, mb, H⟩ 20 ⟨A₀, A, base, h₀, outer, L, fa, qual, scope, cdv, cs, [], none⟩ body (ml (.lst (ns.map .int))) (cellS (fun y => getA y [(Str.ofString "script", .lst (ns.map .int))]) cs fun _ => none) fun fl _ _ => fl = .ret (.bool true))
    (hQ : ∀ h' tk mc', Fr H L h' mc' → Q (.ret (.bool true)) { s with heap := h', toks := tk }) :
    wpAny (model prog w) (callerA.deeper (envOfC qual scope L fa cdv)) (execs body (envOfC qual scope L fa cdv)) Q E s := by
  have names : ∀ (names : List (Str × NameKind)) (a b : Nat) (acc acc' : List (Str × Addr)), acc.map (·.1) = acc'.map (·.1) → (cellsFrom a names acc).map (·.1) = (cellsFrom b names acc').map (·.1) := by
    intro names
    induction names with
    | nil => intro a b acc acc' h; exact h
    | cons p r ih =>
      intro a b acc acc' h
      obtain ⟨y, kd⟩ := p
      unfold cellsFrom
      split
      · exact ih _ _ _ _ (by simp [h])
      · exact ih _ _ _ _ h
  have ck : ∀ p ∈ cellsFrom (L + 1) scope.names [], scope.names.lookup p.1 ≠ some .local := fun p hp => by
    have : p.1 ∈ (cellsFrom 0 scope.names []).map (·.1) := by rw [names scope.names 0 (L + 1) [] [] rfl]; exact List.mem_map_of_mem hp
    obtain ⟨q, hq, e⟩ := List.mem_map.mp this
    rw [← e]; exact hck q hq
  have ok : Fm.Ok ⟨prog, w, K, vp, loose, mean, mg, mb, H⟩ 20 ⟨callerA, callerA.deeper (envOfC qual scope L fa cdv), H, H, [], L, fa, qual, scope, cdv, cellsFrom (L + 1) scope.names [], [], none⟩ :=
    ⟨B, X, T, fun _ _ h => h, rfl, rfl, rfl, (show 1 + claimMargin + 1 + 3 * 20 < recursionLimit by decide), (show 4 + 3 + 10 * 20 + 100 < cLine by decide), hk, hk⟩
  obtain ⟨nd, cl⟩ := cellsFrom_nd scope.names (L + 1) [] List.nodup_nil (fun p hp => by cases hp)
  have hz : Vs (At ⟨prog, w, K, vp, loose, mean, mg, mb, H⟩ []) [Value.ref a] [.lst (ns.map .int)] := by
    obtain ⟨o, h1, h2, k, h3⟩ := hL
    exact .cons (.lst (.inr h1) h2 h3 (vs_ints hI)) .nil
  have nds : [Str.ofString "script"].Nodup := by simp
  have R0 : HR ⟨prog, w, K, vp, loose, mean, mg, mb, H⟩ [] [] (fun _ => none) id [] := ⟨fun p hp => (nomatch hp), fun p hp => (nomatch hp), fun a ao e => (nomatch e), fun a ao e => (nomatch e), fun a c as e => (nomatch e), fun a c as e => (nomatch e), fun a c as b c' bs e => (nomatch e)⟩
  have R : HR ⟨prog, w, K, vp, loose, mean, mg, mb, H⟩ [] [] (cellS (fun y => getA y [(Str.ofString "script", .lst (ns.map .int))]) (cellsFrom (L + 1) scope.names []) fun _ => none) id (cells ++ []) := R0.addCells Y nd (fun p hp q hq => nomatch hq) fun p hp => by
    have hkd : (envOfC qual scope L fa cdv).kindOf p.1 ≠ some .local := ck p hp
    cases q : getA p.1 [(Str.ofString "script", .lst (ns.map .int))] with
    | none => exact .inl ⟨bindC_off (b := [(Str.ofString "script", Value.ref a)]) (by have := getA_none q; simpa using this), rfl⟩
    | some b =>
      obtain ⟨v, g1, g2, g3⟩ := bind_get (ns := [Str.ofString "script"]) (kd := (envOfC qual scope L fa cdv).kindOf) (m := fun _ => none) hz nds q
      exact .inr ⟨v, b, g3 hkd, rfl, g1⟩
  have x : SR ⟨prog, w, K, vp, loose, mean, mg, mb, H⟩ ⟨callerA, callerA.deeper (envOfC qual scope L fa cdv), H, H, [], L, fa, qual, scope, cdv, cellsFrom (L + 1) scope.names [], [], none⟩ [] ([(Str.ofString "script", .lst (ns.map .int))].filter fun p : Str × AVal => scope.names.lookup p.1 == some .local) (cellS (fun y => getA y [(Str.ofString "script", .lst (ns.map .int))]) (cellsFrom (L + 1) scope.names []) fun _ => none) s := by
    refine ⟨_, cells ++ [], id, F, by rw [List.append_nil]; exact N, R, fun y b hy => ?_⟩
    obtain ⟨g1, a', g2⟩ := getA_filter (by simp) hy
    obtain ⟨v, g3, g4, _⟩ := bind_get (ns := [Str.ofString "script"]) (kd := (envOfC qual scope L fa cdv).kindOf) (m := fun _ => none) hz nds g1
    exact ⟨v, g4 (by have : scope.names.lookup y = some .local := by simpa using g2
                     exact this), g3⟩
  have hh := h callerA (callerA.deeper (envOfC qual scope L fa cdv)) H H [] ns hn
  rw [← hcs, ← hml] at hh
  refine wpAny_mono (hh ok [] s E x) (fun fl s' hq => hq.el fun fz' σ' m' a u es x2 va q => ?_) fun _ _ z => z
  subst q
  cases fl with
  | ret v =>
    cases va
    obtain ⟨h', tk, rfl⟩ := es
    obtain ⟨mc', news, δ, F', N', R, e⟩ := x2
    exact hQ h' tk mc' F'
  | _ => exact va.elim
end Mine

open PySem PySem.W PyProof.Rows PySem.Calls
namespace Mine
section
variable {C : Cx} {n : Nat} {f : Fm} {m : AEnv} {σ : AHeap}
theorem AHeap.set_set (σ : AHeap) (a : Addr) (x y : AObj) : (σ.set a x).set a y = σ.set a y := by
  funext b; unfold AHeap.set; split <;> rfl
theorem AHeap.set_comm (σ : AHeap) {a b : Addr} (x y : AObj) (h : a ≠ b) : (σ.set a x).set b y = (σ.set b y).set a x := by
  funext c; unfold AHeap.set
  by_cases h1 : c = b
  · subst h1
    have : ¬ c = a := fun e => h e.symm
    simp [this]
  · simp [h1]
/-- the five things of a source, as attributes -/
def srcA (s p e b c : AVal) : List (Str × AVal) := [(Str.ofString "_InputSource__system_id", s), (Str.ofString "_InputSource__public_id", p), (Str.ofString "_InputSource__encoding", e), (Str.ofString "_InputSource__bytefile", b), (Str.ofString "_InputSource__charfile", c)]
end
end Mine

open PySem PySem.W PyProof.Rows PySem.Calls
namespace Mine
/-! ## pieces of a def of the text -/
def blkOf : Stmt → Nat → List Stmt
  | .For _ _ b _ _, 0 => b
  | .For _ _ _ o _, _ => o
  | .If _ b _ _, 0 => b
  | .If _ _ o _, _ => o
  | .FunctionDef _ _ b _ _ _ _ _ _ _, _ => b
  | _, _ => []
def subs : List Stmt → List (Nat × Nat) → List Stmt
  | ss, [] => ss
  | ss, (i, j) :: r => match ss[i]? with
    | some st => subs (blkOf st j) r
    | none => []
def segOf (p : Program) (i : Nat) (path : List (Nat × Nat)) (k : Nat) : Option (Scope × List Stmt) :=
  match p.main.body[i]? with
  | some (.FunctionDef _ _ b _ _ _ sc _ _ _) => some (sc, (subs b path).drop k)
  | _ => none
def Seg (p : Program) (i : Nat) (path : List (Nat × Nat)) (k : Nat) (P : Scope → List Stmt → Prop) : Prop :=
  match segOf p i path k with
  | some (sc, ss) => P sc ss
  | none => True
theorem seg_intro {p : Program} {i : Nat} {path : List (Nat × Nat)} {k : Nat} {P : Scope → List Stmt → Prop} {kind : ScopeKind} {names : List (Str × NameKind)} {g c : Bool} {more : List (Str × Const)} {st : Stmt} {ss : List Stmt}
    (ho : segOf p i path k = some (⟨kind, names, g, c, more⟩, st :: ss)) (h : P ⟨kind, names, g, c, more⟩ (st :: ss)) : Seg p i path k P := by
  unfold Seg; rw [ho]; exact h
theorem tc_cat1 {C : Cx} {n : Nat} {f : Fm} {m : AEnv} {σ : AHeap} {fv a : AVal} {as : List AVal} {Q : AVal → AHeap → Prop} (h : TC C n f fv (a :: as) m σ Q) : TC C n f fv ([a] ++ as) m σ Q := h
/-- one statement -/
def Seg1 (p : Program) (i : Nat) (path : List (Nat × Nat)) (k : Nat) (P : Scope → Stmt → Prop) : Prop :=
  match segOf p i path k with
  | some (sc, st :: _) => P sc st
  | _ => True
theorem seg1_intro {p : Program} {i : Nat} {path : List (Nat × Nat)} {k : Nat} {P : Scope → Stmt → Prop} {kind : ScopeKind} {names : List (Str × NameKind)} {g c : Bool} {more : List (Str × Const)} {st : Stmt} {ss : List Stmt}
    (ho : segOf p i path k = some (⟨kind, names, g, c, more⟩, st :: ss)) (h : P ⟨kind, names, g, c, more⟩ st) : Seg1 p i path k P := by
  unfold Seg1; rw [ho]; exact h
end Mine

open PySem PySem.W PyProof.Rows PySem.Calls
namespace Mine
def AHeap.del (σ : AHeap) (a : Addr) : AHeap := fun b => if b = a then none else σ b
theorem AHeap.del_same (σ : AHeap) (a : Addr) : σ.del a a = none := if_pos rfl
theorem AHeap.del_ne (σ : AHeap) {a b : Addr} (h : b ≠ a) : σ.del a b = σ b := if_neg h
theorem seg1_elim {p : Program} {i : Nat} {path : List (Nat × Nat)} {k : Nat} {P : Scope → Stmt → Prop} {sc : Scope} {st : Stmt} {ss : List Stmt} (h : Seg1 p i path k P) (ho : segOf p i path k = some (sc, st :: ss)) : P sc st := by
  unfold Seg1 at h; rw [ho] at h; exact h
theorem seg_elim {p : Program} {i : Nat} {path : List (Nat × Nat)} {k : Nat} {P : Scope → List Stmt → Prop} {sc : Scope} {ss : List Stmt} (h : Seg p i path k P) (ho : segOf p i path k = some (sc, ss)) : P sc ss := by
  unfold Seg at h; rw [ho] at h; exact h
section
variable {C : Cx} {n : Nat} {f : Fm} {m : AEnv} {σ : AHeap}
/-- a list of the state is kept apart -/
theorem SR.lend {fz : Fz} {s : Shared} (x : SR C f fz m σ s) {a : Addr} {xs : List AVal} (h : σ a = some (.list xs)) : SX C f fz m (σ.del a) [a] s := by
  obtain ⟨mc, news, δ, F, N, R, e⟩ := x
  obtain ⟨o, ho⟩ := (R.ob a _ h).key
  have keepM : ∀ {p : Addr × Obj}, p ∈ news → p.1 ≠ a → p ∈ news.filter (fun p => decide (p.1 ≠ a)) := fun h q => List.mem_filter.mpr ⟨h, by simpa using q⟩
  have old : ∀ {b bo}, σ.del a b = some bo → b ≠ a ∧ σ b = some bo := fun {b bo} hb => by
    by_cases q : b = a
    · rw [q, AHeap.del_same] at hb; cases hb
    · rw [AHeap.del_ne _ q] at hb; exact ⟨q, hb⟩
  refine ⟨mc, news.filter (fun p => decide (p.1 ≠ a)), δ, F, fun p hp => N p (List.mem_filter.mp hp).1, ⟨fun p hp => keepM (R.sub p hp) (R.off a _ h p hp), R.apart, fun b bo hb => ?_, fun b bo hb => R.off b bo (old hb).2, fun b c as hb => R.doff b c as (old hb).2, fun b c as hb => ?_, fun b c as b' c' bs h1 h2 => R.dinj b c as b' c' bs (old h1).2 (old h2).2⟩, e, fun p hp q => ?_, fun q => ?_, fun b hb => ?_⟩
  · refine (R.ob b bo (old hb).2).mono (fun _ _ z => z) (fun _ hm => keepM hm (old hb).1) fun c as eb _ hm => keepM hm fun q => ?_
    have := R.dσ b c as (eb ▸ (old hb).2)
    rw [show δ b = a from q, h] at this; cases this
  · have := R.dσ b c as (old hb).2
    by_cases q : δ b = a
    · rw [q]; exact AHeap.del_same ..
    · rw [AHeap.del_ne _ q]; exact this
  · have := (List.mem_filter.mp hp).2
    exact absurd (List.mem_singleton.mp q) (by simpa using this)
  · exact absurd (List.mem_singleton.mp q).symm (N _ ho).2.1
  · rw [List.mem_singleton.mp hb]; exact (N _ ho).2.2
end
end Mine

open PySem PySem.W PyProof.Rows PySem.Calls
namespace Mine
/-! ## an attribute that is not there; a try in a called def -/
section
variable {prog : Program} {w : World} {A : Around} {E : Value → Shared → Prop} {s : Shared} {K : Frag} {x c L : Addr} {h₀ : Heap} {m : Str → Option Value} {ox : Obj} {es : List DictEntry} {n : Nat} {name : Str}
end

/-- a call out of the law's own frame -/
def Fn1 (C : Cx) (n : Nat) (fa : Addr) (as : List AVal) (σ : AHeap) (Q : AVal → AHeap → Prop) : Prop :=
  ∀ f m A, f.outer = [] → f.Ok C n → Near f A → ∀ fz s vs, SR C f fz m σ s → Vs (At C fz) vs as → codeAny (Md C) A (.call (.ref fa) ⟨vs, []⟩) (RV C f m fz s Q) s
/-- statements that raise, the state as it was -/
def XS (C : Cx) (n : Nat) (f : Fm) (ss : List Stmt) (m : AEnv) (σ : AHeap) (X : String) : Prop :=
  f.Ok C n → ∀ fz s E, SR C f fz m σ s → (∀ s₁ h' tk e fz', (∀ p ∈ fz, p ∈ fz') → Same s s₁ → SR C f fz' m σ s₁ → Heap.NewExcOf s₁.heap h' e X → E (.ref e) { s₁ with heap := h', toks := tk }) → wpAny (Md C) f.A (execs ss f.env) (fun _ _ => False) E s
section
variable {C : Cx} {n : Nat} {f : Fm} {m : AEnv} {σ : AHeap}
end
end Mine

open PySem PySem.W PyProof.Rows PySem.Calls
namespace Mine
/-! ## dicts with whole numbers as keys -/
def valA (es : List (Int × AVal)) (k : Int) : Option AVal := (es.find? fun kv => kv.1 = k).map (·.2)
def storeA (es : List (Int × AVal)) (k : Int) (v : AVal) : List (Int × AVal) := if es.any (fun kv => kv.1 = k) then es.map (fun kv => if kv.1 = k then (kv.1, v) else kv) else es ++ [(k, v)]
section
variable {C : Cx} {n : Nat} {f : Fm} {m : AEnv} {σ : AHeap}
end
end Mine

open PySem PySem.W PyProof.Rows PySem.Calls
set_option linter.unusedSectionVars false
namespace Mine
section
variable {C : Cx} {n : Nat} {f : Fm} {m : AEnv} {σ : AHeap}
/-- a list of the state that changes no more -/
theorem SR.still {fz : Fz} {s : Shared} (x : SR C f fz m σ s) {a : Addr} {xs : List AVal} (h : σ a = some (.list xs)) {y : Str} (hy : m.get y = some (.obj a)) : ∃ fz', (∀ p ∈ fz, p ∈ fz') ∧ SR C f fz' (m.set y (.lst xs)) (σ.del a) s := by
  obtain ⟨us, k, ho, hv⟩ := x.list h
  have x1 := ((x.lend h).ice (D := a) (wr := []) (by simp) ho).sr
  refine ⟨[(a, listOf us.toArray k)] ++ fz, fun p hp => List.mem_append_right _ hp, ?_⟩
  obtain ⟨mc, news, δ, F, N, R, e⟩ := x1
  refine ⟨mc, news, δ, F, N, R, fun z b hz => ?_⟩
  unfold AEnv.set at hz
  rw [getA_setA] at hz
  by_cases q : z = y
  · rw [if_pos q] at hz; cases hz
    subst q
    obtain ⟨v, h1, h2⟩ := e z _ hy
    cases h2
    exact ⟨_, h1, .lst (vs := us) (.inl (List.mem_append_left _ (List.mem_singleton.mpr rfl))) rfl rfl (hv.up fun p hp => List.mem_append_right _ hp)⟩
  · rw [if_neg q] at hz; exact e z b hz
theorem WS.still {ss : List Stmt} {Q : AFlow → AEnv → AHeap → Prop} {a : Addr} {xs : List AVal} {y : Str} (h : σ a = some (.list xs)) (hy : m.get y = some (.obj a)) (k : WS C n f ss (m.set y (.lst xs)) (σ.del a) Q) : WS C n f ss m σ Q := fun ok fz s E x => by
  obtain ⟨fz', u, x'⟩ := x.still h hy
  exact wpAny_mono (k ok fz' s E x') (fun v s' hq => hq.el fun fz₁ σ₁ m₁ a₁ u1 e1 x1 va q1 => ⟨fz₁, σ₁, m₁, a₁, fun p hp => u1 p (u p hp), e1, x1, va, q1⟩) fun _ _ z => z
theorem Vs.rep {P : Addr → Obj → Prop} {vs : List Value} {xs : List AVal} (h : Vs P vs xs) : ∀ k : Nat, Vs P (List.replicate k vs).flatten (List.replicate k xs).flatten
  | 0 => by simp; exact .nil
  | k + 1 => by simp only [List.replicate_succ, List.flatten_cons]; exact h.append (h.rep k)
theorem rep_flat {α : Type} (items : Array α) (k : Nat) : List.foldl (fun x1 x2 => x1 ++ x2) #[] (List.replicate (if items.isEmpty = true then 0 else k) items) = (List.replicate k items.toList).flatten.toArray := by
  have key : ∀ (k : Nat) (acc : Array α), List.foldl (fun x1 x2 => x1 ++ x2) acc (List.replicate k items) = (acc.toList ++ (List.replicate k items.toList).flatten).toArray := by
    intro k
    induction k with
    | zero => intro acc; simp
    | succ k ih => intro acc; simp [List.replicate_succ, ih, List.append_assoc]
  split
  · rename_i h
    have : items = #[] := by simpa using h
    subst this
    simp
  · rw [key]; simp
/-- a list of the state taken k times -/
theorem t2_mulObj {a : Addr} {xs : List AVal} {x : Int} {Q : AVal → AHeap → Prop} (ha : σ a = some (.list xs)) (h0 : 0 ≤ x) (hx : x < 2 ^ 63) (hz : xs.length * x.toNat ≤ 2 ^ 24) (h : Q (.lst (List.replicate x.toNat xs).flatten) σ) : T2 C n f (binaryOp .Mult) (.obj a) (.int x) m σ Q := fun ok fz s E v w x' hv hw => by
  cases hv; cases hw
  obtain ⟨us, k, ho, hv⟩ := x'.list ha
  obtain ⟨mc, news, F, N, kk⟩ := x'.newFz
  refine mul_list (k := k) F N ho (by omega) hx (by rw [List.size_toArray, hv.length]; exact hz) fun h' F' N' => ?_
  rw [rep_flat] at N'
  exact ⟨_, σ, .lst (List.replicate x.toNat xs).flatten, fun p hp => List.mem_append_right _ hp, .mk, kk h' s.toks _ F' N', .lst (vs := (List.replicate x.toNat us).flatten) (.inl (List.mem_append_left _ (List.mem_singleton.mpr rfl))) rfl rfl ((hv.rep _).up fun p hp => List.mem_append_right _ hp), h⟩
/-- a frozen list of tuples is walked -/
theorem wit_lst {e : Expr} {Q : (AHeap → AHeap) → List (List AVal) → AHeap → Prop} (h : WE C n f e m σ fun a σ₁ => ∃ rows, a = .lst (rows.map .tup) ∧ Q id rows σ₁) : WIT C n f e m σ Q := fun ok fz s E x => by
  refine wpAny_mono (h ok fz s E x) (fun v s₁ hq => hq.el fun fz₁ σ₁ a u1 e1 x1 va ⟨rows, ea, q1⟩ => ?_) fun _ _ x => x
  subst ea
  obtain ⟨l, o, k, us, rfl, p1, p2, p3, p4⟩ := va.lstD
  have ho := x1.at_ ok p1
  have hl : s₁.heap.IsList l us.toArray := ⟨_, ho, p2, _, p3⟩
  have hne : l ≠ s₁.heap.objs.size := Nat.ne_of_lt (Heap.lt_size ho)
  have hlen := p4.length
  rw [List.length_map] at hlen
  have each : ∀ j, ∃ Tv : Addr × List Value, j < us.length → ∃ row o k, us[j]? = some (.ref Tv.1) ∧ rows[j]? = some row ∧ At C fz₁ Tv.1 o ∧ o.cls = .type "tuple" ∧ o.data = .seq Tv.2.toArray k ∧ Vs (At C fz₁) Tv.2 row := fun j => by
    by_cases hj : j < us.length
    · have hr : j < rows.length := by omega
      obtain ⟨v, g1, g2⟩ := p4.get (i := j) (x := .tup rows[j]) (by simp [hr])
      cases g2 with
      | tup q1 q2 q3 q4 => exact ⟨(_, _), fun _ => ⟨rows[j], _, _, g1, by simp [hr], q1, q2, q3, q4⟩⟩
    · exact ⟨(0, []), fun h => absurd h hj⟩
  obtain ⟨g, hg⟩ := Classical.skolem.mp each
  have lt : ∀ j, j < us.length → (g j).1 < s₁.heap.objs.size := fun j hj => by
    obtain ⟨row, o, k, _, _, q, _⟩ := hg j hj
    exact Heap.lt_size (x1.at_ ok q)
  have W := WalksU.listOfTuples (prog := C.prog) (w := C.w) ok.handled s₁.heap.objs.size l hne us.toArray (fun j => (g j).1) (fun j => (g j).2.toArray)
    (fun j hj => by obtain ⟨row, o, k, q, _⟩ := hg j (by simpa using hj); simpa using q) (fun j hj => Nat.ne_of_lt (lt j (by simpa using hj)))
  refine wpAny_pyIter_list hl ?_
  have hp : ∀ b o, s₁.heap.get? b = some o → (s₁.heap.push { cls := .type "list_iterator", data := .fields #[.ref l, rawInt 0] }).get? b = some o := fun b o q => Heap.get?_push_of_some _ q
  refine ⟨fz₁, σ₁, s₁.heap.objs.size, [s₁.heap.objs.size], rows, (fun i h => h.IsListIter s₁.heap.objs.size l i ∧ h.IsList l us.toArray ∧ ∀ k, k < us.toArray.size → h.IsTuple (g k).1 (g k).2.toArray), fun _ => True, id, rfl, u1, e1.trans ⟨_, s₁.toks, rfl⟩, SX.ofPush (t := s₁.toks) x1, ⟨?_, ?_, ?_, ?_, fun _ _ _ => trivial, fun _ _ _ _ _ x _ => x.sr⟩, ⟨⟨_, Heap.get?_push_size _ rfl, rfl, rfl⟩, hl.at (fun o q => hp _ o q), fun k hk => ?_⟩, q1⟩
  · intro i s Q E y hy hs hQ
    have hi : i < us.toArray.size := by rw [List.size_toArray, hlen]; exact (List.getElem?_eq_some_iff.mp hy).1
    refine W.item i s Q E hi hs fun T vals h' tk hP hT hm hk => ?_
    subst hP
    obtain ⟨row, o, k, r1, r2, r3, r4, r5, r6⟩ := hg i (by simpa using hi)
    have : row = y := by rw [r2] at hy; exact Option.some.inj hy
    subst this
    refine hQ T _ h' tk r6 hT (W.apart i T h' hm) hk fun ts k pos s₂ Q₂ E₂ e2 hQ2 => ?_
    subst e2
    exact W.go ts k pos i T s₂ Q₂ E₂ hm hQ2
  · intro s Q E hs hQ
    have hz : us.toArray.size = rows.length := by rw [List.size_toArray, hlen]
    exact W.done s Q E (by rw [← hz] at hs; exact hs) fun h' tk k => hQ h' tk k trivial
  · intro i h hs b hb
    rw [List.mem_singleton.mp hb]; obtain ⟨o, h1, _⟩ := hs.1; exact ⟨o, h1⟩
  · intro i h h' hs hw hp
    refine ⟨hs.1.at fun o e => hw _ (List.mem_singleton.mpr rfl) o e, ⟨_, hp _ _ (.inl p1), p2, _, p3⟩, fun k hk => ?_⟩
    obtain ⟨row, o, k', r1, r2, r3, r4, r5, r6⟩ := hg k (by simpa using hk)
    exact ⟨o, hp _ _ (.inl r3), r4, _, r5⟩
  · obtain ⟨row, o, k', r1, r2, r3, r4, r5, r6⟩ := hg k (by simpa using hk)
    exact ⟨o, hp _ _ (x1.at_ ok r3), r4, _, r5⟩
def zipA : List AVal → List AVal → List (List AVal)
  | x :: xs, y :: ys => [x, y] :: zipA xs ys
  | _, _ => []
end
/-! ## a state by its parts -/
def up {I α : Type} [DecidableEq I] (f : I → α) (x : I) (v : α) : I → α := fun y => if y = x then v else f y
theorem up_same {I α : Type} [DecidableEq I] (f : I → α) (x : I) (v : α) : up f x v x = v := if_pos rfl
theorem up_ne {I α : Type} [DecidableEq I] (f : I → α) {x y : I} (v : α) (h : y ≠ x) : up f x v y = f y := if_neg h
def NeQ {I : Type} (ad : I → Addr) (L : I → Prop) : Prop := ∀ x y, L x → L y → x ≠ y → ad x ≠ ad y
structure Hx {I : Type} (σ : AHeap) (ad : I → Addr) (L : I → Prop) (o : I → AObj) : Prop where
  at_ : ∀ y, L y → σ (ad y) = some (o y)
  ne : NeQ ad L
section
variable {I : Type} [DecidableEq I] {σ : AHeap} {ad : I → Addr} {L : I → Prop} {o : I → AObj}
theorem Hx.set {x : I} {v : AObj} (h : Hx σ ad L o) (hx : L x) : Hx (σ.set (ad x) v) ad L (up o x v) := ⟨fun y hy => by
  by_cases e : y = x
  · subst e; rw [AHeap.set_same, up_same]
  · rw [AHeap.set_ne _ _ (h.ne y x hy hx e), up_ne _ _ e]; exact h.at_ y hy, h.ne⟩
theorem Hx.new {x : I} {v : AObj} {a : Addr} (h : Hx σ ad L o) (ha : σ a = none) (hx : ¬ L x) : Hx (σ.set a v) (up ad x a) (fun y => L y ∨ y = x) (up o x v) := by
  have na : ∀ y, L y → ad y ≠ a := fun y hy => hp_ne (h.at_ y hy) ha
  refine ⟨fun y hy => ?_, fun y z hy hz hyz => ?_⟩
  · by_cases e : y = x
    · subst e; rw [up_same, up_same, AHeap.set_same]
    · have hy' : L y := hy.resolve_right e
      rw [up_ne _ _ e, up_ne _ _ e, AHeap.set_ne _ _ (na y hy')]; exact h.at_ y hy'
  · by_cases e : y = x
    · by_cases e' : z = x
      · exact absurd (e.trans e'.symm) hyz
      · subst e; rw [up_same, up_ne _ _ e']; exact fun q => na z (hz.resolve_right e') q.symm
    · by_cases e' : z = x
      · subst e'; rw [up_same, up_ne _ _ e]; exact na y (hy.resolve_right e)
      · rw [up_ne _ _ e, up_ne _ _ e']; exact h.ne y z (hy.resolve_right e) (hz.resolve_right e') hyz
theorem Hx.off {v : AObj} {a : Addr} (h : Hx σ ad L o) (ha : σ a = none) : Hx (σ.set a v) ad L o := ⟨fun y hy => (AHeap.set_ne _ _ (hp_ne (h.at_ y hy) ha)).trans (h.at_ y hy), h.ne⟩
theorem Hx.sub {L' : I → Prop} (h : Hx σ ad L o) (hl : ∀ y, L' y → L y) : Hx σ ad L' o := ⟨fun y hy => h.at_ y (hl y hy), fun x y hx hy => h.ne x y (hl x hx) (hl y hy)⟩
theorem Hx.obj {o' : I → AObj} (h : Hx σ ad L o) (ho : ∀ y, L y → o y = o' y) : Hx σ ad L o' := ⟨fun y hy => by rw [← ho y hy]; exact h.at_ y hy, h.ne⟩
end
/-- the five things of a source -/
def srcV (v : Nat → AVal) : List (Str × AVal) := srcA (v 0) (v 1) (v 2) (v 3) (v 4)
end Mine

open PySem PySem.W PyProof.Rows PySem.Calls
namespace Mine
/-- the law's own frame, with cells, by the place where they begin -/
theorem enter_lawD {prog : Program} {w : World} {K : Frag} {vp : Program} {loose : List Str} {mean : ExcName → Option Value} {mg mb : Str → Option Value} {H : Heap} {L fa a : Addr} {vs : List Value} {ns : List Int} {qual : Str} {scope : Scope} {cdv : Value} {body : List Stmt} {s : Shared} {Q : Flow → Shared → Prop} {E : Value → Shared → Prop} {cells : List (Addr × Obj)} (cs : Nat → List (Str × Addr)) (ml : AVal → AEnv)
    (B : Below callerA H [] H) (X : K.In H) (T : Top vp loose mean mg mb H) (hL : H.IsList a vs.toArray) (hI : IntsAre vs ns)
    (F : Fr H L s.heap (bindL (envOfC qual scope L fa cdv).kindOf [(Str.ofString "script", Value.ref a)] fun _ => none)) (N : News H L s.heap cells)
    (Y : CellsAre (bindC (envOfC qual scope L fa cdv).kindOf [(Str.ofString "script", Value.ref a)] fun _ => none) (cellsFrom (L + 1) scope.names []) cells) (hk : scope.kind = .function) (hn : ns.length ≤ 63)
    (hcs : ∀ L : Nat, cellsFrom (L + 1) scope.names [] = cs L) (hck : ∀ p ∈ cellsFrom 0 scope.names [], scope.names.lookup p.1 ≠ some .local) (hml : ∀ v, ([(Str.ofString "script", v)].filter fun p : Str × AVal => scope.names.lookup p.1 == some .local) = ml v)
    (h : ∀ A₀ A base h₀ outer (L : Nat) (ns : List Int), ns.length ≤ 63 → WS ⟨prog, w, K, vp, loose, mean, mg, mb, H⟩ 20 ⟨A₀, A, base, h₀, outer, L, fa, qual, scope, cdv, cs L, [], none⟩ body (ml (.lst (ns.map .int))) (cellS (fun y => getA y [(Str.ofString "script", .lst (ns.map .int))]) (cs L) fun _ => none) fun fl _ _ => fl = .ret (.bool true))
    (hQ : ∀ h' tk mc', Fr H L h' mc' → Q (.ret (.bool true)) { s with heap := h', toks := tk }) :
    wpAny (model prog w) (callerA.deeper (envOfC qual scope L fa cdv)) (execs body (envOfC qual scope L fa cdv)) Q E s :=
  enter_lawC (cs L) ml B X T hL hI F N Y hk hn (hcs L) hck hml (fun A₀ A base h₀ outer ns hn => h A₀ A base h₀ outer L ns hn) hQ
theorem Hx.newL {I : Type} [DecidableEq I] {σ : AHeap} {ad : I → Addr} {xs : List I} {o : I → AObj} {a : Addr} (h : Hx σ ad (· ∈ xs) o) (x : I) (v : AObj) (ha : σ a = none) (hx : x ∉ xs) : Hx (σ.set a v) (up ad x a) (· ∈ x :: xs) (up o x v) :=
  (Hx.new h ha hx).sub fun y hy => (List.mem_cons.mp hy).elim .inr .inl
theorem Hx.nilL {I : Type} (ad : I → Addr) (o : I → AObj) : Hx (fun _ => none) ad (· ∈ ([] : List I)) o := ⟨(fun y h => nomatch h), (fun x y h => nomatch h)⟩
end Mine

open PySem PySem.W PyProof.Rows PySem.Calls
namespace Mine
section
variable {C : Cx} {n : Nat} {f : Fm} {m : AEnv} {σ : AHeap}
theorem t2_mulStr {x : Str} {k : Int} {Q : AVal → AHeap → Prop} (hok : MulOk x k) (h : Q (.str (Txt.mul x k)) σ) : T2 C n f (binaryOp .Mult) (.str x) (.int k) m σ Q := fun ok fz s E v w x' hv hw => by
  cases hv; cases hw
  exact SB.mul hok fun t' k => .tok x' (.str _ _) h
theorem tc_extend {a b : Addr} {xs ys : List AVal} {Q : AVal → AHeap → Prop} (ha : σ a = some (.list xs)) (hb : σ b = some (.list ys)) (hl : xs.length + ys.length ≤ sizeLine) (h : Q .none (σ.set a (.list (xs ++ ys)))) : TC C n f (.raw (.builtin "list.extend")) [.obj a, .obj b] m σ Q := fun ok fz s E v vs x hv hvs => by
  cases hv; obtain _ | ⟨h1, hvs⟩ := hvs; obtain _ | ⟨h2, hvs⟩ := hvs; cases hvs; cases h1; cases h2
  obtain ⟨us, k, ho, p4⟩ := x.list ha
  obtain ⟨ws, k', ho', p4'⟩ := x.list hb
  have hsz : us.toArray.size + ws.toArray.size ≤ sizeLine := by rw [List.size_toArray, List.size_toArray, p4.length, p4'.length]; exact hl
  refine ⟨keep_builtin, call_meets PySem.F.slot_list_extend ⟨_, ho, rfl⟩ PySem.F.entry_list_extend (PySem.F.args_list_extend_2 _ _) (AutoSeq1.list_extend_list_list_0 a us.toArray k b ws.toArray k' (extend_door hsz) (Nat.le_trans (Nat.le_add_right _ _) hsz)) ⟨ho, ho', ?_⟩⟩
  exact ⟨fz, _, .none, sub_refl, .mk, x.updList (t := s.toks) ha ho (fun x => x ++ ws.toArray) (by simpa using p4.append p4'), .none, h⟩
theorem Vs.carried {P : Addr → Obj → Prop} : ∀ {vs : List Value} {xs : List AVal}, Vs P vs xs → xs.all scalar = true → ∃ ds, CarriedAll vs ds
  | _, _, .nil, _ => ⟨_, .nil⟩
  | _, _, .cons a b, h => by
    rw [List.all_cons, Bool.and_eq_true] at h
    obtain ⟨ds, hd⟩ := b.carried h.2
    have h1 := h.1
    cases a with
    | none => exact ⟨_, .cons .none hd⟩
    | bool x => exact ⟨_, .cons (.bool x) hd⟩
    | int i t => exact ⟨_, .cons (.int i t) hd⟩
    | str x t => exact ⟨_, .cons (.str x t) hd⟩
    | _ => cases h1
/-- a frozen list of plain things taken k times -/
theorem t2_mulLst {xs : List AVal} {x : Int} {Q : AVal → AHeap → Prop} (hs : xs.all scalar = true) (h0 : 0 ≤ x) (hx : x < 2 ^ 63) (hz : xs.length * x.toNat ≤ 2 ^ 24) (h : Q (.lst (List.replicate x.toNat xs).flatten) σ) : T2 C n f (binaryOp .Mult) (.lst xs) (.int x) m σ Q := fun ok fz s E v w x' hv hw => by
  cases hw
  obtain ⟨l, us, rfl, hl, hv⟩ := hv.list_ ok x'
  obtain ⟨ds, hd⟩ := hv.carried hs
  obtain ⟨mc, news, F, N, kk⟩ := x'.newFz
  refine mul_list_is F N hl hd (by omega) hx (by rw [hv.length]; exact hz) fun h' F' N' hno hI hc => ?_
  obtain ⟨o, ho, hcl, k', hdt⟩ := hI
  have N2 : News f.h₀ f.L h' ((s.heap.objs.size, o) :: news) := fun p hp => by
    rcases List.mem_cons.mp hp with rfl | hp
    · exact ⟨ho, (Nat.ne_of_gt F.ns.lt), hno⟩
    · exact N' p hp
  exact ⟨_, σ, .lst (List.replicate x.toNat xs).flatten, fun p hp => List.mem_append_right _ hp, .mk, kk h' s.toks _ F' N2, .lst (vs := (List.replicate x.toNat us).flatten) (.inl (List.mem_append_left _ (List.mem_singleton.mpr rfl))) hcl hdt ((hv.rep _).up fun p hp => List.mem_append_right _ hp), h⟩
end
end Mine

open PySem PySem.W PyProof.Rows
set_option maxHeartbeats 8000000
namespace Mine
open_top hd11 for PySem.Challenge.rw_dn0301_11
end Mine

open PySem PySem.W PyProof.Rows PySem.Calls
open Mine
local macro_rules | `(tactic| walk_at "hp") => `(tactic| first
  | assumption
  | exact AHeap.set_same ..
  | (refine (AHeap.set_ne _ _ ?_).trans ?_; first | (first | assumption | exact Ne.symm (by assumption) | exact hp_ne (by assumption) (by assumption) | exact Ne.symm (hp_ne (by assumption) (by assumption)) | walk_at "hne"); walk_at "hp"))
local macro_rules | `(tactic| walk_at "we") => `(tactic| first
  | with_reducible refine we_int ?_
  | ((with_reducible refine' we_local ?h1 ?h2 ?_ ?h3 ?h4); (case h1 => rfl); (case h2 => rfl); (case h3 => decide); (case h4 => rfl))
  | ((with_reducible refine' we_cell ?h1 ?h2 ?h4 ?_ ?h3); (case h1 => rfl); (case h2 => rfl); (case h4 => walk_at "hp"); (case h3 => decide))
  | ((with_reducible refine' we_clocal ?h1 ?h2 ?h4 ?h5 ?_ ?h3); (case h1 => rfl); (case h2 => rfl); (case h4 => walk_at "hp"); (case h5 => rfl); (case h3 => decide))
  | with_reducible refine we_binop ?_
  | with_reducible refine we_str ?_
  | with_reducible refine we_none ?_
  | with_reducible refine we_bool ?_
  | with_reducible refine we_unary ?_
  | with_reducible refine we_ifexp ?_
  | with_reducible refine we_andN ?_
  | with_reducible refine we_orN ?_
  | with_reducible refine we_one ?_
  | ((with_reducible refine we_compare ?_ ?h1); (case h1 => rfl))
  | ((with_reducible refine' we_global ?h1 ?h2 ?_ ?h3); (case h1 => rfl); (case h2 => assumption); (case h3 => decide))
  | ((with_reducible refine' we_builtin ?h1 ?h2 ?h4 ?_ ?h5 ?h3); (case h1 => rfl); (case h2 => assumption); (case h4 => boot_by_name); (case h5 => decide); (case h3 => decide))
  | ((with_reducible refine we_call ?_ ?h1); (case h1 => rfl))
  | (refine we_method ?_)
  | ((with_reducible refine we_attr ?_ ?h1); (case h1 => rfl))
  | with_reducible refine we_tup ?_
  | with_reducible refine we_lst ?_
  | with_reducible refine we_sub (slice := .Name _ _) ?_
  | with_reducible refine we_sub (slice := .Constant _ _ _) ?_
  | with_reducible refine we_sub (slice := .BinOp _ _ _ _) ?_
  | with_reducible refine we_sub (slice := .UnaryOp _ _ _) ?_
  | with_reducible refine we_sub (slice := .Call _ _ _ _) ?_
  | with_reducible refine we_sub (slice := .Subscript _ _ _) ?_)
local macro_rules | `(tactic| walk_at "t2") => `(tactic| first
  | with_reducible refine t2_add ?_
  | with_reducible refine t2_sub ?_
  | with_reducible refine t2_eq ?_
  | with_reducible refine t2_ne ?_
  | with_reducible refine t2_lt ?_
  | with_reducible refine t2_gt ?_
  | ((with_reducible refine t2_div ?h1 ?h2 ?_); (case h1 => decide); (case h2 => decide))
  | ((with_reducible refine t2_mod ?h1 ?h2 ?_); (case h1 => decide); (case h2 => decide))
  | with_reducible refine t2_isNone ?_
  | with_reducible refine t2_isNotNone ?_)
local macro_rules | `(tactic| walk_at "tc") => `(tactic| first
  | with_reducible refine tc_cat1 ?_
  | walk_at "tcx"
  | ((with_reducible refine' tc_len ?h1 ?h2 ?_); (case h1 => first | rfl | exact items_obj (by walk_at "hp")); (case h2 => first | decide | (simp <;> omega)))
  | with_reducible refine tc_max ?_
  | with_reducible refine tc_min ?_)
local macro_rules | `(tactic| walk_at "fw") => `(tactic| first
  | ((with_reducible show WE _ _ _ _ _ _ _); walk_at "we")
  | ((with_reducible show WL _ _ _ _ _ _ _ _); (first | ((with_reducible refine wl_cons ?_ ?h1); (case h1 => rfl)) | with_reducible refine wl_nil ?_))
  | ((with_reducible show T2 _ _ _ _ _ _ _ _ _); walk_at "t2")
  | ((with_reducible show T1 _ _ _ _ _ _ _ _); first | with_reducible refine t1_neg ?_ | ((refine' t1_attr ?h1 ?h2 ?h3 ?h4 ?h5 ?h6 ?h7 ?_); (case h1 => walk_at "hp"); (case h2 => rfl); (case h3 => apply_assumption); (case h4 => assumption); (case h5 => assumption); (case h6 => rfl); (case h7 => first | assumption | rfl)))
  | ((with_reducible show TW _ _ _ _ _ _ _ _ _); ((refine' tw_inst ?h1 ?h2 ?h3 ?h4 ?h5 ?h6 ?_); (case h1 => walk_at "hp"); (case h2 => assumption); (case h3 => assumption); (case h4 => assumption); (case h5 => assumption); (case h6 => exact Nat.le_of_ble_eq_true (by rfl))))
  | ((with_reducible show TB _ _ _ _ _ _ _ _); with_reducible refine tb_bool ?_)
  | ((with_reducible show TG _ _ _ _ _ _ _ _); first | ((with_reducible refine' tg_fin ?h1 ?h2 ?h3 ?_); (case h1 => apply_assumption); (case h2 => assumption); (case h3 => assumption)) | ((with_reducible refine' tg_inst ?h1 ?h2 ?h3 ?h4 ?h5 ?_); (case h1 => walk_at "hp"); (case h2 => rfl); (case h3 => apply_assumption); (case h4 => assumption); (case h5 => assumption)))
  | ((with_reducible show List.length _ ≤ sizeLine ∧ _); refine And.intro (by first | decide | (simp [sizeLine_eq])) ?_)
  | ((with_reducible show (if true = true then _ else _)); rw [if_pos rfl])
  | ((with_reducible show (if false = true then _ else _)); rw [if_neg Bool.false_ne_true])
  | ((with_reducible show TC _ _ _ _ _ _ _ _); walk_at "tc")
  | ((with_reducible show WT _ _ _ _ _ _ _); first | ((with_reducible refine wt_compare ?_ ?h1); (case h1 => rfl)) | (with_reducible refine wt_bool ?_) | (with_reducible refine wt_not ?_))
  | ((with_reducible show WA _ _ _ _ _ _ _ _); first | (with_reducible refine wa_or ?_) | (with_reducible refine wa_or_nil ?_) | (with_reducible refine wa_and ?_) | (with_reducible refine wa_and_nil ?_))
  | ((with_reducible show WO _ _ _ _ _ _ _); first | (with_reducible refine wo_none ?_) | (with_reducible refine wo_some ?_))
  | ((with_reducible show WQ _ _ _ _ _ _ _); first | (with_reducible refine wq_nil ?_) | (with_reducible refine wq_one ?_))
  | ((with_reducible show WS _ _ _ _ _ _ _); (first | with_reducible refine ws_cons ?_ | with_reducible refine ws_nil ?_))
  | ((with_reducible show W1 _ _ _ _ _ _ _); (first | with_reducible refine w1_return ?_ | with_reducible refine w1_if ?_ | ((with_reducible refine w1_assign ?_ ?h1); (case h1 => rfl)) | ((with_reducible refine w1_assignT ?_ ?h1 ?h2); (case h1 => rfl); (case h2 => rfl)) | ((with_reducible refine w1_setItem ?_ ?h1); (case h1 => rfl)) | ((with_reducible refine w1_setAttr ?_ ?h1); (case h1 => rfl)) | ((with_reducible refine w1_expr ?_ ?h1 ?h2); (case h1 => rfl); (case h2 => rfl))))
  | ((with_reducible show TA _ _ _ _ _ _ _ _); (first | (refine ta_tup ?_) | (refine ta_name (ts_local (by rfl) ?_ (by rfl))) | (refine ta_name (ts_cell (by rfl) (by rfl) (by walk_at "hp") ?_)) | (with_reducible refine ta_sub ?_)))
  | ((with_reducible show TS _ _ _ _ _ _ _ _); first | (refine ts_local (by rfl) ?_ (by rfl)) | (refine ts_cell (by rfl) (by rfl) (by walk_at "hp") ?_))
  | ((with_reducible show TAs _ _ _ _ _ _ _ _); (first | (refine tas_cons ?_) | (refine tas_nil ?_)))
  | ((with_reducible show (_ = true → _) ∧ (_ = false → _)); (first | exact And.intro (fun hk => absurd hk (by decide)) (fun hk => absurd hk (by decide)) | refine And.intro (fun _ => ?_) (fun hk => absurd hk (by decide)) | refine And.intro (fun hk => absurd hk (by decide)) (fun _ => ?_) | refine And.intro (fun hk => ?_) (fun hk => ?_))))
local macro_rules | `(tactic| walk_at "fe") => `(tactic| ((fail_if_success (with_reducible show WS _ _ _ _ _ _ _)); walk_at "fw"))
namespace Mine
/-- what the text's top has -/
structure K11 (C : Cx) : Prop where
  hK : C.K = hd11.heap_39 C.w.params
  g_InputSource : nsIn C.K mainGlobals (Str.ofString "InputSource") = some (some (.ref 102))
  g__law_things : nsIn C.K mainGlobals (Str.ofString "_law_things") = some (some (.ref 113))
  g__law_told : nsIn C.K mainGlobals (Str.ofString "_law_told") = some (some (.ref 120))
  g__law_washed : nsIn C.K mainGlobals (Str.ofString "_law_washed") = some (some (.ref 127))
  g__law_dress : nsIn C.K mainGlobals (Str.ofString "_law_dress") = some (some (.ref 134))
  k_102 : keepIn C.K (.ref 102) = true
  k_113 : keepIn C.K (.ref 113) = true
  k_120 : keepIn C.K (.ref 120) = true
  k_127 : keepIn C.K (.ref 127) = true
  k_134 : keepIn C.K (.ref 134) = true
  b_len : nsIn C.K mainGlobals (Str.ofString "len") = some none
  b_range : nsIn C.K mainGlobals (Str.ofString "range") = some none
  mk_102 : makesIn C.K 102 = true
  pg_102 : ∀ name, plainGet C.K 102 name = true
  f_102_29 : findIn C.K (.ref 102) (Str.ofString "__init__") = some (some (.ref 29))
  i_102_29 : isFn C.K (.ref 29) = true
  k_102_29 : keepIn C.K (.ref 29) = true
  f_102_36 : findIn C.K (.ref 102) (Str.ofString "setPublicId") = some (some (.ref 36))
  i_102_36 : isFn C.K (.ref 36) = true
  k_102_36 : keepIn C.K (.ref 36) = true
  f_102_43 : findIn C.K (.ref 102) (Str.ofString "getPublicId") = some (some (.ref 43))
  i_102_43 : isFn C.K (.ref 43) = true
  k_102_43 : keepIn C.K (.ref 43) = true
  f_102_50 : findIn C.K (.ref 102) (Str.ofString "setSystemId") = some (some (.ref 50))
  i_102_50 : isFn C.K (.ref 50) = true
  k_102_50 : keepIn C.K (.ref 50) = true
  f_102_57 : findIn C.K (.ref 102) (Str.ofString "getSystemId") = some (some (.ref 57))
  i_102_57 : isFn C.K (.ref 57) = true
  k_102_57 : keepIn C.K (.ref 57) = true
  f_102_64 : findIn C.K (.ref 102) (Str.ofString "setEncoding") = some (some (.ref 64))
  i_102_64 : isFn C.K (.ref 64) = true
  k_102_64 : keepIn C.K (.ref 64) = true
  f_102_71 : findIn C.K (.ref 102) (Str.ofString "getEncoding") = some (some (.ref 71))
  i_102_71 : isFn C.K (.ref 71) = true
  k_102_71 : keepIn C.K (.ref 71) = true
  f_102_78 : findIn C.K (.ref 102) (Str.ofString "setByteStream") = some (some (.ref 78))
  i_102_78 : isFn C.K (.ref 78) = true
  k_102_78 : keepIn C.K (.ref 78) = true
  f_102_85 : findIn C.K (.ref 102) (Str.ofString "getByteStream") = some (some (.ref 85))
  i_102_85 : isFn C.K (.ref 85) = true
  k_102_85 : keepIn C.K (.ref 85) = true
  f_102_92 : findIn C.K (.ref 102) (Str.ofString "setCharacterStream") = some (some (.ref 92))
  i_102_92 : isFn C.K (.ref 92) = true
  k_102_92 : keepIn C.K (.ref 92) = true
  f_102_99 : findIn C.K (.ref 102) (Str.ofString "getCharacterStream") = some (some (.ref 99))
  i_102_99 : isFn C.K (.ref 99) = true
  k_102_99 : keepIn C.K (.ref 99) = true
  sa_102 : findIn C.K (.ref 102) "__setattr__" = some (some (.builtin "object.__setattr__"))
  po_102 : plainOver C.K 102 = true
  hd_102 : hasDictIn C.K 102 = true
  fa_102__InputSource__system_id : findIn C.K (.ref 102) (Str.ofString "_InputSource__system_id") = some none
  tk_102__InputSource__system_id : takerIn C.K 102 (Str.ofString "_InputSource__system_id") = some none
  fa_102__InputSource__public_id : findIn C.K (.ref 102) (Str.ofString "_InputSource__public_id") = some none
  tk_102__InputSource__public_id : takerIn C.K 102 (Str.ofString "_InputSource__public_id") = some none
  fa_102__InputSource__encoding : findIn C.K (.ref 102) (Str.ofString "_InputSource__encoding") = some none
  tk_102__InputSource__encoding : takerIn C.K 102 (Str.ofString "_InputSource__encoding") = some none
  fa_102__InputSource__bytefile : findIn C.K (.ref 102) (Str.ofString "_InputSource__bytefile") = some none
  tk_102__InputSource__bytefile : takerIn C.K 102 (Str.ofString "_InputSource__bytefile") = some none
  fa_102__InputSource__charfile : findIn C.K (.ref 102) (Str.ofString "_InputSource__charfile") = some none
  tk_102__InputSource__charfile : takerIn C.K 102 (Str.ofString "_InputSource__charfile") = some none
theorem k11 {C : Cx} (hK : C.K = hd11.heap_39 C.w.params) : K11 C := by
  obtain ⟨prog, w, K, vp, loose, mean, mg, mb, H⟩ := C
  dsimp only at hK
  subst hK
  constructor <;> first | kernel_rfl | rfl | (intro name; kernel_rfl)
section
variable {C : Cx} {n : Nat} {σ : AHeap} {Q : AVal → AHeap → Prop} {a : Addr} {s p e b c : AVal}
set_option maxHeartbeats 1000000 in
theorem srcInit (K : K11 C) (ha : σ a = some (.inst 102 [])) (h : Q .none (σ.set a (.inst 102 (srcA s .none .none .none .none)))) : Fn C (n + 1) 29 [.obj a, s] σ Q := by
  refine fn_plain (ns := [Str.ofString "self", Str.ofString "system_id"]) (dv := []) (da := []) (ho := by rw [K.hK]; rfl) (hcd := by rw [K.hK]; kernel_rfl) (hbind := ?_) (hd := fun _ => by first | exact .nil | exact .cons .none .nil) (hnd := by decide) (hloc := by decide) (h := ?_)
  · intro S vs hv
    match vs, hv with
    | [v1, v2], _ => first | rfl | (rw [K.hK]; rfl) | (rw [K.hK]; kernel_rfl)
  · intro A₀ A base h₀ outer L pin
    have K' := K
    cases K'
    repeat walk_at "fw"
    simp only [AHeap.set_set]
    exact ⟨_, AHeap.le_refl _, h⟩
set_option maxHeartbeats 1000000 in
theorem srcInit0 (K : K11 C) (ha : σ a = some (.inst 102 [])) (h : Q .none (σ.set a (.inst 102 (srcA .none .none .none .none .none)))) : Fn C (n + 1) 29 [.obj a] σ Q := by
  refine fn_plain (ns := [Str.ofString "self", Str.ofString "system_id"]) (dv := [.none]) (da := [.none]) (ho := by rw [K.hK]; rfl) (hcd := by rw [K.hK]; kernel_rfl) (hbind := ?_) (hd := fun _ => by first | exact .nil | exact .cons .none .nil) (hnd := by decide) (hloc := by decide) (h := ?_)
  · intro S vs hv
    match vs, hv with
    | [v1], _ => first | rfl | (rw [K.hK]; rfl) | (rw [K.hK]; kernel_rfl)
  · intro A₀ A base h₀ outer L pin
    have K' := K
    cases K'
    repeat walk_at "fw"
    simp only [AHeap.set_set]
    exact ⟨_, AHeap.le_refl _, h⟩
theorem src_setPublicId (K : K11 C) {x : AVal} (ha : σ a = some (.inst 102 (srcA s p e b c))) (h : Q .none (σ.set a (.inst 102 (srcA s x e b c)))) : Fn C (n + 1) 36 [.obj a, x] σ Q := by
  refine fn_plain (ns := [Str.ofString "self", Str.ofString "public_id"]) (dv := []) (da := []) (ho := by rw [K.hK]; rfl) (hcd := by rw [K.hK]; kernel_rfl) (hbind := ?_) (hd := fun _ => .nil) (hnd := by decide) (hloc := by decide) (h := ?_)
  · intro S vs hv
    match vs, hv with
    | [v1, v2], _ => rfl
  · intro A₀ A base h₀ outer L pin
    have K' := K
    cases K'
    repeat walk_at "fw"
    exact ⟨_, AHeap.le_refl _, h⟩
theorem src_getPublicId (K : K11 C) (ha : σ a = some (.inst 102 (srcA s p e b c))) (hh : handedA p = true) (h : Q p σ) : Fn C (n + 1) 43 [.obj a] σ Q := by
  refine fn_plain (ns := [Str.ofString "self"]) (dv := []) (da := []) (ho := by rw [K.hK]; rfl) (hcd := by rw [K.hK]; kernel_rfl) (hbind := ?_) (hd := fun _ => .nil) (hnd := by decide) (hloc := by decide) (h := ?_)
  · intro S vs hv
    match vs, hv with
    | [v], _ => rfl
  · intro A₀ A base h₀ outer L pin
    have K' := K
    cases K'
    repeat walk_at "fw"
    exact ret_le h
theorem src_setSystemId (K : K11 C) {x : AVal} (ha : σ a = some (.inst 102 (srcA s p e b c))) (h : Q .none (σ.set a (.inst 102 (srcA x p e b c)))) : Fn C (n + 1) 50 [.obj a, x] σ Q := by
  refine fn_plain (ns := [Str.ofString "self", Str.ofString "system_id"]) (dv := []) (da := []) (ho := by rw [K.hK]; rfl) (hcd := by rw [K.hK]; kernel_rfl) (hbind := ?_) (hd := fun _ => .nil) (hnd := by decide) (hloc := by decide) (h := ?_)
  · intro S vs hv
    match vs, hv with
    | [v1, v2], _ => rfl
  · intro A₀ A base h₀ outer L pin
    have K' := K
    cases K'
    repeat walk_at "fw"
    exact ⟨_, AHeap.le_refl _, h⟩
theorem src_getSystemId (K : K11 C) (ha : σ a = some (.inst 102 (srcA s p e b c))) (hh : handedA s = true) (h : Q s σ) : Fn C (n + 1) 57 [.obj a] σ Q := by
  refine fn_plain (ns := [Str.ofString "self"]) (dv := []) (da := []) (ho := by rw [K.hK]; rfl) (hcd := by rw [K.hK]; kernel_rfl) (hbind := ?_) (hd := fun _ => .nil) (hnd := by decide) (hloc := by decide) (h := ?_)
  · intro S vs hv
    match vs, hv with
    | [v], _ => rfl
  · intro A₀ A base h₀ outer L pin
    have K' := K
    cases K'
    repeat walk_at "fw"
    exact ret_le h
theorem src_setEncoding (K : K11 C) {x : AVal} (ha : σ a = some (.inst 102 (srcA s p e b c))) (h : Q .none (σ.set a (.inst 102 (srcA s p x b c)))) : Fn C (n + 1) 64 [.obj a, x] σ Q := by
  refine fn_plain (ns := [Str.ofString "self", Str.ofString "encoding"]) (dv := []) (da := []) (ho := by rw [K.hK]; rfl) (hcd := by rw [K.hK]; kernel_rfl) (hbind := ?_) (hd := fun _ => .nil) (hnd := by decide) (hloc := by decide) (h := ?_)
  · intro S vs hv
    match vs, hv with
    | [v1, v2], _ => rfl
  · intro A₀ A base h₀ outer L pin
    have K' := K
    cases K'
    repeat walk_at "fw"
    exact ⟨_, AHeap.le_refl _, h⟩
theorem src_getEncoding (K : K11 C) (ha : σ a = some (.inst 102 (srcA s p e b c))) (hh : handedA e = true) (h : Q e σ) : Fn C (n + 1) 71 [.obj a] σ Q := by
  refine fn_plain (ns := [Str.ofString "self"]) (dv := []) (da := []) (ho := by rw [K.hK]; rfl) (hcd := by rw [K.hK]; kernel_rfl) (hbind := ?_) (hd := fun _ => .nil) (hnd := by decide) (hloc := by decide) (h := ?_)
  · intro S vs hv
    match vs, hv with
    | [v], _ => rfl
  · intro A₀ A base h₀ outer L pin
    have K' := K
    cases K'
    repeat walk_at "fw"
    exact ret_le h
theorem src_setByteStream (K : K11 C) {x : AVal} (ha : σ a = some (.inst 102 (srcA s p e b c))) (h : Q .none (σ.set a (.inst 102 (srcA s p e x c)))) : Fn C (n + 1) 78 [.obj a, x] σ Q := by
  refine fn_plain (ns := [Str.ofString "self", Str.ofString "bytefile"]) (dv := []) (da := []) (ho := by rw [K.hK]; rfl) (hcd := by rw [K.hK]; kernel_rfl) (hbind := ?_) (hd := fun _ => .nil) (hnd := by decide) (hloc := by decide) (h := ?_)
  · intro S vs hv
    match vs, hv with
    | [v1, v2], _ => rfl
  · intro A₀ A base h₀ outer L pin
    have K' := K
    cases K'
    repeat walk_at "fw"
    exact ⟨_, AHeap.le_refl _, h⟩
theorem src_getByteStream (K : K11 C) (ha : σ a = some (.inst 102 (srcA s p e b c))) (hh : handedA b = true) (h : Q b σ) : Fn C (n + 1) 85 [.obj a] σ Q := by
  refine fn_plain (ns := [Str.ofString "self"]) (dv := []) (da := []) (ho := by rw [K.hK]; rfl) (hcd := by rw [K.hK]; kernel_rfl) (hbind := ?_) (hd := fun _ => .nil) (hnd := by decide) (hloc := by decide) (h := ?_)
  · intro S vs hv
    match vs, hv with
    | [v], _ => rfl
  · intro A₀ A base h₀ outer L pin
    have K' := K
    cases K'
    repeat walk_at "fw"
    exact ret_le h
theorem src_setCharacterStream (K : K11 C) {x : AVal} (ha : σ a = some (.inst 102 (srcA s p e b c))) (h : Q .none (σ.set a (.inst 102 (srcA s p e b x)))) : Fn C (n + 1) 92 [.obj a, x] σ Q := by
  refine fn_plain (ns := [Str.ofString "self", Str.ofString "charfile"]) (dv := []) (da := []) (ho := by rw [K.hK]; rfl) (hcd := by rw [K.hK]; kernel_rfl) (hbind := ?_) (hd := fun _ => .nil) (hnd := by decide) (hloc := by decide) (h := ?_)
  · intro S vs hv
    match vs, hv with
    | [v1, v2], _ => rfl
  · intro A₀ A base h₀ outer L pin
    have K' := K
    cases K'
    repeat walk_at "fw"
    exact ⟨_, AHeap.le_refl _, h⟩
theorem src_getCharacterStream (K : K11 C) (ha : σ a = some (.inst 102 (srcA s p e b c))) (hh : handedA c = true) (h : Q c σ) : Fn C (n + 1) 99 [.obj a] σ Q := by
  refine fn_plain (ns := [Str.ofString "self"]) (dv := []) (da := []) (ho := by rw [K.hK]; rfl) (hcd := by rw [K.hK]; kernel_rfl) (hbind := ?_) (hd := fun _ => .nil) (hnd := by decide) (hloc := by decide) (h := ?_)
  · intro S vs hv
    match vs, hv with
    | [v], _ => rfl
  · intro A₀ A base h₀ outer L pin
    have K' := K
    cases K'
    repeat walk_at "fw"
    exact ret_le h
end
end Mine

open PySem PySem.W PyProof.Rows PySem.Calls
local macro_rules | `(tactic| walk_at "tcx") => `(tactic| first
  | ((with_reducible refine' tc_fn ?h1 (src_getPublicId ?h2 ?h3 ?h4 ?_)); (case h1 => assumption); (case h2 => assumption); (case h3 => walk_at "hp"); (case h4 => first | rfl | assumption))
  | ((with_reducible refine' tc_fn ?h1 (src_getSystemId ?h2 ?h3 ?h4 ?_)); (case h1 => assumption); (case h2 => assumption); (case h3 => walk_at "hp"); (case h4 => first | rfl | assumption))
  | ((with_reducible refine' tc_fn ?h1 (src_getEncoding ?h2 ?h3 ?h4 ?_)); (case h1 => assumption); (case h2 => assumption); (case h3 => walk_at "hp"); (case h4 => first | rfl | assumption))
  | ((with_reducible refine' tc_fn ?h1 (src_getByteStream ?h2 ?h3 ?h4 ?_)); (case h1 => assumption); (case h2 => assumption); (case h3 => walk_at "hp"); (case h4 => first | rfl | assumption))
  | ((with_reducible refine' tc_fn ?h1 (src_getCharacterStream ?h2 ?h3 ?h4 ?_)); (case h1 => assumption); (case h2 => assumption); (case h3 => walk_at "hp"); (case h4 => first | rfl | assumption))
  | ((with_reducible refine' tc_fn ?h1 (src_setPublicId ?h2 ?h3 ?_)); (case h1 => assumption); (case h2 => assumption); (case h3 => walk_at "hp"))
  | ((with_reducible refine' tc_fn ?h1 (src_setSystemId ?h2 ?h3 ?_)); (case h1 => assumption); (case h2 => assumption); (case h3 => walk_at "hp"))
  | ((with_reducible refine' tc_fn ?h1 (src_setEncoding ?h2 ?h3 ?_)); (case h1 => assumption); (case h2 => assumption); (case h3 => walk_at "hp"))
  | ((with_reducible refine' tc_fn ?h1 (src_setByteStream ?h2 ?h3 ?_)); (case h1 => assumption); (case h2 => assumption); (case h3 => walk_at "hp"))
  | ((with_reducible refine' tc_fn ?h1 (src_setCharacterStream ?h2 ?h3 ?_)); (case h1 => assumption); (case h2 => assumption); (case h3 => walk_at "hp")))
namespace Mine

def row5 (v : Nat → AVal) : List AVal := [v 0, v 1, v 2, v 3, v 4]
def sStr (k : Nat) : Str := Txt.mul (Str.ofString "s") ((k : Int) - 1)
def sysA (k : Nat) : AVal := if k = 0 then .none else .str (sStr k)
def pubA (k : Nat) : AVal := ([.none, .str (Str.ofString ""), .str (Str.ofString "P")] : List AVal).getD (k % 3) .none
def encA (k : Nat) : AVal := ([.str (Str.ofString ""), .str (Str.ofString "Latin-1"), .none] : List AVal).getD (k % 3) .none
def chrA (k : Nat) : AVal := ([.none, .lst [], .lst [.int k]] : List AVal).getD ((k + 1) % 3) .none
def thA (k : Nat) : List AVal := [sysA k, pubA k, encA k, chrA k]
theorem sOk {k : Nat} (h : k ≤ 100) : MulOk (Str.ofString "s") ((k : Int) - 1) := by
  have e : (Str.ofString "s").length = 1 := rfl
  refine ⟨?_, fun h1 _ => ?_, fun h1 _ => ?_⟩
  · simp; omega
  · rw [e]
    have : (1 : Int) ≤ (2 ^ 63 - 1) / ((k : Int) - 1) := by
      rw [Int.le_ediv_iff_mul_le (by omega)]
      omega
    omega
  · rw [e]
    unfold Builtin.Str.tooLong
    simp [sizeLine_eq]
    omega
section
variable {C : Cx} {n : Nat} {σ : AHeap} {Q : AVal → AHeap → Prop}
theorem getD3 {x y z : AVal} {i : Nat} (h : i < 3) : ([x, y, z] : List AVal)[i]? = some (([x, y, z] : List AVal).getD i .none) := by
  obtain rfl | rfl | rfl : i = 0 ∨ i = 1 ∨ i = 2 := by omega
  all_goals rfl
set_option maxHeartbeats 4000000 in
theorem things11 (K : K11 C) {k : Nat} (hk : k ≤ 100) (h : Q (.lst (thA k)) σ) : Fn C (n + 1) 113 [.int k] σ Q := by
  refine fn_plain (ns := [Str.ofString "number"]) (dv := []) (da := []) (ho := by rw [K.hK]; rfl) (hcd := by rw [K.hK]; kernel_rfl) (hbind := ?_) (hd := fun _ => .nil) (hnd := by decide) (hloc := by decide) (h := ?_)
  · intro S vs hv
    match vs, hv with
    | [v1], _ => rfl
  · intro A₀ A base h₀ outer L pin
    have K' := K
    cases K'
    have m1 : (k : Int).fmod 3 = ((k % 3 : Nat) : Int) := by rw [fmod_pos _ (by decide)]; rfl
    have m2 : ((k : Int) + 1).fmod 3 = (((k + 1) % 3 : Nat) : Int) := by rw [fmod_pos _ (by decide)]; rfl
    have l1 : k % 3 < 3 := Nat.mod_lt _ (by decide)
    have l2 : (k + 1) % 3 < 3 := Nat.mod_lt _ (by decide)
    with_reducible refine ws_cons ?_
    with_reducible refine W1.cut (P := fun fl m' σ' => fl = .next ∧ σ' = σ ∧ Has m' [(Str.ofString "number", .int k), (Str.ofString "system", sysA k)]) ?_ ?_
    · repeat walk_at "fw"
      · rename_i hz
        have : k = 0 := by simpa using hz
        subst this
        exact ⟨rfl, rfl, rfl, rfl, trivial⟩
      · rename_i hz
        have : k ≠ 0 := by simpa using hz
        refine t2_mulStr (sOk hk) ?_
        repeat walk_at "fw"
        refine ⟨rfl, rfl, rfl, ?_, trivial⟩
        unfold sysA sStr
        rw [if_neg this]; rfl
    · rintro fl m' σ' ⟨rfl, rfl, hm⟩
      with_reducible show WS _ _ _ _ _ _ _
      with_reducible refine WS.weaken (Has.sub hm) (AHeap.le_refl _) ?_
      repeat walk_at "fw"
      rw [m1]
      refine t2_item (y := pubA k) rfl (by omega) (by omega) (getD3 l1) ?_
      repeat walk_at "fw"
      rw [m1]
      refine t2_item (y := encA k) rfl (by omega) (by omega) (getD3 l1) ?_
      repeat walk_at "fw"
      rw [m2]
      refine t2_item (y := chrA k) rfl (by omega) (by omega) (getD3 l2) ?_
      repeat walk_at "fw"
      exact ret_le h
set_option maxHeartbeats 4000000 in
theorem told11 (K : K11 C) {a : Addr} {v : Nat → AVal} (ha : σ a = some (.inst 102 (srcV v))) (hv : ∀ f, f < 5 → handedA (v f) = true) (h : Q (.lst (row5 v)) σ) : Fn C (n + 2) 120 [.obj a] σ Q := by
  refine fn_plain (ns := [Str.ofString "source"]) (dv := []) (da := []) (ho := by rw [K.hK]; rfl) (hcd := by rw [K.hK]; kernel_rfl) (hbind := ?_) (hd := fun _ => .nil) (hnd := by decide) (hloc := by decide) (h := ?_)
  · intro S vs hv
    match vs, hv with
    | [v1], _ => rfl
  · intro A₀ A base h₀ outer L pin
    have K' := K
    cases K'
    unfold srcV at ha
    have h0 := hv 0 (by omega)
    have h1 := hv 1 (by omega)
    have h2 := hv 2 (by omega)
    have h3 := hv 3 (by omega)
    have h4 := hv 4 (by omega)
    repeat walk_at "fw"
    exact ret_le h
end
end Mine

open PySem PySem.W PyProof.Rows PySem.Calls
namespace Mine

section
variable {C : Cx} {n : Nat} {σ : AHeap} {Q : AVal → AHeap → Prop}
def posF : Nat → Nat
  | 0 => 0
  | 1 => 1
  | 2 => 2
  | _ => 4
/-- the four other things set -/
def dressV (v : Nat → AVal) (t : List AVal) : Nat → AVal
  | 0 => t.getD 0 .none
  | 1 => t.getD 1 .none
  | 2 => t.getD 2 .none
  | 3 => v 3
  | _ => t.getD 3 .none
theorem get4 {t : List AVal} (ht : t.length = 4) {q : Nat} (h : q < 4) : t[q]? = some (t.getD q .none) := by
  rw [List.getD_eq_getElem?_getD, List.getElem?_eq_getElem (by omega)]; rfl
set_option maxHeartbeats 4000000 in
theorem dress11 (K : K11 C) {a : Addr} {k : Nat} {v : Nat → AVal} {t : List AVal} (ht : t.length = 4) (ha : σ a = some (.inst 102 (srcV v))) (h : ∀ l, σ l = none → Q (.obj l) ((σ.set a (.inst 102 (srcV (dressV v t)))).set l (.list (List.replicate 4 .none)))) : Fn C (n + 2) 134 [.obj a, .int k, .lst t] σ Q := by
  refine fn_plain (ns := [Str.ofString "source", Str.ofString "number", Str.ofString "things"]) (dv := []) (da := []) (ho := by rw [K.hK]; rfl) (hcd := by rw [K.hK]; kernel_rfl) (hbind := ?_) (hd := fun _ => .nil) (hnd := by decide) (hloc := by decide) (h := ?_)
  · intro S vs hv
    match vs, hv with
    | [v1, v2, v3], _ => rfl
  · intro A₀ A base h₀ outer L pin
    have K' := K
    cases K'
    iterate 2 walk_at "fw"
    refine we_listM ?_
    repeat walk_at "fw"
    intro l hl
    have hal : a ≠ l := hp_ne ha hl
    repeat walk_at "fw"
    with_reducible refine W1.weaken (m' := [(Str.ofString "source", .obj a), (Str.ofString "number", .int k), (Str.ofString "things", .lst t), (Str.ofString "answers", .obj l)]) ?hm (AHeap.le_refl _) ?_
    case hm => exact Has.sub ⟨rfl, rfl, rfl, rfl, trivial⟩
    with_reducible refine w1_for (fun rest m' σ' => ∃ (j : Nat) (w : Nat → AVal), rest = (rngL 0 1 4).drop j ∧ j ≤ 4 ∧ w 3 = v 3 ∧ σ' = (σ.set a (.inst 102 (srcV w))).set l (.list (List.replicate j .none)) ∧ (∀ i q : Nat, i < j → (k + i) % 4 = q → w (posF q) = t.getD q .none) ∧ m' = [(Str.ofString "source", .obj a), (Str.ofString "number", .int k), (Str.ofString "things", .lst t), (Str.ofString "answers", .obj l)]) ?_ ?_ ?_ ?hs
    case hs => intro _; rfl
    · refine wi ?_
      repeat walk_at "fw"
      refine tc_range1 ?_
      refine ti_rng (k := 4) (rng_small1 (by omega) (by omega)) (rng_size1' (k := 4)) ⟨rfl, 0, v, by simp, by omega, rfl, ?_, fun i q hi => absurd hi (by omega), rfl⟩
      funext b
      unfold AHeap.set
      split
      · rfl
      · split
        · rename_i e; rw [e, ha]
        · rfl
    · rintro pin x xs m' σ' ⟨j, w, h1, hj4, hw3, rfl, hI, rfl⟩
      obtain ⟨hj, rfl, rfl⟩ := rngL_cons h1
      have e0 : (0 + (j : Int) * 1) = j := by omega
      rw [e0]
      have e1 : ((k : Int) + (j : Int)).fmod 4 = (((k + j) % 4 : Nat) : Int) := by rw [fmod_pos _ (by decide)]; rfl
      have hq4 : (k + j) % 4 < 4 := Nat.mod_lt _ (by decide)
      have sa : ((σ.set a (.inst 102 (srcV w))).set l (.list (List.replicate j .none))) a = some (.inst 102 (srcA (w 0) (w 1) (w 2) (w 3) (w 4))) := (AHeap.set_ne _ _ hal).trans (AHeap.set_same ..)
      have sl : ((σ.set a (.inst 102 (srcV w))).set l (.list (List.replicate j .none))) l = some (.list (List.replicate j .none)) := AHeap.set_same ..
      have fin : ∀ q : Nat, (k + j) % 4 = q → q < 4 → ∀ w', w' = up w (posF q) (t.getD q .none) → Turn id (fun m' σ' => ∃ (j' : Nat) (w : Nat → AVal), (rngL 0 1 4).drop (j + 1) = (rngL 0 1 4).drop j' ∧ j' ≤ 4 ∧ w 3 = v 3 ∧ σ' = (σ.set a (.inst 102 (srcV w))).set l (.list (List.replicate j' .none)) ∧ (∀ i q : Nat, i < j' → (k + i) % 4 = q → w (posF q) = t.getD q .none) ∧ m' = [(Str.ofString "source", .obj a), (Str.ofString "number", .int k), (Str.ofString "things", .lst t), (Str.ofString "answers", .obj l)]) (fun fl _ σ' => ∃ σ₂ : AHeap, σ₂.le σ' ∧ Q (retOf fl) σ₂) .next [(Str.ofString "source", .obj a), (Str.ofString "number", .int k), (Str.ofString "things", .lst t), (Str.ofString "answers", .obj l), (Str.ofString "k", .int j), (Str.ofString "field", .int (((k : Int) + j).fmod 4))] ((((σ.set a (.inst 102 (srcV w))).set l (.list (List.replicate j .none))).set a (.inst 102 (srcV w'))).set l (.list (List.replicate j .none ++ [.none]))) := by
        intro q hq hq4 w' hw'
        subst hw'
        refine ⟨[(Str.ofString "source", .obj a), (Str.ofString "number", .int k), (Str.ofString "things", .lst t), (Str.ofString "answers", .obj l)], _, Has.sub ⟨rfl, rfl, rfl, rfl, trivial⟩, AHeap.le_refl _, j + 1, up w (posF q) (t.getD q .none), rfl, by omega, ?_, ?_, fun i q' hi hq' => ?_, rfl⟩
        · rw [up_ne _ _ (by unfold posF; split <;> omega)]; exact hw3
        · rw [AHeap.set_comm _ _ _ hal.symm, AHeap.set_set, AHeap.set_set, List.replicate_succ']
        · by_cases e : q' = q
          · subst e; exact up_same ..
          · have hne : posF q' ≠ posF q := fun r => e (by
              have hq'4 : q' < 4 := by rw [← hq']; exact Nat.mod_lt _ (by decide)
              obtain rfl | rfl | rfl | rfl : q = 0 ∨ q = 1 ∨ q = 2 ∨ q = 3 := by omega
              all_goals obtain rfl | rfl | rfl | rfl : q' = 0 ∨ q' = 1 ∨ q' = 2 ∨ q' = 3 := by omega
              all_goals first | rfl | (simp [posF] at r))
            rw [up_ne _ _ hne]
            refine hI i q' ?_ hq'
            rcases Nat.lt_succ_iff_lt_or_eq.mp hi with r | r
            · exact r
            · subst r; exact absurd (hq'.symm.trans hq) e
      walk_at "fw"
      dsimp only [Fm.withPin]
      iterate 11 walk_at "fw"
      have hget : ∀ q : Nat, q < 4 → t[((q : Int)).toNat]? = some (t.getD q .none) := fun q hq => get4 ht hq
      generalize hqq : (k + j) % 4 = q at *
      obtain rfl | rfl | rfl | rfl : q = 0 ∨ q = 1 ∨ q = 2 ∨ q = 3 := by omega
      all_goals rw [e1] at *
      all_goals (repeat walk_at "fw")
      · refine tg_listM sl PySem.F.slot_list_append PySem.F.type_list_append ?_
        repeat walk_at "fw"
        refine t2_item (y := t.getD 0 .none) rfl (by omega) (by omega) (hget 0 (by omega)) ?_
        repeat walk_at "fw"
        refine tc_append (by walk_at "hp") (by simp [sizeLine_eq]; omega) ?_
        repeat walk_at "fw"
        exact fin 0 rfl (by omega) _ rfl
      · refine tg_listM sl PySem.F.slot_list_append PySem.F.type_list_append ?_
        repeat walk_at "fw"
        refine t2_item (y := t.getD 1 .none) rfl (by omega) (by omega) (hget 1 (by omega)) ?_
        repeat walk_at "fw"
        refine tc_append (by walk_at "hp") (by simp [sizeLine_eq]; omega) ?_
        repeat walk_at "fw"
        exact fin 1 rfl (by omega) _ rfl
      · refine tg_listM sl PySem.F.slot_list_append PySem.F.type_list_append ?_
        repeat walk_at "fw"
        refine t2_item (y := t.getD 2 .none) rfl (by omega) (by omega) (hget 2 (by omega)) ?_
        repeat walk_at "fw"
        refine tc_append (by walk_at "hp") (by simp [sizeLine_eq]; omega) ?_
        repeat walk_at "fw"
        exact fin 2 rfl (by omega) _ rfl
      · refine tg_listM sl PySem.F.slot_list_append PySem.F.type_list_append ?_
        repeat walk_at "fw"
        refine t2_item (y := t.getD 3 .none) rfl (by omega) (by omega) (hget 3 (by omega)) ?_
        repeat walk_at "fw"
        refine tc_append (by walk_at "hp") (by simp [sizeLine_eq]; omega) ?_
        repeat walk_at "fw"
        exact fin 3 rfl (by omega) _ rfl
    · rintro m' σ' ⟨j, w, h1, hj4, hw3, rfl, hI, rfl⟩
      have hj := rngL_nil h1
      obtain rfl : j = 4 := by omega
      have hall : ∀ q : Nat, q < 4 → w (posF q) = t.getD q .none := fun q hq => by
        have : ∃ i : Nat, i < 4 ∧ (k + i) % 4 = q := ⟨(q + 4 - k % 4) % 4, by omega, by omega⟩
        obtain ⟨i, hi, e⟩ := this
        exact hI i q hi e
      repeat walk_at "fw"
      have ew : srcV w = srcV (dressV v t) := by
        unfold srcV
        rw [show w 0 = dressV v t 0 from hall 0 (by omega), show w 1 = dressV v t 1 from hall 1 (by omega), show w 2 = dressV v t 2 from hall 2 (by omega), show w 3 = dressV v t 3 from hw3, show w 4 = dressV v t 4 from hall 3 (by omega)]
      rw [ew]
      exact ret_le (h l hl)
set_option maxHeartbeats 4000000 in
theorem washed11 (K : K11 C) {a : Addr} {v : Nat → AVal} (ha : σ a = some (.inst 102 (srcV v))) (h : Q (.bool true) (σ.set a (.inst 102 (srcV fun _ => .none)))) : Fn C (n + 3) 127 [.obj a] σ Q := by
  refine fn_plain (ns := [Str.ofString "source"]) (dv := []) (da := []) (ho := by rw [K.hK]; rfl) (hcd := by rw [K.hK]; kernel_rfl) (hbind := ?_) (hd := fun _ => .nil) (hnd := by decide) (hloc := by decide) (h := ?_)
  · intro S vs hv
    match vs, hv with
    | [v1], _ => rfl
  · intro A₀ A base h₀ outer L pin
    have K' := K
    cases K'
    with_reducible refine ws_cons ?_
    with_reducible refine w1_for (fun rest m' σ' => (∃ w, (σ.set a (.inst 102 (srcV w))).le σ' ∧ (rest = [] → w = fun _ => .none)) ∧ (∃ j, rest = ([.str (Str.ofString "x"), .str (Str.ofString ""), .none] : List AVal).drop j ∧ j ≤ 3) ∧ m' = [(Str.ofString "source", .obj a)]) ?_ ?_ ?_ ?hs
    case hs => intro _; rfl
    · refine wi ?_
      repeat walk_at "fw"
      refine ti_lst ⟨rfl, ⟨v, ?_, fun e => by cases e⟩, ⟨0, rfl, by omega⟩, rfl⟩
      intro b o e
      unfold AHeap.set at e
      split at e
      · rename_i q; rw [q, ha]; exact e
      · exact e
    · rintro pin x xs m' σ' ⟨⟨w, hw, _⟩, ⟨j, hj, hj3⟩, rfl⟩
      have sa : σ' a = some (.inst 102 (srcA (w 0) (w 1) (w 2) (w 3) (w 4))) := hw _ _ (AHeap.set_same ..)
      have key : ∃ d, (∀ σ', Rd σ' x d) ∧ Dk 0 d ∧ scalar x = true ∧ handedA x = true ∧ (xs = [] → x = .none) ∧ xs = ([.str (Str.ofString "x"), .str (Str.ofString ""), .none] : List AVal).drop (j + 1) ∧ j < 3 := by
        obtain rfl | rfl | rfl | rfl : j = 0 ∨ j = 1 ∨ j = 2 ∨ j = 3 := by omega
        · cases hj; exact ⟨_, fun _ => .str _, Dk.str (by decide +kernel), rfl, rfl, (fun e => by cases e), rfl, by omega⟩
        · cases hj; exact ⟨_, fun _ => .str _, Dk.str (by decide +kernel), rfl, rfl, (fun e => by cases e), rfl, by omega⟩
        · cases hj; exact ⟨_, fun _ => .none, Dk.none, rfl, rfl, (fun _ => rfl), rfl, by omega⟩
        · cases hj
      obtain ⟨d, rd, dk, hsc, hx, hlast, rfl, hj2⟩ := key
      walk_at "fw"
      dsimp only [Fm.withPin]
      repeat walk_at "fw"
      rw [AHeap.set_set, AHeap.set_set, AHeap.set_set, AHeap.set_set]
      refine t2_mulLst rfl (by omega) (by omega) (by decide) ?_
      refine t2_neS (k := 1) (Rd.lst (.cons .none (.cons .none (.cons .none (.cons .none (.cons .none .nil)))))) (Rd.lst (xs := [.none, .none, .none, .none, .none]) (.cons .none (.cons .none (.cons .none (.cons .none (.cons .none .nil)))))) (Dk.list (k := 0) fun d hd => ?_) ?_
      · simp at hd; rw [hd]; exact Dk.none
      repeat walk_at "fw"
      refine tc_fn (by assumption) (told11 K (v := fun _ => x) (AHeap.set_same ..) (fun _ _ => hx) ?_)
      repeat walk_at "fw"
      refine t2_mulLst (by simp [hsc]) (by omega) (by omega) (by show 1 * 5 ≤ 2 ^ 24; decide) ?_
      refine t2_neS (k := 1) (Rd.lst (.cons (rd _) (.cons (rd _) (.cons (rd _) (.cons (rd _) (.cons (rd _) .nil)))))) (Rd.lst (xs := [x, x, x, x, x]) (.cons (rd _) (.cons (rd _) (.cons (rd _) (.cons (rd _) (.cons (rd _) .nil)))))) (Dk.list (k := 0) fun d' hd => ?_) ?_
      · simp at hd; rw [hd]; exact dk
      repeat walk_at "fw"
      refine ⟨[(Str.ofString "source", .obj a)], _, Has.sub ⟨rfl, trivial⟩, AHeap.le_refl _, ⟨fun _ => x, ?_, fun e => ?_⟩, ⟨j + 1, rfl, by omega⟩, rfl⟩
      · intro b o e
        unfold AHeap.set at e ⊢
        split at e
        · rename_i q; rw [if_pos q]; exact e
        · rename_i q
          rw [if_neg q]
          exact hw b o ((AHeap.set_ne _ _ q).trans e)
      · funext _; exact hlast e
    · rintro m' σ' ⟨⟨w, hw, hl⟩, _, rfl⟩
      repeat walk_at "fw"
      rw [hl rfl] at hw
      exact ret_le' hw h
end
end Mine

open PySem PySem.W PyProof.Rows PySem.Calls
namespace Mine
abbrev Ix := Nat × Nat
structure R11 where
  n : Nat
  ord : List Nat
  loo : List Nat
  k : Nat
  iv : Nat → Nat → AVal
  cv : Option AVal
def natA (l : List Nat) : List AVal := l.map fun (i : Nat) => AVal.int (i : Int)
def R11.obj (R : R11) (ad : Ix → Addr) : Ix → AObj
  | (0, _) => .cell R.cv
  | (1, _) => .list ((List.range R.n).map fun i => .obj (ad (9, i + 1)))
  | (3, _) => .list (natA R.loo)
  | (4, _) => .list (List.replicate R.k .none)
  | (6, _) => .list (natA R.ord)
  | (_, k) => .inst 102 (srcV (R.iv k))
def R11.Live (R : R11) : Ix → Prop
  | (0, i) => i = 0
  | (1, i) => i = 0
  | (3, i) => i = 0
  | (4, i) => i = 0
  | (6, i) => i = 0
  | (9, k) => k ≤ R.n
  | _ => False
/-- fixed and moving addresses -/
def adr (fx dy : Ix → Addr) (x : Ix) : Addr := if x.1 ≤ 5 then fx x else dy x
theorem adr_up {fx dy : Ix → Addr} {k i : Nat} {a : Addr} (h : 5 < k) : up (adr fx dy) (k, i) a = adr fx (up dy (k, i) a) := by
  funext x
  unfold up adr
  by_cases e : x = (k, i)
  · subst e; simp; omega
  · simp only [if_neg e]
abbrev P11 (fx dy : Ix → Addr) (R : R11) (σ : AHeap) : Prop := Hx σ (adr fx dy) R.Live (R.obj (adr fx dy))
def fixL : List Ix := [(0, 0), (1, 0), (3, 0), (4, 0)]
def FxQ (fx : Ix → Addr) : Prop := ∀ x ∈ fixL, ∀ y ∈ fixL, x ≠ y → fx x ≠ fx y
def DQ (fx : Ix → Addr) (d : Addr) : Prop := ∀ x ∈ fixL, fx x ≠ d
theorem hfxq {fx : Ix → Addr} {x y : Ix} (h : FxQ fx) (hx : x ∈ fixL) (hy : y ∈ fixL) (hxy : x ≠ y) : fx x ≠ fx y := h x hx y hy hxy
theorem hdq {fx : Ix → Addr} {x : Ix} {d : Addr} (h : DQ fx d) (hx : x ∈ fixL) : fx x ≠ d := h x hx
theorem fix_live {R : R11} {x : Ix} (h : x ∈ fixL) : R.Live x ∧ x.1 ≤ 5 := by
  simp only [fixL, List.mem_cons, List.not_mem_nil, or_false] at h
  rcases h with rfl | rfl | rfl | rfl
  all_goals simp [R11.Live]
/-- one node's stream -/
def setF (iv : Nat → Nat → AVal) (k : Nat) (w : AVal) : Nat → Nat → AVal := up iv k (up (iv k) 3 w)
theorem setF_same {iv : Nat → Nat → AVal} {k : Nat} {w : AVal} : setF iv k w k 3 = w := by unfold setF; rw [up_same, up_same]
theorem setF_ne {iv : Nat → Nat → AVal} {k j : Nat} {w : AVal} (h : j ≠ k) : setF iv k w j = iv j := by unfold setF; rw [up_ne _ _ h]
theorem setF_f {iv : Nat → Nat → AVal} {k j f : Nat} {w : AVal} (h : f ≠ 3) : setF iv k w j f = iv j f := by
  unfold setF
  by_cases e : j = k
  · subst e; rw [up_same, up_ne _ _ h]
  · rw [up_ne _ _ e]
section
variable {fx dy : Ix → Addr} {R : R11} {σ : AHeap}
theorem P11.fxq (H : P11 fx dy R σ) : FxQ fx := fun x hx y hy hxy => by
  obtain ⟨l1, k1⟩ := fix_live (R := R) hx
  obtain ⟨l2, k2⟩ := fix_live (R := R) hy
  have := H.ne x y l1 l2 hxy
  unfold adr at this
  rwa [if_pos k1, if_pos k2] at this
theorem P11.dq (H : P11 fx dy R σ) {k i : Nat} (hk : 5 < k) (hl : R.Live (k, i)) : DQ fx (dy (k, i)) := fun x hx => by
  obtain ⟨l1, k1⟩ := fix_live (R := R) hx
  have := H.ne x (k, i) l1 hl (fun e => by rw [e] at k1; simp at k1; omega)
  unfold adr at this
  rwa [if_pos k1, if_neg (by simp; omega)] at this
theorem P11.dd (H : P11 fx dy R σ) {k i k' i' : Nat} (hk : 5 < k) (hk' : 5 < k') (hl : R.Live (k, i)) (hl' : R.Live (k', i')) (h : (k, i) ≠ (k', i')) : dy (k, i) ≠ dy (k', i') := by
  have := H.ne (k, i) (k', i') hl hl' h
  unfold adr at this
  rwa [if_neg (by simp; omega), if_neg (by simp; omega)] at this
theorem P11.src {p : Nat} {w : Nat → AVal} (H : P11 fx dy R σ) (hp : p ≤ R.n) : P11 fx dy { R with iv := up R.iv p w } (σ.set (dy (9, p)) (.inst 102 (srcV w))) := by
  refine Hx.obj (Hx.set (x := (9, p)) H hp) fun y hy => ?_
  obtain ⟨k, j⟩ := y
  by_cases e : (k, j) = (9, p)
  · cases e; simp [up, R11.obj]
  · rw [up_ne _ _ e]
    rcases k with _ | _ | _ | _ | _ | _ | _ | _ | _ | _ | k <;> first | rfl | exact hy.elim | skip
    have : j ≠ p := fun q => e (by rw [q])
    simp [R11.obj, up, this]
theorem P11.ans {xs : List AVal} {k : Nat} (H : P11 fx dy R σ) (hx : xs = List.replicate k .none) : P11 fx dy { R with k := R.k + k } (σ.set (fx (4, 0)) (.list (List.replicate R.k .none ++ xs))) := by
  refine Hx.obj (Hx.set (x := (4, 0)) H rfl) fun y hy => ?_
  obtain ⟨k', j⟩ := y
  by_cases e : (k', j) = (4, 0)
  · cases e; simp [up, R11.obj, hx]
  · rw [up_ne _ _ e]
    rcases k' with _ | _ | _ | _ | _ | _ | _ | _ | _ | _ | k' <;> first | rfl | exact hy.elim | skip
    have : j = 0 := hy
    exact absurd (by rw [this]) e
theorem P11.loo {l : List Nat} (H : P11 fx dy R σ) : P11 fx dy { R with loo := l } (σ.set (fx (3, 0)) (.list (natA l))) := by
  refine Hx.obj (Hx.set (x := (3, 0)) H rfl) fun y hy => ?_
  obtain ⟨k', j⟩ := y
  by_cases e : (k', j) = (3, 0)
  · cases e; simp [up, R11.obj]
  · rw [up_ne _ _ e]
    rcases k' with _ | _ | _ | _ | _ | _ | _ | _ | _ | _ | k' <;> first | rfl | exact hy.elim | skip
    have : j = 0 := hy
    exact absurd (by rw [this]) e
theorem P11.ord {l : List Nat} (H : P11 fx dy R σ) : P11 fx dy { R with ord := l } (σ.set (dy (6, 0)) (.list (natA l))) := by
  refine Hx.obj (Hx.set (x := (6, 0)) H rfl) fun y hy => ?_
  obtain ⟨k', j⟩ := y
  by_cases e : (k', j) = (6, 0)
  · cases e; simp [up, R11.obj]
  · rw [up_ne _ _ e]
    rcases k' with _ | _ | _ | _ | _ | _ | _ | _ | _ | _ | k' <;> first | rfl | exact hy.elim | skip
    have : j = 0 := hy
    exact absurd (by rw [this]) e
theorem P11.newOrd {l : List Nat} {a : Addr} (H : P11 fx dy R σ) (ha : σ a = none) : P11 fx (up dy (6, 0) a) { R with ord := l } (σ.set a (.list (natA l))) := by
  have H0 : Hx σ (adr fx dy) (fun y => R.Live y ∧ y ≠ (6, 0)) (R.obj (adr fx dy)) := Hx.sub H fun y hy => hy.1
  have H1 := Hx.new (x := (6, 0)) (v := .list (natA l)) H0 ha (fun h => h.2 rfl)
  rw [adr_up (by omega)] at H1
  refine Hx.obj (Hx.sub H1 fun y hy => ?_) fun y hy => ?_
  · by_cases e : y = (6, 0)
    · exact .inr e
    · exact .inl ⟨hy, e⟩
  · obtain ⟨k', j⟩ := y
    by_cases e : (k', j) = (6, 0)
    · cases e; simp [up, R11.obj]
    · rw [up_ne _ _ e]
      rcases k' with _ | _ | _ | _ | _ | _ | _ | _ | _ | _ | k' <;> first | rfl | exact hy.elim | skip
      have : j = 0 := hy
      exact absurd (by rw [this]) e
theorem P11.newSrc {a : Addr} {w : Nat → AVal} (H : P11 fx dy R σ) (ha : σ a = none) : P11 fx (up dy (9, R.n + 1) a) { R with n := R.n + 1, iv := up R.iv (R.n + 1) w } ((σ.set a (.inst 102 (srcV w))).set (fx (1, 0)) (.list ((List.range R.n).map (fun j => .obj (dy (9, j + 1))) ++ [.obj a]))) := by
  have H1 := Hx.new (x := (9, R.n + 1)) (v := .inst 102 (srcV w)) H ha (fun h => by have : R.n + 1 ≤ R.n := h; omega)
  have H2 := Hx.set (x := (1, 0)) (v := .list ((List.range R.n).map (fun j => .obj (dy (9, j + 1))) ++ [.obj a])) H1 (.inl rfl)
  rw [adr_up (by omega)] at H2
  refine Hx.obj (Hx.sub H2 fun y hy => ?_) fun y hy => ?_
  · obtain ⟨k, j⟩ := y
    rcases k with _ | _ | _ | _ | _ | _ | _ | _ | _ | _ | k <;> first | exact .inl hy | exact hy.elim | skip
    have : j ≤ R.n + 1 := hy
    by_cases e : j = R.n + 1
    · exact .inr (by rw [e])
    · exact .inl (by show j ≤ R.n; omega)
  · obtain ⟨k, j⟩ := y
    rcases k with _ | _ | _ | _ | _ | _ | _ | _ | _ | _ | k
    · simp [up, R11.obj]
    · have : j = 0 := hy
      subst this
      simp only [up_same]
      show AObj.list _ = AObj.list ((List.range (R.n + 1)).map fun j => .obj (up dy (9, R.n + 1) a (9, j + 1)))
      rw [List.range_succ, List.map_append]
      congr 2
      · refine List.map_congr_left fun j hj => ?_
        have : (9, j + 1) ≠ ((9, R.n + 1) : Ix) := fun e => by cases e; simp at hj
        rw [up_ne _ _ this]
      · simp [up]
    · exact hy.elim
    · simp [up, R11.obj]
    · simp [up, R11.obj]
    · exact hy.elim
    · simp [up, R11.obj]
    · exact hy.elim
    · exact hy.elim
    · by_cases e : j = R.n + 1
      · subst e; simp [up, R11.obj]
      · simp [up, R11.obj, e]
    · exact hy.elim
end
/-! ## chains -/
def hdA (dy : Ix → Addr) : List Nat → AVal
  | [] => .none
  | i :: _ => .obj (dy (9, i + 1))
def Sg (dy : Ix → Addr) (iv : Nat → Nat → AVal) : Nat → List Nat → AVal → Prop
  | k, [], v => iv k 3 = v
  | k, i :: r, v => iv k 3 = .obj (dy (9, i + 1)) ∧ Sg dy iv (i + 1) r v
def Rst (dy : Ix → Addr) (iv : Nat → Nat → AVal) : List Nat → Prop
  | [] => True
  | i :: r => Sg dy iv (i + 1) r .none
def lastN : Nat → List Nat → Nat
  | k, [] => k
  | _, i :: r => lastN (i + 1) r
section
variable {dy : Ix → Addr} {iv iv' : Nat → Nat → AVal}
theorem Sg.split : ∀ {l : List Nat} {k : Nat}, Sg dy iv k l .none ↔ iv k 3 = hdA dy l ∧ Rst dy iv l
  | [], k => by simp [Sg, hdA, Rst]
  | i :: r, k => by simp [Sg, hdA, Rst]
theorem Sg.app : ∀ {l₁ l₂ : List Nat} {k : Nat}, Sg dy iv k (l₁ ++ l₂) .none ↔ Sg dy iv k l₁ (hdA dy l₂) ∧ Rst dy iv l₂
  | [], l₂, k => Sg.split
  | i :: r, l₂, k => by
    show (_ ∧ Sg dy iv (i + 1) (r ++ l₂) .none) ↔ (_ ∧ Sg dy iv (i + 1) r _) ∧ _
    rw [Sg.app (l₁ := r), and_assoc]
theorem Sg.val : ∀ {l : List Nat} {k : Nat} {v : AVal}, Sg dy iv k l v → iv (lastN k l) 3 = v
  | [], _, _, h => h
  | i :: r, _, _, h => Sg.val (l := r) h.2
theorem lastN_snoc : ∀ {l : List Nat} {k i : Nat}, lastN k (l ++ [i]) = i + 1
  | [], _, _ => rfl
  | j :: r, _, i => lastN_snoc (l := r)
theorem lastN_mem : ∀ {l : List Nat} {k : Nat}, lastN k l = k ∨ ∃ i ∈ l, lastN k l = i + 1
  | [], _ => .inl rfl
  | j :: r, k => by
    rcases lastN_mem (l := r) (k := j + 1) with h | ⟨i, hi, h⟩
    · exact .inr ⟨j, List.mem_cons_self .., h⟩
    · exact .inr ⟨i, List.mem_cons_of_mem _ hi, h⟩
theorem Sg.congr : ∀ {l : List Nat} {k : Nat} {v : AVal}, Sg dy iv k l v → iv' k 3 = iv k 3 → (∀ i ∈ l, iv' (i + 1) 3 = iv (i + 1) 3) → Sg dy iv' k l v
  | [], k, v, h, h0, _ => h0.trans h
  | i :: r, k, v, h, h0, hl => ⟨h0.trans h.1, Sg.congr h.2 (hl i (List.mem_cons_self ..)) fun j hj => hl j (List.mem_cons_of_mem _ hj)⟩
theorem Rst.congr {l : List Nat} (h : Rst dy iv l) (hl : ∀ i ∈ l, iv' (i + 1) 3 = iv (i + 1) 3) : Rst dy iv' l := by
  cases l with
  | nil => trivial
  | cons i r => exact Sg.congr h (hl i (List.mem_cons_self ..)) fun j hj => hl j (List.mem_cons_of_mem _ hj)
/-- the last one's stream is set -/
theorem Sg.put : ∀ {l : List Nat} {k : Nat} {v w : AVal}, Sg dy iv k l v → l.Nodup → (∀ i ∈ l, i + 1 ≠ k) → Sg dy (setF iv (lastN k l) w) k l w
  | [], k, v, w, _, _, _ => setF_same
  | i :: r, k, v, w, h, nd, hk => by
    obtain ⟨n1, n2⟩ := List.nodup_cons.mp nd
    refine ⟨?_, Sg.put h.2 n2 fun j hj e => n1 ((Nat.succ.inj e) ▸ hj)⟩
    have : k ≠ lastN (i + 1) r := by
      rcases lastN_mem (l := r) (k := i + 1) with q | ⟨j, hj, q⟩
      · rw [q]; exact fun e => hk i (List.mem_cons_self ..) e.symm
      · rw [q]; exact fun e => hk j (List.mem_cons_of_mem _ hj) e.symm
    show setF iv (lastN (i + 1) r) w k 3 = _
    rw [setF_ne this]; exact h.1
end
end Mine

open PySem PySem.W PyProof.Rows PySem.Calls
local macro_rules | `(tactic| walk_at "hne") => `(tactic| first
  | exact hfxq (by assumption) (by decide) (by decide) (by decide)
  | exact hdq (by assumption) (by decide)
  | exact Ne.symm (hdq (by assumption) (by decide)))
namespace Mine

section
variable {dy : Ix → Addr} {iv : Nat → Nat → AVal}
theorem last_ne {l : List Nat} {m : Nat} (h : m ∉ l) : lastN 0 l ≠ m + 1 := by
  rcases lastN_mem (l := l) (k := 0) with q | ⟨i, hi, q⟩
  · rw [q]; omega
  · rw [q]; exact fun e => h ((Nat.succ.inj e) ▸ hi)
/-- one goes in -/
theorem Sg.ins {l₁ l₂ : List Nat} {m : Nat} (h : Sg dy iv 0 (l₁ ++ l₂) .none) (nd : (l₁ ++ l₂).Nodup) (hm : m ∉ l₁ ++ l₂) :
    iv (lastN 0 l₁) 3 = hdA dy l₂ ∧ Sg dy (setF (setF iv (m + 1) (hdA dy l₂)) (lastN 0 l₁) (.obj (dy (9, m + 1)))) 0 (l₁ ++ m :: l₂) .none := by
  obtain ⟨h1, h2⟩ := Sg.app.mp h
  have m1 : m ∉ l₁ := fun q => hm (List.mem_append_left _ q)
  have m2 : m ∉ l₂ := fun q => hm (List.mem_append_right _ q)
  have n1 := List.Nodup.sublist (List.sublist_append_left l₁ l₂) nd
  have dis := (List.nodup_append.mp nd).2.2
  refine ⟨h1.val, Sg.app.mpr ⟨?_, ?_⟩⟩
  · refine Sg.put (v := hdA dy l₂) (Sg.congr h1 ?_ fun i hi => ?_) n1 fun i _ => by omega
    · rw [setF_ne (by omega)]
    · rw [setF_ne (fun (e : i + 1 = m + 1) => m1 (Nat.add_right_cancel e ▸ hi))]
  · show Sg dy _ (m + 1) l₂ .none
    refine Sg.split.mpr ⟨?_, Rst.congr h2 fun i hi => ?_⟩
    · rw [setF_ne (Ne.symm (last_ne m1)), setF_same]
    · rw [setF_ne, setF_ne (fun (e : i + 1 = m + 1) => m2 (Nat.add_right_cancel e ▸ hi))]
      rcases lastN_mem (l := l₁) (k := 0) with q | ⟨j, hj, q⟩
      · rw [q]; omega
      · rw [q]; exact fun e => dis j hj i hi (Nat.succ.inj e).symm
/-- one comes out -/
theorem Sg.rem {l₁ l₂ : List Nat} {m : Nat} (h : Sg dy iv 0 (l₁ ++ m :: l₂) .none) (nd : (l₁ ++ m :: l₂).Nodup) :
    iv (lastN 0 l₁) 3 = .obj (dy (9, m + 1)) ∧ iv (m + 1) 3 = hdA dy l₂ ∧ Sg dy (setF (setF iv (lastN 0 l₁) (hdA dy l₂)) (m + 1) .none) 0 (l₁ ++ l₂) .none := by
  obtain ⟨h1, h2⟩ := Sg.app.mp h
  obtain ⟨h3, h4⟩ := Sg.split.mp h2
  obtain ⟨n1, n2, dis⟩ := List.nodup_append.mp nd
  obtain ⟨n3, n4⟩ := List.nodup_cons.mp n2
  have m1 : m ∉ l₁ := fun q => dis m q m (List.mem_cons_self ..) rfl
  refine ⟨h1.val, h3, Sg.app.mpr ⟨?_, Rst.congr h4 fun i hi => ?_⟩⟩
  · refine Sg.congr (Sg.put h1 n1 fun i _ => by omega) ?_ fun i hi => ?_
    · rw [setF_ne (by omega)]
    · rw [setF_ne (fun (e : i + 1 = m + 1) => m1 (Nat.add_right_cancel e ▸ hi))]
  · rw [setF_ne (fun (e : i + 1 = m + 1) => n3 (Nat.add_right_cancel e ▸ hi)), setF_ne]
    rcases lastN_mem (l := l₁) (k := 0) with q | ⟨j, hj, q⟩
    · rw [q]; omega
    · rw [q]; exact fun e => dis j hj i (List.mem_cons_of_mem _ hi) (Nat.succ.inj e).symm
/-- the end of a turning -/
theorem Sg.rev {iv' : Nat → Nat → AVal} {l₁ l₂ : List Nat} (h : Sg dy iv 0 (l₁ ++ l₂) .none) (nd : (l₁ ++ l₂).Nodup) (hr : Rst dy iv' l₂.reverse) (hs : ∀ k, (∀ i ∈ l₂, k ≠ i + 1) → iv' k = iv k) :
    Sg dy (setF iv' (lastN 0 l₁) (hdA dy l₂.reverse)) 0 (l₁ ++ l₂.reverse) .none := by
  obtain ⟨h1, h2⟩ := Sg.app.mp h
  obtain ⟨n1, n2, dis⟩ := List.nodup_append.mp nd
  refine Sg.app.mpr ⟨?_, Rst.congr hr fun i hi => ?_⟩
  · refine Sg.put (v := hdA dy l₂) (Sg.congr h1 ?_ fun i hi => ?_) n1 fun i _ => by omega
    · rw [hs 0 fun i _ => by omega]
    · rw [hs (i + 1) fun j hj e => dis i hi j hj (Nat.succ.inj e)]
  · rw [setF_ne]
    have hi' : i ∈ l₂ := List.mem_reverse.mp hi
    rcases lastN_mem (l := l₁) (k := 0) with q | ⟨j, hj, q⟩
    · rw [q]; omega
    · rw [q]; exact fun e => dis j hj i hi' (Nat.succ.inj e).symm
end
structure G11 (fx dy : Ix → Addr) (R : R11) (b : Nat) (σ : AHeap) : Prop where
  H : P11 fx dy R σ
  ch : Sg dy R.iv 0 R.ord .none
  nd : (R.ord ++ R.loo).Nodup
  mem : ∀ i, i ∈ R.ord ++ R.loo → i < R.n
  lo : ∀ i, i ∈ R.loo → R.iv (i + 1) 3 = .none
  fl : ∀ i, i < R.n → R.iv (i + 1) 0 = sysA i ∧ R.iv (i + 1) 1 = pubA i ∧ R.iv (i + 1) 2 = encA i ∧ R.iv (i + 1) 4 = chrA i
  hf : ∀ f, f ≠ 3 → R.iv 0 f = .none
  h3 : ∀ k, k ≤ R.n → handedA (R.iv k 3) = true
  hn : R.n ≤ b
  h7 : R.ord.length ≤ 7
  hl : R.loo.length ≤ b
  hk : R.k ≤ 20 * b
  cv : R.cv = some (.obj (fx (1, 0)))
def cl11 (fx : Ix → Addr) : List (Str × Addr) := [(Str.ofString "made", fx (0, 0))]
def env11 (fx : Ix → Addr) (hd od : Addr) (T : AVal) : AEnv := [(Str.ofString "script", T), (Str.ofString "head", .obj hd), (Str.ofString "order", .obj od), (Str.ofString "loose", .obj (fx (3, 0))), (Str.ofString "answers", .obj (fx (4, 0)))]
def Post11 (fx : Ix → Addr) (hd : Addr) (b : Nat) (T : AVal) (fl : AFlow) (m' : AEnv) (σ : AHeap) : Prop := fl = .next ∧ ∃ dy R, G11 fx dy R (b + 1) σ ∧ dy (9, 0) = hd ∧ Has m' (env11 fx hd (dy (6, 0)) T)
theorem chr_handed {k : Nat} : handedA (chrA k) = true := by
  unfold chrA
  have := Nat.mod_lt (k + 1) (show 3 > 0 by decide)
  obtain h | h | h : (k + 1) % 3 = 0 ∨ (k + 1) % 3 = 1 ∨ (k + 1) % 3 = 2 := by omega
  all_goals rw [h]; rfl
theorem hdA_handed {dy : Ix → Addr} {l : List Nat} : handedA (hdA dy l) = true := by cases l <;> rfl
theorem lastN_le {l : List Nat} {n : Nat} (h : ∀ i ∈ l, i < n) : lastN 0 l ≤ n := by
  rcases lastN_mem (l := l) (k := 0) with q | ⟨i, hi, q⟩
  · omega
  · have := h i hi; omega
section
variable {C : Cx} {fx dy : Ix → Addr} {R : R11} {b : Nat} {σ : AHeap}
theorem natA_len {l : List Nat} : (natA l).length = l.length := by simp [natA]
set_option maxHeartbeats 4000000 in
theorem walk11 (K : K11 C) {u : Int} {T : AVal} {hd : Addr} (G : G11 fx dy R b σ) (hh : dy (9, 0) = hd) {Q : AFlow → AEnv → AHeap → Prop} :
    Seg PySem.Challenge.pw_dn0301_11 7 [(2, 0)] 0 fun scope ss => ∀ A₀ A base h₀ outer L fa cdv pin,
      (∀ p m', p ≤ R.ord.length → Has m' ((Str.ofString "x", .int u) :: (Str.ofString "place", .int (p : Int)) :: (Str.ofString "before", .obj (dy (9, lastN 0 (R.ord.take p)))) :: env11 fx hd (dy (6, 0)) T) → WS C 20 ⟨A₀, A, base, h₀, outer, L, fa, Str.ofString "law", scope, cdv, cl11 fx, pin, none⟩ (ss.drop 3) m' σ Q) →
      WS C 20 ⟨A₀, A, base, h₀, outer, L, fa, Str.ofString "law", scope, cdv, cl11 fx, pin, none⟩ ss ((Str.ofString "x", .int u) :: env11 fx hd (dy (6, 0)) T) σ Q := by
  refine seg_intro (by rfl) ?_
  intro A₀ A base h₀ outer L fa cdv pin hQ
  have K' := K
  cases K'
  dsimp only [cl11, env11]
  have h7 := G.h7
  have o6 : σ (dy (6, 0)) = some (.list (natA R.ord)) := G.H.at_ (6, 0) rfl
  have hlen : (natA R.ord).length = R.ord.length := natA_len
  have hdd : ∀ k, k ≤ R.n → σ (dy (9, k)) = some (.inst 102 (srcA (R.iv k 0) (R.iv k 1) (R.iv k 2) (R.iv k 3) (R.iv k 4))) := fun k hk => G.H.at_ (9, k) hk
  with_reducible refine ws_cons ?_
  with_reducible refine w1_assign ?_ ?hsw
  case hsw => rfl
  repeat walk_at "fe"
  rw [hlen]
  refine t2_mod (by omega) (by omega) ?_
  have hp0 := fmod_range (u.fdiv 3) (y := (R.ord.length : Int) + 1) (by omega)
  generalize (u.fdiv 3).fmod ((R.ord.length : Int) + 1) = p at hp0
  obtain ⟨p, rfl⟩ : ∃ p' : Nat, p = p' := ⟨p.toNat, by omega⟩
  repeat walk_at "fe"
  with_reducible refine ws_cons ?_
  with_reducible refine w1_assign ?_ ?hsw
  case hsw => rfl
  repeat walk_at "fe"
  with_reducible show WS _ _ _ _ _ _ _
  with_reducible refine WS.weaken (m' := (Str.ofString "x", .int u) :: (Str.ofString "place", .int (p : Int)) :: (Str.ofString "before", .obj (dy (9, lastN 0 (R.ord.take 0)))) :: env11 fx hd (dy (6, 0)) T) ?hw0 (AHeap.le_refl _) ?_
  case hw0 => exact Has.sub ⟨rfl, rfl, by rw [show dy (9, lastN 0 (R.ord.take 0)) = hd from hh]; rfl, rfl, rfl, rfl, rfl, rfl, trivial⟩
  with_reducible refine ws_cons ?_
  with_reducible refine w1_for (fun rest m' σ' => ∃ j, rest = (rngL 0 1 p).drop j ∧ j ≤ p ∧ σ' = σ ∧ m' = ((Str.ofString "x", .int u) :: (Str.ofString "place", .int (p : Int)) :: (Str.ofString "before", .obj (dy (9, lastN 0 (R.ord.take j)))) :: env11 fx hd (dy (6, 0)) T)) ?_ ?_ ?_ ?hs
  case hs => intro _; rfl
  · refine wi ?_
    dsimp only [env11]
    repeat walk_at "fw"
    refine tc_range1 ?_
    exact ti_rng (k := p) (rng_small1 (by omega) (by omega)) (rng_size1' (k := p)) ⟨rfl, 0, by simp, by omega, rfl, rfl⟩
  · rintro pin x xs m' σ' ⟨j, h, hjp, rfl, rfl⟩
    obtain ⟨hj, rfl, rfl⟩ := rngL_cons h
    have hjl : j < R.ord.length := by omega
    have hmt : ∀ i ∈ R.ord.take j, i < R.n := fun i hi => G.mem i (List.mem_append_left _ (List.mem_of_mem_take hi))
    have hbn : lastN 0 (R.ord.take j) ≤ R.n := lastN_le hmt
    have ha := hdd _ hbn
    have hv : R.iv (lastN 0 (R.ord.take j)) 3 = .obj (dy (9, lastN 0 (R.ord.take (j + 1)))) := by
      have h1 := (Sg.app (l₁ := R.ord.take j) (l₂ := R.ord.drop j)).mp (by rw [List.take_append_drop]; exact G.ch)
      rw [h1.1.val, List.drop_eq_getElem_cons hjl, List.take_succ_eq_append_getElem hjl, lastN_snoc]; rfl
    rw [hv] at ha
    walk_at "fw"
    dsimp only [Fm.withPin, env11]
    repeat walk_at "fw"
    exact ⟨((Str.ofString "x", .int u) :: (Str.ofString "place", .int (p : Int)) :: (Str.ofString "before", .obj (dy (9, lastN 0 (R.ord.take (j + 1))))) :: env11 fx hd (dy (6, 0)) T), _, Has.sub ⟨rfl, rfl, rfl, rfl, rfl, rfl, rfl, rfl, trivial⟩, AHeap.le_refl _, j + 1, rfl, by omega, rfl, rfl⟩
  · rintro m' σ' ⟨j, h, hjp, rfl, rfl⟩
    have hj := rngL_nil h
    obtain rfl : j = p := by omega
    exact hQ j _ (by omega) ⟨rfl, rfl, rfl, rfl, rfl, rfl, rfl, rfl, trivial⟩
end
end Mine

open PySem PySem.W PyProof.Rows PySem.Calls
namespace Mine

section
variable {C : Cx} {fx dy : Ix → Addr} {R : R11} {b : Nat} {σ : AHeap}
theorem perm_rem {l₁ l₂ lo : List Nat} {m : Nat} : ((l₁ ++ l₂) ++ (lo ++ [m])).Perm ((l₁ ++ m :: l₂) ++ lo) := by
  have h1 : ((l₁ ++ l₂) ++ (lo ++ [m])).Perm (m :: (l₁ ++ (l₂ ++ lo))) := by
    rw [← List.append_assoc, show m :: (l₁ ++ (l₂ ++ lo)) = [m] ++ ((l₁ ++ l₂) ++ lo) by simp]
    exact List.perm_append_comm
  refine h1.trans ?_
  rw [show (l₁ ++ m :: l₂) ++ lo = l₁ ++ m :: (l₂ ++ lo) by simp]
  exact List.perm_middle.symm
theorem up_setF {iv : Nat → Nat → AVal} {p q : Nat} {v w : AVal} (h : q ≠ p) : up (setF iv p v) q (up (iv q) 3 w) = setF (setF iv p v) q w := by
  show _ = up (setF iv p v) q (up (setF iv p v q) 3 w)
  rw [setF_ne h]
set_option maxHeartbeats 4000000 in
theorem rem11 (K : K11 C) {u : Int} {T : AVal} {hd : Addr} {p : Nat} {m₀ : AEnv} (G : G11 fx dy R b σ) (hb : b ≤ 70) (hh : dy (9, 0) = hd) (hp : p < R.ord.length) (hm₀ : Has m₀ ((Str.ofString "x", .int u) :: (Str.ofString "place", .int (p : Int)) :: (Str.ofString "before", .obj (dy (9, lastN 0 (R.ord.take p)))) :: env11 fx hd (dy (6, 0)) T)) :
    Seg PySem.Challenge.pw_dn0301_11 7 [(2, 0), (3, 1), (0, 0)] 0 fun scope ss => ∀ A₀ A base h₀ outer L fa cdv pin,
      WS C 20 ⟨A₀, A, base, h₀, outer, L, fa, Str.ofString "law", scope, cdv, cl11 fx, pin, none⟩ ss m₀ σ (Post11 fx hd b T) := by
  refine seg_intro (by rfl) ?_
  intro A₀ A base h₀ outer L fa cdv pin
  have K' := K
  cases K'
  refine WS.weaken (Has.sub hm₀) (AHeap.le_refl _) ?_
  dsimp only [cl11, env11]
  have h7 := G.h7
  have hk := G.hk
  have hl := G.hl
  have hn := G.hn
  have FQ := P11.fxq G.H
  obtain ⟨m, hme⟩ : ∃ m, R.ord[p]? = some m := ⟨R.ord[p], by simp [hp]⟩
  have hsp : R.ord = R.ord.take p ++ m :: R.ord.drop (p + 1) := by
    have : R.ord[p] = m := by have := hme; rw [List.getElem?_eq_getElem hp] at this; exact Option.some.inj this
    rw [← this, ← List.drop_eq_getElem_cons hp, List.take_append_drop]
  have nd0 : R.ord.Nodup := (List.nodup_append.mp G.nd).1
  obtain ⟨v1, v2, v3⟩ := Sg.rem (dy := dy) (iv := R.iv) (l₁ := R.ord.take p) (l₂ := R.ord.drop (p + 1)) (m := m) (by rw [← hsp]; exact G.ch) (by rw [← hsp]; exact nd0)
  have hmn : m < R.n := G.mem m (List.mem_append_left _ (List.mem_of_getElem? hme))
  have hbn : lastN 0 (R.ord.take p) ≤ R.n := lastN_le fun i hi => G.mem i (List.mem_append_left _ (List.mem_of_mem_take hi))
  have hmt : m ∉ R.ord.take p := fun q => by
    rw [hsp] at nd0
    exact (List.nodup_append.mp nd0).2.2 m q m (List.mem_cons_self ..) rfl
  have hne : lastN 0 (R.ord.take p) ≠ m + 1 := last_ne hmt
  generalize hbe : lastN 0 (R.ord.take p) = bN at *
  generalize hle : R.ord.drop (p + 1) = l₂ at *
  generalize hl1 : R.ord.take p = l₁ at *
  have o3 : σ (fx (3, 0)) = some (.list (natA R.loo)) := G.H.at_ (3, 0) rfl
  have o4 : σ (fx (4, 0)) = some (.list (List.replicate R.k .none)) := G.H.at_ (4, 0) rfl
  have o6 : σ (dy (6, 0)) = some (.list (natA R.ord)) := G.H.at_ (6, 0) rfl
  have ob : σ (dy (9, bN)) = some (.inst 102 (srcA (R.iv bN 0) (R.iv bN 1) (R.iv bN 2) (.obj (dy (9, m + 1))) (R.iv bN 4))) := by rw [← v1]; exact G.H.at_ (9, bN) hbn
  have om : σ (dy (9, m + 1)) = some (.inst 102 (srcA (R.iv (m + 1) 0) (R.iv (m + 1) 1) (R.iv (m + 1) 2) (hdA dy l₂) (R.iv (m + 1) 4))) := by rw [← v2]; exact G.H.at_ (9, m + 1) hmn
  have d6 : DQ fx (dy (6, 0)) := P11.dq G.H (by omega) rfl
  have db : DQ fx (dy (9, bN)) := P11.dq G.H (by omega) hbn
  have dm : DQ fx (dy (9, m + 1)) := P11.dq G.H (by omega) hmn
  have n1 : dy (9, bN) ≠ dy (9, m + 1) := P11.dd G.H (by omega) (by omega) hbn hmn (fun e => hne (by cases e; rfl))
  have n2 : dy (6, 0) ≠ dy (9, bN) := P11.dd G.H (by omega) (by omega) rfl hbn (by simp)
  have n3 : dy (6, 0) ≠ dy (9, m + 1) := P11.dd G.H (by omega) (by omega) rfl hmn (by simp)
  have hhd : handedA (hdA dy l₂) = true := hdA_handed
  repeat walk_at "fw"
  refine tg_listM (by walk_at "hp") PySem.F.slot_list_append PySem.F.type_list_append ?_
  repeat walk_at "fw"
  refine tc_append (by walk_at "hp") (by simp [sizeLine_eq]; omega) ?_
  repeat walk_at "fw"
  refine tg_listM (by walk_at "hp") PySem.F.slot_list_append PySem.F.type_list_append ?_
  repeat walk_at "fw"
  refine tc_append (by walk_at "hp") (by simp [sizeLine_eq]; omega) ?_
  repeat walk_at "fw"
  refine tg_listM (by walk_at "hp") PySem.F.slot_list_append PySem.F.type_list_append ?_
  repeat walk_at "fw"
  refine tg_listM (by walk_at "hp") PySem.F.slot_list_pop PySem.F.type_list_pop ?_
  repeat walk_at "fw"
  refine tc_pop (j := p) (y := .int (m : Int)) (by walk_at "hp") (by simp [Builtin.List.listFitsIndex]; omega) (by unfold seqIndex?; simp [natA]; omega) (by simp [natA, hme]) (by simp [natA, sizeLine_eq]; omega) ?_
  repeat walk_at "fw"
  refine tc_append (by walk_at "hp") (by simp [natA, sizeLine_eq]; omega) ?_
  repeat walk_at "fe"
  have er : (natA R.ord).eraseIdx p = natA (l₁ ++ l₂) := by
    rw [List.eraseIdx_eq_take_drop_succ]
    unfold natA
    rw [List.map_append, ← hl1, ← hle, List.map_take, List.map_drop]
  have el : natA R.loo ++ [.int (m : Int)] = natA (R.loo ++ [m]) := by simp [natA]
  rw [er, el]
  have H1 := P11.src (p := bN) (w := up (R.iv bN) 3 (hdA dy l₂)) G.H hbn
  have H2 := P11.ans (xs := [.none]) (k := 1) H1 rfl
  have H3 := P11.src (p := m + 1) (w := up (R.iv (m + 1)) 3 .none) H2 hmn
  have H4 := P11.ans (xs := [.none]) (k := 1) H3 rfl
  have H5 := P11.loo (l := R.loo ++ [m]) (P11.ord (l := l₁ ++ l₂) H4)
  dsimp only at H5
  have e1 : up (up R.iv bN (up (R.iv bN) 3 (hdA dy l₂))) (m + 1) (up (R.iv (m + 1)) 3 .none) = setF (setF R.iv bN (hdA dy l₂)) (m + 1) .none := up_setF (Ne.symm hne)
  rw [e1] at H5
  rw [List.replicate_succ' (n := R.k)] at H5
  have hpm : ((l₁ ++ l₂) ++ (R.loo ++ [m])).Perm (R.ord ++ R.loo) := by rw [hsp]; exact perm_rem
  refine ws_nil ⟨rfl, dy, _, ⟨H5, v3, hpm.nodup_iff.mpr G.nd, fun i hi => G.mem i (hpm.mem_iff.mp hi), fun i hi => ?_, fun i hi => ?_, fun f hf => ?_, fun k hk => ?_, by show R.n ≤ _; omega, ?_, by show (R.loo ++ [m]).length ≤ _; simp; omega, by show R.k + 1 + 1 ≤ _; omega, G.cv⟩, hh, rfl, rfl, rfl, rfl, rfl, trivial⟩
  · show setF (setF R.iv bN (hdA dy l₂)) (m + 1) .none (i + 1) 3 = _
    have hi' : i ∈ R.loo ++ [m] := hi
    by_cases e : i = m
    · subst e; exact setF_same
    · rw [setF_ne (by omega)]
      have hil : i ∈ R.loo := by
        rcases List.mem_append.mp hi' with q | q
        · exact q
        · exact absurd (List.mem_singleton.mp q) e
      rw [setF_ne]
      · exact G.lo i hil
      · intro q
        rcases lastN_mem (l := l₁) (k := 0) with r | ⟨j, hj, r⟩
        · omega
        · have hij : i = j := by omega
          subst hij
          exact (List.nodup_append.mp G.nd).2.2 i (by rw [hsp]; exact List.mem_append_left _ hj) i hil rfl
  · show setF (setF R.iv bN (hdA dy l₂)) (m + 1) .none (i + 1) 0 = _ ∧ setF (setF R.iv bN (hdA dy l₂)) (m + 1) .none (i + 1) 1 = _ ∧ setF (setF R.iv bN (hdA dy l₂)) (m + 1) .none (i + 1) 2 = _ ∧ setF (setF R.iv bN (hdA dy l₂)) (m + 1) .none (i + 1) 4 = _
    simp only [setF_f (show (0 : Nat) ≠ 3 by decide), setF_f (show (1 : Nat) ≠ 3 by decide), setF_f (show (2 : Nat) ≠ 3 by decide), setF_f (show (4 : Nat) ≠ 3 by decide)]
    exact G.fl i hi
  · show setF (setF R.iv bN (hdA dy l₂)) (m + 1) .none 0 f = _
    rw [setF_f hf, setF_f hf]; exact G.hf f hf
  · show handedA (setF (setF R.iv bN (hdA dy l₂)) (m + 1) .none k 3) = _
    by_cases e : k = m + 1
    · subst e; rw [setF_same]; rfl
    · rw [setF_ne e]
      by_cases e' : k = bN
      · subst e'; rw [setF_same]; exact hhd
      · rw [setF_ne e']; exact G.h3 k hk
  · show (l₁ ++ l₂).length ≤ 7
    have := congrArg List.length hsp
    simp at this ⊢
    omega
end
end Mine

open PySem PySem.W PyProof.Rows PySem.Calls
namespace Mine

section
variable {C : Cx} {fx dy : Ix → Addr} {R : R11} {b : Nat} {σ : AHeap}
theorem Sg.moved {dy dy' : Ix → Addr} {iv : Nat → Nat → AVal} (hd : ∀ i, dy' (9, i) = dy (9, i)) : ∀ {l : List Nat} {k : Nat} {v : AVal}, Sg dy iv k l v → Sg dy' iv k l v
  | [], _, _, h => h
  | i :: r, _, _, h => ⟨by rw [hd]; exact h.1, Sg.moved hd h.2⟩
theorem natA_cons {i : Nat} {l : List Nat} {x : AVal} {xs : List AVal} (h : x :: xs = natA l) : ∃ i r, l = i :: r ∧ x = .int (i : Int) ∧ xs = natA r := by
  cases l with
  | nil => cases h
  | cons i r => cases h; exact ⟨i, r, rfl, rfl, rfl⟩
theorem pick_take {xs : List AVal} {k : Nat} : pickA xs none (some (k : Int)) none = xs.take k := by
  rw [pickA_plain]
  simp only [Option.elim, clipAt_nat, List.drop_zero, Nat.sub_zero]
  rw [Nat.min_comm, List.take_eq_take_min (i := k)]
  rw [Nat.min_comm]
theorem pick_drop {xs : List AVal} {k : Nat} : pickA xs (some (k : Int)) none none = xs.drop k := by
  rw [pickA_plain]
  simp only [Option.elim, clipAt_nat]
  rcases Nat.le_total k xs.length with h | h
  · rw [Nat.min_eq_left h, List.take_of_length_le (by simp)]
  · rw [Nat.min_eq_right h, List.drop_of_length_le (Nat.le_refl _), List.drop_of_length_le h]; simp
set_option maxHeartbeats 4000000 in
theorem rev11 (K : K11 C) {u : Int} {T : AVal} {hd : Addr} {p : Nat} {m₀ : AEnv} (G : G11 fx dy R b σ) (hb : b ≤ 70) (hh : dy (9, 0) = hd) (hp : p ≤ R.ord.length) (hm₀ : Has m₀ ((Str.ofString "x", .int u) :: (Str.ofString "place", .int (p : Int)) :: (Str.ofString "before", .obj (dy (9, lastN 0 (R.ord.take p)))) :: env11 fx hd (dy (6, 0)) T)) :
    Seg PySem.Challenge.pw_dn0301_11 7 [(2, 0), (3, 1), (0, 1), (0, 0)] 0 fun scope ss => ∀ A₀ A base h₀ outer L fa cdv pin,
      WS C 20 ⟨A₀, A, base, h₀, outer, L, fa, Str.ofString "law", scope, cdv, cl11 fx, pin, none⟩ ss m₀ σ (Post11 fx hd b T) := by
  refine seg_intro (by rfl) ?_
  intro A₀ A base h₀ outer L fa cdv pin
  have K' := K
  cases K'
  refine WS.weaken (Has.sub hm₀) (AHeap.le_refl _) ?_
  dsimp only [cl11, env11]
  have h7 := G.h7
  have hk := G.hk
  have hl := G.hl
  have hn := G.hn
  have FQ := P11.fxq G.H
  have hsp : R.ord = R.ord.take p ++ R.ord.drop p := (List.take_append_drop ..).symm
  have nd0 : R.ord.Nodup := (List.nodup_append.mp G.nd).1
  have hbn : lastN 0 (R.ord.take p) ≤ R.n := lastN_le fun i hi => G.mem i (List.mem_append_left _ (List.mem_of_mem_take hi))
  have htn : (natA R.ord).take p = natA (R.ord.take p) := by simp [natA, List.map_take]
  have hdn : (natA R.ord).drop p = natA (R.ord.drop p) := by simp [natA, List.map_drop]
  generalize hbe : lastN 0 (R.ord.take p) = bN at *
  generalize hle : R.ord.drop p = d at *
  generalize hl1 : R.ord.take p = l₁ at *
  have ch0 : Sg dy R.iv 0 (l₁ ++ d) .none := by rw [← hsp]; exact G.ch
  obtain ⟨c1, c2⟩ := Sg.app.mp ch0
  have v1 : R.iv bN 3 = hdA dy d := by rw [← hbe]; exact c1.val
  have ndd : (l₁ ++ d).Nodup := by rw [← hsp]; exact nd0
  obtain ⟨nn1, nn2, dis⟩ := List.nodup_append.mp ndd
  have hbd : ∀ i ∈ d, bN ≠ i + 1 := fun i hi q => by
    rcases lastN_mem (l := l₁) (k := 0) with r | ⟨j, hj, r⟩
    · omega
    · exact dis j hj i hi (by omega)
  have hdN : ∀ i ∈ d, i < R.n := fun i hi => G.mem i (List.mem_append_left _ (by rw [hsp]; exact List.mem_append_right _ hi))
  have hdl : d.length ≤ 7 := by have := congrArg List.length hsp; simp at this; omega
  have o6 : σ (dy (6, 0)) = some (.list (natA R.ord)) := G.H.at_ (6, 0) rfl
  have ob : σ (dy (9, bN)) = some (.inst 102 (srcA (R.iv bN 0) (R.iv bN 1) (R.iv bN 2) (hdA dy d) (R.iv bN 4))) := by rw [← v1]; exact G.H.at_ (9, bN) hbn
  have hhd : handedA (hdA dy d) = true := hdA_handed
  have nL : (natA R.ord).length ≤ 7 := by rw [natA_len]; exact h7
  with_reducible refine ws_cons ?_
  with_reducible refine w1_assignS (names := [Str.ofString "behind", Str.ofString "source"]) ?_ ?hw ?hs
  case hw => rfl
  case hs => rfl
  repeat walk_at "fw"
  refine ⟨_, rfl, rfl, tss_cons (ts_local rfl (tss_cons (ts_local rfl (tss_nil ?_))))⟩
  with_reducible show WS _ _ _ _ _ _ _
  with_reducible refine WS.weaken (m' := (Str.ofString "x", .int u) :: (Str.ofString "place", .int (p : Int)) :: (Str.ofString "before", .obj (dy (9, bN))) :: (Str.ofString "behind", hdA dy ([] : List Nat).reverse) :: (Str.ofString "source", hdA dy d) :: env11 fx hd (dy (6, 0)) T) ?hw0 (AHeap.le_refl _) ?_
  case hw0 => exact Has.sub ⟨rfl, rfl, rfl, rfl, rfl, rfl, rfl, rfl, rfl, rfl, trivial⟩
  with_reducible refine ws_cons ?_
  with_reducible refine w1_for (fun xs m' σ' => ∃ e r ivj, d = e ++ r ∧ xs = natA r ∧ P11 fx dy { R with iv := ivj, k := R.k + e.length } σ' ∧ Rst dy ivj e.reverse ∧ Rst dy ivj r ∧ (∀ k, (∀ i ∈ e, k ≠ i + 1) → ivj k = R.iv k) ∧ (∀ k f, f ≠ 3 → ivj k f = R.iv k f) ∧ (∀ k, k ≤ R.n → handedA (ivj k 3) = true) ∧ m' = ((Str.ofString "x", .int u) :: (Str.ofString "place", .int (p : Int)) :: (Str.ofString "before", .obj (dy (9, bN))) :: (Str.ofString "behind", hdA dy e.reverse) :: (Str.ofString "source", hdA dy r) :: env11 fx hd (dy (6, 0)) T)) ?_ ?_ ?_ ?hs
  case hs => intro _; rfl
  · refine wi ?_
    dsimp only [env11]
    refine we_slice ?_
    repeat walk_at "fw"
    refine ⟨_, _, _, _, items_obj o6, rfl, rfl, rfl, by decide, by rw [sizeLine_eq]; omega, ?_⟩
    rw [pick_drop, hdn]
    exact ti_lst ⟨rfl, [], d, R.iv, rfl, rfl, G.H, trivial, c2, fun _ _ => rfl, fun _ _ _ => rfl, G.h3, rfl⟩
  · rintro pin x xs m' σ' ⟨e, r, ivj, he, hx, H, r1, r2, s1, s2, s3, rfl⟩
    obtain ⟨i, r, rfl, rfl, rfl⟩ := natA_cons (i := 0) hx
    have hid : i ∈ d := by rw [he]; simp
    have hin : i + 1 ≤ R.n := hdN i hid
    obtain ⟨q1, q2⟩ := Sg.split.mp (show Sg dy ivj (i + 1) r .none from r2)
    have hhr : handedA (hdA dy r) = true := hdA_handed
    have nde : (e ++ i :: r).Nodup := by rw [← he]; exact nn2
    have hie : i ∉ e := fun q => (List.nodup_append.mp nde).2.2 i q i (List.mem_cons_self ..) rfl
    have hir : i ∉ r := (List.nodup_cons.mp (List.nodup_append.mp nde).2.1).1
    have hel : e.length + r.length + 1 ≤ 7 := by rw [he] at hdl; simp at hdl; omega
    have FQ := P11.fxq H
    have p4 : σ' (fx (4, 0)) = some (.list (List.replicate (R.k + e.length) .none)) := H.at_ (4, 0) rfl
    have pi : σ' (dy (9, i + 1)) = some (.inst 102 (srcA (ivj (i + 1) 0) (ivj (i + 1) 1) (ivj (i + 1) 2) (hdA dy r) (ivj (i + 1) 4))) := by rw [← q1]; exact H.at_ (9, i + 1) hin
    have di : DQ fx (dy (9, i + 1)) := P11.dq H (by omega) hin
    walk_at "fw"
    dsimp only [Fm.withPin, env11, hdA]
    repeat walk_at "fw"
    refine tg_listM (by walk_at "hp") PySem.F.slot_list_append PySem.F.type_list_append ?_
    repeat walk_at "fw"
    refine tc_append (by walk_at "hp") (by simp [sizeLine_eq]; omega) ?_
    repeat walk_at "fe"
    with_reducible refine ws_cons ?_
    with_reducible refine w1_assignS (names := [Str.ofString "behind", Str.ofString "source"]) ?_ ?hw ?hs
    case hw => rfl
    case hs => rfl
    repeat walk_at "fw"
    refine ⟨_, rfl, rfl, tss_cons (ts_local rfl (tss_cons (ts_local rfl (tss_nil ?_))))⟩
    repeat walk_at "fw"
    have H1 := P11.ans (xs := [.none]) (k := 1) (P11.src (p := i + 1) (w := up (ivj (i + 1)) 3 (hdA dy e.reverse)) H hin) rfl
    refine ⟨((Str.ofString "x", .int u) :: (Str.ofString "place", .int (p : Int)) :: (Str.ofString "before", .obj (dy (9, bN))) :: (Str.ofString "behind", hdA dy (e ++ [i]).reverse) :: (Str.ofString "source", hdA dy r) :: env11 fx hd (dy (6, 0)) T), _, Has.sub ⟨rfl, rfl, rfl, by rw [List.reverse_append]; rfl, rfl, rfl, rfl, rfl, rfl, rfl, trivial⟩, AHeap.le_refl _, e ++ [i], r, setF ivj (i + 1) (hdA dy e.reverse), by rw [he]; simp, rfl, ?_, ?_, ?_, fun k hk => ?_, fun k f hf => ?_, fun k hk => ?_, rfl⟩
    · rw [show (e ++ [i]).length = e.length + 1 by simp, ← Nat.add_assoc]
      exact H1
    · rw [List.reverse_append]
      show Sg dy _ (i + 1) e.reverse .none
      refine Sg.split.mpr ⟨setF_same, Rst.congr r1 fun j hj => ?_⟩
      rw [setF_ne (fun (q : j + 1 = i + 1) => hie (Nat.add_right_cancel q ▸ List.mem_reverse.mp hj))]
    · refine Rst.congr q2 fun j hj => ?_
      rw [setF_ne (fun (q : j + 1 = i + 1) => hir (Nat.add_right_cancel q ▸ hj))]
    · rw [setF_ne (hk i (by simp))]
      exact s1 k fun j hj => hk j (List.mem_append_left _ hj)
    · rw [setF_f hf]; exact s2 k f hf
    · by_cases e' : k = i + 1
      · subst e'; rw [setF_same]; exact hdA_handed
      · rw [setF_ne e']; exact s3 k hk
  · rintro m' σ' ⟨e, r, ivj, he, hx, H, r1, r2, s1, s2, s3, rfl⟩
    obtain rfl : r = [] := by cases r with | nil => rfl | cons i r => cases hx
    rw [List.append_nil] at he
    subst he
    have FQ := P11.fxq H
    have p4 : σ' (fx (4, 0)) = some (.list (List.replicate (R.k + d.length) .none)) := H.at_ (4, 0) rfl
    have p6 : σ' (dy (6, 0)) = some (.list (natA R.ord)) := H.at_ (6, 0) rfl
    have sb : ivj bN = R.iv bN := s1 bN hbd
    have pb : σ' (dy (9, bN)) = some (.inst 102 (srcA (ivj bN 0) (ivj bN 1) (ivj bN 2) (ivj bN 3) (ivj bN 4))) := H.at_ (9, bN) hbn
    have db : DQ fx (dy (9, bN)) := P11.dq H (by omega) hbn
    have d6 : DQ fx (dy (6, 0)) := P11.dq H (by omega) rfl
    have n2 : dy (6, 0) ≠ dy (9, bN) := P11.dd H (by omega) (by omega) rfl hbn (by simp)
    dsimp only [env11]
    repeat walk_at "fw"
    refine tg_listM (by walk_at "hp") PySem.F.slot_list_append PySem.F.type_list_append ?_
    repeat walk_at "fw"
    refine tc_append (by walk_at "hp") (by simp [sizeLine_eq]; omega) ?_
    repeat walk_at "fw"
    refine we_slice ?_
    repeat walk_at "fw"
    refine ⟨_, _, _, _, items_obj (by walk_at "hp"), rfl, rfl, rfl, by decide, by rw [sizeLine_eq]; omega, ?_⟩
    refine we_slice ?_
    refine we_slice ?_
    repeat walk_at "fw"
    refine ⟨_, _, _, _, items_obj (by walk_at "hp"), rfl, rfl, rfl, by decide, by rw [sizeLine_eq]; omega, ?_⟩
    repeat walk_at "fw"
    rw [pick_drop, pick_take, hdn, htn]
    refine ⟨_, _, _, _, rfl, rfl, rfl, rfl, by decide, by rw [natA_len, sizeLine_eq]; omega, ?_⟩
    rw [pickA_rev]
    have hl1' : l₁.length ≤ 7 := by have := congrArg List.length hsp; simp at this; omega
    refine t2_catM rfl rfl (by rw [List.length_reverse, natA_len, natA_len, sizeLine_eq]; omega) fun a ha => ?_
    repeat walk_at "fe"
    have el : natA l₁ ++ (natA d).reverse = natA (l₁ ++ d.reverse) := by simp [natA]
    rw [el] 
    have H1 := P11.ans (xs := [.none]) (k := 1) (P11.src (p := bN) (w := up (ivj bN) 3 (hdA dy d.reverse)) H hbn) rfl
    have H2 := P11.newOrd (l := l₁ ++ d.reverse) H1 ha
    dsimp only at H2
    have v3 := Sg.rev ch0 ndd r1 s1
    rw [hbe] at v3
    have hpm : ((l₁ ++ d.reverse) ++ R.loo).Perm (R.ord ++ R.loo) := by
      rw [hsp]
      exact List.Perm.append_right _ (List.Perm.append_left _ (List.reverse_perm d))
    refine ws_nil ⟨rfl, up dy (6, 0) a, _, ⟨H2, Sg.moved (dy := dy) (dy' := up dy (6, 0) a) (fun i => rfl) v3, hpm.nodup_iff.mpr G.nd, fun i hi => G.mem i (hpm.mem_iff.mp hi), fun i hi => ?_, fun i hi => ?_, fun f hf => ?_, fun k hk => ?_, by show R.n ≤ _; omega, ?_, by show R.loo.length ≤ _; omega, by show R.k + d.length + 1 ≤ _; omega, G.cv⟩, hh, rfl, rfl, rfl, rfl, rfl, trivial⟩
    · show setF ivj bN (hdA dy d.reverse) (i + 1) 3 = _
      have hiO : i ∉ R.ord := fun q => (List.nodup_append.mp G.nd).2.2 i q i hi rfl
      rw [setF_ne, s1 (i + 1)]
      · exact G.lo i hi
      · intro j hj q
        exact hiO (by rw [hsp, Nat.add_right_cancel q]; exact List.mem_append_right _ hj)
      · intro q
        rcases lastN_mem (l := l₁) (k := 0) with r | ⟨j, hj, r⟩
        · omega
        · exact hiO (by rw [hsp, show i = j by omega]; exact List.mem_append_left _ hj)
    · show setF ivj bN (hdA dy d.reverse) (i + 1) 0 = _ ∧ setF ivj bN (hdA dy d.reverse) (i + 1) 1 = _ ∧ setF ivj bN (hdA dy d.reverse) (i + 1) 2 = _ ∧ setF ivj bN (hdA dy d.reverse) (i + 1) 4 = _
      simp only [setF_f (show (0 : Nat) ≠ 3 by decide), setF_f (show (1 : Nat) ≠ 3 by decide), setF_f (show (2 : Nat) ≠ 3 by decide), setF_f (show (4 : Nat) ≠ 3 by decide)]
      rw [s2 _ 0 (by decide), s2 _ 1 (by decide), s2 _ 2 (by decide), s2 _ 4 (by decide)]
      exact G.fl i hi
    · show setF ivj bN (hdA dy d.reverse) 0 f = _
      rw [setF_f hf, s2 _ f hf]; exact G.hf f hf
    · show handedA (setF ivj bN (hdA dy d.reverse) k 3) = _
      by_cases e' : k = bN
      · subst e'; rw [setF_same]; exact hdA_handed
      · rw [setF_ne e']; exact s3 k hk
    · show (l₁ ++ d.reverse).length ≤ 7
      have := congrArg List.length hsp
      simp at this ⊢
      omega
end
end Mine

open PySem PySem.W PyProof.Rows PySem.Calls
namespace Mine

section
variable {C : Cx} {fx dy : Ix → Addr} {R : R11} {b : Nat} {σ : AHeap}
theorem at_range {n : Nat} {g : Nat → AVal} {i : Nat} (h : i < n) : ((List.range n).map g)[i]? = some (g i) := by simp [h]
theorem eqv_nil {d : PyData} {ds : List PyData} : PyData.eqv (.list (d :: ds)) (.list []) = false := by simp [PyData.eqv, PyData.eqvAll]
theorem dk_ints' (l : List Int) : Dk 1 (.list (l.map .int)) := Dk.list (k := 0) fun d hd => by
  obtain ⟨i, _, rfl⟩ := List.mem_map.mp hd
  exact Dk.int
theorem natA_ints {l : List Nat} : natA l = (l.map fun (i : Nat) => (i : Int)).map .int := by simp [natA]
set_option maxHeartbeats 4000000 in
theorem insA (K : K11 C) {u : Int} {T : AVal} {hd : Addr} {p m : Nat} {lr : List Nat} {m₀ : AEnv} (G : G11 fx dy R b σ) (hb : b ≤ 70) (hh : dy (9, 0) = hd) (hp : p ≤ R.ord.length) (ho7 : R.ord.length < 7) (hlo : R.loo = m :: lr) (hm₀ : Has m₀ ((Str.ofString "x", .int u) :: (Str.ofString "place", .int (p : Int)) :: (Str.ofString "before", .obj (dy (9, lastN 0 (R.ord.take p)))) :: env11 fx hd (dy (6, 0)) T)) :
    Seg PySem.Challenge.pw_dn0301_11 7 [(2, 0), (3, 0)] 0 fun scope ss => ∀ A₀ A base h₀ outer L fa cdv pin,
      WS C 20 ⟨A₀, A, base, h₀, outer, L, fa, Str.ofString "law", scope, cdv, cl11 fx, pin, none⟩ ss m₀ σ (Post11 fx hd b T) := by
  refine seg_intro (by rfl) ?_
  intro A₀ A base h₀ outer L fa cdv pin
  have K' := K
  cases K'
  refine WS.weaken (Has.sub hm₀) (AHeap.le_refl _) ?_
  dsimp only [cl11, env11]
  have hk := G.hk
  have hl := G.hl
  have hn := G.hn
  have FQ := P11.fxq G.H
  have hml : m ∈ R.loo := by rw [hlo]; exact List.mem_cons_self ..
  have hmn : m < R.n := G.mem m (List.mem_append_right _ hml)
  have hmo : m ∉ R.ord := fun q => (List.nodup_append.mp G.nd).2.2 m q m hml rfl
  have hsp : R.ord = R.ord.take p ++ R.ord.drop p := (List.take_append_drop ..).symm
  have nd0 : R.ord.Nodup := (List.nodup_append.mp G.nd).1
  have hbn : lastN 0 (R.ord.take p) ≤ R.n := lastN_le fun i hi => G.mem i (List.mem_append_left _ (List.mem_of_mem_take hi))
  have htn : (natA R.ord).take p = natA (R.ord.take p) := by simp [natA, List.map_take]
  have hdn : (natA R.ord).drop p = natA (R.ord.drop p) := by simp [natA, List.map_drop]
  have hne : lastN 0 (R.ord.take p) ≠ m + 1 := last_ne fun q => hmo (List.mem_of_mem_take q)
  generalize hbe : lastN 0 (R.ord.take p) = bN at *
  generalize hle : R.ord.drop p = d at *
  generalize hl1 : R.ord.take p = l₁ at *
  obtain ⟨v1, v2⟩ := Sg.ins (dy := dy) (iv := R.iv) (l₁ := l₁) (l₂ := d) (m := m) (by rw [← hsp]; exact G.ch) (by rw [← hsp]; exact nd0) (by rw [← hsp]; exact hmo)
  rw [hbe] at v1 v2
  have c0 : σ (fx (0, 0)) = some (.cell (some (.obj (fx (1, 0))))) := by rw [← G.cv]; exact G.H.at_ (0, 0) rfl
  have o1 : σ (fx (1, 0)) = some (.list ((List.range R.n).map fun i => .obj (dy (9, i + 1)))) := G.H.at_ (1, 0) rfl
  have o3 : σ (fx (3, 0)) = some (.list (natA R.loo)) := G.H.at_ (3, 0) rfl
  have o4 : σ (fx (4, 0)) = some (.list (List.replicate R.k .none)) := G.H.at_ (4, 0) rfl
  have o6 : σ (dy (6, 0)) = some (.list (natA R.ord)) := G.H.at_ (6, 0) rfl
  have ob : σ (dy (9, bN)) = some (.inst 102 (srcA (R.iv bN 0) (R.iv bN 1) (R.iv bN 2) (hdA dy d) (R.iv bN 4))) := by rw [← v1]; exact G.H.at_ (9, bN) hbn
  have om : σ (dy (9, m + 1)) = some (.inst 102 (srcA (R.iv (m + 1) 0) (R.iv (m + 1) 1) (R.iv (m + 1) 2) (R.iv (m + 1) 3) (R.iv (m + 1) 4))) := G.H.at_ (9, m + 1) hmn
  have d6 : DQ fx (dy (6, 0)) := P11.dq G.H (by omega) rfl
  have db : DQ fx (dy (9, bN)) := P11.dq G.H (by omega) hbn
  have dm : DQ fx (dy (9, m + 1)) := P11.dq G.H (by omega) hmn
  have n1 : dy (9, bN) ≠ dy (9, m + 1) := P11.dd G.H (by omega) (by omega) hbn hmn (fun e => hne (by cases e; rfl))
  have n2 : dy (6, 0) ≠ dy (9, bN) := P11.dd G.H (by omega) (by omega) rfl hbn (by simp)
  have n3 : dy (6, 0) ≠ dy (9, m + 1) := P11.dd G.H (by omega) (by omega) rfl hmn (by simp)
  have hhd : handedA (hdA dy d) = true := hdA_handed
  have hrl : ((List.range R.n).map fun i => AVal.obj (dy (9, i + 1))).length = R.n := by simp
  rw [hlo] at o3
  repeat walk_at "fw"
  refine t2_neD (k := 1) (Rd.obj o3 (by rw [natA_ints]; exact rdAll_ints _)) (Rd.lst .nil) (dk_ints' _) (Dk.list (k := 0) fun d hd => nomatch hd) ?_
  rw [List.map_cons, List.map_cons, eqv_nil]
  repeat walk_at "fw"
  refine tg_listM (by walk_at "hp") PySem.F.slot_list_pop PySem.F.type_list_pop ?_
  repeat walk_at "fw"
  refine tc_pop (j := 0) (y := .int (m : Int)) (by walk_at "hp") (by decide) (by unfold seqIndex?; simp [natA]) rfl (by rw [hlo] at hl; simp [natA, sizeLine_eq] at hl ⊢; omega) ?_
  rw [show (natA (m :: lr)).eraseIdx 0 = natA lr from rfl]
  repeat walk_at "fw"
  rw [hrl, show ((m : Int) == (R.n : Int)) = false by simp; omega]
  repeat walk_at "fe"
  with_reducible refine wt_value ?_ ?hwv
  case hwv => intro _; rfl
  repeat walk_at "fw"
  with_reducible refine wt_value ?_ ?hwv
  case hwv => intro _; rfl
  repeat walk_at "fw"
  refine tg_listM (by walk_at "hp") PySem.F.slot_list_append PySem.F.type_list_append ?_
  repeat walk_at "fw"
  refine t2_item (y := .obj (dy (9, m + 1))) (items_obj (by walk_at "hp")) (by omega) (by omega) (at_range hmn) ?_
  repeat walk_at "fw"
  refine tc_append (by walk_at "hp") (by simp [sizeLine_eq]; omega) ?_
  repeat walk_at "fw"
  refine tg_listM (by walk_at "hp") PySem.F.slot_list_append PySem.F.type_list_append ?_
  repeat walk_at "fw"
  refine t2_item (y := .obj (dy (9, m + 1))) (items_obj (by walk_at "hp")) (by omega) (by omega) (at_range hmn) ?_
  repeat walk_at "fw"
  refine tc_append (by walk_at "hp") (by simp [sizeLine_eq]; omega) ?_
  repeat walk_at "fw"
  with_reducible refine wt_value ?_ ?hwv
  case hwv => intro _; rfl
  repeat walk_at "fw"
  refine tg_listM (by walk_at "hp") PySem.F.slot_list_insert PySem.F.type_list_insert ?_
  repeat walk_at "fw"
  refine tc_insert (j := p) (by walk_at "hp") (by simp [Builtin.List.listFitsIndex]; omega) (by rw [if_neg (by omega), natA_len, show ((p : Int)).toNat = p from rfl]; omega) (by rw [natA_len, sizeLine_eq]; omega) ?_
  repeat walk_at "fe"
  have er : (natA R.ord).take p ++ .int (m : Int) :: (natA R.ord).drop p = natA (l₁ ++ m :: d) := by
    rw [htn, hdn]; simp [natA]
  rw [er]
  have H1 := P11.loo (l := lr) G.H
  have H2 := P11.ans (xs := [.none]) (k := 1) (P11.src (p := m + 1) (w := up (R.iv (m + 1)) 3 (hdA dy d)) H1 hmn) rfl
  have H3 := P11.ans (xs := [.none]) (k := 1) (P11.src (p := bN) (w := up (R.iv bN) 3 (.obj (dy (9, m + 1)))) H2 hbn) rfl
  have H4 := P11.ord (l := l₁ ++ m :: d) H3
  dsimp only at H4
  have e1 : up (up R.iv (m + 1) (up (R.iv (m + 1)) 3 (hdA dy d))) bN (up (R.iv bN) 3 (.obj (dy (9, m + 1)))) = setF (setF R.iv (m + 1) (hdA dy d)) bN (.obj (dy (9, m + 1))) := up_setF hne
  rw [e1] at H4
  rw [List.replicate_succ' (n := R.k)] at H4
  have hpm : ((l₁ ++ m :: d) ++ lr).Perm (R.ord ++ R.loo) := by
    rw [hsp, hlo, show (l₁ ++ d) ++ m :: lr = (l₁ ++ d) ++ ([m] ++ lr) from rfl, show (l₁ ++ m :: d) ++ lr = l₁ ++ m :: (d ++ lr) by simp]
    refine List.perm_middle.trans ?_
    rw [show m :: (l₁ ++ (d ++ lr)) = m :: ((l₁ ++ d) ++ lr) by simp]
    exact List.perm_middle.symm
  refine ws_nil ⟨rfl, dy, _, ⟨H4, v2, hpm.nodup_iff.mpr G.nd, fun i hi => G.mem i (hpm.mem_iff.mp hi), fun i hi => ?_, fun i hi => ?_, fun f hf => ?_, fun k hk => ?_, by show R.n ≤ _; omega, ?_, by show lr.length ≤ _; rw [hlo] at hl; simp at hl; omega, by show R.k + 1 + 1 ≤ _; omega, G.cv⟩, hh, rfl, rfl, rfl, rfl, rfl, trivial⟩
  · show setF (setF R.iv (m + 1) (hdA dy d)) bN (.obj (dy (9, m + 1))) (i + 1) 3 = _
    have hil : i ∈ R.loo := by rw [hlo]; exact List.mem_cons_of_mem _ hi
    have him : i ≠ m := fun q => by
      subst q
      have := (List.nodup_append.mp G.nd).2.1
      rw [hlo] at this
      exact (List.nodup_cons.mp this).1 hi
    have hiO : i ∉ R.ord := fun q => (List.nodup_append.mp G.nd).2.2 i q i hil rfl
    rw [setF_ne, setF_ne (by omega)]
    · exact G.lo i hil
    · intro q
      rcases lastN_mem (l := l₁) (k := 0) with r | ⟨j, hj, r⟩
      · omega
      · exact hiO (by rw [hsp, show i = j by omega]; exact List.mem_append_left _ hj)
  · show setF (setF R.iv (m + 1) (hdA dy d)) bN (.obj (dy (9, m + 1))) (i + 1) 0 = _ ∧ setF (setF R.iv (m + 1) (hdA dy d)) bN (.obj (dy (9, m + 1))) (i + 1) 1 = _ ∧ setF (setF R.iv (m + 1) (hdA dy d)) bN (.obj (dy (9, m + 1))) (i + 1) 2 = _ ∧ setF (setF R.iv (m + 1) (hdA dy d)) bN (.obj (dy (9, m + 1))) (i + 1) 4 = _
    simp only [setF_f (show (0 : Nat) ≠ 3 by decide), setF_f (show (1 : Nat) ≠ 3 by decide), setF_f (show (2 : Nat) ≠ 3 by decide), setF_f (show (4 : Nat) ≠ 3 by decide)]
    exact G.fl i hi
  · show setF (setF R.iv (m + 1) (hdA dy d)) bN (.obj (dy (9, m + 1))) 0 f = _
    rw [setF_f hf, setF_f hf]; exact G.hf f hf
  · show handedA (setF (setF R.iv (m + 1) (hdA dy d)) bN (.obj (dy (9, m + 1))) k 3) = _
    by_cases e : k = bN
    · subst e; rw [setF_same]; rfl
    · rw [setF_ne e]
      by_cases e' : k = m + 1
      · subst e'; rw [setF_same]; exact hhd
      · rw [setF_ne e']; exact G.h3 k hk
  · show (l₁ ++ m :: d).length ≤ 7
    have := congrArg List.length hsp
    simp at this ⊢
    omega
end
end Mine

open PySem PySem.W PyProof.Rows PySem.Calls
namespace Mine

section
variable {C : Cx} {fx dy : Ix → Addr} {R : R11} {b : Nat} {σ : AHeap}
theorem up_up {I α : Type} [DecidableEq I] (f : I → α) (x : I) (u v : α) : up (up f x u) x v = up f x v := by
  funext y; unfold up; split <;> rfl
theorem up_comm {I α : Type} [DecidableEq I] (f : I → α) {x y : I} (u v : α) (h : x ≠ y) : up (up f x u) y v = up (up f y v) x u := by
  funext z; unfold up
  by_cases e : z = y
  · subst e; rw [if_pos rfl, if_neg (Ne.symm h), if_pos rfl]
  · rw [if_neg e, if_neg e]
theorem Sg.movedL {dy dy' : Ix → Addr} {iv : Nat → Nat → AVal} : ∀ {l : List Nat} {k : Nat} {v : AVal}, (∀ i ∈ l, dy' (9, i + 1) = dy (9, i + 1)) → Sg dy iv k l v → Sg dy' iv k l v
  | [], _, _, _, h => h
  | i :: r, _, _, hd, h => ⟨by rw [hd i (List.mem_cons_self ..)]; exact h.1, Sg.movedL (fun j hj => hd j (List.mem_cons_of_mem _ hj)) h.2⟩
def wX : Nat → AVal
  | 0 => .str (Str.ofString "x")
  | _ => .none
theorem finB {p bN kk : Nat} {a : Addr} {wF : Nat → AVal} {l₁ d : List Nat} {σ' : AHeap} (G : G11 fx dy R b σ) (hsp : R.ord = l₁ ++ d) (hbe : lastN 0 l₁ = bN) (ho7 : R.ord.length < 7) (hlo : R.loo = [])
    (w0 : wF 0 = sysA R.n) (w1 : wF 1 = pubA R.n) (w2 : wF 2 = encA R.n) (w3 : wF 3 = hdA dy d) (w4 : wF 4 = chrA R.n) (hkk : kk ≤ 20 * (b + 1))
    (H : P11 fx (up dy (9, R.n + 1) a) { R with n := R.n + 1, ord := l₁ ++ R.n :: d, loo := [], k := kk, iv := up (up R.iv (R.n + 1) wF) bN (up (R.iv bN) 3 (.obj a)) } σ') :
    G11 fx (up dy (9, R.n + 1) a) { R with n := R.n + 1, ord := l₁ ++ R.n :: d, loo := [], k := kk, iv := up (up R.iv (R.n + 1) wF) bN (up (R.iv bN) 3 (.obj a)) } (b + 1) σ' := by
  have hn := G.hn
  have nd0 : R.ord.Nodup := (List.nodup_append.mp G.nd).1
  have hon : ∀ i ∈ R.ord, i < R.n := fun i hi => G.mem i (List.mem_append_left _ hi)
  have hmo : R.n ∉ R.ord := fun q => absurd (hon _ q) (Nat.lt_irrefl _)
  have hbn : bN ≤ R.n := by rw [← hbe]; exact lastN_le fun i hi => hon i (by rw [hsp]; exact List.mem_append_left _ hi)
  have hne : R.n + 1 ≠ bN := by omega
  have hdy : ∀ i, i < R.n → (up dy (9, R.n + 1) a) (9, i + 1) = dy (9, i + 1) := fun i hi => up_ne _ _ (fun e => by cases e; omega)
  have hdA' : hdA (up dy (9, R.n + 1) a) d = hdA dy d := by
    cases d with
    | nil => rfl
    | cons i r => show AVal.obj _ = AVal.obj _; rw [hdy i (hon i (by rw [hsp]; simp))]
  have val : ∀ k, up (up R.iv (R.n + 1) wF) bN (up (R.iv bN) 3 (.obj a)) k 3 = setF (setF R.iv (R.n + 1) (hdA dy d)) bN (.obj a) k 3 := fun k => by
    by_cases e : k = bN
    · subst e; rw [up_same, up_same, setF_same]
    · rw [up_ne _ _ e, setF_ne e]
      by_cases e' : k = R.n + 1
      · subst e'; rw [up_same, setF_same]; exact w3
      · rw [up_ne _ _ e', setF_ne e']
  have ch : Sg (up dy (9, R.n + 1) a) R.iv 0 (l₁ ++ d) .none := by
    rw [← hsp]
    exact Sg.movedL (fun i hi => hdy i (hon i hi)) G.ch
  obtain ⟨-, v2⟩ := Sg.ins (m := R.n) ch (by rw [← hsp]; exact nd0) (by rw [← hsp]; exact hmo)
  rw [hbe, hdA', up_same] at v2
  refine ⟨H, Sg.congr v2 (val 0) fun i _ => val (i + 1), ?_, fun i hi => ?_, (fun i hi => nomatch hi), fun i hi => ?_, fun f hf => ?_, fun k hk => ?_, by show R.n + 1 ≤ _; omega, ?_, by show (0 : Nat) ≤ _; omega, hkk, G.cv⟩
  · show ((l₁ ++ R.n :: d) ++ []).Nodup
    rw [List.append_nil]
    refine List.perm_middle.nodup_iff.mpr (List.nodup_cons.mpr ⟨?_, ?_⟩)
    · rw [← hsp]; exact hmo
    · rw [← hsp]; exact nd0
  · have hi' : i ∈ (l₁ ++ R.n :: d) ++ [] := hi
    rw [List.append_nil] at hi'
    show i < R.n + 1
    rcases List.mem_append.mp hi' with q | q
    · have := hon i (by rw [hsp]; exact List.mem_append_left _ q); omega
    · rcases List.mem_cons.mp q with q | q
      · omega
      · have := hon i (by rw [hsp]; exact List.mem_append_right _ q); omega
  · have hi' : i < R.n + 1 := hi
    have oth : ∀ f, f ≠ 3 → up (up R.iv (R.n + 1) wF) bN (up (R.iv bN) 3 (.obj a)) (i + 1) f = if i = R.n then wF f else R.iv (i + 1) f := fun f hf => by
      by_cases e : i + 1 = bN
      · rw [e, up_same, up_ne _ _ hf, if_neg (by omega)]
      · rw [up_ne _ _ e]
        by_cases e' : i = R.n
        · subst e'; rw [up_same, if_pos rfl]
        · rw [up_ne _ _ (by omega), if_neg e']
    show up (up R.iv (R.n + 1) wF) bN (up (R.iv bN) 3 (.obj a)) (i + 1) 0 = _ ∧ up (up R.iv (R.n + 1) wF) bN (up (R.iv bN) 3 (.obj a)) (i + 1) 1 = _ ∧ up (up R.iv (R.n + 1) wF) bN (up (R.iv bN) 3 (.obj a)) (i + 1) 2 = _ ∧ up (up R.iv (R.n + 1) wF) bN (up (R.iv bN) 3 (.obj a)) (i + 1) 4 = _
    rw [oth 0 (by decide), oth 1 (by decide), oth 2 (by decide), oth 4 (by decide)]
    by_cases e : i = R.n
    · subst e; simp only [if_pos rfl]; exact ⟨w0, w1, w2, w4⟩
    · simp only [if_neg e]; exact G.fl i (by omega)
  · show up (up R.iv (R.n + 1) wF) bN (up (R.iv bN) 3 (.obj a)) 0 f = _
    by_cases e : 0 = bN
    · rw [← e, up_same, up_ne _ _ hf]; exact G.hf f hf
    · rw [up_ne _ _ e, up_ne _ _ (by omega)]; exact G.hf f hf
  · show handedA (up (up R.iv (R.n + 1) wF) bN (up (R.iv bN) 3 (.obj a)) k 3) = _
    rw [val]
    have hk' : k ≤ R.n + 1 := hk
    by_cases e : k = bN
    · subst e; rw [setF_same]; rfl
    · rw [setF_ne e]
      by_cases e' : k = R.n + 1
      · subst e'; rw [setF_same]; exact hdA_handed
      · rw [setF_ne e']; exact G.h3 k (by omega)
  · show (l₁ ++ R.n :: d).length ≤ 7
    have := congrArg List.length hsp
    simp at this ⊢
    omega
end
end Mine

open PySem PySem.W PyProof.Rows PySem.Calls
namespace Mine

section
variable {C : Cx} {fx dy : Ix → Addr} {R : R11} {b : Nat} {σ : AHeap}
theorem ws_ab {n : Nat} {f : Fm} {ss : List Stmt} {m : AEnv} {Q : AFlow → AEnv → AHeap → Prop} (P : AHeap → Prop) (hp : P σ) (h : ∀ σ', P σ' → WS C n f ss m σ' Q) : WS C n f ss m σ Q := h _ hp
theorem hX (f : Nat) (hf : f < 5) : handedA (wX f) = true := by
  obtain rfl | rfl | rfl | rfl | rfl : f = 0 ∨ f = 1 ∨ f = 2 ∨ f = 3 ∨ f = 4 := by omega
  all_goals rfl
def envB (fx : Ix → Addr) (hd od be : Addr) (T : AVal) (u : Int) (p n : Nat) : AEnv := [(Str.ofString "x", .int u), (Str.ofString "place", .int (p : Int)), (Str.ofString "before", .obj be), (Str.ofString "script", T), (Str.ofString "head", .obj hd), (Str.ofString "order", .obj od), (Str.ofString "loose", .obj (fx (3, 0))), (Str.ofString "answers", .obj (fx (4, 0))), (Str.ofString "number", .int (n : Int)), (Str.ofString "fresh", .bool true)]
set_option maxHeartbeats 4000000 in
theorem insB1 (K : K11 C) {u : Int} {T : AVal} {hd be : Addr} {p : Nat} {m₀ : AEnv} (G : G11 fx dy R b σ) (hb : b ≤ 70) (hlo : R.loo = []) (hm₀ : Has m₀ ((Str.ofString "x", .int u) :: (Str.ofString "place", .int (p : Int)) :: (Str.ofString "before", .obj be) :: env11 fx hd (dy (6, 0)) T)) {Q : AFlow → AEnv → AHeap → Prop} :
    Seg PySem.Challenge.pw_dn0301_11 7 [(2, 0), (3, 0)] 0 fun scope ss => ∀ A₀ A base h₀ outer L fa cdv pin,
      (∀ a w σ' m', P11 fx (up dy (9, R.n + 1) a) { R with n := R.n + 1, k := R.k + 4, iv := up R.iv (R.n + 1) w } σ' → w 3 = .none → Has m' (envB fx hd (dy (6, 0)) be T u p R.n) → WS C 20 ⟨A₀, A, base, h₀, outer, L, fa, Str.ofString "law", scope, cdv, cl11 fx, pin, none⟩ (ss.drop 3) m' σ' Q) →
      WS C 20 ⟨A₀, A, base, h₀, outer, L, fa, Str.ofString "law", scope, cdv, cl11 fx, pin, none⟩ ss m₀ σ Q := by
  refine seg_intro (by rfl) ?_
  intro A₀ A base h₀ outer L fa cdv pin hQ
  have K' := K
  cases K'
  refine WS.weaken (Has.sub hm₀) (AHeap.le_refl _) ?_
  dsimp only [cl11, env11]
  have hk := G.hk
  have hn := G.hn
  have FQ := P11.fxq G.H
  have c0 : σ (fx (0, 0)) = some (.cell (some (.obj (fx (1, 0))))) := by rw [← G.cv]; exact G.H.at_ (0, 0) rfl
  have o1 : σ (fx (1, 0)) = some (.list ((List.range R.n).map fun i => .obj (dy (9, i + 1)))) := G.H.at_ (1, 0) rfl
  have o3 : σ (fx (3, 0)) = some (.list (natA R.loo)) := G.H.at_ (3, 0) rfl
  have hrl : ((List.range R.n).map fun i => AVal.obj (dy (9, i + 1))).length = R.n := by simp
  rw [hlo] at o3
  repeat walk_at "fw"
  refine t2_neS (k := 1) (Rd.obj o3 .nil) (Rd.lst .nil) (Dk.list (k := 0) fun d hd => nomatch hd) ?_
  repeat walk_at "fw"
  rw [hrl, show ((R.n : Int) == (R.n : Int)) = true by simp]
  repeat walk_at "fe"
  with_reducible refine wt_value ?_ ?hwv
  case hwv => intro _; rfl
  repeat walk_at "fw"
  refine tg_listM (by walk_at "hp") PySem.F.slot_list_append PySem.F.type_list_append ?_
  repeat walk_at "fw"
  refine tc_inst (c := 102) (by assumption) (by assumption) (by assumption) (by assumption) fun a ha => srcInit K (AHeap.set_same ..) ⟨rfl, ?_⟩
  rw [AHeap.set_set]
  repeat walk_at "fw"
  refine tc_append (by walk_at "hp") (by simp [sizeLine_eq]; omega) ?_
  repeat walk_at "fe"
  have H1 := P11.newSrc (w := wX) G.H ha
  refine ws_ab (fun s => P11 fx (up dy (9, R.n + 1) a) { R with n := R.n + 1, iv := up R.iv (R.n + 1) wX } s) (by exact H1) ?_
  clear H1 c0 o1 o3 ha
  intro σ1 H1
  have c0 : σ1 (fx (0, 0)) = some (.cell (some (.obj (fx (1, 0))))) := by rw [← G.cv]; exact H1.at_ (0, 0) rfl
  have o1 : σ1 (fx (1, 0)) = some (.list ((List.range (R.n + 1)).map fun i => .obj (up dy (9, R.n + 1) a (9, i + 1)))) := H1.at_ (1, 0) rfl
  have o4 : σ1 (fx (4, 0)) = some (.list (List.replicate R.k .none)) := H1.at_ (4, 0) rfl
  have oa : σ1 a = some (.inst 102 (srcV wX)) := by
    have := H1.at_ (9, R.n + 1) (Nat.le_refl _)
    have e : adr fx (up dy (9, R.n + 1) a) (9, R.n + 1) = a := by unfold adr; simp [up]
    rw [e] at this
    rw [this]; simp [R11.obj, up]
  have ea : up dy (9, R.n + 1) a (9, R.n + 1) = a := up_same ..
  have da : DQ fx a := by
    have := P11.dq H1 (k := 9) (i := R.n + 1) (by omega) (Nat.le_refl _)
    rwa [ea] at this
  have at1 : ((List.range (R.n + 1)).map fun i => AVal.obj (up dy (9, R.n + 1) a (9, i + 1)))[R.n]? = some (.obj a) := by
    rw [at_range (Nat.lt_succ_self _), ea]
  repeat walk_at "fw"
  refine t2_item (y := .obj a) (items_obj o1) (by omega) (by omega) at1 ?_
  repeat walk_at "fw"
  refine tc_fn (by assumption) (told11 K oa hX ?_)
  repeat walk_at "fw"
  refine t2_neS (k := 1) (Rd.lst (.cons (.str _) (.cons .none (.cons .none (.cons .none (.cons .none .nil)))))) (Rd.lst (.cons (.str _) (.cons .none (.cons .none (.cons .none (.cons .none .nil)))))) (Dk.list (k := 0) fun d hd => ?_) ?_
  · simp at hd
    rcases hd with rfl | rfl
    · exact Dk.str (by decide +kernel)
    · exact Dk.none
  repeat walk_at "fw"
  refine tg_listM (by walk_at "hp") PySem.F.slot_list_extend PySem.F.type_list_extend ?_
  repeat walk_at "fw"
  refine t2_item (y := .obj a) (items_obj o1) (by omega) (by omega) at1 ?_
  repeat walk_at "fw"
  refine tc_fn (by assumption) (things11 K (k := R.n + 1) (by omega) ?_)
  repeat walk_at "fw"
  refine tc_fn (by assumption) (dress11 K (t := thA (R.n + 1)) rfl oa fun l hl => ?_)
  have nl4 : fx (4, 0) ≠ l := hp_ne o4 hl
  repeat walk_at "fw"
  refine tc_extend (by walk_at "hp") (by walk_at "hp") (by simp [sizeLine_eq]; omega) ?_
  repeat walk_at "fe"
  have H2 := P11.src (p := R.n + 1) (w := dressV wX (thA (R.n + 1))) H1 (Nat.le_refl _)
  rw [ea] at H2
  have hl2 : (σ1.set a (.inst 102 (srcV (dressV wX (thA (R.n + 1)))))) l = none := (AHeap.set_ne _ _ (Ne.symm (hp_ne oa hl))).trans hl
  have H3 := P11.ans (xs := List.replicate 4 .none) (k := 4) (Hx.off (v := .list (List.replicate 4 .none)) H2 hl2) rfl
  with_reducible refine ws_nil ?_
  refine hQ a (dressV wX (thA (R.n + 1))) _ _ ?hH rfl ?hE
  case hE => exact ⟨rfl, rfl, rfl, rfl, rfl, rfl, rfl, rfl, rfl, rfl, trivial⟩
  dsimp only at H3
  rw [up_up] at H3
  exact H3
end
end Mine

open PySem PySem.W PyProof.Rows PySem.Calls
namespace Mine

section
variable {C : Cx} {fx dy : Ix → Addr} {R : R11} {b : Nat} {σ : AHeap}
theorem factsB {a : Addr} {k bN : Nat} {iv : Nat → Nat → AVal} (H : P11 fx (up dy (9, R.n + 1) a) { R with n := R.n + 1, k := k, iv := iv } σ) (cv : R.cv = some (.obj (fx (1, 0)))) (hbn : bN ≤ R.n) :
    σ (fx (0, 0)) = some (.cell (some (.obj (fx (1, 0))))) ∧ σ (fx (1, 0)) = some (.list ((List.range (R.n + 1)).map fun i => .obj (up dy (9, R.n + 1) a (9, i + 1)))) ∧ σ (fx (4, 0)) = some (.list (List.replicate k .none)) ∧ σ a = some (.inst 102 (srcV (iv (R.n + 1)))) ∧ σ (dy (6, 0)) = some (.list (natA R.ord)) ∧ σ (dy (9, bN)) = some (.inst 102 (srcV (iv bN))) := by
  have ea : up dy (9, R.n + 1) a (9, R.n + 1) = a := up_same ..
  have eb : up dy (9, R.n + 1) a (9, bN) = dy (9, bN) := up_ne _ _ (fun e => by cases e; omega)
  have e6 : up dy (9, R.n + 1) a (6, 0) = dy (6, 0) := up_ne _ _ (fun e => by cases e)
  refine ⟨by rw [← cv]; exact H.at_ (0, 0) rfl, H.at_ (1, 0) rfl, H.at_ (4, 0) rfl, ?_, by rw [← e6]; exact H.at_ (6, 0) rfl, ?_⟩
  · have := H.at_ (9, R.n + 1) (Nat.le_refl _)
    have e : adr fx (up dy (9, R.n + 1) a) (9, R.n + 1) = a := by unfold adr; simp [up]
    rw [e] at this
    exact this
  · have := H.at_ (9, bN) (Nat.le_succ_of_le hbn)
    have e : adr fx (up dy (9, R.n + 1) a) (9, bN) = dy (9, bN) := by unfold adr; rw [if_neg (by simp)]; exact eb
    rw [e] at this
    exact this
set_option maxHeartbeats 8000000 in
theorem insB2 (K : K11 C) {u : Int} {T : AVal} {hd : Addr} {p : Nat} {m₀ : AEnv} {σ₀ : AHeap} {a : Addr} {w : Nat → AVal} (G : G11 fx dy R b σ₀) (hb : b ≤ 70) (hh : dy (9, 0) = hd) (hp : p ≤ R.ord.length) (ho7 : R.ord.length < 7) (hlo : R.loo = [])
    (H : P11 fx (up dy (9, R.n + 1) a) { R with n := R.n + 1, k := R.k + 4, iv := up R.iv (R.n + 1) w } σ) (hw : w 3 = .none) (hm₀ : Has m₀ (envB fx hd (dy (6, 0)) (dy (9, lastN 0 (R.ord.take p))) T u p R.n)) :
    Seg PySem.Challenge.pw_dn0301_11 7 [(2, 0), (3, 0)] 3 fun scope ss => ∀ A₀ A base h₀ outer L fa cdv pin,
      WS C 20 ⟨A₀, A, base, h₀, outer, L, fa, Str.ofString "law", scope, cdv, cl11 fx, pin, none⟩ ss m₀ σ (Post11 fx hd b T) := by
  refine seg_intro (by rfl) ?_
  intro A₀ A base h₀ outer L fa cdv pin
  have K' := K
  cases K'
  refine WS.weaken (Has.sub hm₀) (AHeap.le_refl _) ?_
  dsimp only [cl11, envB]
  have hk := G.hk
  have hn := G.hn
  have FQ := P11.fxq H
  have hsp : R.ord = R.ord.take p ++ R.ord.drop p := (List.take_append_drop ..).symm
  have hbn : lastN 0 (R.ord.take p) ≤ R.n := lastN_le fun i hi => G.mem i (List.mem_append_left _ (List.mem_of_mem_take hi))
  have htn : (natA R.ord).take p = natA (R.ord.take p) := by simp [natA, List.map_take]
  have hdn : (natA R.ord).drop p = natA (R.ord.drop p) := by simp [natA, List.map_drop]
  generalize hbe : lastN 0 (R.ord.take p) = bN at *
  generalize hle : R.ord.drop p = d at *
  generalize hl1 : R.ord.take p = l₁ at *
  have v1 : R.iv bN 3 = hdA dy d := by
    have ch := G.ch
    rw [hsp] at ch
    rw [← hbe]; exact (Sg.app.mp ch).1.val
  have hne : bN ≠ R.n + 1 := by omega
  have ea : up dy (9, R.n + 1) a (9, R.n + 1) = a := up_same ..
  have eb : up dy (9, R.n + 1) a (9, bN) = dy (9, bN) := up_ne _ _ (fun e => by cases e; omega)
  have e6 : up dy (9, R.n + 1) a (6, 0) = dy (6, 0) := up_ne _ _ (fun e => by cases e)
  have e90 : up dy (9, R.n + 1) a (9, 0) = hd := (up_ne _ _ (fun e => by cases e)).trans hh
  have at1 : ((List.range (R.n + 1)).map fun i => AVal.obj (up dy (9, R.n + 1) a (9, i + 1)))[R.n]? = some (.obj a) := by
    rw [at_range (Nat.lt_succ_self _), ea]
  have d6 : DQ fx (dy (6, 0)) := by rw [← e6]; exact P11.dq H (by omega) rfl
  have db : DQ fx (dy (9, bN)) := by rw [← eb]; exact P11.dq H (by omega) (Nat.le_succ_of_le hbn)
  have da : DQ fx a := by
    have := P11.dq H (k := 9) (i := R.n + 1) (by omega) (Nat.le_refl _)
    rwa [ea] at this
  have n1 : dy (9, bN) ≠ a := by
    have := P11.dd H (k := 9) (i := bN) (k' := 9) (i' := R.n + 1) (by omega) (by omega) (Nat.le_succ_of_le hbn) (Nat.le_refl _) (fun e => hne (by cases e; rfl))
    rwa [ea, eb] at this
  have n2 : dy (6, 0) ≠ dy (9, bN) := by
    have := P11.dd H (k := 6) (i := 0) (k' := 9) (i' := bN) (by omega) (by omega) rfl (Nat.le_succ_of_le hbn) (by simp)
    rwa [e6, eb] at this
  have n3 : dy (6, 0) ≠ a := by
    have := P11.dd H (k := 6) (i := 0) (k' := 9) (i' := R.n + 1) (by omega) (by omega) rfl (Nat.le_refl _) (by simp)
    rwa [e6, ea] at this
  have hhd : handedA (hdA dy d) = true := hdA_handed
  have m1 : (R.n : Int).fmod 2 = ((R.n % 2 : Nat) : Int) := by rw [fmod_pos _ (by decide)]; rfl
  have er : (natA R.ord).take p ++ .int (R.n : Int) :: (natA R.ord).drop p = natA (l₁ ++ R.n :: d) := by
    rw [htn, hdn]; simp [natA]
  with_reducible refine ws_cons ?_
  with_reducible refine W1.cut (P := fun fl m' σ' => fl = .next ∧ Has m' (envB fx hd (dy (6, 0)) (dy (9, bN)) T u p R.n) ∧ ∃ w1 k1, P11 fx (up dy (9, R.n + 1) a) { R with n := R.n + 1, k := k1, iv := up R.iv (R.n + 1) w1 } σ' ∧ w1 3 = .none ∧ k1 ≤ R.k + 8 ∧ (R.n % 2 = 0 → w1 = dressV w (thA R.n))) ?_ ?_
  · obtain ⟨c0, o1, o4, oa, -, -⟩ := factsB H G.cv hbn
    rw [up_same] at oa
    walk_at "fw"
    walk_at "fw"
    walk_at "fw"
    with_reducible refine wt_value ?_ ?hwv
    case hwv => intro _; rfl
    iterate 9 walk_at "fw"
    rw [m1]
    obtain he | he : R.n % 2 = 0 ∨ R.n % 2 = 1 := by omega
    · rw [he]
      repeat walk_at "fw"
      refine tg_listM (by walk_at "hp") PySem.F.slot_list_extend PySem.F.type_list_extend ?_
      repeat walk_at "fw"
      refine t2_item (y := .obj a) (items_obj (by walk_at "hp")) (by omega) (by omega) at1 ?_
      repeat walk_at "fw"
      refine tc_fn (by assumption) (things11 K (k := R.n) (by omega) ?_)
      repeat walk_at "fw"
      refine tc_fn (by assumption) (dress11 K (v := w) (t := thA R.n) rfl oa fun l hl => ?_)
      have nl4 : fx (4, 0) ≠ l := hp_ne o4 hl
      repeat walk_at "fw"
      refine tc_extend (by walk_at "hp") (by walk_at "hp") (by simp [sizeLine_eq]; omega) ?_
      repeat walk_at "fw"
      have H2 := P11.src (p := R.n + 1) (w := dressV w (thA R.n)) H (Nat.le_refl _)
      rw [ea] at H2
      have hl2 : (σ.set a (.inst 102 (srcV (dressV w (thA R.n))))) l = none := (AHeap.set_ne _ _ (Ne.symm (hp_ne oa hl))).trans hl
      have H3 := P11.ans (xs := List.replicate 4 .none) (k := 4) (Hx.off (v := .list (List.replicate 4 .none)) H2 hl2) rfl
      dsimp only at H3
      rw [up_up] at H3
      exact ⟨rfl, ⟨rfl, rfl, rfl, rfl, rfl, rfl, rfl, rfl, rfl, rfl, trivial⟩, _, _, H3, hw, by omega, fun _ => rfl⟩
    · rw [he]
      repeat walk_at "fw"
      exact ⟨rfl, ⟨rfl, rfl, rfl, rfl, rfl, rfl, rfl, rfl, rfl, rfl, trivial⟩, _, _, H, hw, by omega, fun q => absurd q (by decide)⟩
  rintro fl m1' σ1 ⟨rfl, hm1, w1, k1, H1, hw1, hk1, hev⟩
  with_reducible show WS _ _ _ _ _ _ _
  with_reducible refine WS.weaken (Has.sub hm1) (AHeap.le_refl _) ?_
  dsimp only [envB]
  obtain ⟨c0, o1, o4, oa, o6, ob⟩ := factsB H1 G.cv hbn
  rw [up_same] at oa
  rw [up_ne _ _ hne] at ob
  unfold srcV at oa ob
  rw [v1] at ob
  walk_at "fw"
  repeat walk_at "fe"
  refine tg_listM (by walk_at "hp") PySem.F.slot_list_append PySem.F.type_list_append ?_
  repeat walk_at "fw"
  refine t2_item (y := .obj a) (items_obj (by walk_at "hp")) (by omega) (by omega) at1 ?_
  repeat walk_at "fw"
  refine tc_append (by walk_at "hp") (by simp [sizeLine_eq]; omega) ?_
  repeat walk_at "fw"
  refine tg_listM (by walk_at "hp") PySem.F.slot_list_append PySem.F.type_list_append ?_
  repeat walk_at "fw"
  refine t2_item (y := .obj a) (items_obj (by walk_at "hp")) (by omega) (by omega) at1 ?_
  repeat walk_at "fw"
  refine tc_append (by walk_at "hp") (by simp [sizeLine_eq]; omega) ?_
  repeat walk_at "fe"
  have H2 := P11.src (p := R.n + 1) (w := up w1 3 (hdA dy d)) H1 (Nat.le_refl _)
  rw [ea] at H2
  have H3 := P11.ans (xs := [.none]) (k := 1) H2 rfl
  have H4 := P11.src (p := bN) (w := up (R.iv bN) 3 (.obj a)) H3 (Nat.le_succ_of_le hbn)
  rw [eb] at H4
  have H5 := P11.ans (xs := [.none]) (k := 1) H4 rfl
  dsimp only at H5
  rw [up_up, List.replicate_succ' (n := k1)] at H5
  refine ws_ab (fun s => P11 fx (up dy (9, R.n + 1) a) { R with n := R.n + 1, k := k1 + 1 + 1, iv := up (up R.iv (R.n + 1) (up w1 3 (hdA dy d))) bN (up (R.iv bN) 3 (.obj a)) } s) (by exact H5) ?_
  clear H2 H3 H4 H5 c0 o1 o4 oa o6 ob H H1
  intro σ2 H2
  with_reducible refine ws_cons ?_
  with_reducible refine W1.cut (P := fun fl m' σ' => fl = .next ∧ Has m' (envB fx hd (dy (6, 0)) (dy (9, bN)) T u p R.n) ∧ ∃ w2 k2, P11 fx (up dy (9, R.n + 1) a) { R with n := R.n + 1, k := k2, iv := up (up R.iv (R.n + 1) w2) bN (up (R.iv bN) 3 (.obj a)) } σ' ∧ w2 3 = hdA dy d ∧ k2 ≤ R.k + 14 ∧ (w2 0 = sysA R.n ∧ w2 1 = pubA R.n ∧ w2 2 = encA R.n ∧ w2 4 = chrA R.n)) ?_ ?_
  · obtain ⟨c0, o1, o4, oa, -, -⟩ := factsB H2 G.cv hbn
    rw [up_ne _ _ (Ne.symm hne), up_same] at oa
    walk_at "fw"
    walk_at "fw"
    walk_at "fw"
    with_reducible refine wt_value ?_ ?hwv
    case hwv => intro _; rfl
    iterate 9 walk_at "fw"
    rw [m1]
    obtain he | he : R.n % 2 = 0 ∨ R.n % 2 = 1 := by omega
    · rw [he]
      repeat walk_at "fw"
      rw [hev he] at H2
      exact ⟨rfl, ⟨rfl, rfl, rfl, rfl, rfl, rfl, rfl, rfl, rfl, rfl, trivial⟩, _, _, H2, up_same .., by omega, ⟨rfl, rfl, rfl, rfl⟩⟩
    · rw [he]
      repeat walk_at "fw"
      refine tg_listM (by walk_at "hp") PySem.F.slot_list_extend PySem.F.type_list_extend ?_
      repeat walk_at "fw"
      refine t2_item (y := .obj a) (items_obj (by walk_at "hp")) (by omega) (by omega) at1 ?_
      repeat walk_at "fw"
      refine tc_fn (by assumption) (things11 K (k := R.n) (by omega) ?_)
      repeat walk_at "fw"
      refine tc_fn (by assumption) (dress11 K (v := up w1 3 (hdA dy d)) (t := thA R.n) rfl oa fun l hl => ?_)
      have nl4 : fx (4, 0) ≠ l := hp_ne o4 hl
      repeat walk_at "fw"
      refine tc_extend (by walk_at "hp") (by walk_at "hp") (by simp [sizeLine_eq]; omega) ?_
      repeat walk_at "fw"
      have H3 := P11.src (p := R.n + 1) (w := dressV (up w1 3 (hdA dy d)) (thA R.n)) H2 (Nat.le_refl _)
      rw [ea] at H3
      have hl2 : (σ2.set a (.inst 102 (srcV (dressV (up w1 3 (hdA dy d)) (thA R.n))))) l = none := (AHeap.set_ne _ _ (Ne.symm (hp_ne oa hl))).trans hl
      have H4 := P11.ans (xs := List.replicate 4 .none) (k := 4) (Hx.off (v := .list (List.replicate 4 .none)) H3 hl2) rfl
      dsimp only at H4
      rw [up_comm _ _ _ hne, up_up] at H4
      exact ⟨rfl, ⟨rfl, rfl, rfl, rfl, rfl, rfl, rfl, rfl, rfl, rfl, trivial⟩, _, _, H4, up_same .., by omega, ⟨rfl, rfl, rfl, rfl⟩⟩
  rintro fl m2' σ3 ⟨rfl, hm2, w2, k2, H3, hw2, hk2, z0, z1, z2, z4⟩
  with_reducible show WS _ _ _ _ _ _ _
  with_reducible refine WS.weaken (Has.sub hm2) (AHeap.le_refl _) ?_
  dsimp only [envB]
  obtain ⟨c0, o1, o4, oa, o6, ob⟩ := factsB H3 G.cv hbn
  walk_at "fw"
  repeat walk_at "fe"
  refine tg_listM (by walk_at "hp") PySem.F.slot_list_insert PySem.F.type_list_insert ?_
  repeat walk_at "fw"
  refine tc_insert (j := p) (by walk_at "hp") (by simp [Builtin.List.listFitsIndex]; omega) (by rw [if_neg (by omega), natA_len, show ((p : Int)).toNat = p from rfl]; omega) (by rw [natA_len, sizeLine_eq]; omega) ?_
  repeat walk_at "fe"
  rw [er]
  have H4 := P11.ord (l := l₁ ++ R.n :: d) H3
  rw [e6] at H4
  dsimp only at H4
  rw [hlo] at H4
  refine ws_nil ⟨rfl, _, _, finB (p := p) G hsp hbe ho7 hlo z0 z1 z2 hw2 z4 (by omega) H4, e90, rfl, rfl, ?_, rfl, rfl, trivial⟩
  rw [e6]; rfl
end
end Mine

open PySem PySem.W PyProof.Rows PySem.Calls
namespace Mine

section
variable {C : Cx} {fx dy : Ix → Addr} {R : R11} {b : Nat} {σ : AHeap}
theorem G11.succ (G : G11 fx dy R b σ) : G11 fx dy R (b + 1) σ := ⟨G.H, G.ch, G.nd, G.mem, G.lo, G.fl, G.hf, G.h3, Nat.le_succ_of_le G.hn, G.h7, Nat.le_succ_of_le G.hl, Nat.le_trans G.hk (by omega), G.cv⟩
set_option maxHeartbeats 4000000 in
theorem ins11 (K : K11 C) {u : Int} {T : AVal} {hd : Addr} {p : Nat} {m₀ : AEnv} (G : G11 fx dy R b σ) (hb : b ≤ 70) (hh : dy (9, 0) = hd) (hp : p ≤ R.ord.length) (ho7 : R.ord.length < 7) (hm₀ : Has m₀ ((Str.ofString "x", .int u) :: (Str.ofString "place", .int (p : Int)) :: (Str.ofString "before", .obj (dy (9, lastN 0 (R.ord.take p)))) :: env11 fx hd (dy (6, 0)) T)) :
    Seg PySem.Challenge.pw_dn0301_11 7 [(2, 0), (3, 0)] 0 fun scope ss => ∀ A₀ A base h₀ outer L fa cdv pin,
      WS C 20 ⟨A₀, A, base, h₀, outer, L, fa, Str.ofString "law", scope, cdv, cl11 fx, pin, none⟩ ss m₀ σ (Post11 fx hd b T) := by
  cases hlo : R.loo with
  | cons m lr => exact insA K G hb hh hp ho7 hlo hm₀
  | nil =>
    refine seg_intro (by rfl) ?_
    intro A₀ A base h₀ outer L fa cdv pin
    refine seg_elim (insB1 K G hb hlo hm₀) rfl _ _ _ _ _ _ _ _ _ ?_
    intro a w σ' m' H hw hm
    exact seg_elim (insB2 K G hb hh hp ho7 hlo H hw hm) rfl _ _ _ _ _ _ _ _ _
set_option maxHeartbeats 4000000 in
theorem fork11 (K : K11 C) {u : Int} {T : AVal} {hd : Addr} {p : Nat} {m' : AEnv} (G : G11 fx dy R b σ) (hb : b ≤ 70) (hh : dy (9, 0) = hd) (hp : p ≤ R.ord.length) (hm : Has m' ((Str.ofString "x", .int u) :: (Str.ofString "place", .int (p : Int)) :: (Str.ofString "before", .obj (dy (9, lastN 0 (R.ord.take p)))) :: env11 fx hd (dy (6, 0)) T)) :
    Seg PySem.Challenge.pw_dn0301_11 7 [(2, 0)] 3 fun scope ss => ∀ A₀ A base h₀ outer L fa cdv pin,
      WS C 20 ⟨A₀, A, base, h₀, outer, L, fa, Str.ofString "law", scope, cdv, cl11 fx, pin, none⟩ ss m' σ (Post11 fx hd b T) := by
  refine seg_intro (by rfl) ?_
  intro A₀ A base h₀ outer L fa cdv pin
  have K' := K
  cases K'
  have h7 := G.h7
  have o6 : σ (dy (6, 0)) = some (.list (natA R.ord)) := G.H.at_ (6, 0) rfl
  with_reducible refine WS.weaken (Has.sub hm) (AHeap.le_refl _) ?_
  have hm2 : Has ((Str.ofString "x", .int u) :: (Str.ofString "place", .int (p : Int)) :: (Str.ofString "before", .obj (dy (9, lastN 0 (R.ord.take p)))) :: env11 fx hd (dy (6, 0)) T) ((Str.ofString "x", .int u) :: (Str.ofString "place", .int (p : Int)) :: (Str.ofString "before", .obj (dy (9, lastN 0 (R.ord.take p)))) :: env11 fx hd (dy (6, 0)) T) := ⟨rfl, rfl, rfl, rfl, rfl, rfl, rfl, rfl, trivial⟩
  have hlen : (natA R.ord).length = R.ord.length := natA_len
  have stop : ∀ {f' : Fm} {fl m' σ₁}, Post11 fx hd b T fl m' σ₁ → (match fl with | .next => WS C 20 f' [] m' σ₁ (Post11 fx hd b T) | fl => Post11 fx hd b T fl m' σ₁) := by
    rintro f' fl m' σ₁ ⟨rfl, h⟩
    exact ws_nil ⟨rfl, h⟩
  with_reducible refine ws_cons ?_
  with_reducible refine W1.cut (P := Post11 fx hd b T) ?_ (fun _ _ _ h => stop h)
  with_reducible refine w1_if ?_
  dsimp only [env11, cl11]
  repeat walk_at "fe"
  all_goals (repeat walk_at "fe")
  · rename_i q _
    refine seg_elim (ins11 K G hb hh hp ?_ hm2) rfl _ _ _ _ _ _ _ _ _
    have := of_decide_eq_true q
    rw [hlen] at this
    omega
  all_goals
    with_reducible refine ws_cons ?_
    with_reducible refine W1.cut (P := Post11 fx hd b T) ?_ (fun _ _ _ h => stop h)
    with_reducible refine w1_if ?_
    repeat walk_at "fe"
  all_goals (repeat walk_at "fe")
  any_goals
    rename_i q _
    refine seg_elim (rem11 K G hb hh ?_ hm2) rfl _ _ _ _ _ _ _ _ _
    have := of_decide_eq_true q
    rw [hlen] at this
    omega
  all_goals
    with_reducible refine ws_cons ?_
    with_reducible refine W1.cut (P := Post11 fx hd b T) ?_ (fun _ _ _ h => stop h)
    with_reducible refine w1_if ?_
    repeat walk_at "fe"
  all_goals (repeat walk_at "fe")
  any_goals exact seg_elim (rev11 K G hb hh hp hm2) rfl _ _ _ _ _ _ _ _ _
  all_goals exact ws_nil ⟨rfl, dy, R, G.succ, hh, rfl, rfl, rfl, rfl, rfl, trivial⟩
set_option maxHeartbeats 4000000 in
theorem step11 (K : K11 C) {u : Int} {T : AVal} {hd : Addr} (G : G11 fx dy R b σ) (hb : b ≤ 70) (hh : dy (9, 0) = hd) :
    Seg PySem.Challenge.pw_dn0301_11 7 [(2, 0)] 0 fun scope ss => ∀ A₀ A base h₀ outer L fa cdv pin,
      WS C 20 ⟨A₀, A, base, h₀, outer, L, fa, Str.ofString "law", scope, cdv, cl11 fx, pin, none⟩ ss ((Str.ofString "x", .int u) :: env11 fx hd (dy (6, 0)) T) σ (Post11 fx hd b T) := by
  refine seg_intro (by rfl) ?_
  intro A₀ A base h₀ outer L fa cdv pin
  refine seg_elim (walk11 K G hh) rfl _ _ _ _ _ _ _ _ _ ?_
  intro p m' hp hm
  exact seg_elim (fork11 K G hb hh hp hm) rfl _ _ _ _ _ _ _ _ _
end
end Mine

open PySem PySem.W PyProof.Rows PySem.Calls
namespace Mine

section
variable {C : Cx} {fx dy : Ix → Addr} {R : R11} {b : Nat} {σ : AHeap}
theorem sOkStr : ∀ k : Fin 101, PyData.strOk (sStr k.val) = true := by decide +kernel
theorem rdTh (σ : AHeap) {i : Nat} (hi : i ≤ 100) : ∃ d0 d1 d2 d3, Rd σ (sysA i) d0 ∧ Rd σ (pubA i) d1 ∧ Rd σ (encA i) d2 ∧ Rd σ (chrA i) d3 ∧ Dk 1 d0 ∧ Dk 1 d1 ∧ Dk 1 d2 ∧ Dk 1 d3 := by
  have a0 : ∃ d, Rd σ (sysA i) d ∧ Dk 1 d := by
    unfold sysA
    split
    · exact ⟨_, .none, Dk.none⟩
    · exact ⟨_, .str _, Dk.str (sOkStr ⟨i, by omega⟩)⟩
  have a1 : ∃ d, Rd σ (pubA i) d ∧ Dk 1 d := by
    unfold pubA
    have := Nat.mod_lt i (show 3 > 0 by decide)
    obtain h | h | h : i % 3 = 0 ∨ i % 3 = 1 ∨ i % 3 = 2 := by omega
    all_goals rw [h]
    · exact ⟨_, .none, Dk.none⟩
    · exact ⟨_, .str _, Dk.str (by decide +kernel)⟩
    · exact ⟨_, .str _, Dk.str (by decide +kernel)⟩
  have a2 : ∃ d, Rd σ (encA i) d ∧ Dk 1 d := by
    unfold encA
    have := Nat.mod_lt i (show 3 > 0 by decide)
    obtain h | h | h : i % 3 = 0 ∨ i % 3 = 1 ∨ i % 3 = 2 := by omega
    all_goals rw [h]
    · exact ⟨_, .str _, Dk.str (by decide +kernel)⟩
    · exact ⟨_, .str _, Dk.str (by decide +kernel)⟩
    · exact ⟨_, .none, Dk.none⟩
  have a3 : ∃ d, Rd σ (chrA i) d ∧ Dk 1 d := by
    unfold chrA
    have := Nat.mod_lt (i + 1) (show 3 > 0 by decide)
    obtain h | h | h : (i + 1) % 3 = 0 ∨ (i + 1) % 3 = 1 ∨ (i + 1) % 3 = 2 := by omega
    all_goals rw [h]
    · exact ⟨_, .none, Dk.none⟩
    · exact ⟨_, .lst .nil, Dk.list (k := 0) fun d hd => nomatch hd⟩
    · exact ⟨_, .lst (.cons (.int _) .nil), Dk.list (k := 0) fun d hd => by simp at hd; rw [hd]; exact Dk.int⟩
  obtain ⟨d0, r0, k0⟩ := a0
  obtain ⟨d1, r1, k1⟩ := a1
  obtain ⟨d2, r2, k2⟩ := a2
  obtain ⟨d3, r3, k3⟩ := a3
  exact ⟨d0, d1, d2, d3, r0, r1, r2, r3, k0, k1, k2, k3⟩
theorem th_handed {i : Nat} : handedA (sysA i) = true ∧ handedA (pubA i) = true ∧ handedA (encA i) = true := by
  refine ⟨?_, ?_, ?_⟩
  · unfold sysA; split <;> rfl
  · unfold pubA
    have := Nat.mod_lt i (show 3 > 0 by decide)
    obtain h | h | h : i % 3 = 0 ∨ i % 3 = 1 ∨ i % 3 = 2 := by omega
    all_goals rw [h]; rfl
  · unfold encA
    have := Nat.mod_lt i (show 3 > 0 by decide)
    obtain h | h | h : i % 3 = 0 ∨ i % 3 = 1 ∨ i % 3 = 2 := by omega
    all_goals rw [h]; rfl
/-- what one node answers, bar the stream -/
def dueA : Nat → List AVal
  | 0 => [.none, .none, .none, .none]
  | i + 1 => thA i
theorem dueOk (G : G11 fx dy R b σ) {k : Nat} (hk : k ≤ R.n) : dueA k = [R.iv k 0, R.iv k 1, R.iv k 2, R.iv k 4] := by
  cases k with
  | zero => rw [G.hf 0 (by decide), G.hf 1 (by decide), G.hf 2 (by decide), G.hf 4 (by decide)]; rfl
  | succ i => obtain ⟨h0, h1, h2, h4⟩ := G.fl i hk; rw [h0, h1, h2, h4]; rfl
theorem dueRd (G : G11 fx dy R b σ) (hb : b ≤ 71) {k : Nat} (hk : k ≤ R.n) (σ' : AHeap) : ∃ d0 d1 d2 d3, Rd σ' (R.iv k 0) d0 ∧ Rd σ' (R.iv k 1) d1 ∧ Rd σ' (R.iv k 2) d2 ∧ Rd σ' (R.iv k 4) d3 ∧ Dk 1 d0 ∧ Dk 1 d1 ∧ Dk 1 d2 ∧ Dk 1 d3 := by
  have hn := G.hn
  cases k with
  | zero => rw [G.hf 0 (by decide), G.hf 1 (by decide), G.hf 2 (by decide), G.hf 4 (by decide)]; exact ⟨_, _, _, _, .none, .none, .none, .none, Dk.none, Dk.none, Dk.none, Dk.none⟩
  | succ i => obtain ⟨h0, h1, h2, h4⟩ := G.fl i hk; rw [h0, h1, h2, h4]; exact rdTh σ' (by omega)
theorem ivH (G : G11 fx dy R b σ) {k : Nat} (hk : k ≤ R.n) (f : Nat) (hf : f < 5) : handedA (R.iv k f) = true := by
  by_cases e : f = 3
  · subst e; exact G.h3 k hk
  cases k with
  | zero => rw [G.hf f e]; rfl
  | succ i =>
    obtain ⟨h0, h1, h2, h4⟩ := G.fl i hk
    obtain ⟨t0, t1, t2⟩ := th_handed (i := i)
    obtain rfl | rfl | rfl | rfl : f = 0 ∨ f = 1 ∨ f = 2 ∨ f = 4 := by omega
    · rw [h0]; exact t0
    · rw [h1]; exact t1
    · rw [h2]; exact t2
    · rw [h4]; exact chr_handed
/-- at the end: the two lists lie still -/
structure E11 (fx dy : Ix → Addr) (R : R11) (σ : AHeap) : Prop where
  c0 : σ (fx (0, 0)) = some (.cell (some (.obj (fx (1, 0)))))
  o1 : σ (fx (1, 0)) = some (.list ((List.range R.n).map fun i => .obj (dy (9, i + 1))))
  o4 : σ (fx (4, 0)) = some (.list (List.replicate R.k .none))
  o9 : ∀ k, k ≤ R.n → σ (dy (9, k)) = some (.inst 102 (srcV (R.iv k)))
def envE (fx : Ix → Addr) (R : R11) (hd : Addr) (T s : AVal) : AEnv := [(Str.ofString "script", T), (Str.ofString "head", .obj hd), (Str.ofString "order", .lst (natA R.ord)), (Str.ofString "loose", .lst (natA R.loo)), (Str.ofString "answers", .obj (fx (4, 0))), (Str.ofString "source", s)]
set_option maxHeartbeats 4000000 in
theorem endA (K : K11 C) {T : AVal} {hd : Addr} {σ₀ : AHeap} (G : G11 fx dy R b σ₀) (hb : b ≤ 71) (hh : dy (9, 0) = hd) (E : E11 fx dy R σ) {Q : AFlow → AEnv → AHeap → Prop} (hQ : ∀ m', Has m' (envE fx R hd T (.obj (dy (9, lastN 0 R.ord)))) → Q .next m' σ) :
    Seg1 PySem.Challenge.pw_dn0301_11 7 [] 4 fun scope st => ∀ A₀ A base h₀ outer L fa cdv pin, W1 C 20 ⟨A₀, A, base, h₀, outer, L, fa, Str.ofString "law", scope, cdv, cl11 fx, pin, none⟩ st (envE fx R hd T (.obj hd)) σ Q := by
  refine seg1_intro (by rfl) ?_
  intro A₀ A base h₀ outer L fa cdv pin
  have K' := K
  cases K'
  dsimp only [cl11]
  have h7 := G.h7
  have hn := G.hn
  with_reducible refine w1_for (fun rest m' σ' => ∃ l₁ r, R.ord = l₁ ++ r ∧ rest = natA r ∧ σ' = σ ∧ m' = envE fx R hd T (.obj (dy (9, lastN 0 l₁)))) ?_ ?_ ?_ ?hs
  case hs => intro _; rfl
  · refine wi ?_
    dsimp only [envE]
    repeat walk_at "fw"
    exact ti_lst ⟨rfl, [], R.ord, rfl, rfl, rfl, by rw [show dy (9, lastN 0 []) = hd from hh]⟩
  · rintro pin x xs m' σ' ⟨l₁, r, hsp, h, rfl, rfl⟩
    obtain ⟨i, r', rfl, rfl, rfl⟩ := natA_cons (i := 0) h
    have hin : i < R.n := G.mem i (List.mem_append_left _ (by rw [hsp]; simp))
    have hbn : lastN 0 l₁ ≤ R.n := lastN_le fun j hj => G.mem j (List.mem_append_left _ (by rw [hsp]; exact List.mem_append_left _ hj))
    have hv : R.iv (lastN 0 l₁) 3 = .obj (dy (9, i + 1)) := by
      have ch := G.ch
      rw [hsp] at ch
      exact (Sg.app.mp ch).1.val
    have c0 := E.c0
    have o1 := E.o1
    have ob := E.o9 _ hbn
    unfold srcV at ob
    rw [hv] at ob
    walk_at "fw"
    dsimp only [Fm.withPin, envE]
    repeat walk_at "fw"
    refine t2_item (y := .obj (dy (9, i + 1))) (items_obj o1) (by omega) (by omega) (at_range hin) ?_
    refine t2_isNotObj ?_
    repeat walk_at "fw"
    refine ⟨envE fx R hd T (.obj (dy (9, lastN 0 (l₁ ++ [i])))), _, Has.sub ⟨rfl, rfl, rfl, rfl, rfl, ?_, trivial⟩, AHeap.le_refl _, l₁ ++ [i], r', by rw [hsp]; simp, rfl, rfl, rfl⟩
    rw [lastN_snoc]; rfl
  · rintro m' σ' ⟨l₁, r, hsp, h, rfl, rfl⟩
    cases r with
    | cons i r => cases h
    | nil =>
      rw [List.append_nil] at hsp
      refine hQ _ ?_
      rw [hsp]
      unfold envE
      rw [hsp]
      exact ⟨rfl, rfl, rfl, rfl, rfl, rfl, trivial⟩
end
end Mine

open PySem PySem.W PyProof.Rows PySem.Calls
namespace Mine

section
variable {C : Cx} {fx dy : Ix → Addr} {R : R11} {b : Nat} {σ : AHeap}
def envF (fx : Ix → Addr) (R : R11) (hd : Addr) (T : AVal) : AEnv := [(Str.ofString "script", T), (Str.ofString "head", .obj hd), (Str.ofString "order", .lst (natA R.ord)), (Str.ofString "loose", .lst (natA R.loo)), (Str.ofString "answers", .obj (fx (4, 0)))]
set_option maxHeartbeats 4000000 in
theorem endB (K : K11 C) {T : AVal} {hd : Addr} {σ₀ : AHeap} (G : G11 fx dy R b σ₀) (hb : b ≤ 71) (hh : dy (9, 0) = hd) (E : E11 fx dy R σ) {Q : AFlow → AEnv → AHeap → Prop} (hQ : ∀ m', Has m' (envF fx R hd T) → Q .next m' σ) :
    Seg1 PySem.Challenge.pw_dn0301_11 7 [] 5 fun scope st => ∀ A₀ A base h₀ outer L fa cdv pin, W1 C 20 ⟨A₀, A, base, h₀, outer, L, fa, Str.ofString "law", scope, cdv, cl11 fx, pin, none⟩ st (envE fx R hd T (.obj (dy (9, lastN 0 R.ord)))) σ Q := by
  refine seg1_intro (by rfl) ?_
  intro A₀ A base h₀ outer L fa cdv pin
  have K' := K
  cases K'
  dsimp only [cl11]
  have h7 := G.h7
  have hn := G.hn
  have hl := G.hl
  have c0 := E.c0
  have o1 := E.o1
  with_reducible refine W1.weaken (m' := envE fx R hd T (.obj (dy (9, lastN 0 R.ord)))) ?hm (AHeap.le_refl _) ?_
  case hm => exact Has.sub ⟨rfl, rfl, rfl, rfl, rfl, rfl, trivial⟩
  with_reducible refine w1_for (fun rest m' σ' => ∃ (ks : List Nat) (s : AVal), rest = (ks.map fun k => .obj (dy (9, k))) ∧ (∀ k ∈ ks, k ≤ R.n ∧ R.iv k 3 = .none) ∧ σ' = σ ∧ m' = envE fx R hd T s) ?_ ?_ ?_ ?hs
  case hs => intro _; rfl
  · refine wi ?_
    dsimp only [envE]
    repeat walk_at "fw"
    refine we_compB (cl := [(Str.ofString "made", fx (0, 0))]) (fun back rest ys σ' => back = id ∧ σ = σ' ∧ ∃ e r, R.loo = e ++ r ∧ rest = natA r ∧ ys = e.map fun i => .obj (dy (9, i + 1))) rfl ?_ ?_ ?_
    · refine wi ?_
      repeat walk_at "fw"
      exact ti_lst ⟨by rw [natA_len, sizeLine_eq]; omega, rfl, rfl, [], R.loo, rfl, rfl, rfl⟩
    · rintro back pin c v xs ys σ'' ⟨rfl, rfl, e, r, hsp, h, rfl⟩ hc
      obtain ⟨i, r', rfl, rfl, rfl⟩ := natA_cons (i := 0) h
      have hin : i < R.n := G.mem i (List.mem_append_right _ (by rw [hsp]; simp))
      have z0 : fx (0, 0) ≠ c := hp_ne c0 hc
      have z1 : fx (1, 0) ≠ c := hp_ne o1 hc
      repeat walk_at "fw"
      refine t2_item (y := .obj (dy (9, i + 1))) (items_obj (by walk_at "hp")) (by omega) (by omega) (at_range hin) ?_
      exact ⟨⟨_, AHeap.set_same ..⟩, _, AHeap.le_set hc, hc, rfl, rfl, e ++ [i], r', by simp [hsp], rfl, by simp⟩
    · rintro back ys σ'' ⟨rfl, rfl, e, r, hsp, h, rfl⟩
      obtain rfl : r = [] := by
        cases r with
        | nil => rfl
        | cons i r => cases h
      rw [List.append_nil] at hsp
      subst hsp
      dsimp only [id]
      refine t2_cat rfl rfl (by simp [sizeLine_eq]; omega) ?_
      refine ti_lst ⟨rfl, lastN 0 R.ord :: R.loo.map (· + 1), _, by simp, fun k hk => ?_, rfl, rfl⟩
      rcases List.mem_cons.mp hk with rfl | hk
      · exact ⟨lastN_le fun j hj => G.mem j (List.mem_append_left _ hj), G.ch.val⟩
      · obtain ⟨i, hi, rfl⟩ := List.mem_map.mp hk
        exact ⟨G.mem i (List.mem_append_right _ hi), G.lo i hi⟩
  · rintro pin x xs m' σ' ⟨ks, s, h, hks, rfl, rfl⟩
    cases ks with
    | nil => cases h
    | cons k ks =>
      cases h
      obtain ⟨hkn, hv⟩ := hks k (List.mem_cons_self ..)
      have ob := E.o9 _ hkn
      unfold srcV at ob
      rw [hv] at ob
      walk_at "fw"
      dsimp only [Fm.withPin, envE]
      repeat walk_at "fw"
      refine t2_isNotNone rfl ?_
      repeat walk_at "fw"
      exact ⟨envE fx R hd T (.obj (dy (9, k))), _, Has.sub ⟨rfl, rfl, rfl, rfl, rfl, rfl, trivial⟩, AHeap.le_refl _, ks, _, rfl, (fun k' hk' => hks k' (List.mem_cons_of_mem _ hk')), rfl, rfl⟩
  · rintro m' σ' ⟨ks, s, h, hks, rfl, rfl⟩
    exact hQ _ ⟨rfl, rfl, rfl, rfl, rfl, trivial⟩
end
end Mine

open PySem PySem.W PyProof.Rows PySem.Calls
namespace Mine

section
variable {C : Cx} {fx dy : Ix → Addr} {R : R11} {b : Nat} {σ : AHeap}
def envG (fx : Ix → Addr) (R : R11) (hd : Addr) (T s d : AVal) : AEnv := [(Str.ofString "script", T), (Str.ofString "head", .obj hd), (Str.ofString "order", .lst (natA R.ord)), (Str.ofString "loose", .lst (natA R.loo)), (Str.ofString "answers", .obj (fx (4, 0))), (Str.ofString "source", s), (Str.ofString "due", d)]
def rowsE (dy : Ix → Addr) (n : Nat) : List (List AVal) := (List.range n).map fun k => [.obj (dy (9, k)), .lst (dueA k)]
theorem rows_cons {n j : Nat} {x : List AVal} {xs : List (List AVal)} (h : x :: xs = (rowsE dy n).drop j) : j < n ∧ x = [.obj (dy (9, j)), .lst (dueA j)] ∧ xs = (rowsE dy n).drop (j + 1) := by
  have hl := congrArg List.length h
  simp [rowsE] at hl
  have hj : j < (rowsE dy n).length := by simp [rowsE]; omega
  rw [List.drop_eq_getElem_cons hj] at h
  cases h
  refine ⟨by omega, ?_, rfl⟩
  simp [rowsE]
theorem rows_succ {n : Nat} : rowsE dy (n + 1) = [.obj (dy (9, 0)), .lst (dueA 0)] :: (List.range n).map fun i => [.obj (dy (9, i + 1)), .lst (thA i)] := by
  unfold rowsE
  rw [List.range_succ_eq_map, List.map_cons, List.map_map]
  rfl
set_option maxHeartbeats 8000000 in
theorem endC (K : K11 C) {T : AVal} {hd : Addr} {σ₀ : AHeap} (G : G11 fx dy R b σ₀) (hb : b ≤ 71) (hh : dy (9, 0) = hd) (E : E11 fx dy R σ) :
    Seg PySem.Challenge.pw_dn0301_11 7 [] 6 fun scope ss => ∀ A₀ A base h₀ outer L fa cdv pin, WS C 20 ⟨A₀, A, base, h₀, outer, L, fa, Str.ofString "law", scope, cdv, cl11 fx, pin, none⟩ ss (envF fx R hd T) σ fun fl _ _ => fl = .ret (.bool true) := by
  refine seg_intro (by rfl) ?_
  intro A₀ A base h₀ outer L fa cdv pin
  have K' := K
  cases K'
  dsimp only [cl11]
  have hn := G.hn
  have hk := G.hk
  have c0 := E.c0
  have o1 := E.o1
  have hrl : ((List.range R.n).map fun i => AVal.obj (dy (9, i + 1))).length = R.n := by simp
  with_reducible refine ws_cons ?_
  with_reducible refine w1_forT (fun rest m' σ' => ∃ j, rest = (rowsE dy (R.n + 1)).drop j ∧ j ≤ R.n + 1 ∧ σ' = σ ∧ m' = envF fx R hd T) ?_ ?_ ?_ ?hst ?hs
  case hst => rfl
  case hs => intro _; rfl
  · refine wit_lst ?_
    dsimp only [envF]
    repeat walk_at "fw"
    refine t2_mulLst rfl (by omega) (by omega) (by decide) ?_
    repeat walk_at "fw"
    refine we_compB (cl := [(Str.ofString "made", fx (0, 0))]) (fun back rest ys σ' => back = id ∧ σ = σ' ∧ ∃ j, rest = (rngL 0 1 R.n).drop j ∧ ys = (List.range j).map (fun i => .tup [.obj (dy (9, i + 1)), .lst (thA i)]) ∧ j ≤ R.n) rfl ?_ ?_ ?_
    · refine wi ?_
      repeat walk_at "fw"
      rw [hrl]
      refine tc_range1 ?_
      exact ti_rng (k := R.n) (rng_small1 (by omega) (by omega)) (rng_size1' (k := R.n)) ⟨by rw [rngL_length, sizeLine_eq]; omega, rfl, rfl, 0, by simp, rfl, by omega⟩
    · rintro back pin c v xs ys σ'' ⟨rfl, rfl, j, h, rfl, hj⟩ hc
      obtain ⟨hj, rfl, rfl⟩ := rngL_cons h
      rw [show (0 + (j : Int) * 1) = j by omega]
      have z0 : fx (0, 0) ≠ c := hp_ne c0 hc
      have z1 : fx (1, 0) ≠ c := hp_ne o1 hc
      repeat walk_at "fw"
      refine t2_item (y := .obj (dy (9, j + 1))) (items_obj (by walk_at "hp")) (by omega) (by omega) (at_range (by omega)) ?_
      repeat walk_at "fw"
      refine tc_fn (by assumption) (things11 K (k := j) (by omega) ?_)
      repeat walk_at "fw"
      refine ⟨⟨_, AHeap.set_same ..⟩, _, AHeap.le_set hc, hc, rfl, rfl, j + 1, rfl, ?_, by omega⟩
      rw [List.range_succ, List.map_append]; rfl
    · rintro back ys σ'' ⟨rfl, rfl, j, h, rfl, hj⟩
      have hj' := rngL_nil h
      obtain rfl : j = R.n := by omega
      dsimp only [id]
      refine t2_cat rfl rfl (by simp [sizeLine_eq]; omega) ?_
      refine ⟨rowsE dy (R.n + 1), ?_, rfl, 0, rfl, by omega, rfl, rfl⟩
      rw [rows_succ, hh, List.map_cons, List.map_map]
      rfl
  · rintro pin x xs m' σ' ⟨j, h, hj1, rfl, rfl⟩
    obtain ⟨hj, rfl, rfl⟩ := rows_cons h
    have hjn : j ≤ R.n := by omega
    have ob := E.o9 j hjn
    have hH := ivH G hjn
    obtain ⟨d0, d1, d2, d3, r0, r1, r2, r3, k0, k1, k2, k3⟩ := dueRd G hb hjn σ'
    rw [dueOk G hjn]
    refine And.intro rfl ?_
    dsimp only [Fm.withPin, envF]
    repeat walk_at "fe"
    with_reducible refine ws_cons ?_
    with_reducible refine W1.weaken (m' := envG fx R hd T (.obj (dy (9, j))) (.lst [R.iv j 0, R.iv j 1, R.iv j 2, R.iv j 4])) ?hm (AHeap.le_refl _) ?_
    case hm => exact Has.sub ⟨rfl, rfl, rfl, rfl, rfl, rfl, rfl, trivial⟩
    with_reducible refine w1_for (fun rest m' σ'' => ∃ q, rest = List.replicate q (.lst (row5 (R.iv j))) ∧ σ'' = σ' ∧ m' = envG fx R hd T (.obj (dy (9, j))) (.lst [R.iv j 0, R.iv j 1, R.iv j 2, R.iv j 4])) ?_ ?_ ?_ ?hs
    case hs => intro _; rfl
    · refine wi ?_
      dsimp only [envG]
      repeat walk_at "fw"
      refine tc_fn (by assumption) (told11 K ob hH ?_)
      repeat walk_at "fw"
      refine tc_fn (by assumption) (told11 K ob hH ?_)
      repeat walk_at "fw"
      exact ti_lst ⟨rfl, 2, rfl, rfl, rfl⟩
    · rintro pin x xs m' σ'' ⟨q, hq, rfl, rfl⟩
      obtain ⟨q', rfl, rfl, rfl⟩ : ∃ q', q = q' + 1 ∧ x = .lst (row5 (R.iv j)) ∧ xs = List.replicate q' (.lst (row5 (R.iv j))) := by
        cases q with
        | zero => cases hq
        | succ q' => rw [List.replicate_succ] at hq; cases hq; exact ⟨q', rfl, rfl, rfl⟩
      walk_at "fw"
      dsimp only [Fm.withPin, envG]
      iterate 4 walk_at "fw"
      refine we_slice ?_
      repeat walk_at "fw"
      refine ⟨_, _, _, _, rfl, rfl, rfl, rfl, by decide, by simp [row5, sizeLine_eq], ?_⟩
      refine we_slice ?_
      repeat walk_at "fw"
      refine ⟨_, _, _, _, rfl, rfl, rfl, rfl, by decide, by simp [row5, sizeLine_eq], ?_⟩
      have e1 : pickA (row5 (R.iv j)) none (some 3) none = [R.iv j 0, R.iv j 1, R.iv j 2] := pick_take (k := 3)
      have e2 : pickA (row5 (R.iv j)) (some 4) none none = [R.iv j 4] := pick_drop (k := 4)
      rw [e1, e2]
      refine t2_cat rfl rfl (by simp [sizeLine_eq]) ?_
      repeat walk_at "fw"
      refine t2_neS (d := .list [d0, d1, d2, d3]) (k := 2) (Rd.lst (.cons r0 (.cons r1 (.cons r2 (.cons r3 .nil))))) (Rd.lst (.cons r0 (.cons r1 (.cons r2 (.cons r3 .nil))))) (Dk.list fun d hd => ?_) ?_
      · simp only [List.mem_cons, List.not_mem_nil, or_false] at hd
        rcases hd with rfl | rfl | rfl | rfl <;> assumption
      repeat walk_at "fw"
      exact ⟨envG fx R hd T (.obj (dy (9, j))) (.lst [R.iv j 0, R.iv j 1, R.iv j 2, R.iv j 4]), _, Has.sub ⟨rfl, rfl, rfl, rfl, rfl, rfl, rfl, trivial⟩, AHeap.le_refl _, q', rfl, rfl, rfl⟩
    · rintro m' σ'' ⟨q, hq, rfl, rfl⟩
      with_reducible refine ws_nil ?_
      exact ⟨envF fx R hd T, _, Has.sub ⟨rfl, rfl, rfl, rfl, rfl, trivial⟩, AHeap.le_refl _, j + 1, rfl, by omega, rfl, rfl⟩
  · rintro m' σ' ⟨j, h, hj1, rfl, rfl⟩
    have o4 := E.o4
    have hlk : (List.replicate R.k AVal.none).length = R.k := by simp
    dsimp only [envF]
    iterate 5 walk_at "fw"
    refine we_listM ?_
    repeat walk_at "fw"
    intro l hl
    have z4 : fx (4, 0) ≠ l := hp_ne o4 hl
    repeat walk_at "fw"
    rw [hlk]
    refine t2_mulObj (AHeap.set_same ..) (by omega) (by omega) (by simp; omega) ?_
    have e : (List.replicate ((R.k : Int)).toNat [AVal.none]).flatten = List.replicate R.k .none := by
      rw [show ((R.k : Int)).toNat = R.k from rfl]; exact lm_rep_flat_one _ _
    rw [e]
    have rdN : ∀ (σ : AHeap) (k : Nat), RdAll σ (List.replicate k .none) (List.replicate k .none) := fun σ k => by
      induction k with
      | zero => exact .nil
      | succ k ih => rw [List.replicate_succ, List.replicate_succ]; exact .cons .none ih
    refine t2_eqS (k := 1) (Rd.obj (by walk_at "hp") (rdN _ _)) (Rd.lst (rdN _ _)) (Dk.list (k := 0) fun d hd => by rw [List.eq_of_mem_replicate hd]; exact Dk.none) ?_
    rfl
end
end Mine

open PySem PySem.W PyProof.Rows PySem.Calls
open Mine

namespace Mine
section
variable {C : Cx} {fx dy : Ix → Addr} {R : R11} {b : Nat} {σ : AHeap}
theorem AHeap.del_at {σ : AHeap} {a b : Addr} {o : AObj} (h : σ b = some o) (hn : b ≠ a) : (σ.del a) b = some o := (AHeap.del_ne _ hn).trans h
set_option maxHeartbeats 4000000 in
theorem end11 (K : K11 C) {T : AVal} {hd : Addr} (G : G11 fx dy R b σ) (hb : b ≤ 71) (hh : dy (9, 0) = hd) :
    Seg PySem.Challenge.pw_dn0301_11 7 [] 3 fun scope ss => ∀ A₀ A base h₀ outer L fa cdv pin, WS C 20 ⟨A₀, A, base, h₀, outer, L, fa, Str.ofString "law", scope, cdv, cl11 fx, pin, none⟩ ss (env11 fx hd (dy (6, 0)) T) σ fun fl _ _ => fl = .ret (.bool true) := by
  refine seg_intro (by rfl) ?_
  intro A₀ A base h₀ outer L fa cdv pin
  have K' := K
  cases K'
  have FQ := P11.fxq G.H
  have d6 : DQ fx (dy (6, 0)) := P11.dq G.H (by omega) rfl
  have o3 : σ (fx (3, 0)) = some (.list (natA R.loo)) := G.H.at_ (3, 0) rfl
  have o6 : σ (dy (6, 0)) = some (.list (natA R.ord)) := G.H.at_ (6, 0) rfl
  have n36 : fx (3, 0) ≠ dy (6, 0) := hdq d6 (by decide)
  have E : E11 fx dy R ((σ.del (dy (6, 0))).del (fx (3, 0))) := by
    refine ⟨?_, ?_, ?_, fun k hk => ?_⟩
    · refine AHeap.del_at (AHeap.del_at ?_ (hdq d6 (by decide))) (hfxq FQ (by decide) (by decide) (by decide))
      rw [← G.cv]; exact G.H.at_ (0, 0) rfl
    · exact AHeap.del_at (AHeap.del_at (G.H.at_ (1, 0) rfl) (hdq d6 (by decide))) (hfxq FQ (by decide) (by decide) (by decide))
    · exact AHeap.del_at (AHeap.del_at (G.H.at_ (4, 0) rfl) (hdq d6 (by decide))) (hfxq FQ (by decide) (by decide) (by decide))
    · exact AHeap.del_at (AHeap.del_at (G.H.at_ (9, k) hk) (P11.dd G.H (by omega) (by omega) hk rfl (by simp))) (Ne.symm (hdq (P11.dq G.H (by omega) hk) (by decide)))
  refine WS.still (y := Str.ofString "order") o6 rfl ?_
  refine WS.still (y := Str.ofString "loose") (AHeap.del_at o3 n36) rfl ?_
  generalize (σ.del (dy (6, 0))).del (fx (3, 0)) = σ0 at E
  dsimp only [env11]
  with_reducible refine ws_cons ?_
  with_reducible refine w1_assign ?_ ?hsw
  case hsw => rfl
  repeat walk_at "fe"
  with_reducible show WS _ _ _ _ _ _ _
  with_reducible refine WS.weaken (m' := envE fx R hd T (.obj hd)) ?hw0 (AHeap.le_refl _) ?_
  case hw0 => exact Has.sub ⟨rfl, rfl, rfl, rfl, rfl, rfl, trivial⟩
  with_reducible refine ws_cons ?_
  refine seg1_elim (endA K G hb hh E ?_) rfl _ _ _ _ _ _ _ _ _
  intro m' hm
  with_reducible show WS _ _ _ _ _ _ _
  with_reducible refine WS.weaken (Has.sub hm) (AHeap.le_refl _) ?_
  with_reducible refine ws_cons ?_
  refine seg1_elim (endB K G hb hh E ?_) rfl _ _ _ _ _ _ _ _ _
  intro m' hm
  with_reducible show WS _ _ _ _ _ _ _
  with_reducible refine WS.weaken (Has.sub hm) (AHeap.le_refl _) ?_
  exact seg_elim (endC K G hb hh E) rfl _ _ _ _ _ _ _ _ _
set_option maxHeartbeats 4000000 in
theorem rest11 (K : K11 C) {hd : Addr} {ns : List Int} (hns : ns.length ≤ 63) (G : G11 fx dy R 0 σ) (hh : dy (9, 0) = hd) :
    Seg PySem.Challenge.pw_dn0301_11 7 [] 2 fun scope ss => ∀ A₀ A base h₀ outer L fa cdv pin, WS C 20 ⟨A₀, A, base, h₀, outer, L, fa, Str.ofString "law", scope, cdv, cl11 fx, pin, none⟩ ss (env11 fx hd (dy (6, 0)) (.lst (ns.map .int))) σ fun fl _ _ => fl = .ret (.bool true) := by
  refine seg_intro (by rfl) ?_
  intro A₀ A base h₀ outer L fa cdv pin
  have K' := K
  cases K'
  with_reducible refine ws_cons ?_
  with_reducible refine w1_for (fun xs m σ => ∃ (us : List Int) (dy : Ix → Addr) (R : R11) (b : Nat), xs = us.map .int ∧ b + us.length ≤ 67 ∧ G11 fx dy R b σ ∧ dy (9, 0) = hd ∧ m = env11 fx hd (dy (6, 0)) (.lst (ns.map .int))) ?_ ?_ ?_ ?hs
  case hs => intro _; rfl
  · refine wi ?_
    dsimp only [env11]
    repeat walk_at "fw"
    refine t2_cat rfl rfl (by simp [sizeLine_eq]; omega) ?_
    exact ti_lst ⟨rfl, [0, 3, 0, 6] ++ ns, dy, R, 0, by simp, by simp; omega, G, hh, rfl⟩
  · rintro pin x xs m' σ' ⟨us, dy, R, b, he, hb, G, hh, rfl⟩
    cases us with
    | nil => cases he
    | cons u us =>
      cases he
      walk_at "fw"
      dsimp only [Fm.withPin]
      have hb' : b + us.length + 1 ≤ 67 := by simpa [Nat.add_assoc] using hb
      with_reducible show WS _ _ _ _ _ _ _
      with_reducible refine WS.weaken (m' := (Str.ofString "x", .int u) :: env11 fx hd (dy (6, 0)) (.lst (ns.map .int))) ?h1 (AHeap.le_refl _) ?_
      case h1 => exact Has.sub ⟨rfl, rfl, rfl, rfl, rfl, rfl, trivial⟩
      with_reducible refine WS.mono (Q := Post11 fx hd b (.lst (ns.map .int))) ?h1 ?_
      case h1 => exact seg_elim (Mine.step11 K G (by omega) hh) rfl _ _ _ _ _ _ _ _ _
      rintro fl m' σ₁ ⟨rfl, dy, R, G, hh, hm⟩
      exact ⟨_, _, Has.sub hm, AHeap.le_refl _, us, dy, R, b + 1, rfl, by omega, G, hh, rfl⟩
  · rintro m' σ' ⟨us, dy, R, b, he, hb, G, hh, rfl⟩
    with_reducible show WS _ _ _ _ _ _ _
    exact seg_elim (Mine.end11 K G (by omega) hh) rfl _ _ _ _ _ _ _ _ _
end
end Mine

open PySem PySem.W PyProof.Rows PySem.Calls
open Mine

namespace Mine
section
variable {C : Cx} {fx dy : Ix → Addr} {σ : AHeap}
def R0 (c : Addr) : R11 := ⟨0, [], [], 0, fun _ _ => .none, some (.obj c)⟩
def liveL : List Ix := [(4, 0), (3, 0), (6, 0), (1, 0), (9, 0), (0, 0)]
theorem init11 {ad : Ix → Addr} {o : Ix → AObj} (X : Hx σ ad (· ∈ liveL) o) (h : o (0, 0) = .cell (some (.obj (ad (1, 0)))) ∧ o (1, 0) = .list [] ∧ o (3, 0) = .list [] ∧ o (4, 0) = .list [] ∧ o (6, 0) = .list [] ∧ o (9, 0) = .inst 102 (srcV fun _ => .none)) : P11 ad ad (R0 (ad (1, 0))) σ := by
  have e : adr ad ad = ad := by funext x; unfold adr; split <;> rfl
  unfold P11
  rw [e]
  obtain ⟨h1, h2, h3, h4, h5, h6⟩ := h
  have key : ∀ y, (R0 (ad (1, 0))).Live y → y ∈ liveL := by
    rintro ⟨k, i⟩ hy
    rcases k with _ | _ | _ | _ | _ | _ | _ | _ | _ | _ | k
    · obtain rfl : i = 0 := hy
      decide
    · obtain rfl : i = 0 := hy
      decide
    · exact hy.elim
    · obtain rfl : i = 0 := hy
      decide
    · obtain rfl : i = 0 := hy
      decide
    · exact hy.elim
    · obtain rfl : i = 0 := hy
      decide
    · exact hy.elim
    · exact hy.elim
    · have : i ≤ 0 := hy
      obtain rfl : i = 0 := by omega
      decide
    · exact hy.elim
  refine Hx.obj (Hx.sub X key) fun y hy => ?_
  have := key y hy
  simp only [liveL, List.mem_cons, List.not_mem_nil, or_false] at this
  rcases this with rfl | rfl | rfl | rfl | rfl | rfl
  · exact h4
  · exact h3
  · exact h5
  · exact h2
  · exact h6
  · exact h1
theorem g0 {c : Addr} (H : P11 fx dy (R0 c) σ) (hc : c = fx (1, 0)) : G11 fx dy (R0 c) 0 σ := by
  subst hc
  exact ⟨H, rfl, List.nodup_nil, (fun i hi => nomatch hi), (fun i hi => nomatch hi), (fun i hi => absurd hi (Nat.not_lt_zero _)), (fun f _ => rfl), (fun k _ => rfl), Nat.le_refl _, Nat.zero_le _, Nat.le_refl _, Nat.le_refl _, rfl⟩
theorem up_const : up (fun (_ _ : Nat) => AVal.none) 0 (fun _ => AVal.none) = fun _ _ => AVal.none := by
  funext x; unfold up; split <;> rfl
set_option maxHeartbeats 4000000 in
theorem start11 (K : K11 C) {hd : Addr} {ns : List Int} (hns : ns.length ≤ 63) (H : P11 fx dy (R0 (fx (1, 0))) σ) (hh : dy (9, 0) = hd) :
    Seg PySem.Challenge.pw_dn0301_11 7 [] 1 fun scope ss => ∀ A₀ A base h₀ outer L fa cdv pin, WS C 20 ⟨A₀, A, base, h₀, outer, L, fa, Str.ofString "law", scope, cdv, cl11 fx, pin, none⟩ ss (env11 fx hd (dy (6, 0)) (.lst (ns.map .int))) σ fun fl _ _ => fl = .ret (.bool true) := by
  refine seg_intro (by rfl) ?_
  intro A₀ A base h₀ outer L fa cdv pin
  have K' := K
  cases K'
  have oh : σ hd = some (.inst 102 (srcV fun _ => .none)) := by rw [← hh]; exact H.at_ (9, 0) (Nat.le_refl _)
  have H1 := P11.src (p := 0) (w := fun _ => .none) H (Nat.le_refl _)
  have e1 : ({ R0 (fx (1, 0)) with iv := up (R0 (fx (1, 0))).iv 0 fun _ => .none } : R11) = R0 (fx (1, 0)) := by
    unfold R0; dsimp only; rw [up_const]
  rw [e1, hh] at H1
  with_reducible refine ws_cons ?_
  with_reducible refine W1.cut (P := fun fl m' σ' => fl = .next ∧ Has m' (env11 fx hd (dy (6, 0)) (.lst (ns.map .int))) ∧ P11 fx dy (R0 (fx (1, 0))) σ') ?_ ?_
  · dsimp only [env11]
    repeat walk_at "fw"
    refine tc_fn (by assumption) (told11 K oh (fun _ _ => rfl) ?_)
    repeat walk_at "fw"
    refine t2_mulLst rfl (by omega) (by omega) (by decide) ?_
    refine t2_neS (k := 1) (Rd.lst (.cons .none (.cons .none (.cons .none (.cons .none (.cons .none .nil)))))) (Rd.lst (xs := [.none, .none, .none, .none, .none]) (.cons .none (.cons .none (.cons .none (.cons .none (.cons .none .nil)))))) (Dk.list (k := 0) fun d hd => ?_) ?_
    · simp at hd; rw [hd]; exact Dk.none
    repeat walk_at "fw"
    with_reducible refine wt_value ?_ ?hwv
    case hwv => intro _; rfl
    repeat walk_at "fw"
    refine tc_fn (by assumption) (washed11 K oh ?_)
    repeat walk_at "fw"
    exact ⟨rfl, ⟨rfl, rfl, rfl, rfl, rfl, trivial⟩, H1⟩
  rintro fl m' σ' ⟨rfl, hm, H2⟩
  with_reducible show WS _ _ _ _ _ _ _
  with_reducible refine WS.weaken (Has.sub hm) (AHeap.le_refl _) ?_
  exact seg_elim (Mine.rest11 K hns (g0 H2 rfl) hh) rfl _ _ _ _ _ _ _ _ _
end
end Mine

open PySem PySem.W PyProof.Rows PySem.Calls
open Mine

set_option maxHeartbeats 8000000 in
theorem PySem.Challenge.cw_dn0301_11_holds : PySem.Challenge.rw_dn0301_11.Holds :=
  Mine.hd11 (by
  w_strict (k_go0
            refine' Mine.enter_lawD ?cs ?ml ?B ?X ?T ?hL ?hI ?F ?N ?Y ?hk ?hn ?hcs ?hck ?hml ?h ?hQ
            case B => assumption
            case X => assumption
            case T => assumption
            case hL => assumption
            case hI => assumption
            case F => assumption
            case N => assumption
            case Y => assumption
            case hk => rfl
            case hn => omega
            case hck => decide +kernel
            case cs => exact (fun L => [(Str.ofString "made", L + 1)])
            case ml => exact (fun v => [(Str.ofString "script", v)])
            case hml => intro v; kernel_rfl
            case hcs => intro L; kernel_rfl
            case hQ =>
              intro h' tk mc' F'
              wrow_close
            case h =>
              intro A₀ A base h₀ outer L ns hns
              generalize hC : Mine.Cx.mk _ _ _ _ _ _ _ _ _ = C
              have K : Mine.K11 C := by subst hC; exact Mine.k11 rfl
              clear hC
              have K' := K
              cases K'
              dsimp only [cellS]
              have X0 := Hx.nilL (I := Ix) (fun _ => 0) (fun _ => .list [])
              have X1 := X0.newL (a := L + 1) (0, 0) (.cell none) rfl (by decide)
              clear X0
              change WS _ _ _ _ _ (AHeap.set (fun _ => none) (L + 1) (.cell none)) _
              have c0 := X1.at_ (0, 0) (by decide)
              change _ = some (AObj.cell none) at c0
              generalize AHeap.set (fun _ => none) (L + 1) (.cell none) = σ1 at X1 c0 ⊢
              with_reducible refine ws_cons ?_
              with_reducible refine w1_assignT ?_ ?h1 ?h2
              case h1 => rfl
              case h2 => rfl
              with_reducible refine we_tup ?_
              iterate 4 walk_at "fw"
              refine tc_inst (c := 102) (by assumption) (by assumption) (by assumption) (by assumption) fun hd p0 => srcInit0 K (AHeap.set_same ..) ⟨rfl, ?_⟩
              rw [AHeap.set_set]
              iterate 1 walk_at "fw"
              refine we_listM ?_
              iterate 2 walk_at "fw"
              intro ma p1
              iterate 1 walk_at "fw"
              refine we_listM ?_
              iterate 2 walk_at "fw"
              intro od p2
              iterate 1 walk_at "fw"
              refine we_listM ?_
              iterate 2 walk_at "fw"
              intro lo p3
              iterate 1 walk_at "fw"
              refine we_listM ?_
              iterate 2 walk_at "fw"
              intro an p4
              have X2 := X1.newL (9, 0) (.inst 102 (srcV fun _ => .none)) p0 (by decide)
              have X3 := X2.newL (1, 0) (.list []) p1 (by decide)
              have X4 := X3.newL (6, 0) (.list []) p2 (by decide)
              have X5 := X4.newL (3, 0) (.list []) p3 (by decide)
              have X6 := X5.newL (4, 0) (.list []) p4 (by decide)
              clear X1 X2 X3 X4 X5
              have n0 : L + 1 ≠ hd := hp_ne c0 p0
              have n1 : L + 1 ≠ ma := hp_ne (o := .cell none) (by walk_at "hp") p1
              have n2 : L + 1 ≠ od := hp_ne (o := .cell none) (by walk_at "hp") p2
              have n3 : L + 1 ≠ lo := hp_ne (o := .cell none) (by walk_at "hp") p3
              have n4 : L + 1 ≠ an := hp_ne (o := .cell none) (by walk_at "hp") p4
              have X7 := X6.set (x := (0, 0)) (v := .cell (some (.obj ma))) (by decide)
              repeat walk_at "fe"
              have H0 := init11 X7 ⟨rfl, rfl, rfl, rfl, rfl, rfl⟩
              with_reducible show WS _ _ _ _ _ _ _
              with_reducible refine WS.weaken (m' := [(Str.ofString "script", .lst (ns.map .int)), (Str.ofString "head", .obj hd), (Str.ofString "order", .obj od), (Str.ofString "loose", .obj lo), (Str.ofString "answers", .obj an)]) ?h1 (AHeap.le_refl _) ?_
              case h1 => exact Has.sub ⟨rfl, rfl, rfl, rfl, rfl, trivial⟩
              exact seg_elim (Mine.start11 K hns H0 rfl) rfl _ _ _ _ _ _ _ _ _))

