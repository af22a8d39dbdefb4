import PyProof.Rows.All
import Wide.All
import OpenK.AllK
import Wide.FinOn
import Lean
import PySem.Challenge.RW_dn0301_04
open PySem PySem.W PyProof.Rows PySem.Calls
set_option Elab.async false
set_option maxRecDepth 100000
set_option linter.unusedVariables false
namespace Mine

/-! ## abstract values, objects, contexts -/
inductive AVal where
  | none
  | bool (b : Bool)
  | int (i : Int)
  | str (s : Str)
  | bytes (b : Array UInt8)
  | raw (v : Value)
  | obj (a : Addr)
  | fin (C : Addr)
  | lst (xs : List AVal)
  | tup (xs : List AVal)
  | rng (a b c : Int)

inductive AObj where
  | inst (C : Addr) (as : List (Str × AVal))
  | list (xs : List AVal)
  | dict (es : List (Int × AVal))
  | cell (v : Option AVal)

structure Cx where
  prog : Program
  w : World
  K : Frag
  vp : Program
  loose : List Str
  mean : ExcName → Option Value
  mg : Str → Option Value
  mb : Str → Option Value
  H : Heap

abbrev Fz := List (Addr × Obj)
def At (C : Cx) (fz : Fz) (a : Addr) (o : Obj) : Prop := (a, o) ∈ fz ∨ C.H.get? a = some o
theorem At.mono {C : Cx} {fz fz' : Fz} (h : ∀ p ∈ fz, p ∈ fz') {a : Addr} {o : Obj} (x : At C fz a o) : At C fz' a o := x.imp (h _) id

abbrev tupOf (vs : List Value) : Obj := { cls := .type "tuple", data := .seq vs.toArray }

mutual
inductive V (P : Addr → Obj → Prop) : Value → AVal → Prop
  | none : V P .none .none
  | bool (b : Bool) : V P (.bool b) (.bool b)
  | int (i : Int) (t : Tok) : V P (.int i t) (.int i)
  | str (x : Str) (t : Tok) : V P (.str x t) (.str x)
  | bytes (b : Array UInt8) (t : Tok) : V P (.bytes b t) (.bytes b)
  | raw (v : Value) : V P v (.raw v)
  | obj (a : Addr) : V P (.ref a) (.obj a)
  | fin {a d C : Addr} : P a (instObj C d) → P d (dictOf [] 0) → V P (.ref a) (.fin C)
  | lst {a : Addr} {o : Obj} {n : Nat} {vs : List Value} {xs : List AVal} : P a o → o.cls = .type "list" → o.data = .seq vs.toArray n → Vs P vs xs → V P (.ref a) (.lst xs)
  | tup {a : Addr} {o : Obj} {n : Nat} {vs : List Value} {xs : List AVal} : P a o → o.cls = .type "tuple" → o.data = .seq vs.toArray n → Vs P vs xs → V P (.ref a) (.tup xs)
  | rng {r : Addr} {a b c : Int} {t u v : Tok} : P r { cls := .type "range", dict := none, data := .fields #[.int a t, .int b u, .int c v], slots := #[] } → V P (.ref r) (.rng a b c)
inductive Vs (P : Addr → Obj → Prop) : List Value → List AVal → Prop
  | nil : Vs P [] []
  | cons {v : Value} {av : AVal} {vs : List Value} {xs : List AVal} : V P v av → Vs P vs xs → Vs P (v :: vs) (av :: xs)
end

mutual
theorem V.mono {P P' : Addr → Obj → Prop} (k : ∀ a o, P a o → P' a o) : ∀ {v : Value} {x : AVal}, V P v x → V P' v x
  | _, _, .none => .none
  | _, _, .bool b => .bool b
  | _, _, .int i t => .int i t
  | _, _, .str x t => .str x t
  | _, _, .bytes b t => .bytes b t
  | _, _, .raw v => .raw v
  | _, _, .obj a => .obj a
  | _, _, .fin h1 h2 => .fin (k _ _ h1) (k _ _ h2)
  | _, _, .lst h1 h2 h3 h4 => .lst (k _ _ h1) h2 h3 (Vs.mono k h4)
  | _, _, .tup h1 h2 h3 h4 => .tup (k _ _ h1) h2 h3 (Vs.mono k h4)
  | _, _, .rng h1 => .rng (k _ _ h1)
theorem Vs.mono {P P' : Addr → Obj → Prop} (k : ∀ a o, P a o → P' a o) : ∀ {vs : List Value} {xs : List AVal}, Vs P vs xs → Vs P' vs xs
  | _, _, .nil => .nil
  | _, _, .cons h1 h2 => .cons (V.mono k h1) (Vs.mono k h2)
end
theorem V.up {C : Cx} {fz fz' : Fz} (h : ∀ p ∈ fz, p ∈ fz') {v : Value} {x : AVal} (a : V (At C fz) v x) : V (At C fz') v x := a.mono fun _ _ => At.mono h
theorem Vs.up {C : Cx} {fz fz' : Fz} (h : ∀ p ∈ fz, p ∈ fz') {v : List Value} {x : List AVal} (a : Vs (At C fz) v x) : Vs (At C fz') v x := a.mono fun _ _ => At.mono h
theorem Vs.length {P : Addr → Obj → Prop} : ∀ {vs : List Value} {xs : List AVal}, Vs P vs xs → vs.length = xs.length
  | _, _, .nil => rfl
  | _, _, .cons _ h => by simp [h.length]
theorem Vs.append {P : Addr → Obj → Prop} : ∀ {vs : List Value} {xs : List AVal} {ws : List Value} {ys : List AVal}, Vs P vs xs → Vs P ws ys → Vs P (vs ++ ws) (xs ++ ys)
  | _, _, _, _, .nil, h => h
  | _, _, _, _, .cons a b, h => .cons a (b.append h)
theorem Vs.get {P : Addr → Obj → Prop} : ∀ {vs : List Value} {xs : List AVal}, Vs P vs xs → ∀ {i : Nat} {x : AVal}, xs[i]? = some x → ∃ v, vs[i]? = some v ∧ V P v x
  | _, _, .nil, _, _, e => by simp at e
  | _, _, .cons a b, 0, _, e => by simp at e; subst e; exact ⟨_, rfl, a⟩
  | _, _, .cons a b, i + 1, _, e => by simp at e; obtain ⟨v, h1, h2⟩ := b.get e; exact ⟨v, by simpa using h1, h2⟩
theorem Vs.set {P : Addr → Obj → Prop} : ∀ {vs : List Value} {xs : List AVal}, Vs P vs xs → ∀ (i : Nat) {v : Value} {x : AVal}, V P v x → Vs P (vs.set i v) (xs.set i x)
  | _, _, .nil, _, _, _, _ => .nil
  | _, _, .cons a b, 0, _, _, h => .cons h b
  | _, _, .cons a b, i + 1, _, _, h => .cons a (b.set i h)
theorem Vs.take {P : Addr → Obj → Prop} : ∀ {vs : List Value} {xs : List AVal}, Vs P vs xs → ∀ (i : Nat), Vs P (vs.take i) (xs.take i)
  | _, _, _, 0 => by simp; exact .nil
  | _, _, .nil, _ + 1 => .nil
  | _, _, .cons a b, i + 1 => .cons a (b.take i)
theorem Vs.drop {P : Addr → Obj → Prop} : ∀ {vs : List Value} {xs : List AVal}, Vs P vs xs → ∀ (i : Nat), Vs P (vs.drop i) (xs.drop i)
  | _, _, h, 0 => h
  | _, _, .nil, _ + 1 => .nil
  | _, _, .cons a b, i + 1 => b.drop i
theorem Vs.reverse {P : Addr → Obj → Prop} : ∀ {vs : List Value} {xs : List AVal}, Vs P vs xs → Vs P vs.reverse xs.reverse
  | _, _, .nil => .nil
  | _, _, .cons a b => by simp only [List.reverse_cons]; exact b.reverse.append (.cons a .nil)

/-! ## attribute dicts -/
inductive Es (P : Addr → Obj → Prop) : List DictEntry → List (Str × AVal) → Prop
  | nil : Es P [] []
  | cons {h : Int} {x : Str} {t : Tok} {v : Value} {av : AVal} {es : List DictEntry} {as : List (Str × AVal)} : V P v av → Es P es as → Es P (⟨h, .str x t, v⟩ :: es) ((x, av) :: as)
def getA (x : Str) : List (Str × AVal) → Option AVal
  | [] => none
  | (y, a) :: r => if y == x then some a else getA x r
def setA (x : Str) (v : AVal) : List (Str × AVal) → List (Str × AVal)
  | [] => [(x, v)]
  | (y, a) :: r => if y == x then (y, v) :: r else (y, a) :: setA x v r
theorem Es.mono {P P' : Addr → Obj → Prop} (k : ∀ a o, P a o → P' a o) : ∀ {es : List DictEntry} {as : List (Str × AVal)}, Es P es as → Es P' es as
  | _, _, .nil => .nil
  | _, _, .cons a b => .cons (a.mono k) (b.mono k)
theorem Es.length {P : Addr → Obj → Prop} : ∀ {es : List DictEntry} {as : List (Str × AVal)}, Es P es as → es.length = as.length
  | _, _, .nil => rfl
  | _, _, .cons _ b => by simp [b.length]
theorem Es.noRef {P : Addr → Obj → Prop} : ∀ {es : List DictEntry} {as : List (Str × AVal)}, Es P es as → es.any (·.refKey) = false
  | _, _, .nil => rfl
  | _, _, .cons _ b => by rw [List.any_cons, b.noRef]; rfl
theorem getL_cons_hit {x : Str} {e : DictEntry} {es : List DictEntry} (h : e.key.isStr x = true) : getL x (e :: es) = some (some e.val) := by
  unfold getL; rw [List.find?_cons, h]
theorem Es.get_some {P : Addr → Obj → Prop} {x : Str} : ∀ {es : List DictEntry} {as : List (Str × AVal)}, Es P es as → ∀ {a : AVal}, getA x as = some a → ∃ v, getL x es = some (some v) ∧ V P v a
  | _, _, .nil, _, e => by cases e
  | _, _, .cons (h := hh) (x := y) (t := t) (v := v) (es := es) (as := as) q b, a, e => by
    unfold getA at e
    by_cases hy : (y == x) = true
    · rw [if_pos hy] at e; cases e
      exact ⟨v, getL_cons_hit hy, q⟩
    · rw [if_neg hy] at e
      obtain ⟨u, h1, h2⟩ := b.get_some e
      refine ⟨u, ?_, h2⟩
      have hy' : Value.isStr (.str y t) x = false := by show (y == x) = false; exact Bool.eq_false_iff.mpr hy
      unfold getL at h1 ⊢
      rw [List.find?_cons]
      simp only [hy']
      revert h1
      cases List.find? (fun x_1 => x_1.key.isStr x) es with
      | none => intro h1; rw [List.any_cons]; revert h1; cases es.any (·.refKey) <;> intro h1 <;> cases h1
      | some e' => exact id
theorem Es.get_none {P : Addr → Obj → Prop} {x : Str} : ∀ {es : List DictEntry} {as : List (Str × AVal)}, Es P es as → getA x as = none → getL x es = some none
  | _, _, .nil, _ => rfl
  | _, _, .cons (h := hh) (x := y) (t := t) (v := v) (es := es) (as := as) q b, e => by
    unfold getA at e
    by_cases hy : (y == x) = true
    · rw [if_pos hy] at e; cases e
    · rw [if_neg hy] at e
      have h1 := b.get_none e
      have hy' : Value.isStr (.str y t) x = false := by show (y == x) = false; exact Bool.eq_false_iff.mpr hy
      unfold getL at h1 ⊢
      rw [List.find?_cons]
      simp only [hy']
      revert h1
      cases List.find? (fun x_1 => x_1.key.isStr x) es with
      | none => rw [List.any_cons, b.noRef]; intro _; rfl
      | some e' => exact id
theorem Es.isSome {P : Addr → Obj → Prop} {x : Str} {es : List DictEntry} {as : List (Str × AVal)} (h : Es P es as) : (getL x es).isSome = true := by
  cases q : getA x as with
  | none => rw [h.get_none q]; rfl
  | some a => obtain ⟨v, e, _⟩ := h.get_some q; rw [e]; rfl
theorem Es.put {P : Addr → Obj → Prop} {x : Str} {hh : Int} {t : Tok} {v : Value} {a : AVal} (hv : V P v a) : ∀ {es : List DictEntry} {as : List (Str × AVal)}, Es P es as → Es P (putL x hh (.str x t) v es) (setA x a as)
  | _, _, .nil => .cons hv .nil
  | _, _, .cons (h := h') (x := y) (t := t') (v := v') (es := es) (as := as) q b => by
    unfold putL setA
    by_cases hy : (y == x) = true
    · have hy' : Value.isStr (.str y t') x = true := hy
      rw [if_pos hy, if_pos hy']; exact .cons hv b
    · have hy' : ¬ Value.isStr (.str y t') x = true := hy
      rw [if_neg hy, if_neg hy']; exact .cons q (b.put hv)

/-! ## abstract heap -/
abbrev AHeap := Addr → Option AObj
def AHeap.set (σ : AHeap) (a : Addr) (o : AObj) : AHeap := fun b => if b = a then some o else σ b
@[simp] theorem AHeap.set_same (σ : AHeap) (a : Addr) (o : AObj) : σ.set a o a = some o := if_pos rfl
theorem AHeap.set_ne (σ : AHeap) {a b : Addr} (o : AObj) (h : b ≠ a) : σ.set a o b = σ b := if_neg h
def AHeap.le (σ σ' : AHeap) : Prop := ∀ a o, σ a = some o → σ' a = some o

def OR (P : Addr → Obj → Prop) (news : List (Addr × Obj)) (d a : Addr) : AObj → Prop
  | .inst C as => (a, instObj C d) ∈ news ∧ ∃ es n, (d, dictOf es n) ∈ news ∧ Es P es as
  | .list xs => ∃ vs n, (a, listOf vs.toArray n) ∈ news ∧ Vs P vs xs
  | .dict _ => False
  | .cell none => ∃ o, (a, o) ∈ news ∧ o.data = .cell none
  | .cell (some x) => ∃ o v, (a, o) ∈ news ∧ o.data = .cell (some v) ∧ V P v x

structure HR (C : Cx) (fz pin : Fz) (σ : AHeap) (δ : Addr → Addr) (news : List (Addr × Obj)) : Prop where
  sub : ∀ p ∈ fz ++ pin, p ∈ news
  apart : ∀ p ∈ fz, ∀ q ∈ pin, p.1 ≠ q.1
  ob : ∀ a ao, σ a = some ao → OR (At C fz) news (δ a) a ao
  off : ∀ a ao, σ a = some ao → ∀ p ∈ fz ++ pin, p.1 ≠ a
  doff : ∀ a c as, σ a = some (.inst c as) → ∀ p ∈ fz ++ pin, p.1 ≠ δ a
  dσ : ∀ a c as, σ a = some (.inst c as) → σ (δ a) = none
  dinj : ∀ a c as b c' bs, σ a = some (.inst c as) → σ b = some (.inst c' bs) → δ a = δ b → a = b

theorem OR.key {P : Addr → Obj → Prop} {news : List (Addr × Obj)} {d a : Addr} {o : AObj} (h : OR P news d a o) : ∃ o', (a, o') ∈ news := by
  cases o with
  | inst C as => exact ⟨_, h.1⟩
  | list xs => obtain ⟨vs, n, h, _⟩ := h; exact ⟨_, h⟩
  | dict es => exact h.elim
  | cell v => cases v with
    | none => obtain ⟨o, h, _⟩ := h; exact ⟨o, h⟩
    | some v => obtain ⟨o, _, h, _⟩ := h; exact ⟨o, h⟩
theorem OR.mono {P P' : Addr → Obj → Prop} {news news' : List (Addr × Obj)} {d a : Addr} {o : AObj} (k : ∀ a o, P a o → P' a o) (h : OR P news d a o) (hn : ∀ o', (a, o') ∈ news → (a, o') ∈ news') (hd : ∀ c as, o = .inst c as → ∀ o', (d, o') ∈ news → (d, o') ∈ news') : OR P' news' d a o := by
  cases o with
  | inst C as => obtain ⟨h1, es, n, h2, h3⟩ := h; exact ⟨hn _ h1, es, n, hd _ _ rfl _ h2, h3.mono k⟩
  | list xs => obtain ⟨vs, n, h1, h2⟩ := h; exact ⟨vs, n, hn _ h1, h2.mono k⟩
  | dict es => exact h.elim
  | cell v => cases v with
    | none => obtain ⟨o, h1, h2⟩ := h; exact ⟨o, hn _ h1, h2⟩
    | some v => obtain ⟨o, v, h1, h2, h3⟩ := h; exact ⟨o, v, hn _ h1, h2, h3.mono k⟩

/-! ## frames, the state -/
structure Fm where
  A₀ : Around
  A : Around
  base : Heap
  h₀ : Heap
  outer : List Env
  L : Addr
  a : Addr
  cn : Str
  cs : Scope
  ccd : Value
  cl : List (Str × Addr)
  pin : Fz
@[reducible] def Fm.withPin (f : Fm) (p : Fz) : Fm := { f with pin := p }
@[reducible] def Fm.env (f : Fm) : Env := envX f.cn f.cs f.L f.a f.ccd f.cl

structure Fm.Ok (C : Cx) (n : Nat) (f : Fm) : Prop where
  below : Below f.A₀ f.base f.outer f.h₀
  kin : C.K.In f.h₀
  top : Top C.vp C.loose C.mean C.mg C.mb f.h₀
  hk : ∀ b o, C.H.get? b = some o → f.h₀.get? b = some o
  stack : f.A.frames = some (f.env :: f.outer)
  handled : f.A.handled = none
  guards : f.A.guards = some []
  depth : f.A.depth + 3 * n < recursionLimit
  units : f.A.units + 10 * n + 100 < cLine
  kind : f.cs.kind = .function

abbrev AEnv := List (Str × AVal)
def AEnv.get (m : AEnv) (x : Str) : Option AVal := getA x m
def AEnv.set (m : AEnv) (x : Str) (v : AVal) : AEnv := setA x v m
theorem getA_setA {x y : Str} {v : AVal} : ∀ {m : List (Str × AVal)}, getA y (setA x v m) = if y = x then some v else getA y m
  | [] => by
    unfold setA getA
    by_cases h : y = x
    · simp [h]
    · have : ¬ (x = y) := fun e => h e.symm
      simp [h, this, getA]
  | (z, a) :: r => by
    unfold setA
    by_cases hz : (z == x) = true
    · rw [if_pos hz]
      have hz' : z = x := by simpa using hz
      subst hz'
      unfold getA
      by_cases h : y = z
      · simp [h]
      · have : ¬ (z = y) := fun e => h e.symm
        simp [h, this]
    · rw [if_neg hz]
      unfold getA
      by_cases h : (z == y) = true
      · rw [if_pos h, if_pos h]
        have hz' : z = y := by simpa using h
        subst hz'
        have : ¬ z = x := by simpa using hz
        rw [if_neg this]
      · rw [if_neg h, if_neg h]; exact getA_setA
def ER (P : Addr → Obj → Prop) (m : AEnv) (mc : Str → Option Value) : Prop := ∀ x a, m.get x = some a → ∃ v, mc x = some v ∧ V P v a

def SR (C : Cx) (f : Fm) (fz : Fz) (m : AEnv) (σ : AHeap) (s : Shared) : Prop :=
  ∃ mc news δ, Fr f.h₀ f.L s.heap mc ∧ News f.h₀ f.L s.heap news ∧ HR C fz f.pin σ δ news ∧ ER (At C fz) m mc
def Same (s s' : Shared) : Prop := ∃ h tk, s' = { s with heap := h, toks := tk }
theorem Same.rfl {s : Shared} : Same s s := ⟨s.heap, s.toks, by cases s; exact Eq.refl _⟩
theorem Same.mk {s : Shared} {h : Heap} {tk : Nat} : Same s { s with heap := h, toks := tk } := ⟨h, tk, Eq.refl _⟩
theorem Same.trans {s s₁ s₂ : Shared} (a : Same s s₁) (b : Same s₁ s₂) : Same s s₂ := by
  obtain ⟨h, t, e⟩ := a; obtain ⟨h', t', e'⟩ := b; subst e; subst e'; exact ⟨h', t', Eq.refl _⟩

section
variable {C : Cx} {f : Fm} {fz : Fz} {m : AEnv} {σ : AHeap} {s : Shared}
theorem SR.toks {t : Nat} (x : SR C f fz m σ s) : SR C f fz m σ { s with toks := t } := x
theorem SR.at_ {n : Nat} (ok : f.Ok C n) (x : SR C f fz m σ s) {a : Addr} {o : Obj} (h : At C fz a o) : s.heap.get? a = some o := by
  obtain ⟨mc, news, δ, F, N, R, _⟩ := x
  rcases h with h | h
  · exact (N _ (R.sub _ (List.mem_append_left _ h))).1
  · exact F.keep _ _ (ok.hk _ _ h)
theorem SR.weaken (x : SR C f fz m σ s) {m' : AEnv} {σ' : AHeap} (hm : ∀ y a, m'.get y = some a → m.get y = some a) (hσ : σ'.le σ) : SR C f fz m' σ' s := by
  obtain ⟨mc, news, δ, F, N, R, e⟩ := x
  refine ⟨mc, news, δ, F, N, ⟨R.sub, R.apart, fun a o h => R.ob a o (hσ _ _ h), fun a o h => R.off a o (hσ _ _ h), fun a c as h => R.doff a c as (hσ _ _ h), fun a c as h => ?_, fun a c as b c' bs h1 h2 => R.dinj a c as b c' bs (hσ _ _ h1) (hσ _ _ h2)⟩, fun y a h => e y a (hm _ _ h)⟩
  cases q : σ' (δ a) with
  | none => rfl
  | some o => have := hσ _ _ q; rw [R.dσ a c as (hσ _ _ h)] at this; cases this
theorem news_lt {h₀ h : Heap} {L : Addr} {news : List (Addr × Obj)} (N : News h₀ L h news) {p : Addr × Obj} (hp : p ∈ news) : p.1 < h.objs.size := Heap.lt_size (N p hp).1

/-- a heap that only grew -/
theorem SR.grow (x : SR C f fz m σ s) {h' : Heap} {t : Nat} (k : ∀ b o, s.heap.get? b = some o → h'.get? b = some o) : SR C f fz m σ { s with heap := h', toks := t } := by
  obtain ⟨mc, news, δ, F, N, R, e⟩ := x
  exact ⟨mc, news, δ, F.grownK k, fun p hp => ⟨k _ _ (N p hp).1, (N p hp).2⟩, R, e⟩

/-- new objects, frozen from the start -/
theorem SR.freeze (x : SR C f fz m σ s) {h' : Heap} {t : Nat} (k : ∀ b o, s.heap.get? b = some o → h'.get? b = some o) (new : List (Addr × Obj)) (hn : ∀ p ∈ new, s.heap.get? p.1 = none ∧ s.heap.objs.size ≤ p.1 ∧ h'.get? p.1 = some p.2) :
    SR C f (new ++ fz) m σ { s with heap := h', toks := t } := by
  obtain ⟨mc, news, δ, F, N, R, e⟩ := x
  have key : ∀ a ao, σ a = some ao → a < s.heap.objs.size := fun a ao h => by obtain ⟨o, h⟩ := (R.ob a ao h).key; exact news_lt N h
  have dkey : ∀ a c as, σ a = some (.inst c as) → δ a < s.heap.objs.size := fun a c as h => by obtain ⟨_, es, n, h, _⟩ := R.ob a _ h; exact news_lt N h
  have up : ∀ p ∈ fz, p ∈ new ++ fz := fun p hp => List.mem_append_right _ hp
  have split : ∀ p ∈ (new ++ fz) ++ f.pin, p ∈ new ∨ p ∈ fz ++ f.pin := fun p hp => by
    rw [List.append_assoc] at hp; exact List.mem_append.mp hp
  refine ⟨mc, new ++ news, δ, F.grownK k, fun p hp => ?_, ⟨fun p hp => ?_, fun p hp q hq => ?_, fun a ao h => ?_, fun a ao h p hp => ?_, fun a c as h p hp => ?_, R.dσ, R.dinj⟩, fun y a h => ?_⟩
  · rcases List.mem_append.mp hp with hp | hp
    · obtain ⟨h1, h2, h3⟩ := hn p hp
      refine ⟨h3, fun q => ?_, ?_⟩
      · obtain ⟨oL, _, _, hL, _⟩ := F.ns; rw [q, hL] at h1; cases h1
      · cases q : f.h₀.get? p.1 with
        | none => rfl
        | some o => rw [F.keep _ _ q] at h1; cases h1
    · exact ⟨k _ _ (N p hp).1, (N p hp).2⟩
  · rcases split p hp with hp | hp
    · exact List.mem_append_left _ hp
    · exact List.mem_append_right _ (R.sub _ hp)
  · rcases List.mem_append.mp hp with hp | hp
    · exact fun e => absurd (news_lt N (R.sub _ (List.mem_append_right _ hq))) (Nat.not_lt.mpr (e ▸ (hn p hp).2.1))
    · exact R.apart p hp q hq
  · exact (R.ob a ao h).mono (fun _ _ => At.mono up) (fun _ q => List.mem_append_right _ q) fun _ _ _ _ q => List.mem_append_right _ q
  · rcases split p hp with hp | hp
    · exact fun q => absurd (key a ao h) (Nat.not_lt.mpr (q ▸ (hn p hp).2.1))
    · exact R.off a ao h p hp
  · rcases split p hp with hp | hp
    · exact fun q => absurd (dkey a c as h) (Nat.not_lt.mpr (q ▸ (hn p hp).2.1))
    · exact R.doff a c as h p hp
  · obtain ⟨v, h1, h2⟩ := e y a h; exact ⟨v, h1, h2.up up⟩
end
end Mine

open PySem PySem.W PyProof.Rows PySem.Calls
namespace Mine
def upd (news : List (Addr × Obj)) (D : Addr) (o : Obj) : List (Addr × Obj) := (D, o) :: news.filter (fun p => decide (p.1 ≠ D))
theorem mem_upd {news : List (Addr × Obj)} {D : Addr} {o : Obj} {p : Addr × Obj} (h : p ∈ news) (hn : p.1 ≠ D) : p ∈ upd news D o :=
  List.mem_cons_of_mem _ (List.mem_filter.mpr ⟨h, by simpa using hn⟩)
theorem news_upd' {h₀ h h' : Heap} {L D : Addr} {news : List (Addr × Obj)} {o o' : Obj} (N : News h₀ L h news) (hD : (D, o) ∈ news) (hs : Heap.SameBut D h h') (ho : h'.get? D = some o') : News h₀ L h' (upd news D o') := by
  intro p hp
  rcases List.mem_cons.mp hp with rfl | hp
  · exact ⟨ho, (N _ hD).2⟩
  · obtain ⟨h1, h2⟩ := List.mem_filter.mp hp
    have h2 : p.1 ≠ D := by simpa using h2
    exact ⟨(hs.2 _ h2).trans (N p h1).1, (N p h1).2⟩

section
variable {C : Cx} {f : Fm} {fz : Fz} {m : AEnv} {σ : AHeap} {s : Shared}

theorem SR.list (x : SR C f fz m σ s) {a : Addr} {xs : List AVal} (h : σ a = some (.list xs)) : ∃ vs n, s.heap.get? a = some (listOf vs.toArray n) ∧ Vs (At C fz) vs xs := by
  obtain ⟨mc, news, δ, F, N, R, e⟩ := x
  obtain ⟨vs, n, h1, h2⟩ := R.ob a _ h
  exact ⟨vs, n, (N _ h1).1, h2⟩
theorem SR.inst (x : SR C f fz m σ s) {a c : Addr} {as : List (Str × AVal)} (h : σ a = some (.inst c as)) : ∃ d es n, s.heap.get? a = some (instObj c d) ∧ s.heap.get? d = some (dictOf es n) ∧ Es (At C fz) es as := by
  obtain ⟨mc, news, δ, F, N, R, e⟩ := x
  obtain ⟨h1, es, n, h2, h3⟩ := R.ob a _ h
  exact ⟨_, es, n, (N _ h1).1, (N _ h2).1, h3⟩
theorem SR.cell (x : SR C f fz m σ s) {a : Addr} {v : AVal} (h : σ a = some (.cell (some v))) : ∃ o u, s.heap.get? a = some o ∧ o.data = .cell (some u) ∧ V (At C fz) u v := by
  obtain ⟨mc, news, δ, F, N, R, e⟩ := x
  obtain ⟨o, u, h1, h2, h3⟩ := R.ob a _ h
  exact ⟨o, u, (N _ h1).1, h2, h3⟩
theorem SR.lt (x : SR C f fz m σ s) {a : Addr} {o : AObj} (h : σ a = some o) : a < s.heap.objs.size := by
  obtain ⟨mc, news, δ, F, N, R, e⟩ := x
  obtain ⟨o, h⟩ := (R.ob a _ h).key; exact news_lt N h
theorem SR.fresh (x : SR C f fz m σ s) {a : Addr} (h : s.heap.objs.size ≤ a) : σ a = none := by
  cases q : σ a with
  | none => rfl
  | some o => exact absurd (x.lt q) (Nat.not_lt.mpr h)

/-- a list's, a cell's object is changed -/
theorem SR.change (x : SR C f fz m σ s) {a : Addr} {ao ao' : AObj} {h' : Heap} {t : Nat} {o' : Obj} (h : σ a = some ao) (hn : ∀ c as, ao ≠ .inst c as) (hn' : ∀ c as, ao' ≠ .inst c as) (hs : Heap.SameBut a s.heap h') (ho : h'.get? a = some o')
    (hr : ∀ news d, (a, o') ∈ news → OR (At C fz) news d a ao') : SR C f fz m (σ.set a ao') { s with heap := h', toks := t } := by
  obtain ⟨mc, news, δ, F, N, R, e⟩ := x
  obtain ⟨o, hm⟩ := (R.ob a _ h).key
  have dn : ∀ b c as, σ b = some (.inst c as) → δ b ≠ a := fun b c as hb q => by have := R.dσ b c as hb; rw [q, h] at this; cases this
  have keep : ∀ {b c as}, σ.set a ao' b = some (.inst c as) → b ≠ a ∧ σ b = some (.inst c as) := fun {b c as} hb => by
    by_cases q : b = a
    · subst q; rw [AHeap.set_same] at hb; exact absurd (Option.some.inj hb) (hn' c as)
    · rw [AHeap.set_ne _ _ q] at hb; exact ⟨q, hb⟩
  refine ⟨mc, upd news a o', δ, F.change hs (N _ hm).2.1 (N _ hm).2.2, news_upd' N hm hs ho, ⟨fun p hp => mem_upd (R.sub p hp) (R.off a _ h p hp), R.apart, fun b bo hb => ?_, fun b bo hb p hp => ?_, fun b c as hb p hp => R.doff b c as (keep hb).2 p hp, fun b c as hb => ?_, fun b c as b' c' bs h1 h2 => R.dinj b c as b' c' bs (keep h1).2 (keep h2).2⟩, e⟩
  · by_cases q : b = a
    · subst q; rw [AHeap.set_same] at hb; cases hb; exact hr _ _ (List.mem_cons_self ..)
    · rw [AHeap.set_ne _ _ q] at hb
      exact (R.ob b bo hb).mono (fun _ _ x => x) (fun _ hm => mem_upd hm q) fun c as eb _ hm => mem_upd hm (dn b c as (eb ▸ hb))
  · by_cases q : b = a
    · subst q; exact R.off b _ h p hp
    · rw [AHeap.set_ne _ _ q] at hb; exact R.off b bo hb p hp
  · rw [AHeap.set_ne _ _ (dn b c as (keep hb).2)]; exact R.dσ b c as (keep hb).2
theorem SR.setList (x : SR C f fz m σ s) {a : Addr} {xs xs' : List AVal} {h' : Heap} {t n : Nat} {vs' : List Value} (h : σ a = some (.list xs)) (hs : Heap.SameBut a s.heap h') (ho : h'.get? a = some (listOf vs'.toArray n)) (hv : Vs (At C fz) vs' xs') :
    SR C f fz m (σ.set a (.list xs')) { s with heap := h', toks := t } := x.change h (fun _ _ => nofun) (fun _ _ => nofun) hs ho fun _ _ hm => ⟨_, _, hm, hv⟩
theorem SR.setCell (x : SR C f fz m σ s) {a : Addr} {v₀ : Option AVal} {v : AVal} {u : Value} {h' : Heap} {t : Nat} {o' : Obj} (h : σ a = some (.cell v₀)) (hs : Heap.SameBut a s.heap h') (ho : h'.get? a = some o') (hd : o'.data = .cell (some u)) (hv : V (At C fz) u v) :
    SR C f fz m (σ.set a (.cell (some v))) { s with heap := h', toks := t } := x.change h (fun _ _ => nofun) (fun _ _ => nofun) hs ho fun _ _ hm => ⟨_, _, hm, hd, hv⟩

/-- an attribute dict is changed -/
theorem SR.setInst (x : SR C f fz m σ s) {a c : Addr} {as as' : List (Str × AVal)} (h : σ a = some (.inst c as)) :
    ∃ d es n, s.heap.get? a = some (instObj c d) ∧ s.heap.get? d = some (dictOf es n) ∧ Es (At C fz) es as ∧ (∃ mc news, Fr f.h₀ f.L s.heap mc ∧ News f.h₀ f.L s.heap news ∧ (d, dictOf es n) ∈ news) ∧
      ∀ h' t es' n', Heap.SameBut d s.heap h' → h'.get? d = some (dictOf es' n') → Es (At C fz) es' as' → SR C f fz m (σ.set a (.inst c as')) { s with heap := h', toks := t } := by
  obtain ⟨mc, news, δ, F, N, R, e⟩ := x
  obtain ⟨h1, es, n, h2, h3⟩ := R.ob a _ h
  refine ⟨δ a, es, n, (N _ h1).1, (N _ h2).1, h3, ⟨mc, news, F, N, h2⟩, fun h' t es' n' hs ho hE => ?_⟩
  have an : ∀ b bo, σ b = some bo → b ≠ δ a := fun b bo hb q => by have := R.dσ a c as h; rw [← q, hb] at this; cases this
  have keep : ∀ {b c₁ bs}, σ.set a (.inst c as') b = some (.inst c₁ bs) → ∃ bs', σ b = some (.inst c₁ bs') := fun {b c₁ bs} hb => by
    by_cases q : b = a
    · subst q; rw [AHeap.set_same] at hb; cases hb; exact ⟨_, h⟩
    · rw [AHeap.set_ne _ _ q] at hb; exact ⟨_, hb⟩
  refine ⟨mc, upd news (δ a) (dictOf es' n'), δ, F.change hs (N _ h2).2.1 (N _ h2).2.2, news_upd' N h2 hs ho, ⟨fun p hp => mem_upd (R.sub p hp) (R.doff a _ _ h p hp), R.apart, fun b bo hb => ?_, fun b bo hb p hp => ?_, fun b c₁ bs hb p hp => ?_, fun b c₁ bs hb => ?_, fun b c₁ bs b' c' bs' h1 h2 => ?_⟩, e⟩
  · by_cases q : b = a
    · subst q; rw [AHeap.set_same] at hb; cases hb
      exact ⟨mem_upd h1 (an b _ h), es', n', List.mem_cons_self .., hE⟩
    · rw [AHeap.set_ne _ _ q] at hb
      exact (R.ob b bo hb).mono (fun _ _ x => x) (fun _ hm => mem_upd hm (an b bo hb)) fun c₁ bs eb _ hm => mem_upd hm fun e => q (R.dinj b c₁ bs a c as (eb ▸ hb) h e)
  · by_cases q : b = a
    · subst q; exact R.off b _ h p hp
    · rw [AHeap.set_ne _ _ q] at hb; exact R.off b bo hb p hp
  · obtain ⟨bs', hb'⟩ := keep hb; exact R.doff b c₁ bs' hb' p hp
  · obtain ⟨bs', hb'⟩ := keep hb
    have := R.dσ b c₁ bs' hb'
    rw [AHeap.set_ne _ _ (fun q => by rw [q, h] at this; cases this)]; exact this
  · obtain ⟨_, h1⟩ := keep h1; obtain ⟨_, h2⟩ := keep h2; exact R.dinj b _ _ b' _ _ h1 h2

/-- new mutable things -/
theorem SR.newThing (x : SR C f fz m σ s) {a : Addr} {ao : AObj} {h' : Heap} {t : Nat} {o : Obj} (hn : ∀ c as, ao ≠ .inst c as) (k : ∀ b o, s.heap.get? b = some o → h'.get? b = some o) (ha : s.heap.objs.size ≤ a) (ho : h'.get? a = some o)
    (hr : ∀ news d, (a, o) ∈ news → OR (At C fz) news d a ao) : SR C f fz m (σ.set a ao) { s with heap := h', toks := t } := by
  have hσ := x.fresh ha
  obtain ⟨mc, news, δ, F, N, R, e⟩ := x
  have hnone : s.heap.get? a = none := by
    cases q : s.heap.get? a with
    | none => rfl
    | some o => exact absurd (Heap.lt_size q) (Nat.not_lt.mpr ha)
  have nn : ∀ p ∈ news, p.1 ≠ a := fun p hp q => absurd (news_lt N hp) (Nat.not_lt.mpr (q ▸ ha))
  have keep : ∀ {b c as}, σ.set a ao b = some (.inst c as) → b ≠ a ∧ σ b = some (.inst c as) := fun {b c as} hb => by
    by_cases q : b = a
    · subst q; rw [AHeap.set_same] at hb; exact absurd (Option.some.inj hb) (hn c as)
    · rw [AHeap.set_ne _ _ q] at hb; exact ⟨q, hb⟩
  have dn : ∀ b c as, σ b = some (.inst c as) → δ b ≠ a := fun b c as hb => by obtain ⟨_, es, n, h, _⟩ := R.ob b _ hb; exact nn _ h
  refine ⟨mc, (a, o) :: news, δ, F.grownK k, fun p hp => ?_, ⟨fun p hp => .tail _ (R.sub p hp), R.apart, fun b bo hb => ?_, fun b bo hb p hp => ?_, fun b c as hb p hp => R.doff b c as (keep hb).2 p hp, fun b c as hb => ?_, fun b c as b' c' bs h1 h2 => R.dinj b c as b' c' bs (keep h1).2 (keep h2).2⟩, e⟩
  · rcases List.mem_cons.mp hp with rfl | hp
    · refine ⟨ho, fun q => ?_, ?_⟩
      · obtain ⟨oL, _, _, hL, _⟩ := F.ns; dsimp only at q; rw [q, hL] at hnone; cases hnone
      · cases q : f.h₀.get? a with
        | none => rfl
        | some o => rw [F.keep _ _ q] at hnone; cases hnone
    · exact ⟨k _ _ (N p hp).1, (N p hp).2⟩
  · by_cases q : b = a
    · subst q; rw [AHeap.set_same] at hb; cases hb; exact hr _ _ (List.mem_cons_self ..)
    · rw [AHeap.set_ne _ _ q] at hb
      exact (R.ob b bo hb).mono (fun _ _ x => x) (fun _ hm => .tail _ hm) fun c as eb _ hm => .tail _ hm
  · by_cases q : b = a
    · subst q; exact nn _ (R.sub p hp)
    · rw [AHeap.set_ne _ _ q] at hb; exact R.off b bo hb p hp
  · rw [AHeap.set_ne _ _ (dn b c as (keep hb).2)]; exact R.dσ b c as (keep hb).2
theorem SR.newList (x : SR C f fz m σ s) {a : Addr} {xs : List AVal} {h' : Heap} {t n : Nat} {vs : List Value} (k : ∀ b o, s.heap.get? b = some o → h'.get? b = some o) (ha : s.heap.objs.size ≤ a) (ho : h'.get? a = some (listOf vs.toArray n)) (hv : Vs (At C fz) vs xs) :
    SR C f fz m (σ.set a (.list xs)) { s with heap := h', toks := t } := x.newThing (fun _ _ => nofun) k ha ho fun _ _ hm => ⟨_, _, hm, hv⟩
theorem SR.newInst (x : SR C f fz m σ s) {a d c : Addr} {h' : Heap} {t : Nat} (k : ∀ b o, s.heap.get? b = some o → h'.get? b = some o) (ha : s.heap.objs.size ≤ a) (hd : s.heap.objs.size ≤ d) (hne : a ≠ d) (ho : h'.get? a = some (instObj c d)) (ho' : h'.get? d = some (dictOf [] 0)) :
    SR C f fz m (σ.set a (.inst c [])) { s with heap := h', toks := t } := by
  have hσ := x.fresh ha
  have hσd := x.fresh hd
  obtain ⟨mc, news, δ, F, N, R, e⟩ := x
  have none_of : ∀ a, s.heap.objs.size ≤ a → s.heap.get? a = none := fun a ha => by
    cases q : s.heap.get? a with
    | none => rfl
    | some o => exact absurd (Heap.lt_size q) (Nat.not_lt.mpr ha)
  have nn : ∀ a, s.heap.objs.size ≤ a → ∀ p ∈ news, p.1 ≠ a := fun a ha p hp q => absurd (news_lt N hp) (Nat.not_lt.mpr (q ▸ ha))
  have new : ∀ a o, s.heap.objs.size ≤ a → h'.get? a = some o → h'.get? a = some o ∧ a ≠ f.L ∧ f.h₀.get? a = none := fun a o ha ho => by
    refine ⟨ho, fun q => ?_, ?_⟩
    · obtain ⟨oL, _, _, hL, _⟩ := F.ns; have := none_of _ ha; rw [q, hL] at this; cases this
    · cases q : f.h₀.get? a with
      | none => rfl
      | some o => have := none_of _ ha; rw [F.keep _ _ q] at this; cases this
  have dn : ∀ b c as, σ b = some (.inst c as) → ∀ a, s.heap.objs.size ≤ a → δ b ≠ a := fun b c as hb a ha => by obtain ⟨_, es, n, h, _⟩ := R.ob b _ hb; exact nn a ha _ h
  have bn : ∀ b bo, σ b = some bo → ∀ a, s.heap.objs.size ≤ a → b ≠ a := fun b bo hb a ha => by obtain ⟨o, h⟩ := (R.ob b bo hb).key; exact nn a ha _ h
  refine ⟨mc, (a, instObj c d) :: (d, dictOf [] 0) :: news, fun b => if b = a then d else δ b, F.grownK k, fun p hp => ?_, ⟨fun p hp => .tail _ (.tail _ (R.sub p hp)), R.apart, fun b bo hb => ?_, fun b bo hb p hp => ?_, fun b c₁ as hb p hp => ?_, fun b c₁ as hb => ?_, fun b c₁ as b' c' bs h1 h2 => ?_⟩, e⟩
  · rcases List.mem_cons.mp hp with rfl | hp
    · exact new _ _ ha ho
    · rcases List.mem_cons.mp hp with rfl | hp
      · exact new _ _ hd ho'
      · exact ⟨k _ _ (N p hp).1, (N p hp).2⟩
  · by_cases q : b = a
    · subst q; rw [AHeap.set_same] at hb; cases hb
      rw [if_pos rfl]
      exact ⟨List.mem_cons_self .., [], 0, .tail _ (List.mem_cons_self ..), .nil⟩
    · rw [AHeap.set_ne _ _ q] at hb
      rw [if_neg q]
      exact (R.ob b bo hb).mono (fun _ _ x => x) (fun _ hm => .tail _ (.tail _ hm)) fun c as eb _ hm => .tail _ (.tail _ hm)
  · by_cases q : b = a
    · subst q; exact nn _ ha _ (R.sub p hp)
    · rw [AHeap.set_ne _ _ q] at hb; exact R.off b bo hb p hp
  · by_cases q : b = a
    · rw [if_pos q]; exact nn _ hd _ (R.sub p hp)
    · rw [AHeap.set_ne _ _ q] at hb; rw [if_neg q]; exact R.doff b c₁ as hb p hp
  · by_cases q : b = a
    · rw [if_pos q, AHeap.set_ne _ _ (Ne.symm hne)]; exact hσd
    · rw [AHeap.set_ne _ _ q] at hb; rw [if_neg q, AHeap.set_ne _ _ (dn b c₁ as hb a ha)]; exact R.dσ b c₁ as hb
  · by_cases q : b = a <;> by_cases q' : b' = a
    · intro _; rw [q, q']
    · rw [AHeap.set_ne _ _ q'] at h2; rw [if_pos q, if_neg q']; exact fun e => absurd e.symm (dn b' c' bs h2 d hd)
    · rw [AHeap.set_ne _ _ q] at h1; rw [if_neg q, if_pos q']; exact fun e => absurd e (dn b c₁ as h1 d hd)
    · rw [AHeap.set_ne _ _ q] at h1; rw [AHeap.set_ne _ _ q'] at h2; rw [if_neg q, if_neg q']; exact R.dinj b c₁ as b' c' bs h1 h2
/-- a name of the frame is stored -/
theorem SR.store (x : SR C f fz m σ s) {y : Str} {v : Value} {a : AVal} (hv : V (At C fz) v a) :
    ∃ mc news, Fr f.h₀ f.L s.heap mc ∧ News f.h₀ f.L s.heap news ∧ ∀ h' t, Fr f.h₀ f.L h' (fun z => if z = y then some v else mc z) → News f.h₀ f.L h' news → SR C f fz (m.set y a) σ { s with heap := h', toks := t } := by
  obtain ⟨mc, news, δ, F, N, R, e⟩ := x
  refine ⟨mc, news, F, N, fun h' t F' N' => ⟨_, news, δ, F', N', R, fun z b hz => ?_⟩⟩
  unfold AEnv.get AEnv.set at hz
  rw [getA_setA] at hz
  by_cases q : z = y
  · rw [if_pos q] at hz; cases hz; exact ⟨v, if_pos q, hv⟩
  · rw [if_neg q] at hz; obtain ⟨u, h1, h2⟩ := e z b hz; exact ⟨u, (if_neg q).trans h1, h2⟩
end
end Mine

open PySem PySem.W PyProof.Rows PySem.Calls
namespace Mine
abbrev Md (C : Cx) : Model := model C.prog C.w

def PV (C : Cx) (f : Fm) (m : AEnv) (fz : Fz) (s : Shared) (Q : AVal → AHeap → Prop) (v : Value) (s' : Shared) : Prop :=
  ∃ fz' σ' a, (∀ p ∈ fz, p ∈ fz') ∧ Same s s' ∧ SR C f fz' m σ' s' ∧ V (At C fz') v a ∧ Q a σ'
def PL (C : Cx) (f : Fm) (m : AEnv) (fz : Fz) (s : Shared) (Q : List AVal → AHeap → Prop) (v : List Value) (s' : Shared) : Prop :=
  ∃ fz' σ' a, (∀ p ∈ fz, p ∈ fz') ∧ Same s s' ∧ SR C f fz' m σ' s' ∧ Vs (At C fz') v a ∧ Q a σ'
def PB (C : Cx) (f : Fm) (m : AEnv) (fz : Fz) (s : Shared) (Q : Bool → AHeap → Prop) (b : Bool) (s' : Shared) : Prop :=
  ∃ fz' σ', (∀ p ∈ fz, p ∈ fz') ∧ Same s s' ∧ SR C f fz' m σ' s' ∧ Q b σ'
inductive AFlow where
  | next | brk | cont
  | ret (a : AVal)
def FV (P : Addr → Obj → Prop) : Flow → AFlow → Prop
  | .next, .next => True
  | .brk, .brk => True
  | .cont, .cont => True
  | .ret v, .ret a => V P v a
  | _, _ => False
def PS (C : Cx) (f : Fm) (fz : Fz) (s : Shared) (Q : AFlow → AEnv → AHeap → Prop) (fl : Flow) (s' : Shared) : Prop :=
  ∃ fz' σ' m' a, (∀ p ∈ fz, p ∈ fz') ∧ Same s s' ∧ SR C f fz' m' σ' s' ∧ FV (At C fz') fl a ∧ Q a m' σ'

def WE (C : Cx) (n : Nat) (f : Fm) (e : Expr) (m : AEnv) (σ : AHeap) (Q : AVal → AHeap → Prop) : Prop :=
  f.Ok C n → ∀ fz s E, SR C f fz m σ s → wpAny (Md C) f.A (eval e f.env) (PV C f m fz s Q) E s
def WL (C : Cx) (n : Nat) (f : Fm) (es : List Expr) (pos : Pos) (m : AEnv) (σ : AHeap) (Q : List AVal → AHeap → Prop) : Prop :=
  f.Ok C n → ∀ fz s E, SR C f fz m σ s → wpAny (Md C) f.A (spliced (backTo pos (starEach es f.env))) (PL C f m fz s Q) E s
def WT (C : Cx) (n : Nat) (f : Fm) (e : Expr) (m : AEnv) (σ : AHeap) (Q : Bool → AHeap → Prop) : Prop :=
  f.Ok C n → ∀ fz s E, SR C f fz m σ s → wpAny (Md C) f.A (isTrue e f.env (eval e f.env)) (PB C f m fz s Q) E s
/-- trees over one, two, many values -/
def T1 (C : Cx) (n : Nat) (f : Fm) (t : Value → Sem Value) (a : AVal) (m : AEnv) (σ : AHeap) (Q : AVal → AHeap → Prop) : Prop :=
  f.Ok C n → ∀ fz s E v, SR C f fz m σ s → V (At C fz) v a → wpAny (Md C) f.A (t v) (PV C f m fz s Q) E s
def T2 (C : Cx) (n : Nat) (f : Fm) (t : Value → Value → Sem Value) (a b : AVal) (m : AEnv) (σ : AHeap) (Q : AVal → AHeap → Prop) : Prop :=
  f.Ok C n → ∀ fz s E v w, SR C f fz m σ s → V (At C fz) v a → V (At C fz) w b → wpAny (Md C) f.A (t v w) (PV C f m fz s Q) E s
def TL (C : Cx) (n : Nat) (f : Fm) (t : List Value → Sem Value) (as : List AVal) (m : AEnv) (σ : AHeap) (Q : AVal → AHeap → Prop) : Prop :=
  f.Ok C n → ∀ fz s E vs, SR C f fz m σ s → Vs (At C fz) vs as → wpAny (Md C) f.A (t vs) (PV C f m fz s Q) E s
def TB (C : Cx) (n : Nat) (f : Fm) (t : Value → Sem Bool) (a : AVal) (m : AEnv) (σ : AHeap) (Q : Bool → AHeap → Prop) : Prop :=
  f.Ok C n → ∀ fz s E v, SR C f fz m σ s → V (At C fz) v a → wpAny (Md C) f.A (t v) (PB C f m fz s Q) E s
def W1 (C : Cx) (n : Nat) (f : Fm) (st : Stmt) (m : AEnv) (σ : AHeap) (Q : AFlow → AEnv → AHeap → Prop) : Prop :=
  f.Ok C n → ∀ fz s E, SR C f fz m σ s → wpAny (Md C) f.A (exec st f.env) (PS C f fz s Q) E s
def WS (C : Cx) (n : Nat) (f : Fm) (ss : List Stmt) (m : AEnv) (σ : AHeap) (Q : AFlow → AEnv → AHeap → Prop) : Prop :=
  f.Ok C n → ∀ fz s E, SR C f fz m σ s → wpAny (Md C) f.A (execs ss f.env) (PS C f fz s Q) E s

section
variable {C : Cx} {n : Nat} {f : Fm} {m : AEnv} {σ : AHeap} {s s₁ s' : Shared} {fz fz₁ : Fz}
theorem sub_refl {fz : Fz} : ∀ p ∈ fz, p ∈ fz := fun _ h => h
theorem PV.up {Q : AVal → AHeap → Prop} {v : Value} (h : ∀ p ∈ fz, p ∈ fz₁) (hs : Same s s₁) (x : PV C f m fz₁ s₁ Q v s') : PV C f m fz s Q v s' := by
  obtain ⟨fz', σ', a, h1, h2, h3, h4, h5⟩ := x
  exact ⟨fz', σ', a, fun p hp => h1 p (h p hp), hs.trans h2, h3, h4, h5⟩
theorem PL.up {Q : List AVal → AHeap → Prop} {v : List Value} (h : ∀ p ∈ fz, p ∈ fz₁) (hs : Same s s₁) (x : PL C f m fz₁ s₁ Q v s') : PL C f m fz s Q v s' := by
  obtain ⟨fz', σ', a, h1, h2, h3, h4, h5⟩ := x
  exact ⟨fz', σ', a, fun p hp => h1 p (h p hp), hs.trans h2, h3, h4, h5⟩
theorem PB.up {Q : Bool → AHeap → Prop} {v : Bool} (h : ∀ p ∈ fz, p ∈ fz₁) (hs : Same s s₁) (x : PB C f m fz₁ s₁ Q v s') : PB C f m fz s Q v s' := by
  obtain ⟨fz', σ', h1, h2, h3, h5⟩ := x
  exact ⟨fz', σ', fun p hp => h1 p (h p hp), hs.trans h2, h3, h5⟩
theorem PS.up {Q : AFlow → AEnv → AHeap → Prop} {v : Flow} (h : ∀ p ∈ fz, p ∈ fz₁) (hs : Same s s₁) (x : PS C f fz₁ s₁ Q v s') : PS C f fz s Q v s' := by
  obtain ⟨fz', σ', m', a, h1, h2, h3, h4, h5⟩ := x
  exact ⟨fz', σ', m', a, fun p hp => h1 p (h p hp), hs.trans h2, h3, h4, h5⟩
theorem PV.here {Q : AVal → AHeap → Prop} {v : Value} {a : AVal} (x : SR C f fz m σ s) (hv : V (At C fz) v a) (q : Q a σ) : PV C f m fz s Q v s := ⟨fz, σ, a, sub_refl, .rfl, x, hv, q⟩
theorem PV.tok {Q : AVal → AHeap → Prop} {v : Value} {a : AVal} {t : Nat} (x : SR C f fz m σ s) (hv : V (At C fz) v a) (q : Q a σ) : PV C f m fz s Q v { s with toks := t } := ⟨fz, σ, a, sub_refl, .mk, x, hv, q⟩

/-! ## consequence -/
theorem WE.mono {e : Expr} {Q Q' : AVal → AHeap → Prop} (h : WE C n f e m σ Q) (k : ∀ a σ, Q a σ → Q' a σ) : WE C n f e m σ Q' :=
  fun ok fz s E x => wpAny_mono (h ok fz s E x) (fun v s' ⟨fz', σ', a, h1, h2, h3, h4, h5⟩ => ⟨fz', σ', a, h1, h2, h3, h4, k _ _ h5⟩) fun _ _ x => x
theorem WS.mono {ss : List Stmt} {Q Q' : AFlow → AEnv → AHeap → Prop} (h : WS C n f ss m σ Q) (k : ∀ a m σ, Q a m σ → Q' a m σ) : WS C n f ss m σ Q' :=
  fun ok fz s E x => wpAny_mono (h ok fz s E x) (fun v s' ⟨fz', σ', m', a, h1, h2, h3, h4, h5⟩ => ⟨fz', σ', m', a, h1, h2, h3, h4, k _ _ _ h5⟩) fun _ _ x => x
theorem WS.weaken {ss : List Stmt} {m' : AEnv} {σ' : AHeap} {Q : AFlow → AEnv → AHeap → Prop} (hm : ∀ y a, m'.get y = some a → m.get y = some a) (hσ : σ'.le σ) (h : WS C n f ss m' σ' Q) : WS C n f ss m σ Q :=
  fun ok fz s E x => h ok fz s E (x.weaken hm hσ)

/-! ## expressions -/
theorem we_int {i : Int} {k : Nat} {pos : Pos} {Q : AVal → AHeap → Prop} (h : Q (.int i) σ) : WE C n f (.Constant (.int i) k pos) m σ Q :=
  fun ok fz s E x => wpAny_Constant_int (.tok x (.int _ _) h)
theorem we_str {i : Str} {k : Nat} {pos : Pos} {Q : AVal → AHeap → Prop} (h : Q (.str i) σ) : WE C n f (.Constant (.str i) k pos) m σ Q :=
  fun ok fz s E x => wpAny_Constant_str (.tok x (.str _ _) h)
theorem we_none {k : Nat} {pos : Pos} {Q : AVal → AHeap → Prop} (h : Q .none σ) : WE C n f (.Constant .none k pos) m σ Q :=
  fun ok fz s E x => wpAny_Constant_none (.here x .none h)
theorem we_bool {b : Bool} {k : Nat} {pos : Pos} {Q : AVal → AHeap → Prop} (h : Q (.bool b) σ) : WE C n f (.Constant (.bool b) k pos) m σ Q :=
  fun ok fz s E x => wpAny_Constant_bool (.here x (.bool b) h)
theorem we_local {y : Str} {pos : Pos} {a : AVal} {Q : AVal → AHeap → Prop} (hl : f.env.kindOf y = some .local) (hv : m.get y = some a) (h : Q a σ) (hd : (y == ("__debug__" : Str)) = false := by decide) : WE C n f (.Name y pos) m σ Q := fun ok fz s E x => by
  have x' := x
  obtain ⟨mc, news, δ, F, N, R, e⟩ := x
  obtain ⟨v, h1, h2⟩ := e y a hv
  exact nameX_L F h1 (.here x' h2 h) ok.kind hl hd
theorem we_cell {y : Str} {pos : Pos} {c : Addr} {a : AVal} {Q : AVal → AHeap → Prop} (hl : f.env.kindOf y = some .cell) (hc : f.cl.lookup y = some c) (hv : σ c = some (.cell (some a))) (h : Q a σ) (hd : (y == ("__debug__" : Str)) = false := by decide) : WE C n f (.Name y pos) m σ Q := fun ok fz s E x => by
  have x' := x
  obtain ⟨mc, news, δ, F, N, R, e⟩ := x
  obtain ⟨o, v, h1, h2, h3⟩ := R.ob c _ hv
  exact nameX_C N hc h1 h2 (.here x' h3 h) ok.kind hl hd
theorem we_global {y : Str} {pos : Pos} {v : Value} {Q : AVal → AHeap → Prop} (hl : f.env.kindOf y = some .globalImplicit) (hv : nsIn C.K mainGlobals y = some (some v)) (h : Q (.raw v) σ) (hd : (y == ("__debug__" : Str)) = false := by decide) : WE C n f (.Name y pos) m σ Q := fun ok fz s E x => by
  have x' := x
  obtain ⟨mc, news, δ, F, N, R, e⟩ := x
  exact nameX_K F ok.kin (topRead_of ok.top) hv (.here x' (.raw v) h) ok.kind hl hd
theorem we_builtin {y : Str} {pos : Pos} {v : Value} {Q : AVal → AHeap → Prop} (hl : f.env.kindOf y = some .globalImplicit) (hv : nsIn C.K mainGlobals y = some none) (hb : bootBuiltins y = some v) (h : Q (.raw v) σ) (hn : y ≠ "__name__" := by decide) (hd : (y == ("__debug__" : Str)) = false := by decide) :
    WE C n f (.Name y pos) m σ Q := fun ok fz s E x => by
  have x' := x
  obtain ⟨mc, news, δ, F, N, R, e⟩ := x
  exact nameX_B F ok.kin (topRead_of ok.top) hv hb hn (.here x' (.raw v) h) ok.kind hl hd
theorem we_binop {l r : Expr} {op : Operator} {pos : Pos} {Q : AVal → AHeap → Prop} (h : WE C n f l m σ fun a σ₁ => WE C n f r m σ₁ fun b σ₂ => T2 C n f (binaryOp op) a b m σ₂ Q) : WE C n f (.BinOp l op r pos) m σ Q := fun ok fz s E x => by
  refine wpAny_BinOp (wpAny_mono (h ok fz s E x) (fun v s₁ ⟨fz₁, σ₁, a, u1, e1, x1, va, q1⟩ => wpAny_mono (q1 ok fz₁ s₁ E x1) (fun w s₂ ⟨fz₂, σ₂, b, u2, e2, x2, vb, q2⟩ => ?_) fun _ _ x => x) fun _ _ x => x)
  exact wpAny_mono (q2 ok fz₂ s₂ E v w x2 (va.up u2) vb) (fun r s₃ p => .up (fun p hp => u2 p (u1 p hp)) (e1.trans e2) p) fun _ _ x => x
theorem we_compare {l r : Expr} {op : CmpOp} {pos : Pos} {Q : AVal → AHeap → Prop} (h : WE C n f l m σ fun a σ₁ => WE C n f r m σ₁ fun b σ₂ => T2 C n f (compareOp op) a b m σ₂ Q) (hm : behindInMarks op r = false := by rfl) :
    WE C n f (.Compare l [op] [r] pos) m σ Q := fun ok fz s E x => by
  refine wpAny_Compare1 (wpAny_mono (h ok fz s E x) (fun v s₁ ⟨fz₁, σ₁, a, u1, e1, x1, va, q1⟩ => wpAny_mono (q1 ok fz₁ s₁ E x1) (fun w s₂ ⟨fz₂, σ₂, b, u2, e2, x2, vb, q2⟩ => ?_) fun _ _ x => x) fun _ _ x => x) hm
  exact wpAny_mono (q2 ok fz₂ s₂ E v w x2 (va.up u2) vb) (fun r s₃ p => .up (fun p hp => u2 p (u1 p hp)) (e1.trans e2) p) fun _ _ x => x
theorem we_unary {l : Expr} {op : UnaryOp} {pos : Pos} {Q : AVal → AHeap → Prop} (h : WE C n f l m σ fun a σ₁ => T1 C n f (unaryOp op) a m σ₁ Q) : WE C n f (.UnaryOp op l pos) m σ Q := fun ok fz s E x => by
  refine wpAny_UnaryOp (wpAny_mono (h ok fz s E x) (fun v s₁ ⟨fz₁, σ₁, a, u1, e1, x1, va, q1⟩ => ?_) fun _ _ x => x)
  exact wpAny_mono (q1 ok fz₁ s₁ E v x1 va) (fun r s₃ p => .up u1 e1 p) fun _ _ x => x
theorem we_ifexp {t b o : Expr} {pos : Pos} {Q : AVal → AHeap → Prop} (h : WT C n f t m σ fun c σ₁ => (c = true → WE C n f b m σ₁ Q) ∧ (c = false → WE C n f o m σ₁ Q)) : WE C n f (.IfExp t b o pos) m σ Q := fun ok fz s E x => by
  refine wpAny_IfExp (wpAny_mono (h ok fz s E x) (fun c s₁ ⟨fz₁, σ₁, u1, e1, x1, q1⟩ => ?_) fun _ _ x => x)
  cases c with
  | true => exact wpAny_mono (q1.1 rfl ok fz₁ s₁ E x1) (fun r s₃ p => .up u1 e1 p) fun _ _ x => x
  | false => exact wpAny_mono (q1.2 rfl ok fz₁ s₁ E x1) (fun r s₃ p => .up u1 e1 p) fun _ _ x => x
theorem we_and {a b : Expr} {pos : Pos} {Q : AVal → AHeap → Prop} (h : WE C n f a m σ fun v σ₁ => TB C n f truthy v m σ₁ fun c σ₂ => (c = true → WE C n f b m σ₂ Q) ∧ (c = false → Q v σ₂)) : WE C n f (.BoolOp .And [a, b] pos) m σ Q := fun ok fz s E x => by
  refine wpAny_And2 (wpAny_mono (h ok fz s E x) (fun v s₁ ⟨fz₁, σ₁, av, u1, e1, x1, va, q1⟩ => wpAny_mono (q1 ok fz₁ s₁ E v x1 va) (fun c s₂ ⟨fz₂, σ₂, u2, e2, x2, q2⟩ => ?_) fun _ _ x => x) fun _ _ x => x)
  cases c with
  | true => exact wpAny_mono (q2.1 rfl ok fz₂ s₂ E x2) (fun r s₃ p => .up (fun p hp => u2 p (u1 p hp)) (e1.trans e2) p) fun _ _ x => x
  | false => exact ⟨fz₂, σ₂, av, fun p hp => u2 p (u1 p hp), e1.trans e2, x2, va.up u2, q2.2 rfl⟩
theorem we_or {a b : Expr} {pos : Pos} {Q : AVal → AHeap → Prop} (h : WE C n f a m σ fun v σ₁ => TB C n f truthy v m σ₁ fun c σ₂ => (c = true → Q v σ₂) ∧ (c = false → WE C n f b m σ₂ Q)) : WE C n f (.BoolOp .Or [a, b] pos) m σ Q := fun ok fz s E x => by
  refine wpAny_Or2 (wpAny_mono (h ok fz s E x) (fun v s₁ ⟨fz₁, σ₁, av, u1, e1, x1, va, q1⟩ => wpAny_mono (q1 ok fz₁ s₁ E v x1 va) (fun c s₂ ⟨fz₂, σ₂, u2, e2, x2, q2⟩ => ?_) fun _ _ x => x) fun _ _ x => x)
  cases c with
  | false => exact wpAny_mono (q2.2 rfl ok fz₂ s₂ E x2) (fun r s₃ p => .up (fun p hp => u2 p (u1 p hp)) (e1.trans e2) p) fun _ _ x => x
  | true => exact ⟨fz₂, σ₂, av, fun p hp => u2 p (u1 p hp), e1.trans e2, x2, va.up u2, q2.1 rfl⟩

/-! ## rows of expressions -/
theorem wl_nil {pos : Pos} {Q : List AVal → AHeap → Prop} (h : Q [] σ) : WL C n f [] pos m σ Q := fun ok fz s E x => wpAny_items_nil ⟨fz, σ, [], sub_refl, .rfl, x, .nil, h⟩
theorem wl_cons {e : Expr} {es : List Expr} {pos : Pos} {Q : List AVal → AHeap → Prop} (h : WE C n f e m σ fun a σ₁ => WL C n f es pos m σ₁ fun as σ₂ => Q (a :: as) σ₂)
    (he : starEach (e :: es) f.env = (false, eval e f.env) :: starEach es f.env := by rfl) : WL C n f (e :: es) pos m σ Q := fun ok fz s E x => by
  refine wpAny_items_cons (wpAny_mono (h ok fz s E x) (fun v s₁ ⟨fz₁, σ₁, a, u1, e1, x1, va, q1⟩ => wpAny_mono (q1 ok fz₁ s₁ E x1) (fun w s₂ ⟨fz₂, σ₂, b, u2, e2, x2, vb, q2⟩ => ?_) fun _ _ x => x) fun _ _ x => x) he
  exact ⟨fz₂, σ₂, a :: b, fun p hp => u2 p (u1 p hp), e1.trans e2, x2, .cons (va.up u2) vb, q2⟩
/-- a list display, frozen; and one that may change -/
theorem we_lst {es : List Expr} {pos : Pos} {Q : AVal → AHeap → Prop} (h : WL C n f es pos m σ fun as σ₁ => as.length ≤ sizeLine ∧ Q (.lst as) σ₁) : WE C n f (.List es pos) m σ Q := fun ok fz s E x => by
  refine wpAny_List (wpAny_mono (h ok fz s E x) (fun vs s₁ ⟨fz₁, σ₁, as, u1, e1, x1, va, q0, q1⟩ => ⟨by rw [va.length]; exact q0, ?_⟩) fun _ _ x => x)
  have hs : s₁.heap.get? s₁.heap.objs.size = none := by
    cases q : s₁.heap.get? s₁.heap.objs.size with
    | none => rfl
    | some o => exact absurd (Heap.lt_size q) (Nat.lt_irrefl _)
  refine ⟨[(s₁.heap.objs.size, listOf vs.toArray 0)] ++ fz₁, σ₁, .lst as, fun p hp => List.mem_append_right _ (u1 p hp), e1.trans ⟨_, _, rfl⟩, x1.freeze (t := s₁.toks) (fun b o e => Heap.get?_push_of_some _ e) _ ?_, .lst (.inl (List.mem_append_left _ (List.mem_singleton.mpr rfl))) rfl rfl (va.up fun p hp => List.mem_append_right _ hp), q1⟩
  intro p hp
  rw [List.mem_singleton.mp hp]
  exact ⟨hs, Nat.le_refl _, Heap.get?_push_size _ rfl⟩
theorem we_tup {es : List Expr} {k : Nat} {pos : Pos} {Q : AVal → AHeap → Prop} (h : WL C n f es pos m σ fun as σ₁ => as.length ≤ sizeLine ∧ Q (.tup as) σ₁) : WE C n f (.Tuple es k pos) m σ Q := fun ok fz s E x => by
  refine wpAny_Tuple (wpAny_mono (h ok fz s E x) (fun vs s₁ ⟨fz₁, σ₁, as, u1, e1, x1, va, q0, q1⟩ => ⟨by rw [va.length]; exact q0, ?_⟩) fun _ _ x => x)
  have hs : s₁.heap.get? s₁.heap.objs.size = none := by
    cases q : s₁.heap.get? s₁.heap.objs.size with
    | none => rfl
    | some o => exact absurd (Heap.lt_size q) (Nat.lt_irrefl _)
  refine ⟨[(s₁.heap.objs.size, tupOf vs)] ++ fz₁, σ₁, .tup as, fun p hp => List.mem_append_right _ (u1 p hp), e1.trans ⟨_, _, rfl⟩, x1.freeze (t := s₁.toks) (fun b o e => Heap.get?_push_of_some _ e) _ ?_, .tup (.inl (List.mem_append_left _ (List.mem_singleton.mpr rfl))) rfl rfl (va.up fun p hp => List.mem_append_right _ hp), q1⟩
  intro p hp
  rw [List.mem_singleton.mp hp]
  exact ⟨hs, Nat.le_refl _, Heap.get?_push_size _ rfl⟩
theorem we_listM {es : List Expr} {pos : Pos} {Q : AVal → AHeap → Prop} (h : WL C n f es pos m σ fun as σ₁ => as.length ≤ sizeLine ∧ ∀ a, σ₁ a = none → Q (.obj a) (σ₁.set a (.list as))) : WE C n f (.List es pos) m σ Q := fun ok fz s E x => by
  refine wpAny_List (wpAny_mono (h ok fz s E x) (fun vs s₁ ⟨fz₁, σ₁, as, u1, e1, x1, va, q0, q1⟩ => ⟨by rw [va.length]; exact q0, ?_⟩) fun _ _ x => x)
  exact ⟨fz₁, _, .obj s₁.heap.objs.size, u1, e1.trans ⟨_, _, rfl⟩, x1.newList (t := s₁.toks) (fun b o e => Heap.get?_push_of_some _ e) (Nat.le_refl _) (Heap.get?_push_size _ rfl) va, .obj _, q1 _ (x1.fresh (Nat.le_refl _))⟩

/-! ## tests -/
theorem wt_compare {l r : Expr} {op : CmpOp} {pos : Pos} {Q : Bool → AHeap → Prop} (h : WE C n f l m σ fun a σ₁ => WE C n f r m σ₁ fun b σ₂ => T2 C n f (compareOp op) a b m σ₂ fun c σ₃ => TB C n f truthy c m σ₃ Q) (hm : behindInMarks op r = false := by rfl) :
    WT C n f (.Compare l [op] [r] pos) m σ Q := fun ok fz s E x => by
  refine wpAny_isTrue_Compare1 (wpAny_mono (h ok fz s E x) (fun v s₁ ⟨fz₁, σ₁, a, u1, e1, x1, va, q1⟩ => wpAny_mono (q1 ok fz₁ s₁ E x1) (fun w s₂ ⟨fz₂, σ₂, b, u2, e2, x2, vb, q2⟩ => ?_) fun _ _ x => x) fun _ _ x => x) hm
  refine wpAny_mono (q2 ok fz₂ s₂ E v w x2 (va.up u2) vb) (fun r s₃ ⟨fz₃, σ₃, c, u3, e3, x3, vc, q3⟩ => ?_) fun _ _ x => x
  exact wpAny_mono (q3 ok fz₃ s₃ E r x3 vc) (fun b s₄ p => .up (fun p hp => u3 p (u2 p (u1 p hp))) ((e1.trans e2).trans e3) p) fun _ _ x => x
theorem wt_not {t : Expr} {pos : Pos} {Q : Bool → AHeap → Prop} (h : WT C n f t m σ fun b σ₁ => Q (!b) σ₁) : WT C n f (.UnaryOp .Not t pos) m σ Q := fun ok fz s E x =>
  wpAny_isTrue_Not (wpAny_mono (h ok fz s E x) (fun v s₁ ⟨fz₁, σ₁, u1, e1, x1, q1⟩ => ⟨fz₁, σ₁, u1, e1, x1, q1⟩) fun _ _ x => x)
theorem wt_value {e : Expr} {Q : Bool → AHeap → Prop} (h : WE C n f e m σ fun a σ₁ => TB C n f truthy a m σ₁ Q) (he : ∀ whole, isTrue e f.env whole = (do let v ← whole; standAt e.pos; holding [v] (truthy v)) := by intro _; rfl) : WT C n f e m σ Q := fun ok fz s E x => by
  refine wpAny_isTrue_value (wpAny_mono (h ok fz s E x) (fun v s₁ ⟨fz₁, σ₁, a, u1, e1, x1, va, q1⟩ => ?_) fun _ _ x => x) (he _)
  exact wpAny_mono (q1 ok fz₁ s₁ E v x1 va) (fun b s₄ p => .up u1 e1 p) fun _ _ x => x
/-- a chain of tests in a condition -/
def WA (C : Cx) (n : Nat) (f : Fm) (op : BoolOp) (es : List Expr) (m : AEnv) (σ : AHeap) (Q : Bool → AHeap → Prop) : Prop :=
  f.Ok C n → ∀ fz s E, SR C f fz m σ s → wpAny (Md C) f.A (allTrue op es f.env) (PB C f m fz s Q) E s
theorem wt_bool {op : BoolOp} {es : List Expr} {pos : Pos} {Q : Bool → AHeap → Prop} (h : WA C n f op es m σ Q) : WT C n f (.BoolOp op es pos) m σ Q := fun ok fz s E x => wpAny_isTrue_BoolOp (h ok fz s E x)
theorem wa_and_nil {Q : Bool → AHeap → Prop} (h : Q true σ) : WA C n f .And [] m σ Q := fun ok fz s E x => wpAny_allTrue_And_nil ⟨fz, σ, sub_refl, .rfl, x, h⟩
theorem wa_or_nil {Q : Bool → AHeap → Prop} (h : Q false σ) : WA C n f .Or [] m σ Q := fun ok fz s E x => wpAny_allTrue_Or_nil ⟨fz, σ, sub_refl, .rfl, x, h⟩
theorem wa_and {e : Expr} {es : List Expr} {Q : Bool → AHeap → Prop} (h : WT C n f e m σ fun b σ₁ => (b = true → WA C n f .And es m σ₁ Q) ∧ (b = false → Q false σ₁)) : WA C n f .And (e :: es) m σ Q := fun ok fz s E x => by
  refine wpAny_allTrue_And_cons (wpAny_mono (h ok fz s E x) (fun c s₁ ⟨fz₁, σ₁, u1, e1, x1, q1⟩ => ?_) fun _ _ x => x)
  cases c with
  | true => exact wpAny_mono (q1.1 rfl ok fz₁ s₁ E x1) (fun r s₃ p => .up u1 e1 p) fun _ _ x => x
  | false => exact ⟨fz₁, σ₁, u1, e1, x1, q1.2 rfl⟩
theorem wa_or {e : Expr} {es : List Expr} {Q : Bool → AHeap → Prop} (h : WT C n f e m σ fun b σ₁ => (b = true → Q true σ₁) ∧ (b = false → WA C n f .Or es m σ₁ Q)) : WA C n f .Or (e :: es) m σ Q := fun ok fz s E x => by
  refine wpAny_allTrue_Or_cons (wpAny_mono (h ok fz s E x) (fun c s₁ ⟨fz₁, σ₁, u1, e1, x1, q1⟩ => ?_) fun _ _ x => x)
  cases c with
  | false => exact wpAny_mono (q1.2 rfl ok fz₁ s₁ E x1) (fun r s₃ p => .up u1 e1 p) fun _ _ x => x
  | true => exact ⟨fz₁, σ₁, u1, e1, x1, q1.1 rfl⟩
theorem tb_bool {b : Bool} {Q : Bool → AHeap → Prop} (h : Q b σ) : TB C n f truthy (.bool b) m σ Q := fun ok fz s E v x hv => by
  cases hv; exact wpAny_truthy_bool ⟨fz, σ, sub_refl, .rfl, x, h⟩

/-! ## statements -/
theorem ws_nil {Q : AFlow → AEnv → AHeap → Prop} (h : Q .next m σ) : WS C n f [] m σ Q := fun ok fz s E x => wpAny_execs_nil ⟨fz, σ, m, .next, sub_refl, .rfl, x, trivial, h⟩
theorem ws_cons {st : Stmt} {ss : List Stmt} {Q : AFlow → AEnv → AHeap → Prop} (h : W1 C n f st m σ fun a m' σ' => match a with | .next => WS C n f ss m' σ' Q | a => Q a m' σ') : WS C n f (st :: ss) m σ Q := fun ok fz s E x => by
  refine wpAny_execs_cons (wpAny_mono (h ok fz s E x) (fun fl s₁ ⟨fz₁, σ₁, m₁, a, u1, e1, x1, va, q1⟩ => ?_) fun _ _ x => x)
  cases fl with
  | next =>
    cases a with
    | next => exact wpAny_mono (q1 ok fz₁ s₁ E x1) (fun r s₃ p => .up u1 e1 p) fun _ _ x => x
    | _ => exact va.elim
  | brk => cases a <;> first | exact ⟨fz₁, σ₁, m₁, _, u1, e1, x1, va, q1⟩ | exact va.elim
  | cont => cases a <;> first | exact ⟨fz₁, σ₁, m₁, _, u1, e1, x1, va, q1⟩ | exact va.elim
  | ret v => cases a <;> first | exact ⟨fz₁, σ₁, m₁, _, u1, e1, x1, va, q1⟩ | exact va.elim
theorem w1_return {e : Expr} {pos : Pos} {Q : AFlow → AEnv → AHeap → Prop} (h : WE C n f e m σ fun a σ₁ => Q (.ret a) m σ₁) : W1 C n f (.Return (some e) pos) m σ Q := fun ok fz s E x =>
  wpAny_Return_some (wpAny_mono (h ok fz s E x) (fun v s₁ ⟨fz₁, σ₁, a, u1, e1, x1, va, q1⟩ => ⟨fz₁, σ₁, m, .ret a, u1, e1, x1, va, q1⟩) fun _ _ x => x)
theorem w1_if {t : Expr} {b o : List Stmt} {pos : Pos} {Q : AFlow → AEnv → AHeap → Prop} (h : WT C n f t m σ fun c σ₁ => (c = true → WS C n f b m σ₁ Q) ∧ (c = false → WS C n f o m σ₁ Q)) : W1 C n f (.If t b o pos) m σ Q := fun ok fz s E x => by
  refine wpAny_If (wpAny_mono (h ok fz s E x) (fun c s₁ ⟨fz₁, σ₁, u1, e1, x1, q1⟩ => ?_) fun _ _ x => x)
  cases c with
  | true => exact wpAny_mono (q1.1 rfl ok fz₁ s₁ E x1) (fun r s₃ p => .up u1 e1 p) fun _ _ x => x
  | false => exact wpAny_mono (q1.2 rfl ok fz₁ s₁ E x1) (fun r s₃ p => .up u1 e1 p) fun _ _ x => x
/-- storing a value under a name: as a tree -/
def TS (C : Cx) (n : Nat) (f : Fm) (y : Str) (a : AVal) (m : AEnv) (σ : AHeap) (Q : AEnv → AHeap → Prop) : Prop :=
  f.Ok C n → ∀ fz s E v, SR C f fz m σ s → V (At C fz) v a → wpAny (Md C) f.A (storeName f.env y v) (fun _ s' => ∃ fz' σ' m', (∀ p ∈ fz, p ∈ fz') ∧ Same s s' ∧ SR C f fz' m' σ' s' ∧ Q m' σ') E s
theorem ts_local {y : Str} {a : AVal} {Q : AEnv → AHeap → Prop} (hl : f.env.kindOf y = some .local) (h : Q (m.set y a) σ) : TS C n f y a m σ Q := fun ok fz s E v x hv => by
  obtain ⟨mc, news, F, N, k⟩ := x.store (y := y) hv
  exact storeX_L F N (fun h' F' N' => ⟨fz, σ, _, sub_refl, .mk, k h' _ F' N', h⟩) ok.kind hl
theorem ts_cell {y : Str} {a : AVal} {c : Addr} {v₀ : Option AVal} {Q : AEnv → AHeap → Prop} (hl : f.env.kindOf y = some .cell) (hc : f.cl.lookup y = some c) (hv : σ c = some (.cell v₀)) (h : Q m (σ.set c (.cell (some a)))) : TS C n f y a m σ Q := fun ok fz s E v x va => by
  have x' := x
  obtain ⟨mc, news, δ, F, N, R, e⟩ := x
  obtain ⟨o, u, ho, hd⟩ : ∃ o u, (c, o) ∈ news ∧ o.data = .cell u := by
    cases v₀ with
    | none => obtain ⟨o, h1, h2⟩ := R.ob c _ hv; exact ⟨o, _, h1, h2⟩
    | some a => obtain ⟨o, u, h1, h2, _⟩ := R.ob c _ hv; exact ⟨o, _, h1, h2⟩
  refine wpAny_storeName_cell ok.kind hl hc ⟨o, (N _ ho).1, hd⟩ fun h' hv' hs => ?_
  obtain ⟨o', ho', hd'⟩ := hv'
  exact ⟨fz, _, m, sub_refl, ⟨_, _, rfl⟩, x'.setCell (t := s.toks) hv hs ho' hd' va, h⟩
theorem w1_assign {y : Str} {py : Pos} {e : Expr} {pos : Pos} {Q : AFlow → AEnv → AHeap → Prop} (h : WE C n f e m σ fun a σ₁ => TS C n f y a m σ₁ fun m' σ' => Q .next m' σ')
    (hs : swapsWith e (some (.Name y py)) pos.line f.env = pure false := by rfl) : W1 C n f (.Assign [.Name y py] e pos) m σ Q := fun ok fz s E x => by
  refine wpAny_Assign_Name (wpAny_mono (h ok fz s E x) (fun v s₁ ⟨fz₁, σ₁, a, u1, e1, x1, va, q1⟩ => ?_) fun _ _ x => x) hs
  exact wpAny_mono (q1 ok fz₁ s₁ E v x1 va) (fun _ s₂ ⟨fz₂, σ₂, m₂, u2, e2, x2, q2⟩ => ⟨fz₂, σ₂, m₂, .next, fun p hp => u2 p (u1 p hp), e1.trans e2, x2, trivial, q2⟩) fun _ _ x => x
end
end Mine

open PySem PySem.W PyProof.Rows PySem.Calls
namespace Mine
def Near (f : Fm) (A : Around) : Prop := A.frames = f.A.frames ∧ A.handled = f.A.handled ∧ A.guards = f.A.guards ∧ A.depth ≤ f.A.depth + 2 ∧ A.units ≤ f.A.units + 4
theorem Near.refl {f : Fm} : Near f f.A := ⟨rfl, rfl, rfl, by omega, by omega⟩
def RV (C : Cx) (f : Fm) (m : AEnv) (fz : Fz) (s : Shared) (Q : AVal → AHeap → Prop) (r : Result) (s' : Shared) : Prop := ∃ v, r = .ok (.ret v) ∧ PV C f m fz s Q v s'
/-- what a call of a def of the text does -/
def Fn (C : Cx) (n : Nat) (fa : Addr) (as : List AVal) (σ : AHeap) (Q : AVal → AHeap → Prop) : Prop :=
  ∀ f m A, f.Ok C n → Near f A → ∀ fz s vs, SR C f fz m σ s → Vs (At C fz) vs as → codeAny (Md C) A (.call (.ref fa) ⟨vs, []⟩) (RV C f m fz s Q) s
theorem Fn.mono {C : Cx} {n : Nat} {fa : Addr} {as : List AVal} {σ : AHeap} {Q Q' : AVal → AHeap → Prop} (h : Fn C n fa as σ Q) (k : ∀ a σ, Q a σ → Q' a σ) : Fn C n fa as σ Q' :=
  fun f m A ok hn fz s vs x hv => codeAny_mono (h f m A ok hn fz s vs x hv) fun r s' ⟨v, e, fz', σ', a, h1, h2, h3, h4, h5⟩ => ⟨v, e, fz', σ', a, h1, h2, h3, h4, k _ _ h5⟩

def Keep (C : Cx) (h : Heap) (v : Value) : Prop := ∃ k, (k = Keeper.frame ∨ k = Keeper.machine ∨ k = Keeper.boundFrame) ∧ Looks (Md C) h (keeperOf v) k
/-- a call -/
def TC (C : Cx) (n : Nat) (f : Fm) (fv : AVal) (as : List AVal) (m : AEnv) (σ : AHeap) (Q : AVal → AHeap → Prop) : Prop :=
  f.Ok C n → ∀ fz s E v vs, SR C f fz m σ s → V (At C fz) v fv → Vs (At C fz) vs as → Keep C s.heap v ∧ wpAny (Md C) f.A (call v vs) (PV C f m fz s Q) E s
/-- a method looked up -/
def TG (C : Cx) (n : Nat) (f : Fm) (name : Str) (ov : AVal) (m : AEnv) (σ : AHeap) (Q : AVal → List AVal → AHeap → Prop) : Prop :=
  f.Ok C n → ∀ fz s E v pl, SR C f fz m σ s → V (At C fz) v ov → wpAny (Md C) f.A (getMethod v name pl) (fun fx s' => ∃ fz' σ' fa as, (∀ p ∈ fz, p ∈ fz') ∧ Same s s' ∧ SR C f fz' m σ' s' ∧ V (At C fz') fx.1 fa ∧ Vs (At C fz') fx.2 as ∧ Q fa as σ') E s

section
variable {C : Cx} {n : Nat} {f : Fm} {m : AEnv} {σ : AHeap}
theorem cw {pos : Pos} {v : Value} {first : List Value} {args : List Expr} {s : Shared} {E : Value → Shared → Prop} {Q : Value → Shared → Prop}
    (h : wpAny (Md C) f.A (spliced (backTo pos (starEach args f.env))) (fun vs s₁ => Keep C s₁.heap v ∧ wpAny (Md C) f.A (call v (first ++ vs)) Q E s₁) E s)
    (hplain : (backTo pos (starEach args f.env)).any (·.1) = false := by rfl) : wpAny (Md C) f.A (callWith pos v first (backTo pos (starEach args f.env)) (backToKw pos (keywordEach [] f.env))) Q E s := by
  show wpAny (Md C) f.A (callWith pos v first (backTo pos (starEach args f.env)) []) Q E s
  revert h hplain
  generalize backTo pos (starEach args f.env) = l
  intro h hplain
  refine callWith_of (P := fun h => Keep C h v) (by rw [hplain]; rfl) (fun h k => k) ?_
  cases l with
  | nil =>
    unfold evalArgs
    show wpAny _ _ (spliced [] >>= _) _ E s
    exact wpAny_bind (wpAny_mono h (fun vs s₁ h₁ => wpAny_bind (wpAny_pure (wpAny_holding (wpAny_bind (wpAny_pure (wpAny_bind (wpAny_pure (wpAny_pure h₁)))))))) fun _ _ x => x)
  | cons p l => 
    obtain ⟨b, x⟩ := p
    cases b with
    | true => cases hplain
    | false => exact evalArgs_plain h
theorem we_call {g : Str} {gp : Pos} {args : List Expr} {pos : Pos} {Q : AVal → AHeap → Prop} (h : WE C n f (.Name g gp) m σ fun fv σ₁ => WL C n f args pos m σ₁ fun as σ₂ => TC C n f fv as m σ₂ Q)
    (hplain : (backTo pos (starEach args f.env)).any (·.1) = false := by rfl) : WE C n f (.Call (.Name g gp) args [] pos) m σ Q := fun ok fz s E x => by
  refine wpAny_Call_ofName (wpAny_mono (h ok fz s E x) (fun v s₁ ⟨fz₁, σ₁, a, u1, e1, x1, va, q1⟩ => cw (wpAny_mono (q1 ok fz₁ s₁ E x1) (fun vs s₂ ⟨fz₂, σ₂, as, u2, e2, x2, vs', q2⟩ => ?_) fun _ _ x => x) hplain) fun _ _ x => x)
  obtain ⟨k, c⟩ := q2 ok fz₂ s₂ E v vs x2 (va.up u2) vs'
  exact ⟨k, wpAny_mono c (fun r s₃ p => .up (fun p hp => u2 p (u1 p hp)) (e1.trans e2) p) fun _ _ x => x⟩
theorem we_callE {g : Expr} {args : List Expr} {pos : Pos} {Q : AVal → AHeap → Prop} (h : WE C n f g m σ fun fv σ₁ => WL C n f args pos m σ₁ fun as σ₂ => TC C n f fv as m σ₂ Q)
    (he : eval (.Call g args [] pos) f.env = (do callWith pos (← eval g f.env) [] (backTo pos (starEach args f.env)) (backToKw pos (keywordEach [] f.env))) := by rfl)
    (hplain : (backTo pos (starEach args f.env)).any (·.1) = false := by rfl) : WE C n f (.Call g args [] pos) m σ Q := fun ok fz s E x => by
  rw [he]
  refine wpAny_bind (wpAny_mono (h ok fz s E x) (fun v s₁ ⟨fz₁, σ₁, a, u1, e1, x1, va, q1⟩ => cw (wpAny_mono (q1 ok fz₁ s₁ E x1) (fun vs s₂ ⟨fz₂, σ₂, as, u2, e2, x2, vs', q2⟩ => ?_) fun _ _ x => x) hplain) fun _ _ x => x)
  obtain ⟨k, c⟩ := q2 ok fz₂ s₂ E v vs x2 (va.up u2) vs'
  exact ⟨k, wpAny_mono c (fun r s₃ p => .up (fun p hp => u2 p (u1 p hp)) (e1.trans e2) p) fun _ _ x => x⟩
theorem we_method {o : Expr} {name : Str} {apos pos : Pos} {args : List Expr} {pl : Sem Bool} {Q : AVal → AHeap → Prop}
    (h : WE C n f o m σ fun ov σ₁ => TG C n f name ov m σ₁ fun fv first σ₂ => WL C n f args pos m σ₂ fun as σ₃ => TC C n f fv (first ++ as) m σ₃ Q)
    (he : eval (.Call (.Attribute o name apos) args [] pos) f.env = (do
      let ov ← eval o f.env
      standAt apos.atName
      let (g, first) ← holding [ov] (getMethod ov name pl)
      callWith pos g first (backTo pos (starEach args f.env)) (backToKw pos (keywordEach [] f.env))) := by rfl)
    (hplain : (backTo pos (starEach args f.env)).any (·.1) = false := by rfl) : WE C n f (.Call (.Attribute o name apos) args [] pos) m σ Q := fun ok fz s E x => by
  refine methodCall_KW (pl := pl) (wpAny_mono (h ok fz s E x) (fun v s₁ ⟨fz₁, σ₁, a, u1, e1, x1, va, q1⟩ => wpAny_mono (q1 ok fz₁ s₁ E v pl x1 va) (fun fx s₂ ⟨fz₂, σ₂, fa, fs, u2, e2, x2, vf, vfs, q2⟩ => cw (wpAny_mono (q2 ok fz₂ s₂ E x2) (fun vs s₃ ⟨fz₃, σ₃, as, u3, e3, x3, vs', q3⟩ => ?_) fun _ _ x => x) hplain) fun _ _ x => x) fun _ _ x => x) he
  obtain ⟨k, c⟩ := q3 ok fz₃ s₃ E fx.1 (fx.2 ++ vs) x3 (vf.up u3) ((vfs.up u3).append vs')
  exact ⟨k, wpAny_mono c (fun r s₄ p => .up (fun p hp => u3 p (u2 p (u1 p hp))) ((e1.trans e2).trans e3) p) fun _ _ x => x⟩

/-! ## methods of own instances -/
theorem tg_inst {a c g : Addr} {as : List (Str × AVal)} {name : Str} {Q : AVal → List AVal → AHeap → Prop} (hσ : σ a = some (.inst c as)) (hn : getA name as = none) (hg : plainGet C.K c name = true)
    (hf : findIn C.K (.ref c) name = some (some (.ref g))) (ht : isFn C.K (.ref g) = true) (h : Q (.raw (.ref g)) [.obj a] σ) : TG C n f name (.obj a) m σ Q := fun ok fz s E v pl x hv => by
  cases hv
  obtain ⟨d, es, k, h1, h2, h3⟩ := x.inst hσ
  have x' := x
  obtain ⟨mc, news, δ, F, N, R, e⟩ := x
  exact method_inst F ok.kin (⟨h1, rfl, rfl, h2⟩ : InstAt s.heap a (instObj c d) c (some (dictOf es k))) hg hf ht (h3.get_none hn) ⟨fz, σ, _, _, sub_refl, .rfl, x', .raw _, .cons (.obj a) .nil, h⟩
theorem tg_fin {c g : Addr} {name : Str} {Q : AVal → List AVal → AHeap → Prop} (hg : plainGet C.K c name = true)
    (hf : findIn C.K (.ref c) name = some (some (.ref g))) (ht : isFn C.K (.ref g) = true) (h : Q (.raw (.ref g)) [.fin c] σ) : TG C n f name (.fin c) m σ Q := fun ok fz s E v pl x hv => by
  have hv' := hv
  cases hv with
  | fin p1 p2 =>
    have h1 := x.at_ ok p1
    have h2 := x.at_ ok p2
    have x' := x
    obtain ⟨mc, news, δ, F, N, R, e⟩ := x
    exact method_inst F ok.kin (⟨h1, rfl, rfl, h2⟩ : InstAt s.heap _ (instObj c _) c (some (dictOf [] 0))) hg hf ht rfl ⟨fz, σ, _, _, sub_refl, .rfl, x', .raw _, .cons hv' .nil, h⟩
theorem keep_K {g : Value} (ok : f.Ok C n) {fz : Fz} {s : Shared} (x : SR C f fz m σ s) (hk : keepIn C.K g = true) : Keep C s.heap g := by
  obtain ⟨mc, news, δ, F, N, R, e⟩ := x
  exact keeps_K hk _ (ok.kin.keeps F.keep)
theorem tc_fn {g : Addr} {as : List AVal} {Q : AVal → AHeap → Prop} (hk : keepIn C.K (.ref g) = true) (h : Fn C n g as σ Q) : TC C n f (.raw (.ref g)) as m σ Q := fun ok fz s E v vs x hv hvs => by
  cases hv
  refine ⟨keep_K ok x hk, wpAny_call (codeAny_mono (h f m f.A ok .refl fz s vs x hvs) fun r s' ⟨v, e, p⟩ => ?_)⟩
  subst e; exact p

/-! ## a def of the text, without cells -/
def retOf : AFlow → AVal
  | .ret a => a
  | _ => .none
theorem lookup_nd {β : Type} : ∀ {l : List (Str × β)}, (l.map (·.1)).Nodup → ∀ {y : Str} {v : β}, (y, v) ∈ l → l.lookup y = some v
  | [], _, _, _, h => nomatch h
  | (z, u) :: l, nd, y, v, h => by
    rw [List.map_cons, List.nodup_cons] at nd
    rcases List.mem_cons.mp h with e | h
    · cases e; simp
    · have : y ≠ z := fun e => nd.1 (List.mem_map.mpr ⟨_, h, e⟩)
      rw [List.lookup_cons]
      have hb : (y == z) = false := by simpa using this
      rw [hb]
      exact lookup_nd nd.2 h
theorem lookup_zip {P : Addr → Obj → Prop} : ∀ {ns : List Str} {vs : List Value} {as : List AVal}, Vs P vs as → ns.Nodup → ∀ {y : Str} {a : AVal}, getA y (ns.zip as) = some a → ∃ v, (ns.zip vs).reverse.lookup y = some v ∧ V P v a := by
  intro ns vs as h
  have key : ∀ {ns : List Str} {vs : List Value} {as : List AVal}, Vs P vs as → ns.Nodup → ∀ {y : Str} {a : AVal}, getA y (ns.zip as) = some a → ∃ v, (y, v) ∈ ns.zip vs ∧ V P v a := by
    intro ns
    induction ns with
    | nil => intro vs as _ _ y a e; cases as <;> cases e
    | cons z ns ih =>
      intro vs as h hd y a e
      cases h with
      | nil => cases e
      | cons hv h =>
        rw [List.zip_cons_cons] at e
        unfold getA at e
        by_cases q : (z == y) = true
        · rw [if_pos q] at e; cases e
          have : z = y := by simpa using q
          subst this
          exact ⟨_, List.mem_cons_self .., hv⟩
        · rw [if_neg q] at e
          obtain ⟨v, h1, h2⟩ := ih h (List.nodup_cons.mp hd).2 e
          exact ⟨v, List.mem_cons_of_mem _ h1, h2⟩
  intro hd y a e
  obtain ⟨v, h1, h2⟩ := key h hd e
  refine ⟨v, ?_, h2⟩
  have nd : ((ns.zip vs).reverse.map (·.1)).Nodup := by
    rw [List.map_reverse]
    refine List.pairwise_reverse.mpr (List.Pairwise.imp (fun h => Ne.symm h) ?_)
    have : (ns.zip vs).map (·.1) = ns.take vs.length := by
      clear h hd e h1 h2 key
      induction ns generalizing vs with
      | nil => simp
      | cons z ns ih => cases vs with
        | nil => simp
        | cons v vs => simp [ih]
    rw [this]
    exact List.Nodup.sublist (List.take_sublist ..) hd
  exact lookup_nd nd (List.mem_reverse.mpr h1)

theorem fn_plain {fa : Addr} {name qual : Str} {params : Arguments} {body : List Stmt} {scope : Scope} {dV kV doc pm cdv ct oc : Value} {an od : Option Addr} {osl : Array (Option Value)} {as da : List AVal} {ns : List Str} {dv : List Value} {Q : AVal → AHeap → Prop}
    (ho : C.K.lookup fa = some ⟨oc, od, .func (fnOf name qual params body scope dV kV doc pm an cdv ct), osl⟩) (hcd : codeIn C.K cdv qual = true)
    (hbind : ∀ S vs, vs.length = as.length → peek C.K S (bindArgs (fnOf name qual params body scope dV kV doc pm an cdv ct) ⟨vs, []⟩) = some (ns.zip (vs ++ dv)))
    (hd : ∀ P, Vs P dv da) (hnd : ns.Nodup) (hloc : ∀ y ∈ ns, scope.names.lookup y = some .local)
    (h : ∀ A₀ A base h₀ outer L pin, WS C n ⟨A₀, A, base, h₀, outer, L, fa, qual, scope, cdv, [], pin⟩ body (ns.zip (as ++ da)) σ fun fl _ σ' => ∃ σ₂ : AHeap, σ₂.le σ' ∧ Q (retOf fl) σ₂)
    (hco : scope.isCoroutine = false := by rfl) (hgen : scope.isGenerator = false := by rfl) (hk : scope.kind = .function := by rfl) (hcell : ∀ x ∈ scope.names, x.2 ≠ .cell := by decide) :
    Fn C (n + 1) fa as σ Q := fun f m A ok hn fz s vs x hvs => by
  obtain ⟨mc, news, δ, F, N, R, e⟩ := x
  have X := ok.kin.keeps F.keep
  have e2 := ok.depth
  have e3 := ok.units
  obtain ⟨n1, n2, n3, n4, n5⟩ := hn
  have hlen := hvs.length
  refine code_def (env := f.env) (binds := ns.zip (vs ++ dv)) ok.below F ok.kin N ok.top (n1.trans ok.stack) rfl ok.kind ho hcd (by omega) (kp_binds X fun S => hbind S vs hlen) (fun y hy => hloc _ (List.of_mem_zip hy).1) (fun g L' h₁ FG F' N' B' KG TG => ?_) hco hgen hk hcell
  let f' : Fm := ⟨A, A.deeper (envOf qual scope L' fa cdv), f.base, g, f.env :: f.outer, L', fa, qual, scope, cdv, [], f.pin⟩
  have hkH : ∀ b o, C.H.get? b = some o → g.get? b = some o := fun b o hb => FG.keep b o (ok.hk b o hb)
  have ok' : f'.Ok C n := ⟨B', KG, TG, hkH, Around.frames_deeper B'.stack, n2.trans ok.handled, n3.trans ok.guards, by show A.depth + 1 + 3 * n < _; omega, by show A.units + 3 + 10 * n + 100 < _; omega, hk⟩
  have hz := hvs.append (hd (At C fz))
  have x' : SR C f' fz (ns.zip (as ++ da)) σ { s with heap := h₁, toks := s.toks + (ns.zip (vs ++ dv)).length } :=
    ⟨_, news, δ, F', N', R, fun y a hy => lookup_zip hz hnd hy⟩
  refine wpAny_mono (h A _ f.base g (f.env :: f.outer) L' f.pin ok' fz _ _ x') (fun fl s' ⟨fz', σ', m', a, u, es, x2, va, σ₂, hle, q⟩ => ?_) fun _ _ z => z
  obtain ⟨mc', news', δ', F2, N2, R2, e2⟩ := x2.weaken (fun _ _ h => h) hle
  refine leaveK_ F2 N2 fun FK NK => ⟨_, rfl, fz', σ₂, retOf a, u, ?_, ⟨mc, news', δ', FK, NK, R2, fun y b hy => ?_⟩, ?_, q⟩
  · obtain ⟨hh, tt, ee⟩ := es; exact ⟨hh, tt, ee⟩
  · obtain ⟨v, h1, h2⟩ := e y b hy; exact ⟨v, h1, h2.up u⟩
  · cases fl <;> cases a <;> first | exact va.elim | exact .none | exact va
end
end Mine

open PySem PySem.W PyProof.Rows PySem.Calls
namespace Mine
/-! ## storing -/
def PU (C : Cx) (f : Fm) (fz : Fz) (s : Shared) (Q : AEnv → AHeap → Prop) (s' : Shared) : Prop := ∃ fz' σ' m', (∀ p ∈ fz, p ∈ fz') ∧ Same s s' ∧ SR C f fz' m' σ' s' ∧ Q m' σ'
def TA (C : Cx) (n : Nat) (f : Fm) (t : Expr) (a : AVal) (m : AEnv) (σ : AHeap) (Q : AEnv → AHeap → Prop) : Prop :=
  f.Ok C n → ∀ fz s E v, SR C f fz m σ s → V (At C fz) v a → wpAny (Md C) f.A (assign t f.env v) (fun _ => PU C f fz s Q) E s
def TAs (C : Cx) (n : Nat) (f : Fm) (ts : List Expr) (as : List AVal) (m : AEnv) (σ : AHeap) (Q : AEnv → AHeap → Prop) : Prop :=
  f.Ok C n → ∀ fz s E vs, SR C f fz m σ s → Vs (At C fz) vs as → wpAny (Md C) f.A (assignInOrder ((assignEach ts f.env).map (·.2)) vs) (fun _ => PU C f fz s Q) E s
def TSs (C : Cx) (n : Nat) (f : Fm) (ys : List Str) (as : List AVal) (m : AEnv) (σ : AHeap) (Q : AEnv → AHeap → Prop) : Prop :=
  f.Ok C n → ∀ fz s E vs, SR C f fz m σ s → Vs (At C fz) vs as → wpAny (Md C) f.A (assignInOrder (ys.map fun y => bindName f.env y) vs) (fun _ => PU C f fz s Q) E s
section
variable {C : Cx} {n : Nat} {f : Fm} {m : AEnv} {σ : AHeap}
theorem PU.up {s s₁ s' : Shared} {fz fz₁ : Fz} {Q : AEnv → AHeap → Prop} (h : ∀ p ∈ fz, p ∈ fz₁) (hs : Same s s₁) (x : PU C f fz₁ s₁ Q s') : PU C f fz s Q s' := by
  obtain ⟨fz', σ', m', h1, h2, h3, h4⟩ := x
  exact ⟨fz', σ', m', fun p hp => h1 p (h p hp), hs.trans h2, h3, h4⟩
theorem ta_name {y : Str} {pos : Pos} {a : AVal} {Q : AEnv → AHeap → Prop} (h : TS C n f y a m σ Q) : TA C n f (.Name y pos) a m σ Q := fun ok fz s E v x hv => assign_Name (h ok fz s E v x hv)
theorem tas_nil {Q : AEnv → AHeap → Prop} (h : Q m σ) : TAs C n f [] [] m σ Q := fun ok fz s E vs x hv => by cases hv; exact wpAny_assignInOrder_none ⟨fz, σ, m, sub_refl, .rfl, x, h⟩
theorem tas_cons {t : Expr} {ts : List Expr} {a : AVal} {as : List AVal} {Q : AEnv → AHeap → Prop} (h : TA C n f t a m σ fun m' σ' => TAs C n f ts as m' σ' Q)
    (he : (assignEach (t :: ts) f.env).map (·.2) = assign t f.env :: (assignEach ts f.env).map (·.2) := by rfl) : TAs C n f (t :: ts) (a :: as) m σ Q := fun ok fz s E vs x hv => by
  cases hv with
  | cons hv hvs =>
    rw [he]
    refine wpAny_assignInOrder_more (wpAny_mono (h ok fz s E _ x hv) (fun _ s₁ ⟨fz₁, σ₁, m₁, u1, e1, x1, q1⟩ => ?_) fun _ _ x => x)
    exact wpAny_mono (q1 ok fz₁ s₁ E _ x1 (hvs.up u1)) (fun _ s₂ p => .up u1 e1 p) fun _ _ x => x
theorem tss_nil {Q : AEnv → AHeap → Prop} (h : Q m σ) : TSs C n f [] [] m σ Q := fun ok fz s E vs x hv => by cases hv; exact wpAny_assignInOrder_none ⟨fz, σ, m, sub_refl, .rfl, x, h⟩
theorem tss_cons {y : Str} {ys : List Str} {a : AVal} {as : List AVal} {Q : AEnv → AHeap → Prop} (h : TS C n f y a m σ fun m' σ' => TSs C n f ys as m' σ' Q) : TSs C n f (y :: ys) (a :: as) m σ Q := fun ok fz s E vs x hv => by
  cases hv with
  | cons hv hvs =>
    refine wpAny_assignInOrder_more (wpAny_bindName (wpAny_mono (h ok fz s E _ x hv) (fun _ s₁ ⟨fz₁, σ₁, m₁, u1, e1, x1, q1⟩ => ?_) fun _ _ x => x))
    exact wpAny_mono (q1 ok fz₁ s₁ E _ x1 (hvs.up u1)) (fun _ s₂ p => .up u1 e1 p) fun _ _ x => x
theorem ext_keeps {h h' : Heap} (e : Heap.ExtBut h.objs.size h h') : ∀ b o, h.get? b = some o → h'.get? b = some o := fun b o q => e b o (Nat.ne_of_lt (Heap.lt_size q)) q
theorem V.tuple_ {fz : Fz} {s : Shared} (ok : f.Ok C n) (x : SR C f fz m σ s) {v : Value} {xs : List AVal} (h : V (At C fz) v (.tup xs)) : ∃ t vs, v = .ref t ∧ s.heap.IsTuple t vs.toArray ∧ Vs (At C fz) vs xs := by
  cases h with
  | tup h1 h2 h3 h4 => exact ⟨_, _, rfl, ⟨_, x.at_ ok h1, h2, _, h3⟩, h4⟩
theorem V.list_ {fz : Fz} {s : Shared} (ok : f.Ok C n) (x : SR C f fz m σ s) {v : Value} {xs : List AVal} (h : V (At C fz) v (.lst xs)) : ∃ t vs, v = .ref t ∧ s.heap.IsList t vs.toArray ∧ Vs (At C fz) vs xs := by
  cases h with
  | lst h1 h2 h3 h4 => exact ⟨_, _, rfl, ⟨_, x.at_ ok h1, h2, _, h3⟩, h4⟩
theorem ta_tup {ts : List Expr} {k : Nat} {pos : Pos} {as : List AVal} {Q : AEnv → AHeap → Prop} (h : TAs C n f ts as m σ Q) (hn : (assignEach ts f.env).length = as.length := by rfl) (hstar : (assignEach ts f.env).findIdx? (·.1) = none := by rfl) :
    TA C n f (.Tuple ts k pos) (.tup as) m σ Q := fun ok fz s E v x hv => by
  obtain ⟨t, vs, rfl, ht, hvs⟩ := hv.tuple_ ok x
  refine wpAny_assign_Tuple ok.handled ht (by rw [hn, List.size_toArray, hvs.length]) hstar fun h' he => ?_
  exact wpAny_mono (h ok fz { s with heap := h' } E vs (x.grow (t := s.toks) (ext_keeps he)) hvs) (fun _ s₂ p => .up sub_refl ⟨h', s.toks, rfl⟩ p) fun _ _ x => x
theorem ta_lst {ts : List Expr} {k : Nat} {pos : Pos} {as : List AVal} {Q : AEnv → AHeap → Prop} (h : TAs C n f ts as m σ Q) (hn : (assignEach ts f.env).length = as.length := by rfl) (hstar : (assignEach ts f.env).findIdx? (·.1) = none := by rfl) :
    TA C n f (.Tuple ts k pos) (.lst as) m σ Q := fun ok fz s E v x hv => by
  obtain ⟨t, vs, rfl, ht, hvs⟩ := hv.list_ ok x
  rw [assign_Tuple]
  refine wpAny_bind (wpAny_standAt ?_)
  unfold unpack
  have hlen : (assignEach ts f.env).length = vs.toArray.size := by rw [hn, List.size_toArray, hvs.length]
  rw [hlen, hstar]
  refine wpAny_bind (wpAny_holding (kun_itemsOf ok.handled ht fun h' he => ?_))
  exact wpAny_mono (h ok fz { s with heap := h' } E vs (x.grow (t := s.toks) (ext_keeps he)) hvs) (fun _ s₂ p => .up sub_refl ⟨h', s.toks, rfl⟩ p) fun _ _ x => x
theorem w1_assignT {ts : List Expr} {k : Nat} {tp : Pos} {e : Expr} {pos : Pos} {Q : AFlow → AEnv → AHeap → Prop} (h : WE C n f e m σ fun a σ₁ => TA C n f (.Tuple ts k tp) a m σ₁ fun m' σ' => Q .next m' σ')
    (hs : swapsWithSole [.Tuple ts k tp] e pos.line f.env = pure false := by rfl) (hw : swappedStores [.Tuple ts k tp] e f.env = pure none := by rfl) : W1 C n f (.Assign [.Tuple ts k tp] e pos) m σ Q := fun ok fz s E x => by
  refine Assign_Tuple (wpAny_mono (h ok fz s E x) (fun v s₁ ⟨fz₁, σ₁, a, u1, e1, x1, va, q1⟩ => ?_) fun _ _ x => x) hs hw
  exact wpAny_mono (q1 ok fz₁ s₁ E v x1 va) (fun _ s₂ ⟨fz₂, σ₂, m₂, u2, e2, x2, q2⟩ => ⟨fz₂, σ₂, m₂, .next, fun p hp => u2 p (u1 p hp), e1.trans e2, x2, trivial, q2⟩) fun _ _ x => x
theorem w1_assignS {ts : List Expr} {k : Nat} {tp : Pos} {e : Expr} {pos : Pos} {names : List Str} {Q : AFlow → AEnv → AHeap → Prop} (h : WE C n f e m σ fun a σ₁ => ∃ as, a = .tup as ∧ as.length = names.length ∧ TSs C n f names.reverse as.reverse m σ₁ fun m' σ' => Q .next m' σ')
    (hw : swappedStores [.Tuple ts k tp] e f.env = pure (some names)) (hs : swapsWithSole [.Tuple ts k tp] e pos.line f.env = pure false := by rfl) : W1 C n f (.Assign [.Tuple ts k tp] e pos) m σ Q := fun ok fz s E x => by
  refine Assign_Tuple_swapped (wpAny_mono (h ok fz s E x) (fun v s₁ ⟨fz₁, σ₁, a, u1, e1, x1, va, as, ea, hl, q1⟩ => ?_) fun _ _ x => x) hs hw
  subst ea
  obtain ⟨t, vs, rfl, ht, hvs⟩ := va.tuple_ ok x1
  have hlen : names.length = vs.toArray.size := by rw [List.size_toArray, hvs.length, hl]
  rw [hlen]
  refine wpAny_unpackItems_tuple ok.handled ht fun h' he => ?_
  exact wpAny_mono (q1 ok fz₁ { s₁ with heap := h' } E vs.reverse (x1.grow (t := s₁.toks) (ext_keeps he)) hvs.reverse) (fun _ s₂ ⟨fz₂, σ₂, m₂, u2, e2, x2, q2⟩ => ⟨fz₂, σ₂, m₂, .next, fun p hp => u2 p (u1 p hp), (e1.trans ⟨h', s₁.toks, rfl⟩).trans e2, x2, trivial, q2⟩) fun _ _ x => x

/-! ## loops -/
/-- the state, with some addresses kept apart -/
def SX (C : Cx) (f : Fm) (fz : Fz) (m : AEnv) (σ : AHeap) (wr : List Addr) (s : Shared) : Prop :=
  ∃ mc news δ, Fr f.h₀ f.L s.heap mc ∧ News f.h₀ f.L s.heap news ∧ HR C fz f.pin σ δ news ∧ ER (At C fz) m mc ∧ (∀ p ∈ news, p.1 ∉ wr) ∧ f.L ∉ wr ∧ ∀ b ∈ wr, f.h₀.get? b = none
theorem SX.sr {fz : Fz} {wr : List Addr} {s : Shared} (x : SX C f fz m σ wr s) : SR C f fz m σ s := by
  obtain ⟨mc, news, δ, F, N, R, e, _⟩ := x; exact ⟨mc, news, δ, F, N, R, e⟩
theorem SX.step {fz : Fz} {wr : List Addr} {s : Shared} {h' : Heap} {t : Nat} (x : SX C f fz m σ wr s) (k : ∀ b o, b ∉ wr → s.heap.get? b = some o → h'.get? b = some o) : SX C f fz m σ wr { s with heap := h', toks := t } := by
  obtain ⟨mc, news, δ, F, N, R, e, h1, h2, h3⟩ := x
  refine ⟨mc, news, δ, ⟨F.ns.at' fun o q => k _ o h2 q, fun b o q => k b o (fun hb => by rw [h3 b hb] at q; cases q) (F.keep b o q), F.above⟩, fun p hp => ⟨k _ _ (h1 p hp) (N p hp).1, (N p hp).2⟩, R, e, h1, h2, h3⟩
def ownP (wr : List Addr) (h : Heap) : Fz := wr.filterMap fun b => (h.get? b).map fun o => (b, o)
theorem mem_ownP {wr : List Addr} {h : Heap} {p : Addr × Obj} : p ∈ ownP wr h ↔ p.1 ∈ wr ∧ h.get? p.1 = some p.2 := by
  unfold ownP
  rw [List.mem_filterMap]
  constructor
  · rintro ⟨b, hb, e⟩
    obtain ⟨o, ho, rfl⟩ := Option.map_eq_some_iff.mp e
    exact ⟨hb, ho⟩
  · rintro ⟨h1, h2⟩
    exact ⟨p.1, h1, by rw [h2]; rfl⟩
theorem SX.pin {fz : Fz} {wr : List Addr} {s : Shared} (x : SX C f fz m σ wr s) : SR C (f.withPin (ownP wr s.heap ++ f.pin)) fz m σ s := by
  obtain ⟨mc, news, δ, F, N, R, e, h1, h2, h3⟩ := x
  have off : ∀ {p : Addr × Obj}, p ∈ ownP wr s.heap → p.1 ∈ wr := fun hp => (mem_ownP.mp hp).1
  have three : ∀ p ∈ fz ++ (ownP wr s.heap ++ f.pin), p ∈ ownP wr s.heap ∨ p ∈ fz ++ f.pin := fun p hp => by
    rcases List.mem_append.mp hp with hp | hp
    · exact .inr (List.mem_append_left _ hp)
    · rcases List.mem_append.mp hp with hp | hp
      · exact .inl hp
      · exact .inr (List.mem_append_right _ hp)
  refine ⟨mc, ownP wr s.heap ++ news, δ, F, fun p hp => ?_, ⟨fun p hp => ?_, fun p hp q hq => ?_, fun a ao h => (R.ob a ao h).mono (fun _ _ z => z) (fun _ q => List.mem_append_right _ q) fun _ _ _ _ q => List.mem_append_right _ q, fun a ao h p hp => ?_, fun a c as h p hp => ?_, R.dσ, R.dinj⟩, e⟩
  · rcases List.mem_append.mp hp with hp | hp
    · obtain ⟨a, b⟩ := mem_ownP.mp hp
      exact ⟨b, fun q => h2 (q ▸ a), h3 _ a⟩
    · exact N p hp
  · rcases three p hp with hp | hp
    · exact List.mem_append_left _ hp
    · exact List.mem_append_right _ (R.sub p hp)
  · rcases List.mem_append.mp hq with hq | hq
    · exact fun q' => h1 p (R.sub p (List.mem_append_left _ hp)) (q' ▸ off hq)
    · exact R.apart p hp q hq
  · rcases three p hp with hp | hp
    · obtain ⟨o, ho⟩ := (R.ob a ao h).key
      exact fun q => h1 _ ho (by show a ∈ wr; rw [← q]; exact off hp)
    · exact R.off a ao h p hp
  · rcases three p hp with hp | hp
    · obtain ⟨_, es, k, ho, _⟩ := R.ob a _ h
      exact fun q => h1 _ ho (by show δ a ∈ wr; rw [← q]; exact off hp)
    · exact R.doff a c as h p hp
theorem SX.unpin {fz : Fz} {wr : List Addr} {s : Shared} {own : Fz} (hl : ∀ b ∈ wr, ∃ o, (b, o) ∈ own) (hp : ∀ p ∈ f.pin, p.1 ∉ wr) (h2 : f.L ∉ wr) (h3 : ∀ b ∈ wr, f.h₀.get? b = none) (x : SR C (f.withPin (own ++ f.pin)) fz m σ s) : SX C f fz m σ wr s := by
  obtain ⟨mc, news, δ, F, N, R, e⟩ := x
  have inpin : ∀ {b o}, (b, o) ∈ own → (b, o) ∈ fz ++ (own ++ f.pin) := fun h => List.mem_append_right _ (List.mem_append_left _ h)
  have keepM : ∀ {p : Addr × Obj}, p ∈ news → p.1 ∉ wr → p ∈ news.filter (fun p => decide (p.1 ∉ wr)) := fun h q => List.mem_filter.mpr ⟨h, by simpa using q⟩
  have anw : ∀ a ao, σ a = some ao → a ∉ wr := fun a ao h q => by obtain ⟨o, ho⟩ := hl a q; exact R.off a ao h _ (inpin ho) rfl
  have dnw : ∀ a c as, σ a = some (.inst c as) → δ a ∉ wr := fun a c as h q => by obtain ⟨o, ho⟩ := hl _ q; exact R.doff a c as h _ (inpin ho) rfl
  have up : ∀ p ∈ fz ++ f.pin, p ∈ fz ++ (own ++ f.pin) := fun p hp => (List.mem_append.mp hp).elim (fun h => List.mem_append_left _ h) fun h => List.mem_append_right _ (List.mem_append_right _ h)
  refine ⟨mc, news.filter (fun p => decide (p.1 ∉ wr)), δ, F, fun p hp => N p (List.mem_filter.mp hp).1, ⟨fun p hp' => keepM (R.sub p (up p hp')) ?_, fun p hp q hq => R.apart p hp q (List.mem_append_right _ hq), fun a ao h => (R.ob a ao h).mono (fun _ _ z => z) (fun _ q => keepM q (anw a ao h)) fun c as ea _ q => keepM q (dnw a c as (ea ▸ h)), fun a ao h p hp => R.off a ao h p (up p hp), fun a c as h p hp => R.doff a c as h p (up p hp), R.dσ, R.dinj⟩, e, fun p hp => by simpa using (List.mem_filter.mp hp).2, h2, h3⟩
  rcases List.mem_append.mp hp' with h | h
  · intro q
    obtain ⟨o, ho⟩ := hl _ q
    exact R.apart p h _ (List.mem_append_left _ ho) rfl
  · exact hp p h
theorem Fm.Ok.pin {n : Nat} {p : Fz} (ok : f.Ok C n) : (f.withPin p).Ok C n := ⟨ok.below, ok.kin, ok.top, ok.hk, ok.stack, ok.handled, ok.guards, ok.depth, ok.units, ok.kind⟩

/-- what a value yields when it is walked -/
structure Wk (C : Cx) (f : Fm) (fz : Fz) (I : Addr) (wr : List Addr) (xs : List AVal) (St : Nat → Heap → Prop) (Lent : Heap → Prop) (back : AHeap → AHeap) : Prop where
  go : ∀ i (s : Shared) (Q : Option Value → Shared → Prop) (E : Value → Shared → Prop) x, xs[i]? = some x → St i s.heap →
    (∀ v h' tk, V (At C fz) v x → St (i + 1) h' → (∀ b o, b ∉ wr → s.heap.get? b = some o → h'.get? b = some o) → Q (some v) { s with heap := h', toks := tk }) → wpAny (Md C) f.A (pyNext (.ref I)) Q E s
  done : ∀ (s : Shared) (Q : Option Value → Shared → Prop) (E : Value → Shared → Prop), St xs.length s.heap →
    (∀ h' tk, (∀ b o, b ∉ wr → s.heap.get? b = some o → h'.get? b = some o) → Lent h' → Q none { s with heap := h', toks := tk }) → wpAny (Md C) f.A (pyNext (.ref I)) Q E s
  live : ∀ i h, St i h → ∀ b ∈ wr, ∃ o, h.get? b = some o
  frame : ∀ i h h', St i h → (∀ b ∈ wr, ∀ o, h.get? b = some o → h'.get? b = some o) → (∀ b o, At C fz b o ∨ (b, o) ∈ f.pin → h'.get? b = some o) → St i h'
  lent : ∀ i h, St i h → Lent h
  back : ∀ fz' m' σ' s', (∀ p ∈ fz, p ∈ fz') → SX C f fz' m' σ' wr s' → Lent s'.heap → SR C f fz' m' (back σ') s'
structure WkT (C : Cx) (f : Fm) (fz : Fz) (I : Addr) (wr : List Addr) (xs : List (List AVal)) (St : Nat → Heap → Prop) (Lent : Heap → Prop) (back : AHeap → AHeap) : Prop where
  go : ∀ i (s : Shared) (Q : Option Value → Shared → Prop) (E : Value → Shared → Prop) x, xs[i]? = some x → St i s.heap →
    (∀ T vs h' tk, Vs (At C fz) vs x → h'.IsTuple T vs.toArray → T ∉ wr → (∀ b o, b ∉ wr → s.heap.get? b = some o → h'.get? b = some o) →
      (∀ ts k pos (s₂ : Shared) (Q₂ : Unit → Shared → Prop) (E₂ : Value → Shared → Prop), s₂.heap = h' → (∀ h₂, St (i + 1) h₂ → (∀ b o, b ∉ wr → h'.get? b = some o → h₂.get? b = some o) → Q₂ () { s₂ with heap := h₂ }) → wpAny (Md C) f.A (letOwnedTupleGo (.Tuple ts k pos) (.ref I) (.ref T)) Q₂ E₂ s₂) →
      Q (some (.ref T)) { s with heap := h', toks := tk }) → wpAny (Md C) f.A (pyNext (.ref I)) Q E s
  done : ∀ (s : Shared) (Q : Option Value → Shared → Prop) (E : Value → Shared → Prop), St xs.length s.heap →
    (∀ h' tk, (∀ b o, b ∉ wr → s.heap.get? b = some o → h'.get? b = some o) → Lent h' → Q none { s with heap := h', toks := tk }) → wpAny (Md C) f.A (pyNext (.ref I)) Q E s
  live : ∀ i h, St i h → ∀ b ∈ wr, ∃ o, h.get? b = some o
  frame : ∀ i h h', St i h → (∀ b ∈ wr, ∀ o, h.get? b = some o → h'.get? b = some o) → (∀ b o, At C fz b o ∨ (b, o) ∈ f.pin → h'.get? b = some o) → St i h'
  lent : ∀ i h, St i h → Lent h
  back : ∀ fz' m' σ' s', (∀ p ∈ fz, p ∈ fz') → SX C f fz' m' σ' wr s' → Lent s'.heap → SR C f fz' m' (back σ') s'
/-- the head of a for: the value and its iterator -/
def WI (C : Cx) (n : Nat) (f : Fm) (e : Expr) (m : AEnv) (σ : AHeap) (Q : (AHeap → AHeap) → List AVal → AHeap → Prop) : Prop :=
  f.Ok C n → ∀ fz s E, SR C f fz m σ s → wpAny (Md C) f.A (eval e f.env) (fun v s₁ => wpAny (Md C) f.A (pyIter v) (fun it s' => ∃ fz' σ' I wr xs St Lent back, it = .ref I ∧ (∀ p ∈ fz, p ∈ fz') ∧ Same s s' ∧ SX C f fz' m σ' wr s' ∧ Wk C f fz' I wr xs St Lent back ∧ St 0 s'.heap ∧ Q back xs σ') E s₁) E s
def WIT (C : Cx) (n : Nat) (f : Fm) (e : Expr) (m : AEnv) (σ : AHeap) (Q : (AHeap → AHeap) → List (List AVal) → AHeap → Prop) : Prop :=
  f.Ok C n → ∀ fz s E, SR C f fz m σ s → wpAny (Md C) f.A (eval e f.env) (fun v s₁ => wpAny (Md C) f.A (pyIter v) (fun it s' => ∃ fz' σ' I wr xs St Lent back, it = .ref I ∧ (∀ p ∈ fz, p ∈ fz') ∧ Same s s' ∧ SX C f fz' m σ' wr s' ∧ WkT C f fz' I wr xs St Lent back ∧ St 0 s'.heap ∧ Q back xs σ') E s₁) E s
def TI (C : Cx) (n : Nat) (f : Fm) (a : AVal) (m : AEnv) (σ : AHeap) (Q : (AHeap → AHeap) → List AVal → AHeap → Prop) : Prop :=
  f.Ok C n → ∀ fz s E v, SR C f fz m σ s → V (At C fz) v a → wpAny (Md C) f.A (pyIter v) (fun it s' => ∃ fz' σ' I wr xs St Lent back, it = .ref I ∧ (∀ p ∈ fz, p ∈ fz') ∧ Same s s' ∧ SX C f fz' m σ' wr s' ∧ Wk C f fz' I wr xs St Lent back ∧ St 0 s'.heap ∧ Q back xs σ') E s
theorem wi {e : Expr} {Q : (AHeap → AHeap) → List AVal → AHeap → Prop} (h : WE C n f e m σ fun a σ₁ => TI C n f a m σ₁ Q) : WI C n f e m σ Q := fun ok fz s E x =>
  wpAny_mono (h ok fz s E x) (fun v s₁ ⟨fz₁, σ₁, a, u1, e1, x1, va, q1⟩ => wpAny_mono (q1 ok fz₁ s₁ E v x1 va) (fun it s₂ ⟨fz₂, σ₂, I, wr, xs, St, Lent, back, ei, u2, e2, r⟩ => ⟨fz₂, σ₂, I, wr, xs, St, Lent, back, ei, fun p hp => u2 p (u1 p hp), e1.trans e2, r⟩) fun _ _ x => x) fun _ _ x => x
/-- one turn: what must hold behind the body -/
def Turn (back : AHeap → AHeap) (Inv : AEnv → AHeap → Prop) (Q : AFlow → AEnv → AHeap → Prop) : AFlow → AEnv → AHeap → Prop
  | .next, m, σ => ∃ m' σ', (∀ y a, AEnv.get m' y = some a → AEnv.get m y = some a) ∧ AHeap.le σ' σ ∧ Inv m' σ'
  | .cont, m, σ => ∃ m' σ', (∀ y a, AEnv.get m' y = some a → AEnv.get m y = some a) ∧ AHeap.le σ' σ ∧ Inv m' σ'
  | .brk, m, σ => Q .next m (back σ)
  | .ret a, m, σ => Q (.ret a) m (back σ)
theorem w1_forB {y : Str} {py : Pos} {iter : Expr} {body : List Stmt} {pos : Pos} {Q : AFlow → AEnv → AHeap → Prop} (Inv : (AHeap → AHeap) → List AVal → AEnv → AHeap → Prop)
    (h : WI C n f iter m σ fun back xs σ₂ => Inv back xs m σ₂)
    (turn : ∀ back pin x xs m' σ', Inv back (x :: xs) m' σ' → TS C n (f.withPin pin) y x m' σ' fun m₁ σ₁ => WS C n (f.withPin pin) body m₁ σ₁ (Turn back (Inv back xs) Q))
    (done : ∀ back m' σ', Inv back [] m' σ' → Q .next m' (back σ')) (hs : ∀ x, foldedSetIterable iter f.env x = pure x := by intro _; rfl) : W1 C n f (.For (.Name y py) iter body [] pos) m σ Q := fun ok fz s E x => by
  refine wpAny_For (wpAny_mono (h ok fz s E x) (fun v s₁ q1 => wpAny_mono q1 (fun it s₂ ⟨fz₂, σ₂, I, wr, xs, St, Lent, back, ei, u2, e2, x2, W, st, q2⟩ => ?_) fun _ _ x => x) fun _ _ x => x) hs
  subst ei
  have hpin : ∀ p ∈ f.pin, p.1 ∉ wr := by
    obtain ⟨mc, news, δ, F, N, R, e, h1, h2, h3⟩ := x2
    exact fun p hp => h1 p (R.sub p (List.mem_append_right _ hp))
  have hL : f.L ∉ wr := by obtain ⟨mc, news, δ, F, N, R, e, h1, h2, h3⟩ := x2; exact h2
  have h0 : ∀ b ∈ wr, f.h₀.get? b = none := by obtain ⟨mc, news, δ, F, N, R, e, h1, h2, h3⟩ := x2; exact h3
  refine codeAny_forLoop (fun k s' => ∃ fz' m' σ' i, (∀ p ∈ fz₂, p ∈ fz') ∧ Same s₂ s' ∧ SX C f fz' m' σ' wr s' ∧ St i s'.heap ∧ Inv back (xs.drop i) m' σ' ∧ i ≤ xs.length ∧ k = xs.length - i) ?_ (xs.length) ⟨fz₂, m, σ₂, 0, sub_refl, .rfl, x2, st, q2, Nat.zero_le _, rfl⟩
  rintro k s' ⟨fz', m', σ', i, u3, e3, x3, st3, q3, hi, rfl⟩
  have uu : ∀ p ∈ fz, p ∈ fz' := fun p hp => u3 p (u2 p hp)
  cases hx : xs[i]? with
  | none =>
    have hlen : i = xs.length := by have := List.getElem?_eq_none_iff.mp hx; omega
    subst hlen
    refine W.done _ _ _ st3 fun h' tk k hl => wpAny_execs_nil ?_
    rw [List.drop_length] at q3
    exact ⟨fz', back σ', m', .next, uu, (e2.trans e3).trans ⟨_, _, rfl⟩, W.back _ _ _ _ u3 (x3.step (t := tk) k) hl, trivial, done _ _ _ q3⟩
  | some b =>
    obtain ⟨hlt, hb⟩ := List.getElem?_eq_some_iff.mp hx
    have hd : xs.drop i = b :: xs.drop (i + 1) := by rw [List.drop_eq_getElem_cons hlt, hb]
    rw [hd] at q3
    refine W.go i _ _ _ b hx st3 fun v h' tk hv st' k => ?_
    have x4 := x3.step (t := tk) k
    have x5 := x4.pin
    refine PyProof.Rows.assign_Name (wpAny_mono (turn back (ownP wr h' ++ f.pin) b _ m' σ' q3 ok.pin fz' _ _ v x5 (hv.up u3)) (fun _ s₅ ⟨fz₅, σ₅, m₅, u5, e5, x6, q5⟩ => ?_) fun _ _ x => x)
    refine wpAny_mono (q5 ok.pin fz₅ s₅ _ x6) (fun fl s₆ ⟨fz₆, σ₆, m₆, a₆, u6, e6, x7, va6, q6⟩ => ?_) fun _ _ x => x
    have es : Same s s₆ := ((((e2.trans e3).trans ⟨_, _, rfl⟩).trans e5).trans e6)
    have us : ∀ p ∈ fz, p ∈ fz₆ := fun p hp => u6 p (u5 p (uu p hp))
    have u26 : ∀ p ∈ fz₂, p ∈ fz₆ := fun p hp => u6 p (u5 p (u3 p hp))
    have un : ∀ {m' : AEnv} {σ' : AHeap}, SR C (f.withPin (ownP wr h' ++ f.pin)) fz₆ m' σ' s₆ → SX C f fz₆ m' σ' wr s₆ := fun x => SX.unpin (fun b hb => by obtain ⟨o, ho⟩ := W.live _ _ st' b hb; exact ⟨o, (mem_ownP (p := (b, o))).mpr ⟨hb, ho⟩⟩) hpin hL h0 x
    have st6 : St (i + 1) s₆.heap := by
      refine W.frame _ _ _ st' (fun b hb o ho => ?_) fun b o q => ?_
      · obtain ⟨mc, news, δ, F, N, R, e⟩ := x7
        exact (N _ (R.sub _ (List.mem_append_right _ (List.mem_append_left _ ((mem_ownP (p := (b, o))).mpr ⟨hb, ho⟩))))).1
      · rcases q with q | q
        · exact (x7.at_ ok.pin (q.mono u26))
        · obtain ⟨mc, news, δ, F, N, R, e⟩ := x7
          exact (N _ (R.sub _ (List.mem_append_right _ (List.mem_append_right _ q)))).1
    have bk := W.back _ _ _ _ u26 (un x7) (W.lent _ _ st6)
    have next : Turn back (Inv back (xs.drop (i + 1))) Q .next m₆ σ₆ → ∃ m, m < xs.length - i ∧ ∃ fz' m' σ' i, (∀ p ∈ fz₂, p ∈ fz') ∧ Same s₂ s₆ ∧ SX C f fz' m' σ' wr s₆ ∧ St i s₆.heap ∧ Inv back (xs.drop i) m' σ' ∧ i ≤ xs.length ∧ m = xs.length - i := by
      rintro ⟨m₇, σ₇, hm, hσ, q7⟩
      exact ⟨xs.length - (i + 1), by omega, fz₆, m₇, σ₇, i + 1, u26, ((e3.trans ⟨_, _, rfl⟩).trans e5).trans e6, un (x7.weaken hm hσ), st6, q7, hlt, rfl⟩
    cases fl with
    | next => cases a₆ <;> first | exact next q6 | exact va6.elim
    | cont => cases a₆ <;> first | exact next q6 | exact va6.elim
    | brk => cases a₆ <;> first | exact ⟨fz₆, back σ₆, m₆, .next, us, es, bk, trivial, q6⟩ | exact va6.elim
    | ret r => cases a₆ <;> first | exact ⟨fz₆, back σ₆, m₆, .ret _, us, es, bk, va6, q6⟩ | exact va6.elim
theorem w1_forTB {ts : List Expr} {tk : Nat} {tp : Pos} {iter : Expr} {body : List Stmt} {pos : Pos} {Q : AFlow → AEnv → AHeap → Prop} (Inv : (AHeap → AHeap) → List (List AVal) → AEnv → AHeap → Prop)
    (h : WIT C n f iter m σ fun back xs σ₂ => Inv back xs m σ₂)
    (turn : ∀ back pin x xs m' σ', Inv back (x :: xs) m' σ' → (assignEach ts f.env).length = x.length ∧ TAs C n (f.withPin pin) ts x m' σ' fun m₁ σ₁ => WS C n (f.withPin pin) body m₁ σ₁ (Turn back (Inv back xs) Q))
    (done : ∀ back m' σ', Inv back [] m' σ' → Q .next m' (back σ')) (hstar : (assignEach ts f.env).findIdx? (·.1) = none := by rfl) (hs : ∀ x, foldedSetIterable iter f.env x = pure x := by intro _; rfl) : W1 C n f (.For (.Tuple ts tk tp) iter body [] pos) m σ Q := fun ok fz s E x => by
  refine wpAny_For (wpAny_mono (h ok fz s E x) (fun v s₁ q1 => wpAny_mono q1 (fun it s₂ ⟨fz₂, σ₂, I, wr, xs, St, Lent, back, ei, u2, e2, x2, W, st, q2⟩ => ?_) fun _ _ x => x) fun _ _ x => x) hs
  subst ei
  have hpin : ∀ p ∈ f.pin, p.1 ∉ wr := by
    obtain ⟨mc, news, δ, F, N, R, e, h1, h2, h3⟩ := x2
    exact fun p hp => h1 p (R.sub p (List.mem_append_right _ hp))
  have hL : f.L ∉ wr := by obtain ⟨mc, news, δ, F, N, R, e, h1, h2, h3⟩ := x2; exact h2
  have h0 : ∀ b ∈ wr, f.h₀.get? b = none := by obtain ⟨mc, news, δ, F, N, R, e, h1, h2, h3⟩ := x2; exact h3
  refine codeAny_forLoop_any (fun k s' => ∃ fz' m' σ' i, (∀ p ∈ fz₂, p ∈ fz') ∧ Same s₂ s' ∧ SX C f fz' m' σ' wr s' ∧ St i s'.heap ∧ Inv back (xs.drop i) m' σ' ∧ i ≤ xs.length ∧ k = xs.length - i) ?_ (xs.length) ⟨fz₂, m, σ₂, 0, sub_refl, .rfl, x2, st, q2, Nat.zero_le _, rfl⟩
  rintro k s' ⟨fz', m', σ', i, u3, e3, x3, st3, q3, hi, rfl⟩
  have uu : ∀ p ∈ fz, p ∈ fz' := fun p hp => u3 p (u2 p hp)
  cases hx : xs[i]? with
  | none =>
    have hlen : i = xs.length := by have := List.getElem?_eq_none_iff.mp hx; omega
    subst hlen
    refine W.done _ _ _ st3 fun h' tk k hl => wpAny_execs_nil ?_
    rw [List.drop_length] at q3
    exact ⟨fz', back σ', m', .next, uu, (e2.trans e3).trans ⟨_, _, rfl⟩, W.back _ _ _ _ u3 (x3.step (t := tk) k) hl, trivial, done _ _ _ q3⟩
  | some b =>
    obtain ⟨hlt, hb⟩ := List.getElem?_eq_some_iff.mp hx
    have hd : xs.drop i = b :: xs.drop (i + 1) := by rw [List.drop_eq_getElem_cons hlt, hb]
    rw [hd] at q3
    refine W.go i _ _ _ b hx st3 fun T vs h₁ tk₁ hvs hT hTw k₁ hgo => ?_
    refine hgo _ _ _ _ _ _ rfl fun h' st' k₂ => ?_
    have x4 := (x3.step (t := tk₁) k₁).step (t := tk₁) k₂
    have x5 := x4.pin
    obtain ⟨hn, tn⟩ := turn back (ownP wr h' ++ f.pin) b _ m' σ' q3
    have hT' : h'.IsTuple T vs.toArray := by obtain ⟨o, ho, r⟩ := hT; exact ⟨o, k₂ _ _ hTw ho, r⟩
    refine wpAny_assign_Tuple ok.handled hT' (by rw [hn, List.size_toArray, hvs.length]) hstar fun h'' he => ?_
    have x5' := x5.grow (t := tk₁) (ext_keeps he)
    refine wpAny_mono (tn ok.pin fz' { s' with heap := h'', toks := tk₁ } _ vs x5' (hvs.up u3)) (fun _ s₅ ⟨fz₅, σ₅, m₅, u5, e5, x6, q5⟩ => ?_) fun _ _ x => x
    refine wpAny_mono (q5 ok.pin fz₅ s₅ _ x6) (fun fl s₆ ⟨fz₆, σ₆, m₆, a₆, u6, e6, x7, va6, q6⟩ => ?_) fun _ _ x => x
    have e35 : Same s₂ s₆ := ((e3.trans ⟨h'', tk₁, rfl⟩).trans e5).trans e6
    have us : ∀ p ∈ fz, p ∈ fz₆ := fun p hp => u6 p (u5 p (uu p hp))
    have u26 : ∀ p ∈ fz₂, p ∈ fz₆ := fun p hp => u6 p (u5 p (u3 p hp))
    have un : ∀ {m' : AEnv} {σ' : AHeap}, SR C (f.withPin (ownP wr h' ++ f.pin)) fz₆ m' σ' s₆ → SX C f fz₆ m' σ' wr s₆ := fun x => SX.unpin (fun b hb => by obtain ⟨o, ho⟩ := W.live _ _ st' b hb; exact ⟨o, (mem_ownP (p := (b, o))).mpr ⟨hb, ho⟩⟩) hpin hL h0 x
    have st6 : St (i + 1) s₆.heap := by
      refine W.frame _ _ _ st' (fun b hb o ho => ?_) fun b o q => ?_
      · obtain ⟨mc, news, δ, F, N, R, e⟩ := x7
        exact (N _ (R.sub _ (List.mem_append_right _ (List.mem_append_left _ ((mem_ownP (p := (b, o))).mpr ⟨hb, ho⟩))))).1
      · rcases q with q | q
        · exact (x7.at_ ok.pin (q.mono u26))
        · obtain ⟨mc, news, δ, F, N, R, e⟩ := x7
          exact (N _ (R.sub _ (List.mem_append_right _ (List.mem_append_right _ q)))).1
    have bk := W.back _ _ _ _ u26 (un x7) (W.lent _ _ st6)
    have next : Turn back (Inv back (xs.drop (i + 1))) Q .next m₆ σ₆ → ∃ m, m < xs.length - i ∧ ∃ fz' m' σ' i, (∀ p ∈ fz₂, p ∈ fz') ∧ Same s₂ s₆ ∧ SX C f fz' m' σ' wr s₆ ∧ St i s₆.heap ∧ Inv back (xs.drop i) m' σ' ∧ i ≤ xs.length ∧ m = xs.length - i := by
      rintro ⟨m₇, σ₇, hm, hσ, q7⟩
      exact ⟨xs.length - (i + 1), by omega, fz₆, m₇, σ₇, i + 1, u26, e35, un (x7.weaken hm hσ), st6, q7, hlt, rfl⟩
    cases fl with
    | next => cases a₆ <;> first | exact next q6 | exact va6.elim
    | cont => cases a₆ <;> first | exact next q6 | exact va6.elim
    | brk => cases a₆ <;> first | exact ⟨fz₆, back σ₆, m₆, .next, us, e2.trans e35, bk, trivial, q6⟩ | exact va6.elim
    | ret r => cases a₆ <;> first | exact ⟨fz₆, back σ₆, m₆, .ret _, us, e2.trans e35, bk, va6, q6⟩ | exact va6.elim
end
end Mine

open PySem PySem.W PyProof.Rows PySem.Calls
namespace Mine
section
variable {C : Cx} {n : Nat} {f : Fm} {m : AEnv} {σ : AHeap}
theorem size_none (h : Heap) : h.get? h.objs.size = none := by
  cases q : h.get? h.objs.size with
  | none => rfl
  | some o => exact absurd (Heap.lt_size q) (Nat.lt_irrefl _)
theorem ge_none {h : Heap} {a : Addr} (ha : h.objs.size ≤ a) : h.get? a = none := by
  cases q : h.get? a with
  | none => rfl
  | some o => exact absurd (Heap.lt_size q) (Nat.not_lt.mpr ha)
/-- one new frozen object -/
theorem PV.new {fz : Fz} {s : Shared} {Q : AVal → AHeap → Prop} {a : AVal} {h' : Heap} {t : Nat} {b : Addr} {o : Obj} (x : SR C f fz m σ s) (k : ∀ b o, s.heap.get? b = some o → h'.get? b = some o) (hb : s.heap.objs.size ≤ b) (ho : h'.get? b = some o)
    (hv : ∀ fz', (b, o) ∈ fz' → (∀ p ∈ fz, p ∈ fz') → V (At C fz') (.ref b) a) (q : Q a σ) : PV C f m fz s Q (.ref b) { s with heap := h', toks := t } :=
  ⟨[(b, o)] ++ fz, σ, a, fun p hp => List.mem_append_right _ hp, .mk, x.freeze (t := t) k _ (fun p hp => by rw [List.mem_singleton.mp hp]; exact ⟨ge_none hb, hb, ho⟩), hv _ (List.mem_append_left _ (List.mem_singleton.mpr rfl)) (fun p hp => List.mem_append_right _ hp), q⟩
theorem PV.push {fz : Fz} {s : Shared} {Q : AVal → AHeap → Prop} {a : AVal} {t : Nat} {o : Obj} (x : SR C f fz m σ s) (hf : o.isFreed = false) (hv : ∀ fz', (s.heap.objs.size, o) ∈ fz' → (∀ p ∈ fz, p ∈ fz') → V (At C fz') (.ref s.heap.objs.size) a) (q : Q a σ) :
    PV C f m fz s Q (.ref s.heap.objs.size) { s with heap := s.heap.push o, toks := t } := .new x (fun b o e => Heap.get?_push_of_some _ e) (Nat.le_refl _) (Heap.get?_push_size _ hf) hv q
theorem PV.grow {fz : Fz} {s : Shared} {Q : AVal → AHeap → Prop} {v : Value} {a : AVal} {h' : Heap} {t : Nat} (x : SR C f fz m σ s) (k : ∀ b o, s.heap.get? b = some o → h'.get? b = some o) (hv : V (At C fz) v a) (q : Q a σ) : PV C f m fz s Q v { s with heap := h', toks := t } :=
  ⟨fz, σ, a, sub_refl, .mk, x.grow (t := t) k, hv, q⟩

/-! ## ints -/
section
variable {Q : AVal → AHeap → Prop} {a b : Int}
theorem t2_add (h : Q (.int (a + b)) σ) : T2 C n f (binaryOp .Add) (.int a) (.int b) m σ Q := fun ok fz s E v w x hv hw => by cases hv; cases hw; exact add_int (.tok x (.int _ _) h)
theorem t2_sub (h : Q (.int (a - b)) σ) : T2 C n f (binaryOp .Sub) (.int a) (.int b) m σ Q := fun ok fz s E v w x hv hw => by cases hv; cases hw; exact sub_int (.tok x (.int _ _) h)
theorem t2_mul (hm : IntMulOk a b) (h : Q (.int (a * b)) σ) : T2 C n f (binaryOp .Mult) (.int a) (.int b) m σ Q := fun ok fz s E v w x hv hw => by cases hv; cases hw; exact PyProof.Rows.mul_int (.tok x (.int _ _) h) hm
theorem t2_div (hb : b ≠ 0) (hs : b.natAbs < 1073741824) (h : Q (.int (a.fdiv b)) σ) : T2 C n f (binaryOp .FloorDiv) (.int a) (.int b) m σ Q := fun ok fz s E v w x hv hw => by cases hv; cases hw; exact floordiv_int hb (.tok x (.int _ _) h) (.inl (PyProof.noPylong_small hs))
theorem t2_mod (hb : b ≠ 0) (hs : b.natAbs < 1073741824) (h : Q (.int (a.fmod b)) σ) : T2 C n f (binaryOp .Mod) (.int a) (.int b) m σ Q := fun ok fz s E v w x hv hw => by cases hv; cases hw; exact mod_int' hb (.tok x (.int _ _) h)
theorem t2_and (h : Q (.int (Builtin.bitAnd a b)) σ) : T2 C n f (binaryOp .BitAnd) (.int a) (.int b) m σ Q := fun ok fz s E v w x hv hw => by cases hv; cases hw; exact and_int (.tok x (.int _ _) h)
theorem t2_or (h : Q (.int (Builtin.bitOr a b)) σ) : T2 C n f (binaryOp .BitOr) (.int a) (.int b) m σ Q := fun ok fz s E v w x hv hw => by cases hv; cases hw; exact or_int (.tok x (.int _ _) h)
theorem t2_xor (h : Q (.int (Builtin.bitXor a b)) σ) : T2 C n f (binaryOp .BitXor) (.int a) (.int b) m σ Q := fun ok fz s E v w x hv hw => by cases hv; cases hw; exact xor_int (.tok x (.int _ _) h)
theorem t2_pow (hn : 0 ≤ b) (hb : b ≤ 1000000) (ha : a.natAbs < 2 ^ 64) (h : Q (.int (a ^ b.toNat)) σ) : T2 C n f (binaryOp .Pow) (.int a) (.int b) m σ Q := fun ok fz s E v w x hv hw => by cases hv; cases hw; exact pow_int_small hn hb ha (.tok x (.int _ _) h)
theorem t2_shl (hn : 0 ≤ b) (hb : b ≤ 1000000) (ha : a.natAbs < 2 ^ 64) (h : Q (.int (a * 2 ^ b.toNat)) σ) : T2 C n f (binaryOp .LShift) (.int a) (.int b) m σ Q := fun ok fz s E v w x hv hw => by cases hv; cases hw; exact lshift_int_small hn hb ha (.tok x (.int _ _) h)
theorem t2_shr (hn : 0 ≤ b) (h : Q (.int (a.fdiv (2 ^ b.toNat))) σ) : T2 C n f (binaryOp .RShift) (.int a) (.int b) m σ Q := fun ok fz s E v w x hv hw => by cases hv; cases hw; exact rshift_int hn (.tok x (.int _ _) h)
theorem t1_neg (h : Q (.int (-a)) σ) : T1 C n f (unaryOp .USub) (.int a) m σ Q := fun ok fz s E v x hv => by cases hv; exact PyProof.Rows.neg_int (.tok x (.int _ _) h)
theorem t2_eq (h : Q (.bool (a == b)) σ) : T2 C n f (compareOp .Eq) (.int a) (.int b) m σ Q := fun ok fz s E v w x hv hw => by cases hv; cases hw; exact PyProof.Rows.eq_int (.here x (.bool _) h)
theorem t2_ne (h : Q (.bool (a != b)) σ) : T2 C n f (compareOp .NotEq) (.int a) (.int b) m σ Q := fun ok fz s E v w x hv hw => by cases hv; cases hw; exact PyProof.Rows.ne_int (.here x (.bool _) h)
theorem t2_lt (h : Q (.bool (decide (a < b))) σ) : T2 C n f (compareOp .Lt) (.int a) (.int b) m σ Q := fun ok fz s E v w x hv hw => by cases hv; cases hw; exact PyProof.Rows.lt_int (.here x (.bool _) h)
theorem t2_gt (h : Q (.bool (decide (b < a))) σ) : T2 C n f (compareOp .Gt) (.int a) (.int b) m σ Q := fun ok fz s E v w x hv hw => by cases hv; cases hw; exact PyProof.Rows.gt_int (.here x (.bool _) h)
end

/-! ## None -/
def isNone : AVal → Option Bool
  | .none => some true
  | .raw _ => Option.none
  | _ => some false
theorem isNone_ok {P : Addr → Obj → Prop} {v : Value} {a : AVal} {b : Bool} (h : V P v a) (e : isNone a = some b) : (v == Value.none) = b := by
  cases h <;> simp [isNone] at e <;> subst e <;> rfl
theorem t2_isNone {a : AVal} {b : Bool} {Q : AVal → AHeap → Prop} (e : isNone a = some b) (h : Q (.bool b) σ) : T2 C n f (compareOp .Is) a .none m σ Q := fun ok fz s E v w x hv hw => by
  have := isNone_ok hv e
  cases hw; exact is_none (by rw [this]; exact .here x (.bool _) h)
theorem t2_isNotNone {a : AVal} {b : Bool} {Q : AVal → AHeap → Prop} (e : isNone a = some b) (h : Q (.bool (!b)) σ) : T2 C n f (compareOp .IsNot) a .none m σ Q := fun ok fz s E v w x hv hw => by
  have := isNone_ok hv e
  cases hw; exact isNot_none (by rw [this]; exact .here x (.bool _) h)

/-! ## builtins called -/
theorem keep_builtin {h : Heap} {i : String} : Keep C h (.builtin i) := ⟨.machine, .inr (.inl rfl), Looks.of_pure rfl⟩
theorem keep_type {h : Heap} {i : String} : Keep C h (.type i) := ⟨.machine, .inr (.inl rfl), Looks.of_pure rfl⟩
theorem tc_range1 {a : Int} {Q : AVal → AHeap → Prop} (h : Q (.rng 0 a 1) σ) : TC C n f (.raw (.type "range")) [.int a] m σ Q := fun ok fz s E v vs x hv hvs => by
  cases hv; obtain _ | ⟨h1, h2⟩ := hvs; cases h2; cases h1
  exact ⟨keep_type, call_range_1 (.push x rfl (fun fz' h _ => .rng (.inl h)) h)⟩
theorem tc_range2 {a b : Int} {Q : AVal → AHeap → Prop} (h : Q (.rng a b 1) σ) : TC C n f (.raw (.type "range")) [.int a, .int b] m σ Q := fun ok fz s E v vs x hv hvs => by
  cases hv; obtain _ | ⟨h1, h2⟩ := hvs; obtain _ | ⟨h2, h3⟩ := h2; cases h3; cases h1; cases h2
  exact ⟨keep_type, call_range_2 (.push x rfl (fun fz' h _ => .rng (.inl h)) h)⟩
theorem tc_range3 {a b c : Int} {Q : AVal → AHeap → Prop} (hc : c ≠ 0) (hs : c.natAbs < 1073741824) (h : Q (.rng a b c) σ) : TC C n f (.raw (.type "range")) [.int a, .int b, .int c] m σ Q := fun ok fz s E v vs x hv hvs => by
  cases hv; obtain _ | ⟨h1, h2⟩ := hvs; obtain _ | ⟨h2, h3⟩ := h2; obtain _ | ⟨h3, h4⟩ := h3; cases h4; cases h1; cases h2; cases h3
  exact ⟨keep_type, call_range_3 hc (.push x rfl (fun fz' h _ => .rng (.inl h)) h) (.inl (PyProof.noPylong_small hs))⟩

/-! ## iterators -/
theorem SX.ofPush {fz : Fz} {s : Shared} {o : Obj} {t : Nat} (x : SR C f fz m σ s) : SX C f fz m σ [s.heap.objs.size] { s with heap := s.heap.push o, toks := t } := by
  obtain ⟨mc, news, δ, F, N, R, e⟩ := x
  obtain ⟨oL, a1, a2, hL, a3⟩ := id F.ns
  refine ⟨mc, news, δ, F.push o, fun p hp => ⟨Heap.get?_push_of_some _ (N p hp).1, (N p hp).2⟩, R, e, fun p hp hm => ?_, fun hm => ?_, fun b hb => ?_⟩
  · exact absurd (news_lt N hp) (by rw [List.mem_singleton.mp hm]; exact Nat.lt_irrefl _)
  · exact absurd (Heap.lt_size hL) (by rw [List.mem_singleton.mp hm]; exact Nat.lt_irrefl _)
  · rw [List.mem_singleton.mp hb]
    cases q : f.h₀.get? s.heap.objs.size with
    | none => rfl
    | some o => exact absurd (Heap.lt_size (F.keep _ _ q)) (Nat.lt_irrefl _)
theorem ti_lst {xs : List AVal} {Q : (AHeap → AHeap) → List AVal → AHeap → Prop} (h : Q id xs σ) : TI C n f (.lst xs) m σ Q := fun ok fz s E v x hv => by
  cases hv with
  | lst p1 p2 p3 p4 =>
    rename_i l o k vs
    have ho := x.at_ ok p1
    have hl : s.heap.IsList l vs.toArray := ⟨_, ho, p2, _, p3⟩
    have hne : l ≠ s.heap.objs.size := Nat.ne_of_lt (Heap.lt_size ho)
    refine wpAny_pyIter_list hl ?_
    have W := Walks.list (prog := C.prog) (w := C.w) ok.handled s.heap.objs.size l hne vs.toArray
    refine ⟨fz, σ, s.heap.objs.size, [s.heap.objs.size], xs, fun i h => h.IsListIter s.heap.objs.size l i ∧ h.IsList l vs.toArray, fun _ => True, id, rfl, sub_refl, ⟨_, s.toks, rfl⟩, SX.ofPush (t := s.toks) x, ⟨?_, ?_, ?_, ?_, fun _ _ _ => trivial, fun _ _ _ _ _ x _ => x.sr⟩, ⟨⟨_, Heap.get?_push_size _ rfl, rfl, rfl⟩, hl.at fun o e => Heap.get?_push_of_some _ e⟩, h⟩
    · intro i s Q E y hy hs hQ
      have hi : i < vs.toArray.size := by rw [List.size_toArray, p4.length]; exact (List.getElem?_eq_some_iff.mp hy).1
      refine W.item i s Q E hi hs fun v h' tk hv => hQ v h' tk ?_
      obtain ⟨u, h1, h2⟩ := p4.get hy
      have : vs[i]? = some v := by simpa using hv
      rw [h1] at this; cases this; exact h2
    · intro s Q E hs hQ
      have hz : vs.toArray.size = xs.length := by rw [List.size_toArray, p4.length]
      refine W.done s Q E (by rw [hz]; exact hs) fun h' tk k => hQ h' tk k trivial
    · intro i h hs b hb
      rw [List.mem_singleton.mp hb]
      obtain ⟨o, h1, _⟩ := hs.1; exact ⟨o, h1⟩
    · intro i h h' hs hw hp
      exact ⟨hs.1.at fun o e => hw _ (List.mem_singleton.mpr rfl) o e, ⟨_, hp _ _ (.inl p1), p2, _, p3⟩⟩
def rngL (a c : Int) (k : Nat) : List AVal := (List.range k).map fun (i : Nat) => AVal.int (a + (i : Int) * c)
theorem ti_rng {a b c : Int} {k : Nat} {Q : (AHeap → AHeap) → List AVal → AHeap → Prop} (hsmall : Builtin.Range.small a b c = true) (hk : Builtin.Range.rangeSize a b c = (k : Int)) (h : Q id (rngL a c k) σ) : TI C n f (.rng a b c) m σ Q := fun ok fz s E v x hv => by
  cases hv with
  | rng p1 =>
    have ho := x.at_ ok p1
    refine wpAny_pyIter_range ho hsmall ?_
    have W := Walks.range (prog := C.prog) (w := C.w) ok.handled s.heap.objs.size a c k
    have hlen : (rngL a c k).length = k := by simp [rngL]
    refine ⟨fz, σ, s.heap.objs.size, [s.heap.objs.size], rngL a c k, fun i h => IsRangeIter h s.heap.objs.size (a + (i : Nat) * c) ((k : Int) - (i : Nat)) c, fun _ => True, id, rfl, sub_refl, ⟨_, s.toks, rfl⟩, SX.ofPush (t := s.toks) x, ⟨?_, ?_, ?_, ?_, fun _ _ _ => trivial, fun _ _ _ _ _ x _ => x.sr⟩, ?_, h⟩
    · intro i s Q E y hy hs hQ
      have hi : i < k := by have := (List.getElem?_eq_some_iff.mp hy).1; omega
      refine W.item i s Q E hi hs fun v h' tk hv => hQ v h' tk ?_
      obtain ⟨t, rfl⟩ := hv
      have : y = .int (a + i * c) := by simp [rngL, hi] at hy; exact hy.symm
      subst this
      exact .int _ _
    · intro s Q E hs hQ
      exact W.done s Q E (by rw [hlen] at hs; exact hs) fun h' tk k => hQ h' tk k trivial
    · intro i h hs b hb
      rw [List.mem_singleton.mp hb]
      exact ⟨_, hs⟩
    · intro i h h' hs hw hp
      exact hw _ (List.mem_singleton.mpr rfl) _ hs
    · show IsRangeIter _ _ _ _ _
      rw [hk]
      simpa using Heap.get?_push_size s.heap (o := { cls := .type "range_iterator", data := .fields #[rawInt a, rawInt k, rawInt c] }) rfl
theorem w1_for {y : Str} {py : Pos} {iter : Expr} {body : List Stmt} {pos : Pos} {Q : AFlow → AEnv → AHeap → Prop} (Inv : List AVal → AEnv → AHeap → Prop)
    (h : WI C n f iter m σ fun back xs σ₂ => back = id ∧ Inv xs m σ₂)
    (turn : ∀ pin x xs m' σ', Inv (x :: xs) m' σ' → TS C n (f.withPin pin) y x m' σ' fun m₁ σ₁ => WS C n (f.withPin pin) body m₁ σ₁ (Turn id (Inv xs) Q))
    (done : ∀ m' σ', Inv [] m' σ' → Q .next m' σ') (hs : ∀ x, foldedSetIterable iter f.env x = pure x := by intro _; rfl) : W1 C n f (.For (.Name y py) iter body [] pos) m σ Q := by
  refine w1_forB (fun back xs m σ => back = id ∧ Inv xs m σ) h (fun back pin x xs m' σ' ⟨e, q⟩ => ?_) (fun back m' σ' ⟨e, q⟩ => by subst e; exact done _ _ q) hs
  subst e
  have key : Turn id (Inv xs) Q = Turn id (fun m σ => id = (id : AHeap → AHeap) ∧ Inv xs m σ) Q := by
    funext a m σ; cases a <;> simp [Turn]
  rw [← key]
  exact turn pin x xs m' σ' q
end
end Mine

open PySem PySem.W PyProof.Rows PySem.Calls
namespace Mine
section
variable {C : Cx} {n : Nat} {f : Fm} {m : AEnv} {σ : AHeap}
theorem HR.addFz {fz pin : Fz} {δ : Addr → Addr} {news : List (Addr × Obj)} (R : HR C fz pin σ δ news) (new : Fz) (hn : ∀ p ∈ new, ∀ q ∈ news, q.1 ≠ p.1) : HR C (new ++ fz) pin σ δ (new ++ news) := by
  have up : ∀ p ∈ fz, p ∈ new ++ fz := fun p hp => List.mem_append_right _ hp
  have split : ∀ p ∈ (new ++ fz) ++ pin, p ∈ new ∨ p ∈ fz ++ pin := fun p hp => by rw [List.append_assoc] at hp; exact List.mem_append.mp hp
  refine ⟨fun p hp => ?_, fun p hp q hq => ?_, fun a ao h => (R.ob a ao h).mono (fun _ _ => At.mono up) (fun _ q => List.mem_append_right _ q) fun _ _ _ _ q => List.mem_append_right _ q, fun a ao h p hp => ?_, fun a c as h p hp => ?_, R.dσ, R.dinj⟩
  · rcases split p hp with hp | hp
    · exact List.mem_append_left _ hp
    · exact List.mem_append_right _ (R.sub _ hp)
  · rcases List.mem_append.mp hp with hp | hp
    · exact fun e => hn p hp q (R.sub _ (List.mem_append_right _ hq)) e.symm
    · exact R.apart p hp q hq
  · rcases split p hp with hp | hp
    · obtain ⟨o, ho⟩ := (R.ob a ao h).key; exact fun q => hn p hp _ ho q.symm
    · exact R.off a ao h p hp
  · rcases split p hp with hp | hp
    · obtain ⟨_, es, k, ho, _⟩ := R.ob a _ h; exact fun q => hn p hp _ ho q.symm
    · exact R.doff a c as h p hp
theorem ER.up {fz fz' : Fz} {mc : Str → Option Value} (h : ∀ p ∈ fz, p ∈ fz') (e : ER (At C fz) m mc) : ER (At C fz') m mc := fun y a hy => by obtain ⟨v, h1, h2⟩ := e y a hy; exact ⟨v, h1, h2.up h⟩

/-! ## instances -/
theorem tc_fin {c : Addr} {Q : AVal → AHeap → Prop} (hk : keepIn C.K (.ref c) = true) (hm : makesIn C.K c = true) (hi : findIn C.K (.ref c) "__init__" = some (some (.builtin "object.__init__"))) (h : Q (.fin c) σ) : TC C n f (.raw (.ref c)) [] m σ Q := fun ok fz s E v vs x hv hvs => by
  cases hv; cases hvs
  refine ⟨keep_K ok x hk, ?_⟩
  obtain ⟨mc, news, δ, F, N, R, e⟩ := x
  refine call_cls0 F ok.kin N hm hi fun y d h' F' N' l1 l2 => ?_
  have hn : ∀ p ∈ [(y, instObj c d), (d, dictOf [] 0)], ∀ q ∈ news, q.1 ≠ p.1 := fun p hp q hq => by
    have := l1 q hq
    rcases List.mem_cons.mp hp with rfl | hp
    · exact Nat.ne_of_lt (Nat.lt_trans this l2)
    · rw [List.mem_singleton.mp hp]; exact Nat.ne_of_lt this
  have up : ∀ p ∈ fz, p ∈ [(y, instObj c d), (d, dictOf [] 0)] ++ fz := fun p hp => List.mem_append_right _ hp
  exact ⟨[(y, instObj c d), (d, dictOf [] 0)] ++ fz, σ, .fin c, up, ⟨h', s.toks, rfl⟩, ⟨mc, _, δ, F', N', R.addFz _ hn, e.up up⟩, .fin (.inl (List.mem_append_left _ (List.mem_cons_self ..))) (.inl (List.mem_append_left _ (List.mem_cons_of_mem _ (List.mem_cons_self ..)))), h⟩
theorem HR.addInst {fz pin : Fz} {δ : Addr → Addr} {news : List (Addr × Obj)} {y d c : Addr} (R : HR C fz pin σ δ news) (l1 : ∀ q ∈ news, q.1 < d) (l2 : d < y) :
    HR C fz pin (σ.set y (.inst c [])) (fun b => if b = y then d else δ b) ((y, instObj c d) :: (d, dictOf [] 0) :: news) := by
  have ny : ∀ q ∈ news, q.1 ≠ y := fun q hq => Nat.ne_of_lt (Nat.lt_trans (l1 q hq) l2)
  have nd : ∀ q ∈ news, q.1 ≠ d := fun q hq => Nat.ne_of_lt (l1 q hq)
  have ky : ∀ b bo, σ b = some bo → b ≠ y ∧ b ≠ d := fun b bo hb => by obtain ⟨o, h⟩ := (R.ob b bo hb).key; exact ⟨ny _ h, nd _ h⟩
  have kd : ∀ b c as, σ b = some (.inst c as) → δ b ≠ y ∧ δ b ≠ d := fun b c as hb => by obtain ⟨_, es, k, h, _⟩ := R.ob b _ hb; exact ⟨ny _ h, nd _ h⟩
  have hσd : σ d = none := by
    cases q : σ d with
    | none => rfl
    | some o => exact absurd rfl (ky d o q).2
  have hne : y ≠ d := Nat.ne_of_gt l2
  refine ⟨fun p hp => .tail _ (.tail _ (R.sub p hp)), R.apart, fun b bo hb => ?_, fun b bo hb p hp => ?_, fun b c₁ as hb p hp => ?_, fun b c₁ as hb => ?_, fun b c₁ as b' c' bs h1 h2 => ?_⟩
  · by_cases q : b = y
    · subst q; rw [AHeap.set_same] at hb; cases hb
      rw [if_pos rfl]
      exact ⟨List.mem_cons_self .., [], 0, .tail _ (List.mem_cons_self ..), .nil⟩
    · rw [AHeap.set_ne _ _ q] at hb
      rw [if_neg q]
      exact (R.ob b bo hb).mono (fun _ _ x => x) (fun _ hm => .tail _ (.tail _ hm)) fun c as eb _ hm => .tail _ (.tail _ hm)
  · by_cases q : b = y
    · subst q; exact ny _ (R.sub p hp)
    · rw [AHeap.set_ne _ _ q] at hb; exact R.off b bo hb p hp
  · by_cases q : b = y
    · rw [if_pos q]; exact nd _ (R.sub p hp)
    · rw [AHeap.set_ne _ _ q] at hb; rw [if_neg q]; exact R.doff b c₁ as hb p hp
  · by_cases q : b = y
    · rw [if_pos q, AHeap.set_ne _ _ (Ne.symm hne)]; exact hσd
    · rw [AHeap.set_ne _ _ q] at hb; rw [if_neg q, AHeap.set_ne _ _ (kd b c₁ as hb).1]; exact R.dσ b c₁ as hb
  · by_cases q : b = y <;> by_cases q' : b' = y
    · intro _; rw [q, q']
    · rw [AHeap.set_ne _ _ q'] at h2; rw [if_pos q, if_neg q']; exact fun e => absurd e.symm (kd b' c' bs h2).2
    · rw [AHeap.set_ne _ _ q] at h1; rw [if_neg q, if_pos q']; exact fun e => absurd e (kd b c₁ as h1).2
    · rw [AHeap.set_ne _ _ q] at h1; rw [AHeap.set_ne _ _ q'] at h2; rw [if_neg q, if_neg q']; exact R.dinj b c₁ as b' c' bs h1 h2
theorem HR.noneAt {fz pin : Fz} {δ : Addr → Addr} {news : List (Addr × Obj)} {y : Addr} (R : HR C fz pin σ δ news) (l : ∀ q ∈ news, q.1 ≠ y) : σ y = none := by
  cases q : σ y with
  | none => rfl
  | some o => obtain ⟨o, h⟩ := (R.ob y o q).key; exact absurd rfl (l _ h)
/-- an instance without __init__, that may change -/
theorem tc_inst0 {c : Addr} {Q : AVal → AHeap → Prop} (hk : keepIn C.K (.ref c) = true) (hm : makesIn C.K c = true) (hi : findIn C.K (.ref c) "__init__" = some (some (.builtin "object.__init__"))) (h : ∀ a, σ a = none → Q (.obj a) (σ.set a (.inst c []))) :
    TC C n f (.raw (.ref c)) [] m σ Q := fun ok fz s E v vs x hv hvs => by
  cases hv; cases hvs
  refine ⟨keep_K ok x hk, ?_⟩
  obtain ⟨mc, news, δ, F, N, R, e⟩ := x
  refine call_cls0 F ok.kin N hm hi fun y d h' F' N' l1 l2 => ?_
  exact ⟨fz, _, .obj y, sub_refl, ⟨h', s.toks, rfl⟩, ⟨mc, _, _, F', N', R.addInst l1 l2, e⟩, .obj y, h y (R.noneAt fun q hq => Nat.ne_of_lt (Nat.lt_trans (l1 q hq) l2))⟩
/-- an instance with an own __init__ -/
theorem tc_inst {c g : Addr} {as : List AVal} {Q : AVal → AHeap → Prop} (hk : keepIn C.K (.ref c) = true) (hm : makesIn C.K c = true) (hi : findIn C.K (.ref c) "__init__" = some (some (.ref g))) (hf : isFn C.K (.ref g) = true)
    (h : ∀ a, σ a = none → Fn C n g (.obj a :: as) (σ.set a (.inst c [])) fun r σ' => r = .none ∧ Q (.obj a) σ') : TC C n f (.raw (.ref c)) as m σ Q := fun ok fz s E v vs x hv hvs => by
  cases hv
  refine ⟨keep_K ok x hk, ?_⟩
  obtain ⟨mc, news, δ, F, N, R, e⟩ := x
  refine call_cls F ok.kin N hm hi hf fun y d h' F' N' l1 l2 => ?_
  have x' : SR C f fz m (σ.set y (.inst c [])) { s with heap := h' } := ⟨mc, _, _, F', N', R.addInst l1 l2, e⟩
  have hn : Near f (f.A.under (.builtin "type.__call__" ⟨.ref c :: vs, []⟩)) := ⟨rfl, rfl, rfl, by show f.A.depth + 1 ≤ _; omega, by show f.A.units + 1 ≤ _; omega⟩
  refine codeAny_mono (h y (R.noneAt fun q hq => Nat.ne_of_lt (Nat.lt_trans (l1 q hq) l2)) f m _ ok hn fz _ (.ref y :: vs) x' (.cons (.obj y) hvs)) fun r s' ⟨v, er, fz', σ', a, u, es, x2, va, q0, q⟩ => ?_
  subst er; subst q0
  cases va
  exact ⟨rfl, fz', σ', .obj y, u, Same.trans ⟨h', s.toks, rfl⟩ es, x2, .obj y, q⟩

/-! ## type, is -/
theorem tc_type_int {i : Int} {Q : AVal → AHeap → Prop} (h : Q (.raw (.type "int")) σ) : TC C n f (.raw (.type "type")) [.int i] m σ Q := fun ok fz s E v vs x hv hvs => by
  cases hv; obtain _ | ⟨h1, h2⟩ := hvs; cases h2; cases h1
  exact ⟨keep_type, call_type_of (typeIs_int s _ _) (by decide) (.here x (.raw _) h)⟩
theorem t2_isRaw {a b : Value} {Q : AVal → AHeap → Prop} (hp : plainIs a b = true) (h : Q (.bool (a == b)) σ) : T2 C n f (compareOp .Is) (.raw a) (.raw b) m σ Q := fun ok fz s E v w x hv hw => by
  cases hv; cases hw; exact wpAny_is_plain hp (.here x (.bool _) h)
theorem t2_isNotRaw {a b : Value} {Q : AVal → AHeap → Prop} (hp : plainIs a b = true) (h : Q (.bool (!(a == b))) σ) : T2 C n f (compareOp .IsNot) (.raw a) (.raw b) m σ Q := fun ok fz s E v w x hv hw => by
  cases hv; cases hw; exact wpAny_isNot_plain hp (.here x (.bool _) h)

/-! ## functions of ints -/
theorem tc_divmod {a b : Int} {Q : AVal → AHeap → Prop} (hb : b ≠ 0) (hs : b.natAbs < 1073741824) (h : Q (.tup [.int (a.fdiv b), .int (a.fmod b)]) σ) : TC C n f (.raw (.builtin "divmod")) [.int a, .int b] m σ Q := fun ok fz s E v vs x hv hvs => by
  cases hv; obtain _ | ⟨h1, h2⟩ := hvs; obtain _ | ⟨h2, h3⟩ := h2; cases h3; cases h1; cases h2
  refine ⟨keep_builtin, divmod_int hb ?_ (.inl (PyProof.noPylong_small hs))⟩
  exact PV.push (t := s.toks + 1 + 1) x rfl (fun fz' hm _ => .tup (vs := [.int (a.fdiv b) s.toks, .int (a.fmod b) (s.toks + 1)]) (.inl hm) rfl rfl (.cons (.int _ _) (.cons (.int _ _) .nil))) h
theorem tc_max {a b : Int} {Q : AVal → AHeap → Prop} (h : Q (.int (if b > a then b else a)) σ) : TC C n f (.raw (.builtin "max")) [.int a, .int b] m σ Q := fun ok fz s E v vs x hv hvs => by
  cases hv; obtain _ | ⟨h1, h2⟩ := hvs; obtain _ | ⟨h2, h3⟩ := h2; cases h3; cases h1; cases h2
  refine ⟨keep_builtin, max_two_ints ok.handled fun h' tk k => ?_⟩
  refine PV.grow x k ?_ h
  split <;> exact .int _ _
theorem tc_min {a b : Int} {Q : AVal → AHeap → Prop} (h : Q (.int (if b < a then b else a)) σ) : TC C n f (.raw (.builtin "min")) [.int a, .int b] m σ Q := fun ok fz s E v vs x hv hvs => by
  cases hv; obtain _ | ⟨h1, h2⟩ := hvs; obtain _ | ⟨h2, h3⟩ := h2; cases h3; cases h1; cases h2
  refine ⟨keep_builtin, min_two_ints ok.handled fun h' tk k => ?_⟩
  refine PV.grow x k ?_ h
  split <;> exact .int _ _

/-! ## lists -/
theorem SR.newFz {fz : Fz} {s : Shared} (x : SR C f fz m σ s) : ∃ mc news, Fr f.h₀ f.L s.heap mc ∧ News f.h₀ f.L s.heap news ∧
    ∀ h' t o, Fr f.h₀ f.L h' mc → News f.h₀ f.L h' ((s.heap.objs.size, o) :: news) → SR C f ([(s.heap.objs.size, o)] ++ fz) m σ { s with heap := h', toks := t } := by
  obtain ⟨mc, news, δ, F, N, R, e⟩ := x
  refine ⟨mc, news, F, N, fun h' t o F' N' => ⟨mc, _, δ, F', N', R.addFz [(s.heap.objs.size, o)] fun p hp q hq => ?_, e.up fun p hp => List.mem_append_right _ hp⟩⟩
  rw [List.mem_singleton.mp hp]
  exact Nat.ne_of_lt (news_lt N hq)
theorem SR.newL {fz : Fz} {s : Shared} (x : SR C f fz m σ s) : ∃ mc news, Fr f.h₀ f.L s.heap mc ∧ News f.h₀ f.L s.heap news ∧ σ s.heap.objs.size = none ∧
    ∀ h' t vs k xs, Fr f.h₀ f.L h' mc → News f.h₀ f.L h' ((s.heap.objs.size, listOf vs.toArray k) :: news) → Vs (At C fz) vs xs → SR C f fz m (σ.set s.heap.objs.size (.list xs)) { s with heap := h', toks := t } := by
  have hf := x.fresh (Nat.le_refl _)
  obtain ⟨mc, news, δ, F, N, R, e⟩ := x
  refine ⟨mc, news, F, N, hf, fun h' t vs k xs F' N' hv => ⟨mc, (s.heap.objs.size, listOf vs.toArray k) :: news, δ, F', N', ?_, e⟩⟩
  have nn : ∀ q ∈ news, q.1 ≠ s.heap.objs.size := fun q hq => Nat.ne_of_lt (news_lt N hq)
  have keep : ∀ {b c as}, σ.set s.heap.objs.size (.list xs) b = some (.inst c as) → b ≠ s.heap.objs.size ∧ σ b = some (.inst c as) := fun {b c as} hb => by
    by_cases q : b = s.heap.objs.size
    · subst q; rw [AHeap.set_same] at hb; cases hb
    · rw [AHeap.set_ne _ _ q] at hb; exact ⟨q, hb⟩
  have dn : ∀ b c as, σ b = some (.inst c as) → δ b ≠ s.heap.objs.size := fun b c as hb => by obtain ⟨_, es, n, h, _⟩ := R.ob b _ hb; exact nn _ h
  refine ⟨fun p hp => .tail _ (R.sub p hp), R.apart, fun b bo hb => ?_, fun b bo hb p hp => ?_, fun b c as hb p hp => R.doff b c as (keep hb).2 p hp, fun b c as hb => ?_, fun b c as b' c' bs h1 h2 => R.dinj b c as b' c' bs (keep h1).2 (keep h2).2⟩
  · by_cases q : b = s.heap.objs.size
    · subst q; rw [AHeap.set_same] at hb; cases hb; exact ⟨vs, k, List.mem_cons_self .., hv⟩
    · rw [AHeap.set_ne _ _ q] at hb
      exact (R.ob b bo hb).mono (fun _ _ x => x) (fun _ hm => .tail _ hm) fun c as eb _ hm => .tail _ hm
  · by_cases q : b = s.heap.objs.size
    · subst q; exact nn _ (R.sub p hp)
    · rw [AHeap.set_ne _ _ q] at hb; exact R.off b bo hb p hp
  · rw [AHeap.set_ne _ _ (dn b c as (keep hb).2)]; exact R.dσ b c as (keep hb).2
/-- a list, frozen or not: its items now -/
def items (σ : AHeap) : AVal → Option (List AVal)
  | .lst xs => some xs
  | .obj a => match σ a with
    | some (.list xs) => some xs
    | _ => none
  | _ => none
theorem V.items {fz : Fz} {s : Shared} (ok : f.Ok C n) (x : SR C f fz m σ s) {v : Value} {a : AVal} {xs : List AVal} (h : V (At C fz) v a) (e : items σ a = some xs) : ∃ l vs, v = .ref l ∧ s.heap.IsList l vs.toArray ∧ Vs (At C fz) vs xs := by
  cases h with
  | obj a =>
    have e' : (match σ a with | some (.list xs) => some xs | _ => Option.none) = some xs := e
    split at e'
    · rename_i ys hs; cases e'
      obtain ⟨vs, k, h1, h2⟩ := x.list hs
      exact ⟨a, vs, rfl, ⟨_, h1, rfl, _, rfl⟩, h2⟩
    · cases e'
  | lst h1 h2 h3 h4 => cases e; exact ⟨_, _, rfl, ⟨_, x.at_ ok h1, h2, _, h3⟩, h4⟩
  | _ => cases e
theorem t2_cat {a b : AVal} {xs ys : List AVal} {Q : AVal → AHeap → Prop} (ha : items σ a = some xs) (hb : items σ b = some ys) (hl : xs.length + ys.length ≤ sizeLine) (h : Q (.lst (xs ++ ys)) σ) : T2 C n f (binaryOp .Add) a b m σ Q := fun ok fz s E v w x hv hw => by
  obtain ⟨l, vs, rfl, hlv, hvs⟩ := hv.items ok x ha
  obtain ⟨l', ws, rfl, hlw, hws⟩ := hw.items ok x hb
  obtain ⟨mc, news, F, N, k⟩ := x.newFz
  refine add_lists F N hlv hlw (fun h' F' N' => ?_) (by rw [hvs.length, hws.length]; exact hl)
  exact ⟨_, σ, .lst (xs ++ ys), fun p hp => List.mem_append_right _ hp, ⟨h', s.toks, rfl⟩, k h' s.toks _ F' N', .lst (.inl (List.mem_append_left _ (List.mem_singleton.mpr rfl))) rfl rfl ((hvs.append hws).up fun p hp => List.mem_append_right _ hp), h⟩
theorem t2_catM {a b : AVal} {xs ys : List AVal} {Q : AVal → AHeap → Prop} (ha : items σ a = some xs) (hb : items σ b = some ys) (hl : xs.length + ys.length ≤ sizeLine) (h : ∀ l, σ l = none → Q (.obj l) (σ.set l (.list (xs ++ ys)))) : T2 C n f (binaryOp .Add) a b m σ Q := fun ok fz s E v w x hv hw => by
  obtain ⟨l, vs, rfl, hlv, hvs⟩ := hv.items ok x ha
  obtain ⟨l', ws, rfl, hlw, hws⟩ := hw.items ok x hb
  obtain ⟨mc, news, F, N, hno, k⟩ := x.newL
  refine add_lists F N hlv hlw (fun h' F' N' => ?_) (by rw [hvs.length, hws.length]; exact hl)
  exact ⟨fz, _, .obj s.heap.objs.size, sub_refl, ⟨h', s.toks, rfl⟩, k h' s.toks _ 0 _ F' N' (hvs.append hws), .obj _, h _ hno⟩
theorem tc_len {a : AVal} {xs : List AVal} {Q : AVal → AHeap → Prop} (ha : items σ a = some xs) (hl : xs.length < 2 ^ 62) (h : Q (.int xs.length) σ) : TC C n f (.raw (.builtin "len")) [a] m σ Q := fun ok fz s E v vs x hv hvs => by
  cases hv; obtain _ | ⟨h1, h2⟩ := hvs; cases h2
  obtain ⟨l, us, rfl, hlv, hus⟩ := h1.items ok x ha
  have e : us.toArray.size = xs.length := by rw [List.size_toArray, hus.length]
  refine ⟨keep_builtin, len_list hlv (by rw [e]; omega) ?_⟩
  rw [e]
  exact .tok x (.int _ _) h
theorem carried_rng {P : Addr → Obj → Prop} : ∀ {ys : List Value} {is : List Int}, CarriedAll ys (is.map .int) → Vs P ys (is.map .int)
  | _, [], h => by cases h; exact .nil
  | _, i :: is, h => by
    cases h with
    | cons h1 h2 => cases h1; exact .cons (.int _ _) (carried_rng h2)
theorem tc_list_rng {a b c : Int} {k : Nat} {Q : AVal → AHeap → Prop} (hsmall : Builtin.Range.small a b c = true) (hk : Builtin.Range.rangeSize a b c = (k : Int)) (hl : k ≤ 2 ^ 24) (h : Q (.lst ((rangeInts a c k).map .int)) σ) : TC C n f (.raw (.type "list")) [.rng a b c] m σ Q := fun ok fz s E v vs x hv hvs => by
  cases hv; obtain _ | ⟨h1, h2⟩ := hvs; cases h2
  cases h1 with
  | rng p1 =>
    have ho := x.at_ ok p1
    refine ⟨keep_type, ?_⟩
    have x' := x
    obtain ⟨mc, news, δ, F, N, R, e⟩ := x
    refine list_rangeD ok.handled F N ho hsmall hk hl fun h' tk ys F' N' kk hn hL hP hc => ?_
    obtain ⟨o, ho', hc', nn, hd'⟩ := hL
    exact PV.new (t := tk) x' kk (Nat.le_refl _) ho' (fun fz' hm hu => .lst (.inl hm) hc' hd' (carried_rng hc)) h
end
end Mine

open PySem PySem.W PyProof.Rows PySem.Calls
namespace Mine
section
variable {C : Cx} {n : Nat} {f : Fm} {m : AEnv} {σ : AHeap}
theorem SX.ofFresh {fz : Fz} {s : Shared} {h' : Heap} {t : Nat} {wr : List Addr} (x : SR C f fz m σ s) (k : ∀ b o, s.heap.get? b = some o → h'.get? b = some o) (hw : ∀ b ∈ wr, s.heap.objs.size ≤ b) : SX C f fz m σ wr { s with heap := h', toks := t } := by
  obtain ⟨mc, news, δ, F, N, R, e⟩ := x
  obtain ⟨oL, a1, a2, hL, a3⟩ := id F.ns
  refine ⟨mc, news, δ, F.grownK k, fun p hp => ⟨k _ _ (N p hp).1, (N p hp).2⟩, R, e, fun p hp hm => ?_, fun hm => ?_, fun b hb => ?_⟩
  · exact absurd (news_lt N hp) (Nat.not_lt.mpr (hw _ hm))
  · exact absurd (Heap.lt_size hL) (Nat.not_lt.mpr (hw _ hm))
  · cases q : f.h₀.get? b with
    | none => rfl
    | some o => exact absurd (Heap.lt_size (F.keep _ _ q)) (Nat.not_lt.mpr (hw _ hb))
theorem V.lstD {P : Addr → Obj → Prop} {v : Value} {xs : List AVal} (h : V P v (.lst xs)) : ∃ l o k us, v = .ref l ∧ P l o ∧ o.cls = .type "list" ∧ o.data = .seq (List.toArray us) k ∧ Vs P us xs := by
  cases h with
  | lst p1 p2 p3 p4 => exact ⟨_, _, _, _, rfl, p1, p2, p3, p4⟩
def enumFrom (k : Nat) : List AVal → List (List AVal)
  | [] => []
  | x :: xs => [.int k, x] :: enumFrom (k + 1) xs
theorem enumFrom_length : ∀ {xs : List AVal} {k : Nat}, (enumFrom k xs).length = xs.length
  | [], _ => rfl
  | _ :: xs, k => by simp [enumFrom, enumFrom_length (xs := xs)]
theorem enumFrom_get : ∀ {xs : List AVal} {k i : Nat} {y : List AVal}, (enumFrom k xs)[i]? = some y → ∃ x, xs[i]? = some x ∧ y = [.int ((k + i : Nat) : Int), x]
  | [], _, _, _, h => by simp [enumFrom] at h
  | x :: xs, k, 0, y, h => by simp [enumFrom] at h; exact ⟨x, rfl, by simp [h]⟩
  | x :: xs, k, i + 1, y, h => by
    simp [enumFrom] at h
    obtain ⟨z, h1, h2⟩ := enumFrom_get h
    exact ⟨z, by simpa using h1, by rw [h2, show k + 1 + i = k + (i + 1) by omega]⟩
theorem wit_enum {g : Str} {gp : Pos} {src : Expr} {cp : Pos} {Q : (AHeap → AHeap) → List (List AVal) → AHeap → Prop}
    (h : WE C n f (.Name g gp) m σ fun fv σ₁ => fv = .raw (.type "enumerate") ∧ WL C n f [src] cp m σ₁ fun as σ₂ => ∃ xs, as = [.lst xs] ∧ Q id (enumFrom 0 xs) σ₂)
    (hplain : (backTo cp (starEach [src] f.env)).any (·.1) = false := by rfl) : WIT C n f (.Call (.Name g gp) [src] [] cp) m σ Q := fun ok fz s E x => by
  refine wpAny_Call_ofName (wpAny_mono (h ok fz s E x) (fun v s₁ ⟨fz₁, σ₁, a, u1, e1, x1, va, ea, q1⟩ => ?_) fun _ _ x => x)
  subst ea; cases va
  refine cw (wpAny_mono (q1 ok fz₁ s₁ E x1) (fun vs s₂ ⟨fz₂, σ₂, as, u2, e2, x2, hvs, xs, es, q2⟩ => ?_) fun _ _ x => x) hplain
  subst es
  obtain _ | ⟨h1, h2⟩ := hvs; cases h2
  refine ⟨keep_type, ?_⟩
  obtain ⟨l, o, k, us, rfl, p1, p2, p3, p4⟩ := h1.lstD
  · have ho := x2.at_ ok p1
    have hl : s₂.heap.IsList l us.toArray := ⟨_, ho, p2, _, p3⟩
    have hll : l < s₂.heap.objs.size := Heap.lt_size ho
    refine call_enumerate_list hl fun h' he hit hsz kk => ?_
    have W := (WalksT.enumerate (prog := C.prog) (w := C.w) ok.handled (s₂.heap.objs.size + 1) s₂.heap.objs.size l (Nat.succ_ne_self _) (Nat.ne_of_lt (Nat.lt_succ_of_lt hll)) (Nat.ne_of_lt hll) us.toArray).toU
    have hl' : h'.IsList l us.toArray := hl.at fun o e => kk _ o e
    have st0 : (∃ old, IsEnum h' (s₂.heap.objs.size + 1) s₂.heap.objs.size ((0 : Nat) : Int) old) ∧ h'.IsListIter s₂.heap.objs.size l 0 ∧ h'.IsList l us.toArray := ⟨⟨_, he⟩, hit, hl'⟩
    refine W.self 0 _ _ _ st0 ⟨fz₂, σ₂, s₂.heap.objs.size + 1, [s₂.heap.objs.size + 1, s₂.heap.objs.size], enumFrom 0 xs, (fun i h => (∃ old, IsEnum h (s₂.heap.objs.size + 1) s₂.heap.objs.size i old) ∧ h.IsListIter s₂.heap.objs.size l i ∧ h.IsList l us.toArray), fun _ => True, id, rfl, fun p hp => u2 p (u1 p hp), (e1.trans e2).trans ⟨h', s₂.toks, rfl⟩, SX.ofFresh (t := s₂.toks) x2 kk ?_, ⟨?_, ?_, ?_, ?_, fun _ _ _ => trivial, fun _ _ _ _ _ x _ => x.sr⟩, st0, q2⟩
    · intro b hb
      rcases List.mem_cons.mp hb with rfl | hb
      · omega
      · rw [List.mem_singleton.mp hb]; exact Nat.le_refl _
    · intro i s Q E y hy hs hQ
      obtain ⟨z, hz, rfl⟩ := enumFrom_get hy
      have hi : i < us.toArray.size := by rw [List.size_toArray, p4.length]; exact (List.getElem?_eq_some_iff.mp hz).1
      refine W.item i s Q E hi hs fun T vals h' tk hP hT hm hk => ?_
      obtain ⟨t, u, hu, rfl⟩ := hP
      obtain ⟨w', g1, g2⟩ := p4.get hz
      have hu' : us[i]? = some u := by simpa using hu
      have hwu : w' = u := by rw [g1] at hu'; exact Option.some.inj hu'
      subst hwu
      refine hQ T [.int i t, w'] h' tk (.cons (by simpa using V.int (i : Int) t) (.cons g2 .nil)) hT (W.apart i T h' hm) hk fun ts k pos s₂ Q₂ E₂ e2 hQ2 => ?_
      subst e2
      exact W.go ts k pos i T s₂ Q₂ E₂ hm hQ2
    · intro s Q E hs hQ
      have hz : us.toArray.size = (enumFrom 0 xs).length := by rw [List.size_toArray, p4.length, enumFrom_length]
      exact W.done s Q E (by rw [hz]; exact hs) fun h' tk k => hQ h' tk k trivial
    · intro i h hs b hb
      rcases List.mem_cons.mp hb with rfl | hb
      · obtain ⟨old, h1⟩ := hs.1; exact ⟨_, h1⟩
      · rw [List.mem_singleton.mp hb]; obtain ⟨o, h1, _⟩ := hs.2.1; exact ⟨o, h1⟩
    · intro i h h' hs hw hp
      obtain ⟨⟨old, h1⟩, h2, h3⟩ := hs
      exact ⟨⟨old, hw _ (List.mem_cons_self ..) _ h1⟩, h2.at fun o e => hw _ (List.mem_cons_of_mem _ (List.mem_singleton.mpr rfl)) o e, ⟨_, hp _ _ (.inl p1), p2, _, p3⟩⟩
theorem w1_forT {ts : List Expr} {tk : Nat} {tp : Pos} {iter : Expr} {body : List Stmt} {pos : Pos} {Q : AFlow → AEnv → AHeap → Prop} (Inv : List (List AVal) → AEnv → AHeap → Prop)
    (h : WIT C n f iter m σ fun back xs σ₂ => back = id ∧ Inv xs m σ₂)
    (turn : ∀ pin x xs m' σ', Inv (x :: xs) m' σ' → (assignEach ts f.env).length = x.length ∧ TAs C n (f.withPin pin) ts x m' σ' fun m₁ σ₁ => WS C n (f.withPin pin) body m₁ σ₁ (Turn id (Inv xs) Q))
    (done : ∀ m' σ', Inv [] m' σ' → Q .next m' σ') (hstar : (assignEach ts f.env).findIdx? (·.1) = none := by rfl) (hs : ∀ x, foldedSetIterable iter f.env x = pure x := by intro _; rfl) : W1 C n f (.For (.Tuple ts tk tp) iter body [] pos) m σ Q := by
  refine w1_forTB (fun back xs m σ => back = id ∧ Inv xs m σ) h (fun back pin x xs m' σ' ⟨e, q⟩ => ?_) (fun back m' σ' ⟨e, q⟩ => by subst e; exact done _ _ q) hstar hs
  subst e
  have key : Turn id (Inv xs) Q = Turn id (fun m σ => id = (id : AHeap → AHeap) ∧ Inv xs m σ) Q := by
    funext a m σ; cases a <;> simp [Turn]
  rw [← key]
  exact turn pin x xs m' σ' q
end
end Mine
namespace Mine
section
variable {C : Cx} {n : Nat} {f : Fm} {m : AEnv} {σ : AHeap}
/-! ## methods of lists -/
theorem tg_list {a : Addr} {xs : List AVal} {name : Str} {id : String} {Q : AVal → List AVal → AHeap → Prop} (slot : Slot "list" name id) (hty : typeOf (.builtin id) = pure (.type "method_descriptor")) (ha : σ a = some (.list xs)) (h : Q (.raw (.builtin id)) [.obj a] σ) : TG C n f name (.obj a) m σ Q := fun ok fz s E v pl x hv => by
  cases hv
  obtain ⟨vs, k, h1, h2⟩ := x.list ha
  exact getMethod_list_of slot hty ⟨_, h1, rfl, _, rfl⟩ ⟨_, h1, rfl⟩ ⟨fz, σ, _, _, sub_refl, .rfl, x, .raw _, .cons (.obj a) .nil, h⟩
def scalar : AVal → Bool
  | .none => true
  | .bool _ => true
  | .int _ => true
  | .str _ => true
  | _ => false
def notNone : AVal → Bool
  | .none => false
  | _ => true
theorem tc_indexNone {a : Addr} {xs : List AVal} {j : Nat} {Q : AVal → AHeap → Prop} (ha : σ a = some (.list xs)) (hs : xs.all scalar = true) (hj : xs[j]? = some .none) (hno' : (xs.take j).all notNone = true) (hl : xs.length < 2 ^ 62) (h : Q (.int j) σ) : TC C n f (.raw (.builtin "list.index")) [.obj a, .none] m σ Q := fun ok fz s E v vs x hv hvs => by
  cases hv; obtain _ | ⟨h1, h2⟩ := hvs; obtain _ | ⟨h2, h3⟩ := h2; cases h3; cases h2; cases h1
  obtain ⟨us, k, ho, p4⟩ := x.list ha
  have hlen := p4.length
  have hno : ∀ i, i < j → xs[i]? ≠ some .none := fun i hi e => by
    have := List.all_eq_true.mp hno' .none (List.mem_of_getElem? (i := i) (by rw [List.getElem?_take, if_pos hi]; exact e))
    cases this
  have hjl : j < xs.length := (List.getElem?_eq_some_iff.mp hj).1
  have val : ∀ (i : Nat) (x : AVal), xs[i]? = some x → ∃ u, us[i]? = some u ∧ (u == Value.none) = (match x with | AVal.none => true | _ => false) ∧ SeqAt.EqAt f.A.in1 s u Value.none (u == Value.none) := by
    intro i x hx
    obtain ⟨u, g1, g2⟩ := p4.get hx
    have hsx : scalar x = true := List.all_eq_true.mp hs x (List.mem_of_getElem? hx)
    refine ⟨u, g1, ?_⟩
    cases g2 <;> first | cases hsx | skip
    · exact ⟨rfl, SeqAt.EqAt.same _⟩
    · exact ⟨rfl, SeqAt.EqAt.bool_none _⟩
    · exact ⟨rfl, SeqAt.EqAt.int_none _ _⟩
    · exact ⟨rfl, SeqAt.EqAt.str_none _ _⟩
  refine ⟨keep_builtin, call_meets PySem.F.slot_list_index ⟨_, ho, rfl⟩ PySem.F.entry_list_index (PySem.F.args_list_index_2 _ _)
    (SeqAt.list_indexAt a us.toArray k none #[] .none (fun y => y == Value.none) j (by rw [List.size_toArray]; omega) (by omega) ?_ ?_) ⟨ho, fun y hy => ?_, .tok x (.int _ _) h⟩⟩
  · obtain ⟨u, g1, g2, _⟩ := val j _ hj
    have : us.toArray[j]'(by rw [List.size_toArray]; omega) = u := by
      have := List.getElem?_eq_some_iff.mp g1; simpa using this.2
    rw [this, g2]
  · intro i hi hlt
    have hix : i < xs.length := by rw [List.size_toArray] at hi; omega
    obtain ⟨u, g1, g2, _⟩ := val i xs[i] (List.getElem?_eq_getElem hix)
    have : us.toArray[i] = u := by
      have := List.getElem?_eq_some_iff.mp g1; simpa using this.2
    rw [this, g2]
    have hne := hno i hlt
    rw [List.getElem?_eq_getElem hix] at hne
    split
    · rename_i e; rw [e] at hne; exact absurd rfl hne
    · rfl
  · have hy' : y ∈ us := by simpa using hy
    obtain ⟨i, hi, e⟩ := List.getElem_of_mem hy'
    obtain ⟨u, g1, _, g3⟩ := val i xs[i] (List.getElem?_eq_getElem (by omega))
    have : u = y := by rw [List.getElem?_eq_getElem hi] at g1; rw [← e]; exact (Option.some.inj g1).symm
    subst this
    exact g3
end
end Mine

open PySem PySem.W PyProof.Rows PySem.Calls
namespace Mine
theorem enter {prog : Program} {w : World} {K : Frag} {vp : Program} {loose : List Str} {mean : ExcName → Option Value} {mg mb : Str → Option Value} {H : Heap} {L fa : Addr} {mc : Str → Option Value} {qual : Str} {scope : Scope} {cdv : Value} {body : List Stmt} {s : Shared} {Q : Flow → Shared → Prop} {E : Value → Shared → Prop} {m : AEnv}
    (B : Below callerA H [] H) (X : K.In H) (T : Top vp loose mean mg mb H) (F : Fr H L s.heap mc) (hE : ER (At ⟨prog, w, K, vp, loose, mean, mg, mb, H⟩ []) m mc) (hk : scope.kind = .function)
    (h : ∀ A₀ A base h₀ outer, WS ⟨prog, w, K, vp, loose, mean, mg, mb, H⟩ 20 ⟨A₀, A, base, h₀, outer, L, fa, qual, scope, cdv, [], []⟩ body m (fun _ => none) fun fl _ _ => fl = .ret (.bool true))
    (hQ : ∀ h' tk mc', Fr H L h' mc' → Q (.ret (.bool true)) { s with heap := h', toks := tk }) :
    wpAny (model prog w) (callerA.deeper (envOf qual scope L fa cdv)) (execs body (envOf qual scope L fa cdv)) Q E s := by
  have ok : Fm.Ok ⟨prog, w, K, vp, loose, mean, mg, mb, H⟩ 20 ⟨callerA, callerA.deeper (envOf qual scope L fa cdv), H, H, [], L, fa, qual, scope, cdv, [], []⟩ :=
    ⟨B, X, T, fun _ _ h => h, rfl, rfl, rfl, (show 1 + claimMargin + 1 + 3 * 20 < recursionLimit by decide), (show 4 + 3 + 10 * 20 + 100 < cLine by decide), hk⟩
  have x : SR ⟨prog, w, K, vp, loose, mean, mg, mb, H⟩ ⟨callerA, callerA.deeper (envOf qual scope L fa cdv), H, H, [], L, fa, qual, scope, cdv, [], []⟩ [] m (fun _ => none) s :=
    ⟨mc, [], id, F, News.nil, ⟨fun p hp => (nomatch hp), fun p hp => (nomatch hp), fun a ao e => (nomatch e), fun a ao e => (nomatch e), fun a c as e => (nomatch e), fun a c as e => (nomatch e), fun a c as b c' bs e => (nomatch e)⟩, hE⟩
  refine wpAny_mono (h callerA _ H H [] ok [] s E x) (fun fl s' ⟨fz', σ', m', a, u, es, x2, va, q⟩ => ?_) fun _ _ z => z
  subst q
  cases fl with
  | ret v =>
    cases va
    obtain ⟨h', tk, rfl⟩ := es
    obtain ⟨mc', news, δ, F', N', R, e⟩ := x2
    exact hQ h' tk mc' F'
  | _ => exact va.elim
end Mine
namespace Mine
theorem vs_ints {P : Addr → Obj → Prop} : ∀ {vs : List Value} {ns : List Int}, IntsAre vs ns → Vs P vs (ns.map .int)
  | _, _, .nil => .nil
  | _, _, .cons n t r => .cons (.int n t) (vs_ints r)
theorem enter_law {prog : Program} {w : World} {K : Frag} {vp : Program} {loose : List Str} {mean : ExcName → Option Value} {mg mb : Str → Option Value} {H : Heap} {L fa a : Addr} {vs : List Value} {ns : List Int} {qual : Str} {scope : Scope} {cdv : Value} {body : List Stmt} {s : Shared} {Q : Flow → Shared → Prop} {E : Value → Shared → Prop}
    (B : Below callerA H [] H) (X : K.In H) (T : Top vp loose mean mg mb H) (hL : H.IsList a vs.toArray) (hI : IntsAre vs ns) (F : Fr H L s.heap (fun x => List.lookup x [(Str.ofString "script", Value.ref a)].reverse)) (hk : scope.kind = .function) (hn : ns.length ≤ 63)
    (h : ∀ A₀ A base h₀ outer (ns : List Int), ns.length ≤ 63 → WS ⟨prog, w, K, vp, loose, mean, mg, mb, H⟩ 20 ⟨A₀, A, base, h₀, outer, L, fa, qual, scope, cdv, [], []⟩ body [(Str.ofString "script", .lst (ns.map .int))] (fun _ => none) fun fl _ _ => fl = .ret (.bool true))
    (hQ : ∀ h' tk mc', Fr H L h' mc' → Q (.ret (.bool true)) { s with heap := h', toks := tk }) :
    wpAny (model prog w) (callerA.deeper (envOf qual scope L fa cdv)) (execs body (envOf qual scope L fa cdv)) Q E s := by
  refine enter B X T F (fun y v hy => ?_) hk (fun A₀ A base h₀ outer => h A₀ A base h₀ outer ns hn) hQ
  unfold AEnv.get getA at hy
  by_cases q : (Str.ofString "script" == y) = true
  · rw [if_pos q] at hy; cases hy
    have : Str.ofString "script" = y := by simpa using q
    subst this
    obtain ⟨o, h1, h2, k, h3⟩ := hL
    exact ⟨.ref a, by simp, .lst (.inr h1) h2 h3 (vs_ints hI)⟩
  · rw [if_neg q] at hy; cases hy
end Mine

open PySem PySem.W PyProof.Rows
set_option maxHeartbeats 8000000
namespace Mine
open_top hd04 for PySem.Challenge.rw_dn0301_04
end Mine

open PySem PySem.W PyProof.Rows PySem.Calls
namespace Mine
def Has (m : AEnv) : List (Str × AVal) → Prop
  | [] => True
  | p :: r => m.get p.1 = some p.2 ∧ Has m r
theorem Has.sub {m : AEnv} : ∀ {l : AEnv}, Has m l → ∀ y a, AEnv.get l y = some a → m.get y = some a
  | [], _, _, _, e => by cases e
  | (z, b) :: r, h, y, a, e => by
    unfold AEnv.get getA at e
    by_cases q : (z == y) = true
    · rw [if_pos q] at e; cases e
      have : z = y := by simpa using q
      subst this; exact h.1
    · rw [if_neg q] at e; exact h.2.sub y a e
theorem AHeap.le_refl (σ : AHeap) : σ.le σ := fun _ _ h => h

/-- what the text's top has -/
structure K04 (C : Cx) : Prop where
  hK : C.K = hd04.heap_39 C.w.params
  gL : nsIn C.K mainGlobals (Str.ofString "Locator") = some (some (.ref 52))
  gR : nsIn C.K mainGlobals (Str.ofString "_law_reckoned") = some (some (.ref 63))
  gP : nsIn C.K mainGlobals (Str.ofString "_law_plain") = some (some (.ref 70))
  bEnum : nsIn C.K mainGlobals (Str.ofString "enumerate") = some none
  bList : nsIn C.K mainGlobals (Str.ofString "list") = some none
  bRange : nsIn C.K mainGlobals (Str.ofString "range") = some none
  bType : nsIn C.K mainGlobals (Str.ofString "type") = some none
  bInt : nsIn C.K mainGlobals (Str.ofString "int") = some none
  bDivmod : nsIn C.K mainGlobals (Str.ofString "divmod") = some none
  bMax : nsIn C.K mainGlobals (Str.ofString "max") = some none
  bMin : nsIn C.K mainGlobals (Str.ofString "min") = some none
  kL : keepIn C.K (.ref 52) = true
  kR : keepIn C.K (.ref 63) = true
  kP : keepIn C.K (.ref 70) = true
  k28 : keepIn C.K (.ref 28) = true
  k35 : keepIn C.K (.ref 35) = true
  k42 : keepIn C.K (.ref 42) = true
  k49 : keepIn C.K (.ref 49) = true
  mks : makesIn C.K 52 = true
  ini : findIn C.K (.ref 52) (Str.ofString "__init__") = some (some (.builtin "object.__init__"))
  pg : ∀ name, plainGet C.K 52 name = true
  f28 : findIn C.K (.ref 52) (Str.ofString "getColumnNumber") = some (some (.ref 28))
  f35 : findIn C.K (.ref 52) (Str.ofString "getLineNumber") = some (some (.ref 35))
  f42 : findIn C.K (.ref 52) (Str.ofString "getPublicId") = some (some (.ref 42))
  f49 : findIn C.K (.ref 52) (Str.ofString "getSystemId") = some (some (.ref 49))
  i28 : isFn C.K (.ref 28) = true
  i35 : isFn C.K (.ref 35) = true
  i42 : isFn C.K (.ref 42) = true
  i49 : isFn C.K (.ref 49) = true
set_option profiler true in
theorem k04 {C : Cx} (hK : C.K = hd04.heap_39 C.w.params) : K04 C := by
  obtain ⟨prog, w, K, vp, loose, mean, mg, mb, H⟩ := C
  dsimp only at hK
  subst hK
  constructor <;> first | kernel_rfl | rfl | (intro name; kernel_rfl)
end Mine

open PySem PySem.W PyProof.Rows PySem.Calls
namespace Mine
section
variable {C : Cx} {n : Nat} {σ : AHeap} {Q : AVal → AHeap → Prop} {a : AVal}
theorem ret_le {σ : AHeap} {a : AVal} {Q : AVal → AHeap → Prop} (h : Q a σ) : ∃ σ₂ : AHeap, σ₂.le σ ∧ Q (retOf (.ret a)) σ₂ := ⟨σ, AHeap.le_refl σ, h⟩
theorem ret_le' {σ₂ σ : AHeap} {a : AVal} {Q : AVal → AHeap → Prop} (hl : σ₂.le σ) (h : Q a σ₂) : ∃ σ₂ : AHeap, σ₂.le σ ∧ Q (retOf (.ret a)) σ₂ := ⟨σ₂, hl, h⟩
theorem le_set {σ : AHeap} {l : Addr} {o : AObj} (h : σ l = none) : σ.le (σ.set l o) := fun a b e => by rw [AHeap.set_ne]; exact e; intro q; rw [q, h] at e; cases e
theorem getCol (K : K04 C) (h : Q (.int (-1)) σ) : Fn C (n + 1) 28 [a] σ Q := by
  refine fn_plain (ns := [Str.ofString "self"]) (dv := []) (da := []) (ho := by rw [K.hK]; rfl) (hcd := by rw [K.hK]; kernel_rfl) (hbind := ?_) (hd := fun _ => .nil) (hnd := by decide) (hloc := by decide) (h := ?_)
  · intro S vs hv
    match vs, hv with
    | [v], _ => rfl
  · intro A₀ A base h₀ outer L pin
    exact ws_cons (w1_return (we_unary (we_int (t1_neg (ret_le h)))))
theorem getLine (K : K04 C) (h : Q (.int (-1)) σ) : Fn C (n + 1) 35 [a] σ Q := by
  refine fn_plain (ns := [Str.ofString "self"]) (dv := []) (da := []) (ho := by rw [K.hK]; rfl) (hcd := by rw [K.hK]; kernel_rfl) (hbind := ?_) (hd := fun _ => .nil) (hnd := by decide) (hloc := by decide) (h := ?_)
  · intro S vs hv
    match vs, hv with
    | [v], _ => rfl
  · intro A₀ A base h₀ outer L pin
    exact ws_cons (w1_return (we_unary (we_int (t1_neg (ret_le h)))))
theorem getPub (K : K04 C) (h : Q .none σ) : Fn C (n + 1) 42 [a] σ Q := by
  refine fn_plain (ns := [Str.ofString "self"]) (dv := []) (da := []) (ho := by rw [K.hK]; rfl) (hcd := by rw [K.hK]; kernel_rfl) (hbind := ?_) (hd := fun _ => .nil) (hnd := by decide) (hloc := by decide) (h := ?_)
  · intro S vs hv
    match vs, hv with
    | [v], _ => rfl
  · intro A₀ A base h₀ outer L pin
    exact ws_cons (w1_return (we_none (ret_le h)))
theorem getSys (K : K04 C) (h : Q .none σ) : Fn C (n + 1) 49 [a] σ Q := by
  refine fn_plain (ns := [Str.ofString "self"]) (dv := []) (da := []) (ho := by rw [K.hK]; rfl) (hcd := by rw [K.hK]; kernel_rfl) (hbind := ?_) (hd := fun _ => .nil) (hnd := by decide) (hloc := by decide) (h := ?_)
  · intro S vs hv
    match vs, hv with
    | [v], _ => rfl
  · intro A₀ A base h₀ outer L pin
    exact ws_cons (w1_return (we_none (ret_le h)))
end

def plainF (v k r : Int) : Int :=
  if k = 0 then v + r - 1 else if k = 1 then -v - r else if k = 2 then -v - 1 else if k = 3 then v + 1 else if k = 4 then -v - r else if k = 5 then v + r
  else if k = 6 then (if r % 2 = 1 then -v else v) else if k = 7 then -v - r else if k = 8 then v + 2 * r else if k = 9 then v - 3 * r else if k = 10 then v % 1000 - 1
  else if k = 11 then -1 - v else if k = 12 then v + 2 ^ r.toNat else (v - v % 2) / 2 - 1

theorem bitAnd_neg1 (x : Int) : Builtin.bitAnd x (-1) = x := by
  have h := bitAnd_not x 0
  rw [bitAnd_zero] at h
  have e : Builtin.bitNot 0 = -1 := by decide
  rw [e] at h; omega
theorem bitXor_neg1 (x : Int) : Builtin.bitXor x (-1) = -x - 1 := by rw [bitXor_and, bitAnd_neg1]; omega
theorem bitOr_neg1 (x : Int) : Builtin.bitOr x (-1) = -1 := by rw [bitOr_and, bitAnd_neg1]; omega
theorem mulOk {a b : Int} (h : b.natAbs < 2 ^ 64) : IntMulOk a b := IntMulOk.of_right (intBits_le_iff.mpr h)

theorem fdiv_neg1 (x : Int) : x.fdiv (-1) = -x := by
  rw [Int.fdiv_eq_ediv]
  have : (-1 : Int) ∣ x := ⟨-x, by omega⟩
  simp [this]
theorem fmod_neg1 (x : Int) : x.fmod (-1) = 0 := by
  have h := Int.fmod_def x (-1)
  rw [fdiv_neg1] at h; omega
theorem fmod_pos (x : Int) {y : Int} (h : 0 ≤ y) : x.fmod y = x % y := Int.fmod_eq_emod_of_nonneg x h
theorem fdiv_pos (x : Int) {y : Int} (h : 0 ≤ y) : x.fdiv y = x / y := Int.fdiv_eq_ediv_of_nonneg x h
theorem neg1_pow : ∀ k : Nat, (-1 : Int) ^ k = if k % 2 = 1 then -1 else 1
  | 0 => by simp
  | k + 1 => by
    rw [Int.pow_succ, neg1_pow k]
    by_cases h : k % 2 = 1
    · have : (k + 1) % 2 ≠ 1 := by omega
      simp [h, this]
    · have : (k + 1) % 2 = 1 := by omega
      simp [h, this]
theorem neg1_fdiv_pow (k : Nat) : (-1 : Int).fdiv (2 ^ k) = -1 := by
  have hp : (0 : Int) < 2 ^ k := Int.pow_pos (by decide)
  rw [fdiv_pos _ (Int.le_of_lt hp)]
  generalize (2 : Int) ^ k = p at hp
  have h1 : (-1 : Int) / p < 0 := Int.ediv_neg_of_neg_of_pos (by decide) hp
  have h2 : -1 ≤ (-1 : Int) / p := (Int.le_ediv_iff_mul_le hp).mpr (by omega)
  omega
theorem pow_abs (k : Nat) : ((-1 : Int) ^ k).natAbs < 2 ^ 64 := by
  rw [Int.natAbs_pow]; simp
/-! the steps that hang on nothing -/
local macro_rules | `(tactic| walk_at "we") => `(tactic| first
  | with_reducible refine we_int ?_
  | ((with_reducible refine' we_local ?h1 ?h2 ?_ ?h3); (case h1 => rfl); (case h2 => rfl); (case h3 => decide))
  | with_reducible refine we_binop ?_
  | with_reducible refine we_str ?_
  | with_reducible refine we_none ?_
  | with_reducible refine we_bool ?_
  | with_reducible refine we_unary ?_
  | with_reducible refine we_ifexp ?_
  | ((with_reducible refine we_compare ?_ ?h1); (case h1 => rfl))
  | ((with_reducible refine' we_global ?h1 ?h2 ?_ ?h3); (case h1 => rfl); (case h2 => assumption); (case h3 => decide))
  | ((with_reducible refine' we_builtin ?h1 ?h2 ?h4 ?_ ?h5 ?h3); (case h1 => rfl); (case h2 => assumption); (case h4 => boot_by_name); (case h5 => decide); (case h3 => decide))
  | ((with_reducible refine we_call ?_ ?h1); (case h1 => rfl))
  | (refine we_method ?_)
  | with_reducible refine we_listM ?_)
local macro_rules | `(tactic| walk_at "t2") => `(tactic| first
  | with_reducible refine t2_add ?_
  | with_reducible refine t2_sub ?_
  | with_reducible refine t2_eq ?_
  | with_reducible refine t2_ne ?_
  | with_reducible refine t2_lt ?_
  | with_reducible refine t2_and ?_
  | with_reducible refine t2_or ?_
  | with_reducible refine t2_xor ?_
  | ((with_reducible refine t2_div ?h1 ?h2 ?_); (case h1 => decide); (case h2 => decide))
  | ((with_reducible refine t2_mod ?h1 ?h2 ?_); (case h1 => decide); (case h2 => decide))
  | ((with_reducible refine t2_mul ?h1 ?_); (case h1 => first | exact mulOk (by first | decide | omega | exact pow_abs _) | exact IntMulOk.of_left (intBits_le_iff.mpr (by decide))))
  | ((with_reducible refine t2_pow ?h1 ?h2 ?h3 ?_); (case h1 => omega); (case h2 => omega); (case h3 => decide))
  | ((with_reducible refine t2_shl ?h1 ?h2 ?h3 ?_); (case h1 => omega); (case h2 => omega); (case h3 => decide))
  | ((with_reducible refine t2_shr ?h1 ?_); (case h1 => first | decide | omega)))
local macro_rules | `(tactic| walk_at "tc") => `(tactic| first
  | refine tc_fn (by assumption) (getLine (by assumption) ?_)
  | refine tc_fn (by assumption) (getCol (by assumption) ?_)
  | refine tc_fn (by assumption) (getPub (by assumption) ?_)
  | refine tc_fn (by assumption) (getSys (by assumption) ?_)
  | ((with_reducible refine tc_divmod ?h1 ?h2 ?_); (case h1 => decide); (case h2 => decide))
  | with_reducible refine tc_max ?_
  | with_reducible refine tc_min ?_
  | ((refine' tc_indexNone (j := 2) ?h1 ?h2 ?h3 ?h4 ?h5 ?_); (case h1 => exact AHeap.set_same ..); (case h2 => rfl); (case h3 => rfl); (case h4 => rfl); (case h5 => decide))
  | ((refine' tc_indexNone (j := 3) ?h1 ?h2 ?h3 ?h4 ?h5 ?_); (case h1 => exact AHeap.set_same ..); (case h2 => rfl); (case h3 => rfl); (case h4 => rfl); (case h5 => decide)))
local macro_rules | `(tactic| walk_at "fw") => `(tactic| first
  | ((with_reducible show WE _ _ _ _ _ _ _); walk_at "we")
  | ((with_reducible show WL _ _ _ _ _ _ _ _); (first | ((with_reducible refine wl_cons ?_ ?h1); (case h1 => rfl)) | with_reducible refine wl_nil ?_))
  | ((with_reducible show T2 _ _ _ _ _ _ _ _ _); walk_at "t2")
  | ((with_reducible show T1 _ _ _ _ _ _ _ _); with_reducible refine t1_neg ?_)
  | ((with_reducible show TB _ _ _ _ _ _ _ _); with_reducible refine tb_bool ?_)
  | ((with_reducible show TG _ _ _ _ _ _ _ _); ((with_reducible refine' tg_fin ?h1 ?h2 ?h3 ?_); (case h1 => apply_assumption); (case h2 => assumption); (case h3 => assumption)))
  | ((with_reducible show TG _ _ _ _ _ _ _ _); (refine tg_list PySem.F.slot_list_index PySem.F.type_list_index (AHeap.set_same ..) ?_))
  | ((with_reducible show _ ≤ sizeLine ∧ ∀ _, _); refine ⟨by decide, fun l hl => ?_⟩)
  | ((with_reducible show TC _ _ _ _ _ _ _ _); walk_at "tc")
  | ((with_reducible show WT _ _ _ _ _ _ _); ((with_reducible refine wt_compare ?_ ?h1); (case h1 => rfl)))
  | ((with_reducible show WS _ _ _ _ _ _ _); (first | with_reducible refine ws_cons ?_ | with_reducible refine ws_nil ?_))
  | ((with_reducible show W1 _ _ _ _ _ _ _); (first | with_reducible refine w1_return ?_ | with_reducible refine w1_if ?_ | ((with_reducible refine w1_assignT ?_ ?h1 ?h2); (case h1 => rfl); (case h2 => rfl))))
  | ((with_reducible show TA _ _ _ _ _ _ _ _); (first | (refine ta_tup ?_) | (refine ta_name (ts_local (by rfl) ?_))))
  | ((with_reducible show TAs _ _ _ _ _ _ _ _); (first | (refine tas_cons ?_) | (refine tas_nil ?_)))
  | ((with_reducible show (_ = true → _) ∧ (_ = false → _)); refine And.intro (fun hk => ?_) (fun hk => ?_)))

section
variable {C : Cx} {n : Nat} {σ : AHeap} {Q : AVal → AHeap → Prop}
set_option maxHeartbeats 4000000 in
theorem reckoned (K : K04 C) {v k r : Int} (hr0 : 0 ≤ r) (hr : r < 30) (hk0 : 0 ≤ k) (hk1 : k < 14) (h : ∀ i, i = plainF v k r → Q (.int i) σ) : Fn C (n + 2) 63 [.fin 52, .int v, .int k, .int r] σ Q := by
  refine fn_plain (ns := [Str.ofString "at", Str.ofString "value", Str.ofString "kind", Str.ofString "more"]) (dv := []) (da := []) (ho := by rw [K.hK]; rfl) (hcd := by rw [K.hK]; kernel_rfl) (hbind := ?_) (hd := fun _ => .nil) (hnd := by decide) (hloc := by decide) (h := ?_)
  · intro S vs hv
    match vs, hv with
    | [v1, v2, v3, v4], _ => rfl
  · intro A₀ A base h₀ outer L pin
    obtain ⟨hK, gL, gR, gP, bEnum, bList, bRange, bType, bInt, bDivmod, bMax, bMin, kL, kR, kP, k28, k35, k42, k49, mks, ini, pg, f28, f35, f42, f49, i28, i35, i42, i49⟩ := id K
    repeat' walk_at "fw"
    all_goals (first | refine ret_le' (σ₂ := σ) (AHeap.le_refl σ) (h _ ?_) | refine ret_le' (σ₂ := σ) (le_set (by assumption)) (h _ ?_))
    all_goals (simp only [beq_iff_eq, beq_eq_false_iff_ne, ne_eq] at *)
    all_goals (first | subst_eqs | skip)
    all_goals (first | (have e13 : k = 13 := by omega) | skip)
    all_goals (try subst e13)
    all_goals (simp [plainF, bitXor_neg1, bitAnd_neg1, bitOr_neg1, fdiv_neg1, fmod_neg1, neg1_pow, neg1_fdiv_pow, fmod_pos, fdiv_pos])
    all_goals (first | omega | (split <;> split <;> omega) | (by_cases hp : r % 2 = 1; · (have hp' : r.toNat % 2 = 1 := by omega); simp [hp, hp']; · (have hp' : ¬ r.toNat % 2 = 1 := by omega); simp [hp, hp']))
set_option maxHeartbeats 4000000 in
theorem plain (K : K04 C) {v k r : Int} (hr0 : 0 ≤ r) (hr : r < 30) (hk0 : 0 ≤ k) (hk1 : k < 14) (h : ∀ i, i = plainF v k r → Q (.int i) σ) : Fn C (n + 1) 70 [.int v, .int k, .int r] σ Q := by
  refine fn_plain (ns := [Str.ofString "value", Str.ofString "kind", Str.ofString "more"]) (dv := []) (da := []) (ho := by rw [K.hK]; rfl) (hcd := by rw [K.hK]; kernel_rfl) (hbind := ?_) (hd := fun _ => .nil) (hnd := by decide) (hloc := by decide) (h := ?_)
  · intro S vs hv
    match vs, hv with
    | [v1, v2, v3], _ => rfl
  · intro A₀ A base h₀ outer L pin
    repeat' walk_at "fw"
    all_goals (first | refine ret_le' (σ₂ := σ) (AHeap.le_refl σ) (h _ ?_) | skip)
    all_goals (simp only [beq_iff_eq, beq_eq_false_iff_ne, ne_eq, decide_eq_true_eq, decide_eq_false_iff_not] at *)
    all_goals (first
      | ((have e9 : k = 0 := by omega); subst e9)
      | ((have e9 : k = 1 := by omega); subst e9)
      | ((have e9 : k = 2 := by omega); subst e9)
      | ((have e9 : k = 3 := by omega); subst e9)
      | ((have e9 : k = 4 := by omega); subst e9)
      | ((have e9 : k = 5 := by omega); subst e9)
      | ((have e9 : k = 6 := by omega); subst e9)
      | ((have e9 : k = 7 := by omega); subst e9)
      | ((have e9 : k = 8 := by omega); subst e9)
      | ((have e9 : k = 9 := by omega); subst e9)
      | ((have e9 : k = 10 := by omega); subst e9)
      | ((have e9 : k = 11 := by omega); subst e9)
      | ((have e9 : k = 12 := by omega); subst e9)
      | ((have e9 : k = 13 := by omega); subst e9))
    all_goals (try simp only [fmod_pos _ (show (0 : Int) ≤ 1000 by decide), fmod_pos _ (show (0 : Int) ≤ 2 by decide), fdiv_pos _ (show (0 : Int) ≤ 2 by decide)] at *)
    all_goals (try simp [plainF])
    all_goals (try omega)
end
end Mine

open PySem PySem.W PyProof.Rows PySem.Calls
namespace Mine
def Inv04 (S : AVal) (xs : List (List AVal)) (m : AEnv) (σ : AHeap) : Prop :=
  ∃ (v : Int) (k : Nat) (ns : List Int), xs = enumFrom k (ns.map .int) ∧ m = [(Str.ofString "script", S), (Str.ofString "old", .fin 52), (Str.ofString "value", .int v), (Str.ofString "plain", .int v)] ∧ v.natAbs + 2 ^ 30 * ns.length ≤ 2 ^ 40
theorem plainF_abs {v k r : Int} (hr0 : 0 ≤ r) (hr : r < 30) : (plainF v k r).natAbs ≤ v.natAbs + 2 ^ 30 := by
  have hp : (2 : Int) ^ r.toNat ≤ 2 ^ 29 := by
    have h1 : (2:Nat) ^ r.toNat ≤ 2 ^ 29 := Nat.pow_le_pow_right (by decide) (by omega)
    exact_mod_cast h1
  have hp0 : (0 : Int) ≤ 2 ^ r.toNat := Int.pow_nonneg (by decide)
  unfold plainF
  generalize (2 : Int) ^ r.toNat = p at *
  (repeat' split) <;> omega
theorem WE.cut {C : Cx} {n : Nat} {f : Fm} {m : AEnv} {σ : AHeap} {e : Expr} {Q P : AVal → AHeap → Prop} (h : WE C n f e m σ P) (k : ∀ a σ₁, P a σ₁ → Q a σ₁) : WE C n f e m σ Q := fun ok fz s E x =>
  wpAny_mono (h ok fz s E x) (fun v s₁ ⟨fz₁, σ₁, a, u1, e1, x1, va, q1⟩ => ⟨fz₁, σ₁, a, u1, e1, x1, va, k _ _ q1⟩) fun _ _ x => x
end Mine
open Mine
/-! the steps that hang on nothing -/
local macro_rules | `(tactic| walk_at "we") => `(tactic| first
  | with_reducible refine we_int ?_
  | ((with_reducible refine' we_local ?h1 ?h2 ?_ ?h3); (case h1 => rfl); (case h2 => rfl); (case h3 => decide))
  | with_reducible refine we_binop ?_
  | with_reducible refine we_str ?_
  | with_reducible refine we_none ?_
  | with_reducible refine we_bool ?_
  | with_reducible refine we_unary ?_
  | with_reducible refine we_ifexp ?_
  | ((with_reducible refine we_compare ?_ ?h1); (case h1 => rfl))
  | ((with_reducible refine' we_global ?h1 ?h2 ?_ ?h3); (case h1 => rfl); (case h2 => assumption); (case h3 => decide))
  | ((with_reducible refine' we_builtin ?h1 ?h2 ?h4 ?_ ?h5 ?h3); (case h1 => rfl); (case h2 => assumption); (case h4 => boot_by_name); (case h5 => decide); (case h3 => decide))
  | ((with_reducible refine we_call ?_ ?h1); (case h1 => rfl))
  | (refine we_method ?_)
  | with_reducible refine we_listM ?_)
local macro_rules | `(tactic| walk_at "t2") => `(tactic| first
  | with_reducible refine t2_add ?_
  | with_reducible refine t2_sub ?_
  | with_reducible refine t2_eq ?_
  | with_reducible refine t2_ne ?_
  | with_reducible refine t2_lt ?_
  | with_reducible refine t2_and ?_
  | with_reducible refine t2_or ?_
  | with_reducible refine t2_xor ?_
  | ((with_reducible refine t2_div ?h1 ?h2 ?_); (case h1 => decide); (case h2 => decide))
  | ((with_reducible refine t2_mod ?h1 ?h2 ?_); (case h1 => decide); (case h2 => decide))
  | ((with_reducible refine t2_mul ?h1 ?_); (case h1 => first | exact mulOk (by first | decide | omega | exact pow_abs _) | exact IntMulOk.of_left (intBits_le_iff.mpr (by decide))))
  | ((with_reducible refine t2_pow ?h1 ?h2 ?h3 ?_); (case h1 => omega); (case h2 => omega); (case h3 => decide))
  | ((with_reducible refine t2_shl ?h1 ?h2 ?h3 ?_); (case h1 => omega); (case h2 => omega); (case h3 => decide))
  | ((with_reducible refine t2_shr ?h1 ?_); (case h1 => first | decide | omega)))
local macro_rules | `(tactic| walk_at "tc") => `(tactic| first
  | refine tc_fn (by assumption) (getLine (by assumption) ?_)
  | refine tc_fn (by assumption) (getCol (by assumption) ?_)
  | refine tc_fn (by assumption) (getPub (by assumption) ?_)
  | refine tc_fn (by assumption) (getSys (by assumption) ?_)
  | ((with_reducible refine tc_divmod ?h1 ?h2 ?_); (case h1 => decide); (case h2 => decide))
  | with_reducible refine tc_max ?_
  | with_reducible refine tc_min ?_
  | ((refine' tc_indexNone (j := 2) ?h1 ?h2 ?h3 ?h4 ?h5 ?_); (case h1 => exact AHeap.set_same ..); (case h2 => rfl); (case h3 => rfl); (case h4 => rfl); (case h5 => decide))
  | ((refine' tc_indexNone (j := 3) ?h1 ?h2 ?h3 ?h4 ?h5 ?_); (case h1 => exact AHeap.set_same ..); (case h2 => rfl); (case h3 => rfl); (case h4 => rfl); (case h5 => decide)))
local macro_rules | `(tactic| walk_at "fw") => `(tactic| first
  | ((with_reducible show WE _ _ _ _ _ _ _); walk_at "we")
  | ((with_reducible show WL _ _ _ _ _ _ _ _); (first | ((with_reducible refine wl_cons ?_ ?h1); (case h1 => rfl)) | with_reducible refine wl_nil ?_))
  | ((with_reducible show T2 _ _ _ _ _ _ _ _ _); walk_at "t2")
  | ((with_reducible show T1 _ _ _ _ _ _ _ _); with_reducible refine t1_neg ?_)
  | ((with_reducible show TB _ _ _ _ _ _ _ _); with_reducible refine tb_bool ?_)
  | ((with_reducible show TG _ _ _ _ _ _ _ _); ((with_reducible refine' tg_fin ?h1 ?h2 ?h3 ?_); (case h1 => apply_assumption); (case h2 => assumption); (case h3 => assumption)))
  | ((with_reducible show TG _ _ _ _ _ _ _ _); (refine tg_list PySem.F.slot_list_index PySem.F.type_list_index (AHeap.set_same ..) ?_))
  | ((with_reducible show _ ≤ sizeLine ∧ ∀ _, _); refine ⟨by decide, fun l hl => ?_⟩)
  | ((with_reducible show TC _ _ _ _ _ _ _ _); walk_at "tc")
  | ((with_reducible show WT _ _ _ _ _ _ _); first | ((with_reducible refine wt_compare ?_ ?h1); (case h1 => rfl)) | (with_reducible refine wt_bool ?_))
  | ((with_reducible show WA _ _ _ _ _ _ _ _); first | (with_reducible refine wa_or ?_) | (with_reducible refine wa_or_nil ?_) | (with_reducible refine wa_and ?_) | (with_reducible refine wa_and_nil ?_))
  | ((with_reducible show WS _ _ _ _ _ _ _); (first | with_reducible refine ws_cons ?_ | with_reducible refine ws_nil ?_))
  | ((with_reducible show W1 _ _ _ _ _ _ _); (first | with_reducible refine w1_return ?_ | with_reducible refine w1_if ?_ | ((with_reducible refine w1_assign ?_ ?h1); (case h1 => rfl)) | ((with_reducible refine w1_assignT ?_ ?h1 ?h2); (case h1 => rfl); (case h2 => rfl))))
  | ((with_reducible show TA _ _ _ _ _ _ _ _); (first | (refine ta_tup ?_) | (refine ta_name (ts_local (by rfl) ?_))))
  | ((with_reducible show TS _ _ _ _ _ _ _ _); (refine ts_local (by rfl) ?_))
  | ((with_reducible show TAs _ _ _ _ _ _ _ _); (first | (refine tas_cons ?_) | (refine tas_nil ?_)))
  | ((with_reducible show (_ = true → _) ∧ (_ = false → _)); (first | exact And.intro (fun hk => absurd hk (by decide)) (fun hk => absurd hk (by decide)) | refine And.intro (fun _ => ?_) (fun hk => absurd hk (by decide)) | refine And.intro (fun hk => absurd hk (by decide)) (fun _ => ?_) | refine And.intro (fun hk => ?_) (fun hk => ?_))))


set_option maxHeartbeats 4000000 in
theorem PySem.Challenge.cw_dn0301_04_holds : PySem.Challenge.rw_dn0301_04.Holds :=
  Mine.hd04 (by
  w_strict (k_go0
            refine' Mine.enter_law (by assumption) (by assumption) (by assumption) (by assumption) (by assumption) (by assumption) rfl (by omega) ?_ ?_
            · intro A₀ A base h₀ outer ns hns
              generalize hC : Mine.Cx.mk _ _ _ _ _ _ _ _ _ = C
              have K : Mine.K04 C := by subst hC; exact Mine.k04 rfl
              clear hC
              obtain ⟨hK, gL, gR, gP, bEnum, bList, bRange, bType, bInt, bDivmod, bMax, bMin, kL, kR, kP, k28, k35, k42, k49, mks, ini, pg, f28, f35, f42, f49, i28, i35, i42, i49⟩ := id K
              dsimp only
              refine ws_cons (w1_assignS (names := [Str.ofString "old", Str.ofString "value", Str.ofString "plain"]) ?_ rfl rfl)
              refine we_tup ?_
              repeat walk_at "fw"
              refine tc_fin kL mks ini ?_
              repeat walk_at "fw"
              refine ⟨by decide, _, rfl, rfl, tss_cons (ts_local rfl (tss_cons (ts_local rfl (tss_cons (ts_local rfl (tss_nil ?_))))))⟩
              refine WS.weaken (m' := [(Str.ofString "script", .lst _), (Str.ofString "old", .fin 52), (Str.ofString "value", .int 5), (Str.ofString "plain", .int 5)]) (Has.sub ⟨rfl, rfl, rfl, rfl, trivial⟩) (AHeap.le_refl _) ?_
              refine ws_cons (w1_forT (Inv04 (.lst (List.map .int ns))) ?_ ?_ ?_)
              · refine wit_enum ?_
                repeat walk_at "fw"
                refine ⟨rfl, ?_⟩
                repeat walk_at "fw"
                refine tc_range2 ?_
                repeat walk_at "fw"
                refine tc_list_rng (k := 14) rfl rfl (by decide) ?_
                repeat walk_at "fw"
                refine t2_cat rfl rfl ?_ ?_
                · simp only [List.length_map, sizeLine_eq, rangeInts_length]
                  omega
                repeat walk_at "fw"
                refine ⟨_, rfl, rfl, 5, 0, rangeInts 42 1 14 ++ ns, by rw [List.map_append], rfl, ?_⟩
                simp only [List.length_append, rangeInts_length]
                omega
              · intro pin x xs m' σ' hI
                obtain ⟨v, k, us, he, rfl, hb⟩ := hI
                cases us with
                | nil => cases he
                | cons u us =>
                  cases he
                  refine ⟨rfl, ?_⟩
                  iterate 6 walk_at "fw"
                  dsimp only [Fm.withPin]
                  refine w1_assign (WE.cut (P := fun a σ₁ => a = .fin 52 ∧ σ₁ = σ') ?_ ?_) ?_; rotate_left 2; · rfl
                  · repeat walk_at "fw"
                    all_goals first | exact And.intro rfl rfl | exact tc_fin kL mks ini ⟨rfl, rfl⟩
                  · rintro _ _ ⟨rfl, rfl⟩
                    repeat walk_at "fw"
                    have hx0 : 0 ≤ u.fmod 14 ∧ u.fmod 14 < 14 := by rw [fmod_pos _ (by decide)]; omega
                    have hx1 : 0 ≤ (u.fdiv 14).fmod 30 ∧ (u.fdiv 14).fmod 30 < 30 := by rw [fmod_pos _ (by decide)]; omega
                    refine tc_fn kR (Mine.reckoned K hx1.1 hx1.2 hx0.1 hx0.2 ?_)
                    intro i hi
                    repeat walk_at "fw"
                    refine tc_fn kP (Mine.plain K hx1.1 hx1.2 hx0.1 hx0.2 ?_)
                    intro j hj
                    have hij : i = j := by rw [hi, hj]
                    subst hij
                    repeat walk_at "fw"
                    · rename_i hk _; simp at hk
                    repeat walk_at "fw"
                    refine tc_type_int ?_
                    repeat walk_at "fw"
                    refine t2_isNotRaw rfl ?_
                    repeat walk_at "fw"
                    refine ⟨[(Str.ofString "script", .lst (List.map .int ns)), (Str.ofString "old", .fin 52), (Str.ofString "value", .int i), (Str.ofString "plain", .int i)], _, Has.sub ⟨rfl, rfl, rfl, rfl, trivial⟩, AHeap.le_refl _, i, k + 1, us, rfl, rfl, ?_⟩
                    have := plainF_abs (v := v) (k := u.fmod 14) hx1.1 hx1.2
                    rw [← hi] at this
                    simp only [List.length_cons] at hb
                    omega
              · intro m' σ' hI
                obtain ⟨v, k, us, he, rfl, hb⟩ := hI
                repeat walk_at "fw"
                rfl
            · intro h' tk mc' F'
              wrow_close))

