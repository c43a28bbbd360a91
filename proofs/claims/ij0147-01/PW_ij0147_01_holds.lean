import PyProof.Rows.All
import Wide.All
import OpenK.AllK
import Wide.FinOn
import Lean
import PySem.Challenge.RW_ij0147_01
set_option Elab.async false
set_option maxRecDepth 100000
set_option linter.unusedVariables false
set_option compiler.extract_closed false
open PySem PySem.W PyProof.Rows PySem.Calls
namespace Mine

/-- small sums, shown once -/
theorem sh {a n c : Nat} (h : a + (n + 1) = c) : a + 1 + n = c := (Nat.add_right_comm a 1 n).trans h
theorem sl {a n c : Nat} (h : a + (n + 1) = c) : a < c := by rw [← h]; exact Nat.lt_add_of_pos_right (Nat.succ_pos n)
theorem ltl {a b c : Nat} (h : a < b) (hb : b ≤ c) : a < c := Nat.lt_of_lt_of_le h hb
theorem lel {a b c : Nat} (h : a ≤ b) (hb : b < c) : a < c := Nat.lt_of_le_of_lt h hb
theorem nlt {a b : Nat} (h : a < b) : (a : Int) < (b : Int) := Int.ofNat_lt.mpr h
theorem nnlt {a b : Nat} (h : ¬ a < b) : ¬ (a : Int) < (b : Int) := fun e => h (Int.ofNat_lt.mp e)
theorem nne {a b : Nat} (h : a ≠ b) : (a : Int) ≠ (b : Int) := fun e => h (Int.ofNat.inj e)
theorem mod2 (v : Nat) : v % 2 = 0 ∨ v % 2 = 1 := Nat.mod_two_eq_zero_or_one v
theorem mod2i (v : Nat) : ((v % 2 : Nat) : Int) = 0 ∨ ((v % 2 : Nat) : Int) = 1 := (mod2 v).imp (congrArg Int.ofNat) (congrArg Int.ofNat)
theorem mod2n {v : Nat} (h : ¬ v % 2 = 1) : ((v % 2 : Nat) : Int) ≠ 1 := nne h
theorem mod2z {v : Nat} (h : ¬ v % 2 = 0) : ((v % 2 : Nat) : Int) ≠ 0 := nne h
theorem mod2lo (v : Nat) : -(2 ^ 63) ≤ ((v % 2 : Nat) : Int) := Int.le_trans (by decide) (Int.natCast_nonneg _)
theorem mod2hi (v : Nat) : ((v % 2 : Nat) : Int) < 2 ^ 63 := by rcases mod2i v with h | h <;> rw [h] <;> decide
theorem half_lt {w : Nat} (h : 1 < w) : w / 2 < w := Nat.div_lt_self (Nat.lt_trans Nat.zero_lt_one h) (by decide)
theorem half_le {w f : Nat} (h : 1 < w) (hf : w ≤ f + 1) : w / 2 ≤ f := Nat.le_of_lt_succ (Nat.lt_of_lt_of_le (half_lt h) hf)
theorem lenL {α β : Type} {n : Nat} {xs : List α} {f : α → β} (h : xs.length ≤ n) {m : Nat} (hn : n ≤ m) : (xs.map f).length ≤ m := by rw [List.length_map]; exact Nat.le_trans h hn

/-- plain values -/
inductive AV where
  | none | bool (b : Bool) | int (i : Int) | str (s : Str)
  | tup (xs : List AV) | list (xs : List AV)
  | node (f r d : Nat) | inst (j : Nat) | ref (i : Nat)
  | script (ns : List Int) | range (a b c : Int) | slc (a b c : Option Int) | ty (T : String)

/-- objects that may change -/
inductive AO where
  | list (xs : List AV) | dict (d : Str → Option AV) | iset (S : Int → Bool) | tset (ps : List (List Str × Int)) | fields (kvs : List (Str × AV)) | dead | lent
/-- is it there to be read or changed -/
def AO.live : AO → Bool
  | .dead | .lent => false
  | _ => true

abbrev Led := List (Addr × Obj)
abbrev Sto := Nat → AO
def Sto.set (st : Sto) (i : Nat) (o : AO) : Sto := fun j => if j = i then o else st j
theorem Sto.set_self (st : Sto) (i : Nat) (o : AO) : st.set i o i = o := if_pos rfl
theorem Sto.set_ne (st : Sto) {i j : Nat} (o : AO) (h : j ≠ i) : st.set i o j = st j := if_neg h
theorem Sto.set_back {st : Sto} {i : Nat} {o : AO} (h : st i = .dead) : (st.set i o).set i .dead = st := by
  funext j; unfold Sto.set; by_cases e : j = i
  · subst e; simp [h]
  · simp [e]

/-- the ghost state: what stays, what may change, where the numbered objects lie -/
structure Gh where
  I : Led
  M : Led
  R : List Addr

/-- what is fixed for the whole run -/
structure Fix where
  prog : Program
  w : World
  K : Frag
  pv : Program
  loose : List Str
  mean : ExcName → Option Value
  mg : Str → Option Value
  mb : Str → Option Value
  gens : Array GenState
  os : OsState
  base : Heap
  C : Addr
  names : List Str

mutual
inductive RV (X : Fix) (I : Led) (R : List Addr) : Value → AV → Prop
  | none : RV X I R .none .none
  | bool (b : Bool) : RV X I R (.bool b) (.bool b)
  | int (i : Int) (t : Tok) : RV X I R (.int i t) (.int i)
  | str (s : Str) (t : Tok) : RV X I R (.str s t) (.str s)
  | tup {a : Addr} {vs : List Value} {xs : List AV} : (a, ({ cls := .type "tuple", data := .seq vs.toArray } : Obj)) ∈ I → RVs X I R vs xs → RV X I R (.ref a) (.tup xs)
  | list {a : Addr} {vs : List Value} {xs : List AV} {n : Nat} : (a, ({ cls := .type "list", data := .seq vs.toArray n } : Obj)) ∈ I → RVs X I R vs xs → RV X I R (.ref a) (.list xs)
  | node {a : Addr} {o : Obj} {af ar ad : Addr} {f r d : Nat} : (a, o) ∈ I → (a == sysModules) = false →
      o.IsDictOf (PySem.strKind X.prog X.w) [(Str.ofString "flags", .ref af), (Str.ofString "recursive_flags", .ref ar), (Str.ofString "nested", .ref ad)] →
      R[f]? = some af → R[r]? = some ar → R[d]? = some ad → RV X I R (.ref a) (.node f r d)
  | inst {x dx : Addr} {j : Nat} : (x, instObj X.C dx) ∈ I → R[j]? = some dx → RV X I R (.ref x) (.inst j)
  | ref {i : Nat} {a : Addr} : R[i]? = some a → RV X I R (.ref a) (.ref i)
  | script {a : Addr} {vs : List Value} {ns : List Int} : X.base.IsList a vs.toArray → IntsAre vs ns → RV X I R (.ref a) (.script ns)
  | range {r : Addr} {a b c : Int} {t u v : Tok} : (r, ({ cls := .type "range", dict := none, data := .fields #[.int a t, .int b u, .int c v], slots := #[] } : Obj)) ∈ I → RV X I R (.ref r) (.range a b c)
  | slc {r : Addr} {a b c : Option Int} {t u v : Value} : (r, ({ cls := .type "slice", data := .fields #[t, u, v] } : Obj)) ∈ I → IsPart t a → IsPart u b → IsPart v c → RV X I R (.ref r) (.slc a b c)
  | ty (T : String) : RV X I R (.type T) (.ty T)
inductive RVs (X : Fix) (I : Led) (R : List Addr) : List Value → List AV → Prop
  | nil : RVs X I R [] []
  | cons {v : Value} {vs : List Value} {x : AV} {xs : List AV} : RV X I R v x → RVs X I R vs xs → RVs X I R (v :: vs) (x :: xs)
end

theorem get_pre {R R' : List Addr} (h : R <+: R') {i : Nat} {a : Addr} (e : R[i]? = some a) : R'[i]? = some a := by
  obtain ⟨t, rfl⟩ := h
  obtain ⟨hi, _⟩ := List.getElem?_eq_some_iff.mp e
  rw [List.getElem?_append_left hi]; exact e

/-- what a value that stands for a plain one is -/
def RVinv (X : Fix) (I : Led) (R : List Addr) (v : Value) : AV → Prop
  | .none => v = .none
  | .bool b => v = .bool b
  | .int i => ∃ t, v = .int i t
  | .str s => ∃ t, v = .str s t
  | .tup xs => ∃ a vs, v = .ref a ∧ (a, ({ cls := .type "tuple", data := .seq vs.toArray } : Obj)) ∈ I ∧ RVs X I R vs xs
  | .list xs => ∃ a vs n, v = .ref a ∧ (a, ({ cls := .type "list", data := .seq vs.toArray n } : Obj)) ∈ I ∧ RVs X I R vs xs
  | .node f r d => ∃ a o af ar ad, v = .ref a ∧ (a, o) ∈ I ∧ (a == sysModules) = false ∧
      o.IsDictOf (PySem.strKind X.prog X.w) [(Str.ofString "flags", .ref af), (Str.ofString "recursive_flags", .ref ar), (Str.ofString "nested", .ref ad)] ∧
      R[f]? = some af ∧ R[r]? = some ar ∧ R[d]? = some ad
  | .inst j => ∃ x dx, v = .ref x ∧ (x, instObj X.C dx) ∈ I ∧ R[j]? = some dx
  | .ref i => ∃ a, v = .ref a ∧ R[i]? = some a
  | .script ns => ∃ a vs, v = .ref a ∧ X.base.IsList a vs.toArray ∧ IntsAre vs ns
  | .range a b c => ∃ r t u w, v = .ref r ∧ (r, ({ cls := .type "range", dict := none, data := .fields #[.int a t, .int b u, .int c w], slots := #[] } : Obj)) ∈ I
  | .slc a b c => ∃ r t u w, v = .ref r ∧ (r, ({ cls := .type "slice", data := .fields #[t, u, w] } : Obj)) ∈ I ∧ IsPart t a ∧ IsPart u b ∧ IsPart w c
  | .ty T => v = .type T
theorem RV.inv {X : Fix} {I : Led} {R : List Addr} {v : Value} {x : AV} (h : RV X I R v x) : RVinv X I R v x :=
  RV.rec (motive_1 := fun v x _ => RVinv X I R v x) (motive_2 := fun _ _ _ => True)
    rfl (fun _ => rfl) (fun _ t => ⟨t, rfl⟩) (fun _ t => ⟨t, rfl⟩) (fun h r _ => ⟨_, _, rfl, h, r⟩) (fun h r _ => ⟨_, _, _, rfl, h, r⟩) (fun h m d a b c => ⟨_, _, _, _, _, rfl, h, m, d, a, b, c⟩) (fun h1 d => ⟨_, _, rfl, h1, d⟩)
    (fun a => ⟨_, rfl, a⟩) (fun a b => ⟨_, _, rfl, a, b⟩) (fun h => ⟨_, _, _, _, rfl, h⟩) (fun h a b c => ⟨_, _, _, _, rfl, h, a, b, c⟩) (fun _ => rfl) trivial (fun _ _ _ _ => trivial) h
def RVsinv (X : Fix) (I : Led) (R : List Addr) (vs : List Value) : List AV → Prop
  | [] => vs = []
  | x :: xs => ∃ v vs', vs = v :: vs' ∧ RV X I R v x ∧ RVs X I R vs' xs
theorem RVs.inv {X : Fix} {I : Led} {R : List Addr} {vs : List Value} {xs : List AV} (h : RVs X I R vs xs) : RVsinv X I R vs xs :=
  RVs.rec (motive_1 := fun _ _ _ => True) (motive_2 := fun vs xs _ => RVsinv X I R vs xs)
    trivial (fun _ => trivial) (fun _ _ => trivial) (fun _ _ => trivial) (fun _ _ _ => trivial) (fun _ _ _ => trivial) (fun _ _ _ _ _ _ => trivial) (fun _ _ => trivial)
    (fun _ => trivial) (fun _ _ => trivial) (fun _ => trivial) (fun _ _ _ _ => trivial) (fun _ => trivial) rfl (fun h r _ _ => ⟨_, _, rfl, h, r⟩) h
theorem RV.mono {X : Fix} {I I' : Led} {R R' : List Addr} (hI : ∀ p ∈ I, p ∈ I') (hR : R <+: R') {v : Value} {x : AV} (h : RV X I R v x) : RV X I' R' v x :=
  RV.rec (motive_1 := fun v x _ => RV X I' R' v x) (motive_2 := fun vs xs _ => RVs X I' R' vs xs)
    .none .bool .int .str (fun h _ r => .tup (hI _ h) r) (fun h _ r => .list (hI _ h) r) (fun h m d a b c => .node (hI _ h) m d (get_pre hR a) (get_pre hR b) (get_pre hR c)) (fun h1 d => .inst (hI _ h1) (get_pre hR d))
    (fun a => .ref (get_pre hR a)) .script (fun h => .range (hI _ h)) (fun h a b c => .slc (hI _ h) a b c) .ty .nil (fun _ _ h r => .cons h r) h
theorem RVs.mono {X : Fix} {I I' : Led} {R R' : List Addr} (hI : ∀ p ∈ I, p ∈ I') (hR : R <+: R') : ∀ {xs : List AV} {vs : List Value}, RVs X I R vs xs → RVs X I' R' vs xs := by
  intro xs
  induction xs with
  | nil => intro vs h; replace h := RVs.inv h; obtain rfl := h; exact .nil
  | cons x xs ih => intro vs h; replace h := RVs.inv h; obtain ⟨v, vs', rfl, h1, h2⟩ := h; exact .cons (h1.mono hI hR) (ih h2)
theorem RVs.length {X : Fix} {I : Led} {R : List Addr} : ∀ {xs : List AV} {vs : List Value}, RVs X I R vs xs → vs.length = xs.length := by
  intro xs
  induction xs with
  | nil => intro vs h; replace h := RVs.inv h; obtain rfl := h; rfl
  | cons x xs ih => intro vs h; replace h := RVs.inv h; obtain ⟨v, vs', rfl, h1, h2⟩ := h; exact congrArg (· + 1) (ih h2)
theorem RVs.get {X : Fix} {I : Led} {R : List Addr} : ∀ {xs : List AV} {vs : List Value}, RVs X I R vs xs → ∀ {j : Nat} {x : AV}, xs[j]? = some x → ∃ v, vs[j]? = some v ∧ RV X I R v x := by
  intro xs
  induction xs with
  | nil => intro vs h j x e; cases e
  | cons y xs ih =>
    intro vs h j x e
    replace h := RVs.inv h; obtain ⟨v, vs', rfl, h1, h2⟩ := h
    cases j with
    | zero => exact ⟨v, rfl, Option.some.inj e ▸ h1⟩
    | succ j => exact ih h2 e
theorem RVs.app {X : Fix} {I : Led} {R : List Addr} : ∀ {xs : List AV} {vs : List Value}, RVs X I R vs xs → ∀ {ws : List Value} {ys : List AV}, RVs X I R ws ys → RVs X I R (vs ++ ws) (xs ++ ys) := by
  intro xs
  induction xs with
  | nil => intro vs h ws ys h'; replace h := RVs.inv h; obtain rfl := h; exact h'
  | cons x xs ih => intro vs h ws ys h'; replace h := RVs.inv h; obtain ⟨v, vs', rfl, h1, h2⟩ := h; exact .cons h1 (ih h2 h')
theorem RVs.take {X : Fix} {I : Led} {R : List Addr} : ∀ {xs : List AV} {vs : List Value}, RVs X I R vs xs → ∀ n, RVs X I R (vs.take n) (xs.take n) := by
  intro xs
  induction xs with
  | nil => intro vs h n; replace h := RVs.inv h; obtain rfl := h; rw [List.take_nil, List.take_nil]; exact .nil
  | cons x xs ih =>
    intro vs h n
    replace h := RVs.inv h; obtain ⟨v, vs', rfl, h1, h2⟩ := h
    cases n with
    | zero => exact .nil
    | succ n => exact .cons h1 (ih h2 n)
theorem RVs.drop {X : Fix} {I : Led} {R : List Addr} : ∀ (n : Nat) {xs : List AV} {vs : List Value}, RVs X I R vs xs → RVs X I R (vs.drop n) (xs.drop n) := by
  intro n
  induction n with
  | zero => exact fun h => h
  | succ n ih =>
    intro xs vs h
    cases xs with
    | nil => replace h := RVs.inv h; obtain rfl := h; exact .nil
    | cons x xs => replace h := RVs.inv h; obtain ⟨v, vs', rfl, h1, h2⟩ := h; exact ih h2
theorem RVs.rev {X : Fix} {I : Led} {R : List Addr} : ∀ {xs : List AV} {vs : List Value}, RVs X I R vs xs → RVs X I R vs.reverse xs.reverse := by
  intro xs
  induction xs with
  | nil => intro vs h; replace h := RVs.inv h; obtain rfl := h; exact .nil
  | cons x xs ih => intro vs h; replace h := RVs.inv h; obtain ⟨v, vs', rfl, h1, h2⟩ := h; rw [List.reverse_cons, List.reverse_cons]; exact (ih h2).app (.cons h1 .nil)

/-- the keys and values of a dict -/
inductive RKs (X : Fix) (I : Led) (R : List Addr) : List (Str × Value) → List (Str × AV) → Prop
  | nil : RKs X I R [] []
  | cons {k : Str} {v : Value} {vs : List (Str × Value)} {x : AV} {xs : List (Str × AV)} : RV X I R v x → RKs X I R vs xs → RKs X I R ((k, v) :: vs) ((k, x) :: xs)
def RKsinv (X : Fix) (I : Led) (R : List Addr) (vs : List (Str × Value)) : List (Str × AV) → Prop
  | [] => vs = []
  | p :: xs => ∃ v vs', vs = (p.1, v) :: vs' ∧ RV X I R v p.2 ∧ RKs X I R vs' xs
theorem RKs.inv {X : Fix} {I : Led} {R : List Addr} {vs : List (Str × Value)} {xs : List (Str × AV)} (h : RKs X I R vs xs) : RKsinv X I R vs xs :=
  RKs.rec (motive := fun vs xs _ => RKsinv X I R vs xs) rfl (fun h r _ => ⟨_, _, rfl, h, r⟩) h
def byText (w : World) : Bool := w.params.followText "set-order"

structure TsetOk (w : World) (es : Array (Int × Value)) (t : SetTable) : Prop where
  place : t.place.size = es.size
  dum : t.dummies = #[]
  room : es.size * 5 < t.mask * 3
  mask : t.mask = 7 ∨ t.mask = 31
  led : t.led = !byText w
  plain : es.size ≠ 0 → t.plain = false
  finger : t.finger = 0

inductive ORV (X : Fix) (I : Led) (R : List Addr) : Option Value → Option AV → Prop
  | none : ORV X I R none none
  | some {v : Value} {x : AV} : RV X I R v x → ORV X I R (some v) (some x)
theorem ORV.mono {X : Fix} {I I' : Led} {R R' : List Addr} (hI : ∀ p ∈ I, p ∈ I') (hR : R <+: R') {v : Option Value} {x : Option AV} (h : ORV X I R v x) : ORV X I' R' v x :=
  ORV.rec (motive := fun v x _ => ORV X I' R' v x) .none (fun h => .some (h.mono hI hR)) h
/-- how many small ints a set holds -/
def card (S : Int → Bool) : Nat := ((List.range 64).filter fun (i : Nat) => S (i : Int)).length

/-- a pair of a way and a number -/
def pv (p : List Str × Int) : AV := .tup [.tup (p.1.map .str), .int p.2]
/-- an object of the ledger is a plain object -/
def OR (X : Fix) (I : Led) (R : List Addr) (a : Addr) (o : Obj) : AO → Prop
  | .list xs => ∃ vs n, o = listOf vs.toArray n ∧ RVs X I R vs xs
  | .dict d => ∃ vs, o.IsDictOf (PySem.strKind X.prog X.w) vs ∧ (∀ k, ORV X I R (valueAt vs k) (d k)) ∧ (∀ p ∈ vs, p.1 ∈ X.names) ∧ (a == sysModules) = false
  | .iset S => o.SetObjOf (PySem.intKind X.prog X.w) S (card S) ∧ ∀ k, S k = true → 0 ≤ k ∧ k < 64
  | .tset ps => ∃ es ep t, o = { cls := .type "set", data := .set es ep t } ∧ TsetOk X.w es t ∧ es.size ≤ ps.length ∧
      (∀ p ∈ ps, ∃ e ∈ es.toList, RV X I R e.2 (pv p)) ∧ (∀ e ∈ es.toList, ∃ p ∈ ps, RV X I R e.2 (pv p))
  | .fields kvs => ∃ es n, o = dictOf es n ∧ es.length ≤ kvs.length ∧ ∀ k : Str, (kvs.lookup k = none ∧ getL k es = some none) ∨ ∃ v av, kvs.lookup k = some av ∧ getL k es = some (some v) ∧ RV X I R v av
  | .dead => False
  | .lent => False

theorem OR.mono {X : Fix} {I I' : Led} {R R' : List Addr} (hI : ∀ p ∈ I, p ∈ I') (hR : R <+: R') {a : Addr} {o : Obj} {ao : AO} (h : OR X I R a o ao) : OR X I' R' a o ao := by
  cases ao with
  | list _ => obtain ⟨vs, n, e, h⟩ := h; exact ⟨vs, n, e, h.mono hI hR⟩
  | dict _ => obtain ⟨vs, e, h, n, z⟩ := h; exact ⟨vs, e, fun k => (h k).mono hI hR, n, z⟩
  | iset _ => exact h
  | tset _ => obtain ⟨es, ep, t, e, a, b, h1, h2⟩ := h; exact ⟨es, ep, t, e, a, b, fun x hx => (h1 x hx).imp fun _ q => ⟨q.1, q.2.mono hI hR⟩, fun e he => (h2 e he).imp fun _ q => ⟨q.1, q.2.mono hI hR⟩⟩
  | fields _ => obtain ⟨es, n, e, z, h⟩ := h; exact ⟨es, n, e, z, fun k => (h k).imp_right fun q => q.imp fun _ q => q.imp fun _ q => ⟨q.1, q.2.1, q.2.2.mono hI hR⟩⟩
  | dead => exact h
  | lent => exact h

structure Fm where
  h₀ : Heap
  L : Addr
  A₀ : Around
  outer : List Env
  fenv : Env
  Xo : Led
  ban : Addr → Prop

structure FmOk (X : Fix) (A : Around) (f : Fm) : Prop where
  below : Below f.A₀ X.base f.outer f.h₀
  K : X.K.In f.h₀
  top : Top X.pv X.loose X.mean X.mg X.mb f.h₀
  frames : A.frames = some (f.fenv :: f.outer)
  fr : f.fenv.frame = some f.L
  kind : f.fenv.scope.kind = .function
  hand : A.handled = none

/-- where a name's value lies -/
def VarIs (env : Env) (L : Addr) (m : Str → Option Value) (Xs : Led) (x : Str) (v : Value) : Prop :=
  (env.kindOf x = some .local ∧ env.locals = L ∧ m x = some v) ∨
  (env.kindOf x = some .local ∧ ∃ ob es ep, (env.locals, ob) ∈ Xs ∧ ob.data = .dict es ep ∧ StrKeys es ∧ nsFind es x = some v) ∨
  ((env.kindOf x = some .cell ∨ (env.kindOf x = some .free ∧ (x == ("__classdict__" : Str)) = false)) ∧ ∃ c ob, env.cells.lookup x = some c ∧ (c, ob) ∈ Xs ∧ ob.data = .cell (some v))

abbrev Lo := List (Str × AV)

def Objs (X : Fix) (g : Gh) (st : Sto) : Prop := ∀ i : Nat, (st i ≠ .dead → i < g.R.length) ∧ ((st i).live = true → ∃ a ob, g.R[i]? = some a ∧ (a, ob) ∈ g.M ∧ OR X g.I g.R a ob (st i))
theorem live_dead {ao : AO} (h : ao.live = true) : ao ≠ .dead := fun e => by rw [e] at h; cases h

structure Rep (X : Fix) (A : Around) (env : Env) (f : Fm) (m : Str → Option Value) (Xc : Led) (s : Shared) (g : Gh) (lo : Lo) (st : Sto) : Prop where
  ok : FmOk X A f
  globals : env.globals = mainGlobals
  builtins : env.builtins = builtinsNs
  kind : env.scope.kind = .function
  loc : env.func.isSome = true → env.locals = f.L
  gens : s.gens = X.gens
  os : s.os = X.os
  F : Fr f.h₀ f.L s.heap m
  N : News f.h₀ f.L s.heap (Xc ++ (f.Xo ++ (g.M ++ g.I)))
  nd : ((Xc ++ (f.Xo ++ (g.M ++ g.I))).map (·.1)).Nodup
  vars : ∀ x av, lo.lookup x = some av → ∃ v, VarIs env f.L m (Xc ++ f.Xo) x v ∧ RV X g.I g.R v av
  cells : ∀ x c, env.cells.lookup x = some c → (∃ o v₀, (c, o) ∈ Xc ++ f.Xo ∧ o.data = .cell v₀ ∧ (env.func.isSome = true → (c, o) ∈ Xc)) ∧ c ≠ env.locals ∧ ∀ y, env.cells.lookup y = some c → y = x
  ndR : g.R.Nodup
  old : ∀ a ∈ g.R, a ∈ (Xc ++ (f.Xo ++ (g.M ++ g.I))).map (·.1)
  ban : ∀ a, f.ban a → a ∈ (Xc ++ (f.Xo ++ (g.M ++ g.I))).map (·.1) ∧ a ∉ g.R
  obj : Objs X g st

/-- a relation hidden behind a letter -/
theorem hide2 {α β : Type} (P : α → β → Prop) : ∃ I : α → β → Prop, (∀ a b, I a b → P a b) ∧ ∀ a b, P a b → I a b := ⟨P, fun _ _ h => h, fun _ _ h => h⟩
/-- how the ghost state grows -/
structure Gh.le (g g' : Gh) : Prop where
  I : ∀ p ∈ g.I, p ∈ g'.I
  R : g.R <+: g'.R
theorem Gh.le.refl (g : Gh) : g.le g := ⟨fun _ h => h, List.prefix_refl _⟩
theorem Gh.le.trans {a b c : Gh} (h : a.le b) (h' : b.le c) : a.le c := ⟨fun p x => h'.I p (h.I p x), h.R.trans h'.R⟩
theorem RV.le {X : Fix} {g g' : Gh} (h : g.le g') {v : Value} {x : AV} (r : RV X g.I g.R v x) : RV X g'.I g'.R v x := r.mono h.I h.R
theorem RVs.le {X : Fix} {g g' : Gh} (h : g.le g') {v : List Value} {x : List AV} (r : RVs X g.I g.R v x) : RVs X g'.I g'.R v x := r.mono h.I h.R

section
variable {X : Fix} {A : Around} {env : Env} {f : Fm} {m : Str → Option Value} {Xc : Led} {s s' : Shared} {g : Gh} {lo : Lo} {st : Sto}

theorem Rep.same (R : Rep X A env f m Xc s g lo st) (hh : s'.heap = s.heap) (hg : s'.gens = s.gens) (ho : s'.os = s.os) : Rep X A env f m Xc s' g lo st :=
  ⟨R.ok, R.globals, R.builtins, R.kind, R.loc, hg.trans R.gens, ho.trans R.os, by rw [hh]; exact R.F, by rw [hh]; exact R.N, R.nd, R.vars, R.cells, R.ndR, R.old, R.ban, R.obj⟩
theorem Rep.tk (R : Rep X A env f m Xc s g lo st) (n : Nat) : Rep X A env f m Xc { s with toks := n } g lo st := R.same rfl rfl rfl
theorem Rep.lt (R : Rep X A env f m Xc s g lo st) : ∀ p ∈ Xc ++ (f.Xo ++ (g.M ++ g.I)), p.1 < s.heap.objs.size := fun p hp => Heap.lt_size (R.N p hp).1
theorem Rep.inI (_ : Rep X A env f m Xc s g lo st) {p : Addr × Obj} (h : p ∈ g.I) : p ∈ Xc ++ (f.Xo ++ (g.M ++ g.I)) := List.mem_append_right _ (List.mem_append_right _ (List.mem_append_right _ h))
theorem Rep.inM (_ : Rep X A env f m Xc s g lo st) {p : Addr × Obj} (h : p ∈ g.M) : p ∈ Xc ++ (f.Xo ++ (g.M ++ g.I)) := List.mem_append_right _ (List.mem_append_right _ (List.mem_append_left _ h))
theorem Rep.inX (_ : Rep X A env f m Xc s g lo st) {p : Addr × Obj} (h : p ∈ Xc ++ f.Xo) : p ∈ Xc ++ (f.Xo ++ (g.M ++ g.I)) := by
  rcases List.mem_append.mp h with h | h
  · exact List.mem_append_left _ h
  · exact List.mem_append_right _ (List.mem_append_left _ h)
theorem Rep.getI (R : Rep X A env f m Xc s g lo st) {a : Addr} {o : Obj} (h : (a, o) ∈ g.I) : s.heap.get? a = some o := (R.N _ (R.inI h)).1
theorem Rep.Kin (R : Rep X A env f m Xc s g lo st) : X.K.In s.heap := R.ok.K.keeps R.F.keep
theorem Rep.dead (R : Rep X A env f m Xc s g lo st) {i : Nat} (h : g.R.length ≤ i) : st i = .dead := by
  by_cases e : st i = .dead
  · exact e
  · exact absurd ((R.obj i).1 e) (Nat.not_lt.mpr h)

theorem Gh.le.imm (g : Gh) (p : Addr × Obj) : g.le { g with I := p :: g.I } := ⟨fun _ h => .tail _ h, List.prefix_refl _⟩
theorem Gh.le.new (g : Gh) (p : Addr × Obj) : g.le { g with M := p :: g.M, R := g.R ++ [p.1] } := ⟨fun _ h => h, List.prefix_append _ _⟩

theorem perm_imm (Xc Xo M I : Led) (p : Addr × Obj) : List.Perm (p :: (Xc ++ (Xo ++ (M ++ I)))) (Xc ++ (Xo ++ (M ++ p :: I))) := by
  rw [← List.append_assoc, ← List.append_assoc, ← List.append_assoc, ← List.append_assoc]; exact List.perm_middle.symm
theorem perm_new (Xc Xo M I : Led) (p : Addr × Obj) : List.Perm (p :: (Xc ++ (Xo ++ (M ++ I)))) (Xc ++ (Xo ++ (p :: M ++ I))) := by
  have := (List.perm_middle (l₁ := Xc ++ Xo) (l₂ := M ++ I) (a := p)).symm
  simpa only [List.append_assoc, List.cons_append] using this
theorem News.perm {h₀ h : Heap} {L : Addr} {l l' : Led} (N : News h₀ L h l) (p : List.Perm l l') : News h₀ L h l' := fun q hq => N q (p.mem_iff.mpr hq)

theorem Rep.fresh_ne (R : Rep X A env f m Xc s g lo st) {a : Addr} (ha : s.heap.objs.size ≤ a) : a ∉ (Xc ++ (f.Xo ++ (g.M ++ g.I))).map (·.1) := fun q => by
  obtain ⟨p, hp, e⟩ := List.mem_map.mp q
  have := R.lt p hp; rw [e] at this; exact absurd this (Nat.not_lt.mpr ha)

/-- an object that stays is laid -/
theorem Rep.imm' (R : Rep X A env f m Xc s g lo st) {h' : Heap} {a : Addr} {o : Obj}
    (hne : a ∉ (Xc ++ (f.Xo ++ (g.M ++ g.I))).map (·.1)) (F' : Fr f.h₀ f.L h' m) (N' : News f.h₀ f.L h' ((a, o) :: (Xc ++ (f.Xo ++ (g.M ++ g.I))))) (hs : s'.heap = h') (hg : s'.gens = s.gens) (ho : s'.os = s.os) :
    Rep X A env f m Xc s' { g with I := (a, o) :: g.I } lo st := by
  have up : ∀ b, b ∈ (Xc ++ (f.Xo ++ (g.M ++ g.I))).map (·.1) → b ∈ (Xc ++ (f.Xo ++ (g.M ++ (a, o) :: g.I))).map (·.1) := fun b hb =>
    ((perm_imm Xc f.Xo g.M g.I (a, o)).map (·.1)).mem_iff.mp (.tail _ hb)
  subst hs
  refine ⟨R.ok, R.globals, R.builtins, R.kind, R.loc, hg.trans R.gens, ho.trans R.os, F', News.perm N' (perm_imm ..), ?_, ?_, R.cells, R.ndR, fun b hb => up b (R.old b hb), fun b hb => ⟨up b (R.ban b hb).1, (R.ban b hb).2⟩, ?_⟩
  · refine ((perm_imm Xc f.Xo g.M g.I (a, o)).map (·.1)).nodup_iff.mp ?_
    rw [List.map_cons, List.nodup_cons]
    exact ⟨hne, R.nd⟩
  · intro x av e
    obtain ⟨v, h1, h2⟩ := R.vars x av e
    exact ⟨v, h1, h2.mono (fun p hp => .tail _ hp) (List.prefix_refl _)⟩
  · refine fun i => ⟨(R.obj i).1, fun hl => ?_⟩
    obtain ⟨b, ob, h1, h2, h3⟩ := (R.obj i).2 hl
    exact ⟨b, ob, h1, h2, h3.mono (fun p hp => .tail _ hp) (List.prefix_refl _)⟩

theorem Rep.imm (R : Rep X A env f m Xc s g lo st) {h' : Heap} {a : Addr} {o : Obj}
    (ha : s.heap.objs.size ≤ a) (F' : Fr f.h₀ f.L h' m) (N' : News f.h₀ f.L h' ((a, o) :: (Xc ++ (f.Xo ++ (g.M ++ g.I))))) (hs : s'.heap = h') (hg : s'.gens = s.gens) (ho : s'.os = s.os) :
    Rep X A env f m Xc s' { g with I := (a, o) :: g.I } lo st := R.imm' (R.fresh_ne ha) F' N' hs hg ho

/-- an object that may change is laid; its number is the length of the numbering -/
theorem Rep.new' (R : Rep X A env f m Xc s g lo st) {h' : Heap} {a : Addr} {o : Obj} {ao : AO}
    (hne : a ∉ (Xc ++ (f.Xo ++ (g.M ++ g.I))).map (·.1)) (F' : Fr f.h₀ f.L h' m) (N' : News f.h₀ f.L h' ((a, o) :: (Xc ++ (f.Xo ++ (g.M ++ g.I))))) (hs : s'.heap = h') (hg : s'.gens = s.gens) (ho : s'.os = s.os)
    (hao : OR X g.I g.R a o ao) : Rep X A env f m Xc s' { g with M := (a, o) :: g.M, R := g.R ++ [a] } lo (st.set g.R.length ao) := by
  have pre : g.R <+: g.R ++ [a] := List.prefix_append _ _
  have up : ∀ b, b ∈ a :: (Xc ++ (f.Xo ++ (g.M ++ g.I))).map (·.1) → b ∈ (Xc ++ (f.Xo ++ ((a, o) :: g.M ++ g.I))).map (·.1) := fun b hb =>
    ((perm_new Xc f.Xo g.M g.I (a, o)).map (·.1)).mem_iff.mp hb
  subst hs
  refine ⟨R.ok, R.globals, R.builtins, R.kind, R.loc, hg.trans R.gens, ho.trans R.os, F', News.perm N' (perm_new ..), ?_, ?_, R.cells, ?_, ?_, fun b hb => ⟨up b (.tail _ (R.ban b hb).1), fun q => ?_⟩, ?_⟩
  · refine ((perm_new Xc f.Xo g.M g.I (a, o)).map (·.1)).nodup_iff.mp ?_
    rw [List.map_cons, List.nodup_cons]
    exact ⟨hne, R.nd⟩
  · intro x av e
    obtain ⟨v, h1, h2⟩ := R.vars x av e
    exact ⟨v, h1, h2.mono (fun p hp => hp) pre⟩
  · refine List.nodup_append.mpr ⟨R.ndR, by simp, fun b hb c hc => ?_⟩
    rw [List.mem_singleton.mp hc]
    have := R.old b hb
    exact fun e => hne (e ▸ this)
  · intro b hb
    rcases List.mem_append.mp hb with hb | hb
    · exact up b (.tail _ (R.old b hb))
    · rw [List.mem_singleton.mp hb]; exact up _ (.head _)
  · rcases List.mem_append.mp q with q | q
    · exact (R.ban b hb).2 q
    · rw [List.mem_singleton.mp q] at hb; exact hne (R.ban a hb).1
  · refine fun i => ⟨fun hl => ?_, fun hl => ?_⟩
    · rw [List.length_append, List.length_singleton]
      by_cases hi : i = g.R.length
      · omega
      · rw [Sto.set_ne _ _ hi] at hl
        have := (R.obj i).1 hl; omega
    by_cases hi : i = g.R.length
    · subst hi
      rw [Sto.set_self]
      refine ⟨a, o, ?_, .head _, hao.mono (fun p hp => hp) pre⟩
      show (g.R ++ [a])[g.R.length]? = some a
      rw [List.getElem?_append_right (Nat.le_refl _), Nat.sub_self]; rfl
    · rw [Sto.set_ne _ _ hi] at hl ⊢
      obtain ⟨b, ob, h1, h2, h3⟩ := (R.obj i).2 hl
      exact ⟨b, ob, get_pre pre h1, .tail _ h2, h3.mono (fun p hp => hp) pre⟩

theorem Rep.new (R : Rep X A env f m Xc s g lo st) {h' : Heap} {a : Addr} {o : Obj} {ao : AO}
    (ha : s.heap.objs.size ≤ a) (F' : Fr f.h₀ f.L h' m) (N' : News f.h₀ f.L h' ((a, o) :: (Xc ++ (f.Xo ++ (g.M ++ g.I))))) (hs : s'.heap = h') (hg : s'.gens = s.gens) (ho : s'.os = s.os)
    (hao : OR X g.I g.R a o ao) : Rep X A env f m Xc s' { g with M := (a, o) :: g.M, R := g.R ++ [a] } lo (st.set g.R.length ao) := R.new' (R.fresh_ne ha) F' N' hs hg ho hao

/-- the split of a ledger at an object of it -/
theorem updF_of {l : Led} (h : (l.map (·.1)).Nodup) {a : Addr} {o : Obj} (hm : (a, o) ∈ l) : ∃ g, UpdF a o l g ∧ ∀ o', (∀ p, p ∈ g o' ↔ p = (a, o') ∨ (p ∈ l ∧ p.1 ≠ a)) := by
  induction l with
  | nil => cases hm
  | cons p r ih =>
    rw [List.map_cons, List.nodup_cons] at h
    cases hm with
    | head =>
      have hne : ∀ q ∈ r, q.1 ≠ a := fun q hq e => h.1 (e ▸ List.mem_map_of_mem (f := (·.1)) hq)
      refine ⟨_, .head hne, fun o' q => ?_⟩
      simp only [List.mem_cons]
      constructor
      · rintro (h | h)
        · exact .inl h
        · exact .inr ⟨.inr h, hne q h⟩
      · rintro (h | ⟨rfl | h, h2⟩)
        · exact .inl h
        · exact absurd rfl h2
        · exact .inr h
    | tail _ q =>
      obtain ⟨g, U, hg⟩ := ih h.2 q
      have hne : p.1 ≠ a := fun e => h.1 (e ▸ List.mem_map_of_mem (f := (·.1)) q)
      refine ⟨_, .tail hne U, fun o' x => ?_⟩
      simp only [List.mem_cons, hg]
      constructor
      · rintro (rfl | h | h)
        · exact .inr ⟨.inl rfl, hne⟩
        · exact .inl h
        · exact .inr ⟨.inr h.1, h.2⟩
      · rintro (h | ⟨h | h, h2⟩)
        · exact .inr (.inl h)
        · exact .inl h
        · exact .inr (.inr ⟨h, h2⟩)

def setM (M : Led) (a : Addr) (o : Obj) : Led := M.map fun p => if p.1 = a then (a, o) else p
theorem setM_fst (M : Led) (a : Addr) (o : Obj) : (setM M a o).map (·.1) = M.map (·.1) := by
  unfold setM
  rw [List.map_map]
  refine List.map_congr_left fun p _ => ?_
  show (if p.1 = a then (a, o) else p).1 = p.1
  split
  · rename_i h; exact h.symm
  · rfl
theorem mem_setM {M : Led} {a : Addr} {o : Obj} {p : Addr × Obj} (h : p ∈ setM M a o) : (p = (a, o)) ∨ (p ∈ M ∧ p.1 ≠ a) := by
  obtain ⟨q, hq, e⟩ := List.mem_map.mp h
  split at e
  · exact .inl e.symm
  · rename_i hn; subst e; exact .inr ⟨hq, hn⟩
theorem setM_mem {M : Led} {a : Addr} {o ob : Obj} (h : (a, ob) ∈ M) : (a, o) ∈ setM M a o := List.mem_map.mpr ⟨_, h, by simp⟩
theorem setM_ne {M : Led} {a : Addr} {o : Obj} {p : Addr × Obj} (h : p ∈ M) (hn : p.1 ≠ a) : p ∈ setM M a o := List.mem_map.mpr ⟨p, h, by simp [hn]⟩

abbrev Gh.set (g : Gh) (a : Addr) (o : Obj) : Gh := { g with M := setM g.M a o }
theorem Gh.le.set (g : Gh) (a : Addr) (o : Obj) : g.le (g.set a o) := ⟨fun _ h => h, List.prefix_refl _⟩

/-- an object of the store: where it lies, and what a change of it does -/
theorem Rep.at (R : Rep X A env f m Xc s g lo st) {i : Nat} (hl : (st i).live = true) :
    ∃ a ob gU, g.R[i]? = some a ∧ OR X g.I g.R a ob (st i) ∧ UpdF a ob (Xc ++ (f.Xo ++ (g.M ++ g.I))) gU ∧ (a, ob) ∈ Xc ++ (f.Xo ++ (g.M ++ g.I)) ∧
      ∀ (s' : Shared) (o' : Obj) (ao' : AO), Fr f.h₀ f.L s'.heap m → News f.h₀ f.L s'.heap (gU o') → s'.gens = s.gens → s'.os = s.os → OR X g.I g.R a o' ao' →
        Rep X A env f m Xc s' (g.set a o') lo (st.set i ao') := by
  obtain ⟨a, ob, h1, h2, h3⟩ := (R.obj i).2 hl
  have hm : (a, ob) ∈ Xc ++ (f.Xo ++ (g.M ++ g.I)) := R.inM h2
  obtain ⟨gU, U, hU⟩ := updF_of R.nd hm
  have hnd := R.nd
  rw [List.map_append, List.nodup_append, List.map_append, List.nodup_append, List.map_append, List.nodup_append] at hnd
  have hmem : a ∈ g.M.map (·.1) := List.mem_map_of_mem (f := (·.1)) h2
  have hnX : ∀ p ∈ Xc, p.1 ≠ a := fun p hp e => hnd.2.2 _ (List.mem_map_of_mem hp) _ (List.mem_append_right _ (List.mem_append_left _ hmem)) e
  have hnO : ∀ p ∈ f.Xo, p.1 ≠ a := fun p hp e => hnd.2.1.2.2 _ (List.mem_map_of_mem hp) _ (List.mem_append_left _ hmem) e
  have hnI : ∀ p ∈ g.I, p.1 ≠ a := fun p hp e => hnd.2.1.2.1.2.2 _ hmem _ (List.mem_map_of_mem hp) e.symm
  refine ⟨a, ob, gU, h1, h3, U, hm, fun s' o' ao' F' N' hg ho hao => ?_⟩
  have up : ∀ b, b ∈ (Xc ++ (f.Xo ++ (g.M ++ g.I))).map (·.1) → b ∈ (Xc ++ (f.Xo ++ ((g.set a o').M ++ g.I))).map (·.1) := fun b hb => by
    rw [List.map_append, List.map_append, List.map_append] at hb ⊢
    rw [show List.map (fun x => x.1) (g.set a o').M = List.map (fun x => x.1) g.M from setM_fst _ _ _]
    exact hb
  refine ⟨R.ok, R.globals, R.builtins, R.kind, R.loc, hg.trans R.gens, ho.trans R.os, F', ?_, ?_, R.vars, R.cells, R.ndR, fun b hb => up b (R.old b hb), fun b hb => ⟨up b (R.ban b hb).1, (R.ban b hb).2⟩, ?_⟩
  · intro p hp
    refine N' p ((hU o' p).mpr ?_)
    simp only [List.mem_append] at hp ⊢
    rcases hp with h | h | h | h
    · exact .inr ⟨.inl h, hnX p h⟩
    · exact .inr ⟨.inr (.inl h), hnO p h⟩
    · rcases mem_setM h with h | ⟨h, hn⟩
      · exact .inl h
      · exact .inr ⟨.inr (.inr (.inl h)), hn⟩
    · exact .inr ⟨.inr (.inr (.inr h)), hnI p h⟩
  · have := R.nd
    rw [List.map_append, List.map_append, List.map_append] at this ⊢
    rw [show List.map (fun x => x.1) (g.set a o').M = List.map (fun x => x.1) g.M from setM_fst _ _ _]
    exact this
  · refine fun j => ⟨fun hl' => ?_, fun hl' => ?_⟩
    · by_cases hj : j = i
      · subst hj; exact (R.obj j).1 (live_dead hl)
      · rw [Sto.set_ne _ _ hj] at hl'; exact (R.obj j).1 hl'
    by_cases hj : j = i
    · subst hj
      rw [Sto.set_self]
      exact ⟨a, o', h1, setM_mem h2, hao⟩
    · rw [Sto.set_ne _ _ hj] at hl' ⊢
      obtain ⟨b, oc, k1, k2, k3⟩ := (R.obj j).2 hl'
      refine ⟨b, oc, k1, setM_ne k2 (fun q => ?_), k3⟩
      have q' : b = a := q
      subst q'
      have hjl : j < g.R.length := (List.getElem?_eq_some_iff.mp k1).1
      have hil : i < g.R.length := (List.getElem?_eq_some_iff.mp h1).1
      have e1 : g.R[j] = b := (List.getElem?_eq_some_iff.mp k1).2
      have e2 : g.R[i] = b := (List.getElem?_eq_some_iff.mp h1).2
      exact hj ((List.getElem_inj R.ndR).mp (e1.trans e2.symm))

/-- an object stays from now on: its number dies -/
theorem Rep.freeze (R : Rep X A env f m Xc s g lo st) {i : Nat} (hl : (st i).live = true) :
    ∃ a ob g', g.R[i]? = some a ∧ OR X g.I g.R a ob (st i) ∧ (a, ob) ∈ g'.I ∧ g.le g' ∧ Rep X A env f m Xc s g' lo (st.set i .dead) := by
  obtain ⟨a, ob, h1, h2, h3⟩ := (R.obj i).2 hl
  obtain ⟨pre, post, e⟩ := List.append_of_mem h2
  have P : List.Perm (Xc ++ (f.Xo ++ (g.M ++ g.I))) (Xc ++ (f.Xo ++ ((pre ++ post) ++ (a, ob) :: g.I))) := by
    refine List.Perm.append_left _ (List.Perm.append_left _ ?_)
    rw [e]
    refine List.Perm.trans ?_ List.perm_middle.symm
    rw [← List.cons_append]
    exact List.Perm.append_right _ List.perm_middle
  have hI : ∀ p ∈ g.I, p ∈ (a, ob) :: g.I := fun p hp => .tail _ hp
  have up : ∀ b, b ∈ (Xc ++ (f.Xo ++ (g.M ++ g.I))).map (·.1) → b ∈ (Xc ++ (f.Xo ++ ((pre ++ post) ++ (a, ob) :: g.I))).map (·.1) := fun b hb => (P.map (·.1)).mem_iff.mp hb
  refine ⟨a, ob, ⟨(a, ob) :: g.I, pre ++ post, g.R⟩, h1, h3, .head _, ⟨hI, List.prefix_refl _⟩, R.ok, R.globals, R.builtins, R.kind, R.loc, R.gens, R.os, R.F, ?_, ?_, ?_, R.cells, R.ndR, fun b hb => up b (R.old b hb), fun b hb => ⟨up b (R.ban b hb).1, (R.ban b hb).2⟩, ?_⟩
  · exact fun p hp => R.N p (P.mem_iff.mpr hp)
  · exact (P.map (·.1)).nodup_iff.mp R.nd
  · intro x av q
    obtain ⟨v, k1, k2⟩ := R.vars x av q
    exact ⟨v, k1, k2.mono hI (List.prefix_refl _)⟩
  · refine fun j => ⟨fun hl' => ?_, fun hl' => ?_⟩
    · by_cases hj : j = i
      · subst hj; exact (R.obj j).1 (live_dead hl)
      · rw [Sto.set_ne _ _ hj] at hl'; exact (R.obj j).1 hl'
    by_cases hj : j = i
    · subst hj
      rw [Sto.set_self] at hl'
      cases hl'
    · rw [Sto.set_ne _ _ hj] at hl' ⊢
      obtain ⟨b, oc, k1, k2, k3⟩ := (R.obj j).2 hl'
      refine ⟨b, oc, k1, ?_, k3.mono hI (List.prefix_refl _)⟩
      have hne : b ≠ a := fun q' => by
        subst q'
        have e1 : g.R[j]'((List.getElem?_eq_some_iff.mp k1).1) = b := (List.getElem?_eq_some_iff.mp k1).2
        have e2 : g.R[i]'((List.getElem?_eq_some_iff.mp h1).1) = b := (List.getElem?_eq_some_iff.mp h1).2
        exact hj ((List.getElem_inj R.ndR).mp (e1.trans e2.symm))
      rw [e] at k2
      simp only [List.mem_append, List.mem_cons] at k2 ⊢
      rcases k2 with h | h | h
      · exact .inl h
      · exact absurd (congrArg Prod.fst h) hne
      · exact .inr h

/-- a list that stays from now on -/
theorem Rep.freezeList (R : Rep X A env f m Xc s g lo st) {i : Nat} {xs : List AV} {v : Value} (hi : st i = .list xs) (hv : RV X g.I g.R v (.ref i)) :
    ∃ g', RV X g'.I g'.R v (.list xs) ∧ g.le g' ∧ Rep X A env f m Xc s g' lo (st.set i .dead) := by
  obtain ⟨a, ob, g', h1, h2, h3, h4, h5⟩ := R.freeze (i := i) (by rw [hi]; rfl)
  rw [hi] at h2
  obtain ⟨vs, n, e, h2⟩ := h2
  replace hv := RV.inv hv; obtain ⟨_, rfl, h⟩ := hv
  rw [h1] at h; cases h
  subst e
  exact ⟨g', .list h3 (h2.mono h4.I h4.R), h4, h5⟩

end
end Mine

namespace Mine

section
variable (X : Fix) (A : Around) (env : Env) (lo : Lo)

/-- a tree that ends with a value which stands for a plain one -/
def AG {α β : Type} (Rel : Gh → α → β → Prop) (t : Sem α) (st : Sto) (P : β → Sto → Prop) : Prop :=
  ∀ f m Xc s g, Rep X A env f m Xc s g lo st → ∀ (Q : α → Shared → Prop) (E : Value → Shared → Prop),
    (∀ a s' g' b st', g.le g' → Rep X A env f m Xc s' g' lo st' → Rel g' a b → P b st' → Q a s') → wpAny (model X.prog X.w) A t Q E s
def AG1 {α β : Type} (Rel : Gh → α → β → Prop) (t : Value → Sem α) (x : AV) (st : Sto) (P : β → Sto → Prop) : Prop :=
  ∀ f m Xc s g, Rep X A env f m Xc s g lo st → ∀ v, RV X g.I g.R v x → ∀ (Q : α → Shared → Prop) (E : Value → Shared → Prop),
    (∀ a s' g' b st', g.le g' → Rep X A env f m Xc s' g' lo st' → Rel g' a b → P b st' → Q a s') → wpAny (model X.prog X.w) A (t v) Q E s
def AG2 {α β : Type} (Rel : Gh → α → β → Prop) (t : Value → Value → Sem α) (x y : AV) (st : Sto) (P : β → Sto → Prop) : Prop :=
  ∀ f m Xc s g, Rep X A env f m Xc s g lo st → ∀ v w, RV X g.I g.R v x → RV X g.I g.R w y → ∀ (Q : α → Shared → Prop) (E : Value → Shared → Prop),
    (∀ a s' g' b st', g.le g' → Rep X A env f m Xc s' g' lo st' → Rel g' a b → P b st' → Q a s') → wpAny (model X.prog X.w) A (t v w) Q E s
end

abbrev RVR (X : Fix) : Gh → Value → AV → Prop := fun g v x => RV X g.I g.R v x
abbrev RVsR (X : Fix) : Gh → List Value → List AV → Prop := fun g v x => RVs X g.I g.R v x
abbrev REq {α : Type} : Gh → α → α → Prop := fun _ a b => a = b
section
variable (X : Fix) (A : Around) (env : Env) (lo : Lo)
abbrev AW (t : Sem Value) (st : Sto) (P : AV → Sto → Prop) : Prop := AG X A env lo (RVR X) t st P
abbrev AW1 (t : Value → Sem Value) (x : AV) (st : Sto) (P : AV → Sto → Prop) : Prop := AG1 X A env lo (RVR X) t x st P
abbrev AW2 (t : Value → Value → Sem Value) (x y : AV) (st : Sto) (P : AV → Sto → Prop) : Prop := AG2 X A env lo (RVR X) t x y st P
abbrev AE (e : Expr) (st : Sto) (P : AV → Sto → Prop) : Prop := AW X A env lo (eval e env) st P
abbrev AT (e : Expr) (st : Sto) (P : Bool → Sto → Prop) : Prop := AG X A env lo REq (isTrue e env (eval e env)) st P
/-- what is wanted behind a part of an expression: its other parts -/
abbrev BinR (r : Expr) (t : Value → Value → Sem Value) (P : AV → Sto → Prop) (x : AV) (st : Sto) : Prop := AE X A env lo r st fun y st₂ => AW2 X A env lo t x y st₂ P
abbrev AArgs (pos : Pos) (es : List Expr) (st : Sto) (P : List AV → Sto → Prop) : Prop := AG X A env lo (RVsR X) (spliced (backTo pos (starEach es env))) st P
abbrev ArgR (pos : Pos) (rest : List Expr) (P : List AV → Sto → Prop) (x : AV) (st : Sto) : Prop := AArgs X A env lo pos rest st fun xs st₂ => P (x :: xs) st₂
end

section
variable {X : Fix} {A : Around} {env : Env} {lo : Lo} {st : Sto} {α β : Type} {Rel : Gh → α → β → Prop}

/-- names of the frame, of the text, of the start -/
theorem e_name {x : Str} {pos : Pos} {av : AV} {P : AV → Sto → Prop} (hx : lo.lookup x = some av) (h : P av st) (hd : (x == ("__debug__" : Str)) = false := by decide) : AE X A env lo (.Name x pos) st P := by
  intro f m Xc s g R Q E hQ
  obtain ⟨v, hv, hr⟩ := R.vars x av hx
  have h := hQ v s g av st (Gh.le.refl g) R hr h
  rcases hv with ⟨h1, h2, h3⟩ | ⟨h1, ob, es, ep, h2, h3, h4, h5⟩ | ⟨h1, c, ob, h2, h3, h4⟩
  · exact wpAny_Name (wpAny_loadName_local R.kind h1 (by rw [h2]; exact R.F.ns) h3 h) hd
  · exact wpAny_Name (wpAny_loadName_local R.kind h1 ⟨ob, es, ep, (R.N _ (R.inX h2)).1, h3, h4, fun _ => rfl⟩ h5 h) hd
  · have hc : s.heap.IsCell c (some v) := ⟨ob, (R.N _ (R.inX h3)).1, h4⟩
    rcases h1 with h1 | ⟨h1, hn⟩
    · exact wpAny_Name (wpAny_loadName_cell R.kind h1 h2 hc h) hd
    · exact wpAny_Name (wpAny_loadName_free R.kind h1 h2 hc h hn) hd

/-- a name that holds an object of the text -/
theorem g_name {x : Str} {v : Value} {pos : Pos} {f : Fm} {m : Str → Option Value} {Xc : Led} {s : Shared} {g : Gh} (R : Rep X A env f m Xc s g lo st) {Q : Value → Shared → Prop} {E : Value → Shared → Prop}
    (e : nsIn X.K mainGlobals x = some (some v)) (h : Q v s) (hx : env.kindOf x = some .globalImplicit) (hd : (x == ("__debug__" : Str)) = false := by decide) :
    wpAny (model X.prog X.w) A (eval (.Name x pos) env) Q E s := nameG_K R.F R.ok.K (topRead_of R.ok.top) e h R.globals R.kind hx hd
theorem b_name {x : Str} {v : Value} {pos : Pos} {f : Fm} {m : Str → Option Value} {Xc : Led} {s : Shared} {g : Gh} (R : Rep X A env f m Xc s g lo st) {Q : Value → Shared → Prop} {E : Value → Shared → Prop}
    (e : nsIn X.K mainGlobals x = some none) (hv : bootBuiltins x = some v) (hn : x ≠ "__name__") (h : Q v s) (hx : env.kindOf x = some .globalImplicit) (hd : (x == ("__debug__" : Str)) = false := by decide) :
    wpAny (model X.prog X.w) A (eval (.Name x pos) env) Q E s := by
  have T := topRead_of R.ok.top
  exact Name_function_global R.kind hx (loadGlobal_builtin (by rw [R.globals]; exact T.g.keeps R.F.keep) (mg_none_of R.ok.K T.g e) (by rw [R.builtins]; exact T.b.keeps R.F.keep) ((T.builtins x hn).trans hv) h) hd

theorem e_int {i : Int} {k : Nat} {pos : Pos} {P : AV → Sto → Prop} (h : P (.int i) st) : AE X A env lo (.Constant (.int i) k pos) st P :=
  fun f m Xc s g R Q E hQ => wpAny_Constant_int (hQ _ _ g _ _ (Gh.le.refl g) (R.tk _) (.int _ _) h)
theorem e_str {x : Str} {k : Nat} {pos : Pos} {P : AV → Sto → Prop} (h : P (.str x) st) : AE X A env lo (.Constant (.str x) k pos) st P :=
  fun f m Xc s g R Q E hQ => wpAny_Constant_str (hQ _ _ g _ _ (Gh.le.refl g) (R.tk _) (.str _ _) h)
theorem e_none {k : Nat} {pos : Pos} {P : AV → Sto → Prop} (h : P .none st) : AE X A env lo (.Constant .none k pos) st P :=
  fun f m Xc s g R Q E hQ => wpAny_Constant_none (hQ _ _ g _ _ (Gh.le.refl g) R .none h)
theorem e_bool {b : Bool} {k : Nat} {pos : Pos} {P : AV → Sto → Prop} (h : P (.bool b) st) : AE X A env lo (.Constant (.bool b) k pos) st P :=
  fun f m Xc s g R Q E hQ => wpAny_Constant_bool (hQ _ _ g _ _ (Gh.le.refl g) R (.bool b) h)

theorem e_bin {l r : Expr} {op : Operator} {pos : Pos} {P : AV → Sto → Prop} (h : AE X A env lo l st (BinR X A env lo r (binaryOp op) P)) : AE X A env lo (.BinOp l op r pos) st P :=
  fun f m Xc s g R Q E hQ => wpAny_BinOp (h f m Xc s g R _ _ fun _ _ _ _ _ l₁ R₁ r₁ h₁ => h₁ f m Xc _ _ R₁ _ _ fun _ _ _ _ _ l₂ R₂ r₂ h₂ =>
    h₂ f m Xc _ _ R₂ _ _ (r₁.le l₂) r₂ _ _ fun a s' g' b st' l' R' r' p => hQ a s' g' b st' ((l₁.trans l₂).trans l') R' r' p)
theorem e_cmp {l r : Expr} {op : CmpOp} {pos : Pos} {P : AV → Sto → Prop} (h : AE X A env lo l st (BinR X A env lo r (compareOp op) P)) (hm : behindInMarks op r = false := by with_unfolding_all rfl) :
    AE X A env lo (.Compare l [op] [r] pos) st P :=
  fun f m Xc s g R Q E hQ => wpAny_Compare1 (h f m Xc s g R _ _ fun _ _ _ _ _ l₁ R₁ r₁ h₁ => h₁ f m Xc _ _ R₁ _ _ fun _ _ _ _ _ l₂ R₂ r₂ h₂ =>
    h₂ f m Xc _ _ R₂ _ _ (r₁.le l₂) r₂ _ _ fun a s' g' b st' l' R' r' p => hQ a s' g' b st' ((l₁.trans l₂).trans l') R' r' p) hm
theorem e_un {x : Expr} {op : UnaryOp} {pos : Pos} {P : AV → Sto → Prop} (h : AE X A env lo x st fun x st₁ => AW1 X A env lo (unaryOp op) x st₁ P) : AE X A env lo (.UnaryOp op x pos) st P :=
  fun f m Xc s g R Q E hQ => UnaryOp_ (h f m Xc s g R _ _ fun _ _ _ _ _ l₁ R₁ r₁ h₁ => h₁ f m Xc _ _ R₁ _ r₁ _ _ fun a s' g' b st' l' R' r' p => hQ a s' g' b st' (l₁.trans l') R' r' p)

/-- the truth of a value -/
theorem t_bool {b : Bool} {P : Bool → Sto → Prop} (h : P b st) : AG1 X A env lo REq truthy (.bool b) st P := by
  intro f m Xc s g R v hv Q E hQ
  replace hv := RV.inv hv; obtain rfl := hv
  exact wpAny_truthy_bool (hQ _ _ g _ _ (Gh.le.refl g) R rfl h)

theorem i_plain {e : Expr} {P : Bool → Sto → Prop} (h : AE X A env lo e st fun x st₁ => AG1 X A env lo REq truthy x st₁ P)
    (he : isTrue e env (eval e env) = (do let v ← eval e env; standAt e.pos; holding [v] (truthy v)) := by rfl) : AT X A env lo e st P :=
  fun f m Xc s g R Q E hQ => isTrue_plain (h f m Xc s g R _ _ fun _ _ _ _ _ l₁ R₁ r₁ h₁ => h₁ f m Xc _ _ R₁ _ r₁ _ _ fun a s' g' b st' l' R' r' p => hQ a s' g' b st' (l₁.trans l') R' r' p) he
theorem i_cmp {l r : Expr} {op : CmpOp} {pos : Pos} {P : Bool → Sto → Prop} (h : AE X A env lo l st fun x st₁ => AE X A env lo r st₁ fun y st₂ => AW2 X A env lo (compareOp op) x y st₂ fun z st₃ => ∃ b, z = .bool b ∧ P b st₃)
    (hm : behindInMarks op r = false := by with_unfolding_all rfl) : AT X A env lo (.Compare l [op] [r] pos) st P :=
  fun f m Xc s g R Q E hQ => wpAny_isTrue_Compare1 (h f m Xc s g R _ _ fun _ _ _ _ _ l₁ R₁ r₁ h₁ => h₁ f m Xc _ _ R₁ _ _ fun _ _ _ _ _ l₂ R₂ r₂ h₂ =>
    h₂ f m Xc _ _ R₂ _ _ (r₁.le l₂) r₂ _ _ fun a s' g' b st' l' R' r' ⟨c, e, p⟩ => by
      subst e; replace r' := RV.inv r'; obtain rfl := r'
      exact wpAny_truthy_bool (hQ _ s' g' _ st' ((l₁.trans l₂).trans l') R' rfl p)) hm
theorem i_not {e : Expr} {pos : Pos} {P : Bool → Sto → Prop} (h : AT X A env lo e st fun b st₁ => P (!b) st₁) : AT X A env lo (.UnaryOp .Not e pos) st P :=
  fun f m Xc s g R Q E hQ => isTrue_not (h f m Xc s g R _ _ fun a s' g' b st' l' R' r' p => hQ _ s' g' _ st' l' R' (by rw [r']) p)
theorem i_and {e e' : Expr} {pos : Pos} {P : Bool → Sto → Prop} (h : AT X A env lo e st fun b st₁ => if b = true then AT X A env lo e' st₁ P else P false st₁) : AT X A env lo (.BoolOp .And [e, e'] pos) st P := by
  intro f m Xc s g R Q E hQ
  refine isTrue_and (h f m Xc s g R _ _ fun a s₁ g₁ b st₁ l₁ R₁ r₁ p₁ => ?_)
  cases r₁
  cases a with
  | false => exact hQ _ _ g₁ _ _ l₁ R₁ rfl p₁
  | true =>
    refine isTrue_and (p₁ f m Xc s₁ g₁ R₁ _ _ fun a s₂ g₂ b st₂ l₂ R₂ r₂ p₂ => ?_)
    cases r₂
    cases a with
    | false => exact hQ _ _ g₂ _ _ (l₁.trans l₂) R₂ rfl p₂
    | true => exact isTrue_and_nil (hQ _ _ g₂ _ _ (l₁.trans l₂) R₂ rfl p₂)
theorem i_or {e e' : Expr} {pos : Pos} {P : Bool → Sto → Prop} (h : AT X A env lo e st fun b st₁ => if b = true then P true st₁ else AT X A env lo e' st₁ P) : AT X A env lo (.BoolOp .Or [e, e'] pos) st P := by
  intro f m Xc s g R Q E hQ
  refine isTrue_or (h f m Xc s g R _ _ fun a s₁ g₁ b st₁ l₁ R₁ r₁ p₁ => ?_)
  cases r₁
  cases a with
  | true => exact hQ _ _ g₁ _ _ l₁ R₁ rfl p₁
  | false =>
    refine isTrue_or (p₁ f m Xc s₁ g₁ R₁ _ _ fun a s₂ g₂ b st₂ l₂ R₂ r₂ p₂ => ?_)
    cases r₂
    cases a with
    | true => exact hQ _ _ g₂ _ _ (l₁.trans l₂) R₂ rfl p₂
    | false => exact isTrue_or_nil (hQ _ _ g₂ _ _ (l₁.trans l₂) R₂ rfl p₂)

theorem e_ifexp {c a b : Expr} {pos : Pos} {P : AV → Sto → Prop} (h : AT X A env lo c st fun z st₁ => if z = true then AE X A env lo a st₁ P else AE X A env lo b st₁ P) : AE X A env lo (.IfExp c a b pos) st P := by
  intro f m Xc s g R Q E hQ
  refine IfExp_ (h f m Xc s g R _ _ fun z s₁ g₁ z' st₁ l₁ R₁ r₁ p₁ => ?_)
  cases r₁
  cases z with
  | false => exact p₁ f m Xc s₁ g₁ R₁ _ _ fun a s' g' b st' l' R' r' p => hQ a s' g' b st' (l₁.trans l') R' r' p
  | true => exact p₁ f m Xc s₁ g₁ R₁ _ _ fun a s' g' b st' l' R' r' p => hQ a s' g' b st' (l₁.trans l') R' r' p
theorem e_and {e e' : Expr} {pos : Pos} {P : AV → Sto → Prop} (h : AE X A env lo e st fun v st₁ => AG1 X A env lo REq truthy v st₁ fun b st₂ => if b = true then AE X A env lo e' st₂ P else P v st₂) : AE X A env lo (.BoolOp .And [e, e'] pos) st P := by
  intro f m Xc s g R Q E hQ
  refine BoolOp_and (h f m Xc s g R _ _ fun a s₁ g₁ b st₁ l₁ R₁ r₁ p₁ => p₁ f m Xc s₁ g₁ R₁ _ r₁ _ _ fun c s₂ g₂ d st₂ l₂ R₂ r₂ p₂ => ?_)
  cases r₂
  cases c with
  | false => exact hQ _ _ g₂ _ _ (l₁.trans l₂) R₂ (r₁.le l₂) p₂
  | true => exact BoolOp_one (p₂ f m Xc s₂ g₂ R₂ _ _ fun a s' g' b st' l' R' r' p => hQ a s' g' b st' ((l₁.trans l₂).trans l') R' r' p)
theorem e_or {e e' : Expr} {pos : Pos} {P : AV → Sto → Prop} (h : AE X A env lo e st fun v st₁ => AG1 X A env lo REq truthy v st₁ fun b st₂ => if b = true then P v st₂ else AE X A env lo e' st₂ P) : AE X A env lo (.BoolOp .Or [e, e'] pos) st P := by
  intro f m Xc s g R Q E hQ
  refine BoolOp_or (h f m Xc s g R _ _ fun a s₁ g₁ b st₁ l₁ R₁ r₁ p₁ => p₁ f m Xc s₁ g₁ R₁ _ r₁ _ _ fun c s₂ g₂ d st₂ l₂ R₂ r₂ p₂ => ?_)
  cases r₂
  cases c with
  | true => exact hQ _ _ g₂ _ _ (l₁.trans l₂) R₂ (r₁.le l₂) p₂
  | false => exact BoolOp_one (p₂ f m Xc s₂ g₂ R₂ _ _ fun a s' g' b st' l' R' r' p => hQ a s' g' b st' ((l₁.trans l₂).trans l') R' r' p)

/-- a row of arguments -/
theorem a_nil {pos : Pos} {P : List AV → Sto → Prop} (h : P [] st) : AArgs X A env lo pos [] st P :=
  fun f m Xc s g R Q E hQ => args_nil (hQ _ _ g _ _ (Gh.le.refl g) R .nil h)
theorem a_cons {pos : Pos} {e : Expr} {rest : List Expr} {P : List AV → Sto → Prop} (h : AE X A env lo e st (ArgR X A env lo pos rest P))
    (he : starEach (e :: rest) env = (false, eval e env) :: starEach rest env := by rfl) : AArgs X A env lo pos (e :: rest) st P :=
  fun f m Xc s g R Q E hQ => args_cons (h f m Xc s g R _ _ fun _ _ _ _ _ l₁ R₁ r₁ h₁ => h₁ f m Xc _ _ R₁ _ _ fun a s' g' b st' l' R' r' p => hQ _ s' g' _ st' (l₁.trans l') R' (.cons (r₁.le l') r') p) he

theorem e_tuple {es : List Expr} {k : Nat} {pos : Pos} {P : AV → Sto → Prop} (h : AArgs X A env lo pos es st fun xs st₁ => xs.length ≤ 1000 ∧ P (.tup xs) st₁) : AE X A env lo (.Tuple es k pos) st P := by
  intro f m Xc s g R Q E hQ
  refine Tuple_ (h f m Xc s g R _ _ fun vs s₁ g₁ xs st₁ l₁ R₁ r₁ ⟨hsz, p⟩ => ?_)
  refine newTuple_N R₁.F R₁.N (fun h' F' N' => ?_) (by rw [RVs.length r₁, sizeLine_eq]; omega)
  refine hQ _ _ _ _ _ (l₁.trans (Gh.le.imm g₁ _)) (R₁.imm (s' := { s₁ with heap := h' }) (Nat.le_refl _) F' N' rfl rfl rfl) ?_ p
  exact .tup (.head _) (r₁.mono (fun p hp => .tail _ hp) (List.prefix_refl _))
/-- a list that stays as it is -/
theorem e_list {es : List Expr} {pos : Pos} {P : AV → Sto → Prop} (h : AArgs X A env lo pos es st fun xs st₁ => xs.length ≤ 1000 ∧ P (.list xs) st₁) : AE X A env lo (.List es pos) st P := by
  intro f m Xc s g R Q E hQ
  refine List_ (h f m Xc s g R _ _ fun vs s₁ g₁ xs st₁ l₁ R₁ r₁ ⟨hsz, p⟩ => ?_)
  refine newList_N R₁.F R₁.N (fun h' F' N' => ?_) (by rw [RVs.length r₁, sizeLine_eq]; omega)
  refine hQ _ _ _ _ _ (l₁.trans (Gh.le.imm g₁ _)) (R₁.imm (s' := { s₁ with heap := h' }) (Nat.le_refl _) F' N' rfl rfl rfl) ?_ p
  exact .list (n := 0) (.head _) (r₁.mono (fun p hp => .tail _ hp) (List.prefix_refl _))
/-- a list that grows -/
theorem e_listM {es : List Expr} {pos : Pos} {P : AV → Sto → Prop} (h : AArgs X A env lo pos es st fun xs st₁ => xs.length ≤ 1000 ∧ ∀ i, st₁ i = .dead → P (.ref i) (st₁.set i (.list xs))) : AE X A env lo (.List es pos) st P := by
  intro f m Xc s g R Q E hQ
  refine List_ (h f m Xc s g R _ _ fun vs s₁ g₁ xs st₁ l₁ R₁ r₁ ⟨hsz, p⟩ => ?_)
  refine newList_N R₁.F R₁.N (fun h' F' N' => ?_) (by rw [RVs.length r₁, sizeLine_eq]; omega)
  refine hQ _ _ _ _ _ (l₁.trans (Gh.le.new g₁ _)) (R₁.new (s' := { s₁ with heap := h' }) (ao := .list xs) (Nat.le_refl _) F' N' rfl rfl rfl ⟨vs, 0, rfl, r₁⟩) ?_ (p _ (R₁.dead (Nat.le_refl _)))
  exact .ref (by show (g₁.R ++ [_])[g₁.R.length]? = _; rw [List.getElem?_append_right (Nat.le_refl _), Nat.sub_self]; rfl)

/-- an item -/
theorem e_sub {v i : Expr} {pos : Pos} {P : AV → Sto → Prop} (h : AE X A env lo v st (BinR X A env lo i (subscriptTail v i) P)) : AE X A env lo (.Subscript v i pos) st P :=
  fun f m Xc s g R Q E hQ => Subscript_ (h f m Xc s g R _ _ fun _ _ _ _ _ l₁ R₁ r₁ h₁ => h₁ f m Xc _ _ R₁ _ _ fun _ _ _ _ _ l₂ R₂ r₂ h₂ =>
    h₂ f m Xc _ _ R₂ _ _ (r₁.le l₂) r₂ _ _ fun a s' g' b st' l' R' r' p => hQ a s' g' b st' ((l₁.trans l₂).trans l') R' r' p)
theorem e_attr {v : Expr} {attr : Str} {pos : Pos} {P : AV → Sto → Prop} (h : AE X A env lo v st fun x st₁ => AW1 X A env lo (fun v => getAttr v attr true) x st₁ P)
    (he : eval (.Attribute v attr pos) env = (do
      let o ← eval v env
      standAt pos.atName
      let r ← holding [o] (getAttr o attr true)
      letTemporaryGo v o r
      pure r) := by rfl) : AE X A env lo (.Attribute v attr pos) st P :=
  fun f m Xc s g R Q E hQ => Attribute_any_ (h f m Xc s g R _ _ fun _ _ _ _ _ l₁ R₁ r₁ h₁ => h₁ f m Xc _ _ R₁ _ r₁ _ _ fun a s' g' b st' l' R' r' p => hQ a s' g' b st' (l₁.trans l') R' r' p) he
end
end Mine

namespace Mine

/-- how a statement ends -/
inductive AF where
  | next | brk | cont | ret (v : AV)
inductive RF (X : Fix) (g : Gh) : Flow → AF → Prop
  | next : RF X g .next .next
  | brk : RF X g .brk .brk
  | cont : RF X g .cont .cont
  | ret {v : Value} {x : AV} : RV X g.I g.R v x → RF X g (.ret v) (.ret x)

/-- a name's value is set -/
def put : Lo → Str → AV → Lo
  | [], x, v => [(x, v)]
  | (y, w) :: r, x, v => if x == y then (y, v) :: r else (y, w) :: put r x v
theorem put_self (x : Str) (v : AV) : ∀ lo : Lo, (put lo x v).lookup x = some v
  | [] => by simp [put]
  | (y, w) :: r => by
    unfold put
    split
    · rename_i h; rw [List.lookup_cons, h]
    · rename_i h; rw [List.lookup_cons]; simp only [Bool.not_eq_true] at h; rw [h]; exact put_self x v r
theorem put_ne {x z : Str} (h : z ≠ x) (v : AV) : ∀ lo : Lo, (put lo x v).lookup z = lo.lookup z
  | [] => by
    have : (z == x) = false := by simpa using h
    simp [put, List.lookup, this]
  | (y, w) :: r => by
    unfold put
    split
    · rename_i q
      have q' : x = y := eq_of_beq q
      subst q'
      have : (z == x) = false := by simpa using h
      rw [List.lookup_cons, List.lookup_cons, this]
    · rw [List.lookup_cons, List.lookup_cons, put_ne h v r]

section
variable (X : Fix) (A : Around) (env : Env)
def AS (t : Sem Flow) (lo : Lo) (st : Sto) (P : AF → Lo → Sto → Prop) : Prop :=
  ∀ f m Xc s g, Rep X A env f m Xc s g lo st → ∀ (Q : Flow → Shared → Prop) (E : Value → Shared → Prop),
    (∀ fl s' g' m' Xc' af lo' st', g.le g' → Rep X A env f m' Xc' s' g' lo' st' → RF X g' fl af → P af lo' st' → Q fl s') → wpAny (model X.prog X.w) A t Q E s
def AU (t : Value → Sem Unit) (x : AV) (lo : Lo) (st : Sto) (P : Lo → Sto → Prop) : Prop :=
  ∀ f m Xc s g, Rep X A env f m Xc s g lo st → ∀ v, RV X g.I g.R v x → ∀ (Q : Unit → Shared → Prop) (E : Value → Shared → Prop),
    (∀ s' g' m' Xc' lo' st', g.le g' → Rep X A env f m' Xc' s' g' lo' st' → P lo' st' → Q () s') → wpAny (model X.prog X.w) A (t v) Q E s
abbrev ASs (ss : List Stmt) (lo : Lo) (st : Sto) (P : AF → Lo → Sto → Prop) : Prop := AS X A env (execs ss env) lo st P
abbrev AX (s : Stmt) (lo : Lo) (st : Sto) (P : AF → Lo → Sto → Prop) : Prop := AS X A env (exec s env) lo st P
/-- what is wanted behind the value of a statement -/
abbrev StoR (x : Str) (lo : Lo) (P : AF → Lo → Sto → Prop) (v : AV) (st : Sto) : Prop := AU X A env (storeName env x) v lo st fun lo' st' => P .next lo' st'
abbrev RetR (lo : Lo) (P : AF → Lo → Sto → Prop) (v : AV) (st : Sto) : Prop := P (.ret v) lo st
abbrev NxtR (lo : Lo) (P : AF → Lo → Sto → Prop) (_ : AV) (st : Sto) : Prop := P .next lo st
/-- what is wanted behind a statement: the rest of the row -/
abbrev Then (rest : List Stmt) (P : AF → Lo → Sto → Prop) (fl : AF) (lo : Lo) (st : Sto) : Prop := match fl with | .next => ASs X A env rest lo st P | fl => P fl lo st
end

section
variable {X : Fix} {A : Around} {env : Env} {lo : Lo} {st : Sto} {P : AF → Lo → Sto → Prop}

theorem AS.mono {t : Sem Flow} {P' : AF → Lo → Sto → Prop} (h : AS X A env t lo st P) (hp : ∀ a l s, P a l s → P' a l s) : AS X A env t lo st P' :=
  fun f m Xc s g R Q E hQ => h f m Xc s g R Q E fun fl s' g' m' Xc' af lo' st' l R' r p => hQ fl s' g' m' Xc' af lo' st' l R' r (hp _ _ _ p)
theorem s_nil (h : P .next lo st) : ASs X A env [] lo st P := fun f m Xc s g R Q E hQ => wpAny_execs_nil (hQ _ _ g m Xc _ _ _ (Gh.le.refl g) R .next h)
theorem s_cons {x : Stmt} {rest : List Stmt} (h : AX X A env x lo st (Then X A env rest P)) : ASs X A env (x :: rest) lo st P := by
  intro f m Xc s g R Q E hQ
  refine wpAny_execs_cons (h f m Xc s g R _ _ fun fl s₁ g₁ m₁ Xc₁ af lo₁ st₁ l₁ R₁ r₁ p₁ => ?_)
  cases r₁ with
  | next => exact p₁ f m₁ Xc₁ s₁ g₁ R₁ Q E fun fl s' g' m' Xc' af lo' st' l' R' r' p' => hQ fl s' g' m' Xc' af lo' st' (l₁.trans l') R' r' p'
  | brk => exact hQ _ _ g₁ m₁ Xc₁ _ _ _ l₁ R₁ .brk p₁
  | cont => exact hQ _ _ g₁ m₁ Xc₁ _ _ _ l₁ R₁ .cont p₁
  | ret h => exact hQ _ _ g₁ m₁ Xc₁ _ _ _ l₁ R₁ (.ret h) p₁
/-- the last statement of a row -/
theorem s_one {x : Stmt} (h : AX X A env x lo st P) : ASs X A env [x] lo st P :=
  s_cons (AS.mono h fun fl l s p => by cases fl with | next => exact s_nil p | brk => exact p | cont => exact p | ret v => exact p)
theorem s_if {test : Expr} {body orelse : List Stmt} {pos : Pos} (h : AT X A env lo test st fun b st₁ => if b = true then ASs X A env body lo st₁ P else ASs X A env orelse lo st₁ P) : AX X A env (.If test body orelse pos) lo st P := by
  intro f m Xc s g R Q E hQ
  refine wpAny_If (h f m Xc s g R _ _ fun b s₁ g₁ c st₁ l₁ R₁ r₁ p₁ => ?_)
  cases r₁
  cases b with
  | false => exact p₁ f m Xc s₁ g₁ R₁ Q E fun fl s' g' m' Xc' af lo' st' l' R' r' p' => hQ fl s' g' m' Xc' af lo' st' (l₁.trans l') R' r' p'
  | true => exact p₁ f m Xc s₁ g₁ R₁ Q E fun fl s' g' m' Xc' af lo' st' l' R' r' p' => hQ fl s' g' m' Xc' af lo' st' (l₁.trans l') R' r' p'
theorem s_ret {e : Expr} {pos : Pos} (h : AE X A env lo e st (RetR lo P)) : AX X A env (.Return (some e) pos) lo st P :=
  fun f m Xc s g R Q E hQ => wpAny_Return_some (h f m Xc s g R _ _ fun v s₁ g₁ x st₁ l₁ R₁ r₁ p₁ => hQ _ _ g₁ m Xc _ _ _ l₁ R₁ (.ret r₁) p₁)
theorem s_ret0 {pos : Pos} (h : P (.ret .none) lo st) : AX X A env (.Return none pos) lo st P :=
  fun f m Xc s g R Q E hQ => wpAny_Return_none (hQ _ _ g m Xc _ _ _ (Gh.le.refl g) R (.ret .none) h)

theorem entry_lg : entryFor table "proto.let_go" = some Builtin.«proto.let_go» := entryFor_of_fast (by kernel_rfl)
theorem drop_any {M : Model} {E : Value → Shared → Prop} {e : Expr} {pos : Pos} {v : Value} {s : Shared} {Q : Flow → Shared → Prop} {prog : Program} {w : World} (h : Q .next s) : wpAny (model prog w) A (dropValue e pos v) Q E s := by
  unfold dropValue
  split
  · exact wpAny_pure h
  · exact wpAny_bind (wpAny_standAt (wpAny_bind (wpAny_runValue (codeAny_builtin entry_lg (show wpAny _ _ (ret .none) _ _ s from wpAny_pure (wpAny_pure h))))))
  · exact wpAny_pure h
theorem s_expr {e : Expr} {pos : Pos} (h : AE X A env lo e st (NxtR lo P)) (hi : interactive env = false := by rfl) (hs : swapsWith e none pos.line env = pure false := by rfl) : AX X A env (.Expr e pos) lo st P := by
  intro f m Xc s g R Q E hQ
  rw [exec_Expr env e pos hi hs]
  exact wpAny_bind (wpAny_standAt (wpAny_bind (h f m Xc s g R _ _ fun v s₁ g₁ x st₁ l₁ R₁ r₁ p₁ => drop_any (M := model X.prog X.w) (hQ _ _ g₁ m Xc _ _ _ l₁ R₁ .next p₁))))

/-- a name is set -/
theorem u_store {x : Str} {av : AV} {P : Lo → Sto → Prop} (h : P (put lo x av) st) (hx : env.kindOf x = some .local ∨ env.kindOf x = some .cell)
    (hf : env.func.isSome = true) (hc : env.kindOf x = some .cell → ∃ c, env.cells.lookup x = some c) : AU X A env (storeName env x) av lo st P := by
  intro f m Xc s g R v hv Q E hQ
  have hL := R.loc hf
  rcases hx with hx | hx
  · have hns : s.heap.Ns env.locals m := by rw [hL]; exact R.F.ns
    refine wpAny_storeName_local hx hns (fun h' hn hs => ?_) (by rw [R.kind]; rfl)
    rw [hL] at hn hs
    refine hQ _ g (fun y => if y = x then some v else m y) Xc _ st (Gh.le.refl g) ⟨R.ok, R.globals, R.builtins, R.kind, R.loc, R.gens, R.os, R.F.set hn hs, R.N.set hs, R.nd, ?_, R.cells, R.ndR, R.old, R.ban, R.obj⟩ h
    intro y bv e
    by_cases hy : y = x
    · subst hy
      rw [put_self] at e
      cases e
      exact ⟨v, .inl ⟨hx, hL, by simp⟩, hv⟩
    · rw [put_ne hy] at e
      obtain ⟨u, hu, hr⟩ := R.vars y bv e
      refine ⟨u, ?_, hr⟩
      rcases hu with ⟨h1, h2, h3⟩ | h2 | h3
      · exact .inl ⟨h1, h2, by simp [hy]; exact h3⟩
      · exact .inr (.inl h2)
      · exact .inr (.inr h3)
  · obtain ⟨c, hcc⟩ := hc hx
    obtain ⟨⟨o, v₀, h1, h2, h3⟩, h4, h5⟩ := R.cells x c hcc
    have h3 := h3 hf
    have hm : (c, o) ∈ Xc ++ (f.Xo ++ (g.M ++ g.I)) := List.mem_append_left _ h3
    have hmem := R.N (c, o) hm
    refine wpAny_storeName_cell R.kind hx hcc ⟨o, hmem.1, h2⟩ fun h' hv' hs => ?_
    obtain ⟨o', ho', hd'⟩ := hv'
    obtain ⟨gU, U, hU⟩ := updF_of R.nd hm
    obtain ⟨pre, post, e, hg, k1, k2⟩ := U.split
    have N' : News f.h₀ f.L h' (gU o') := by rw [hg]; have := R.N; rw [e] at this; exact this.setAt k1 k2 hs ho'
    have F' : Fr f.h₀ f.L h' m := ⟨R.F.ns.sameBut hs (Ne.symm hmem.2.1), fun b ob e => (hs.2 b (fun q => by rw [q, hmem.2.2] at e; cases e)).trans (R.F.keep b ob e), R.F.above⟩
    have nd := R.nd
    rw [List.map_append, List.nodup_append] at nd
    have hne : ∀ p ∈ f.Xo ++ (g.M ++ g.I), p.1 ≠ c := fun p hp q => nd.2.2 _ (List.mem_map_of_mem (f := (·.1)) h3) _ (List.mem_map_of_mem hp) q.symm
    have eqm : (setM Xc c o' ++ (f.Xo ++ (g.M ++ g.I))).map (·.1) = (Xc ++ (f.Xo ++ (g.M ++ g.I))).map (·.1) := by rw [List.map_append (l₁ := Xc), List.map_append (l₁ := setM Xc c o'), setM_fst]
    have hX : ∀ p ∈ Xc ++ f.Xo, p.1 ≠ c → p ∈ setM Xc c o' ++ f.Xo := fun p hp hn => by
      rcases List.mem_append.mp hp with h | h
      · exact List.mem_append_left _ (setM_ne h hn)
      · exact List.mem_append_right _ h
    refine hQ _ g m (setM Xc c o') _ st (Gh.le.refl g) ⟨R.ok, R.globals, R.builtins, R.kind, R.loc, R.gens, R.os, F', ?_, by rw [eqm]; exact R.nd, ?_, ?_, R.ndR, by rw [eqm]; exact R.old, by rw [eqm]; exact R.ban, R.obj⟩ h
    · intro p hp
      refine N' p ((hU o' p).mpr ?_)
      rcases List.mem_append.mp hp with h | h
      · rcases mem_setM h with h | ⟨h, hn⟩
        · exact .inl h
        · exact .inr ⟨List.mem_append_left _ h, hn⟩
      · exact .inr ⟨List.mem_append_right _ h, hne p h⟩
    · intro y bv e
      by_cases hy : y = x
      · subst hy
        rw [put_self] at e
        cases e
        exact ⟨v, .inr (.inr ⟨.inl hx, c, o', hcc, List.mem_append_left _ (setM_mem h3), hd'⟩), hv⟩
      · rw [put_ne hy] at e
        obtain ⟨u, hu, hr⟩ := R.vars y bv e
        refine ⟨u, ?_, hr⟩
        rcases hu with h1 | ⟨h1, ob, es, ep, h2, h3⟩ | ⟨h1, c', ob, h2, h3, h4'⟩
        · exact .inl h1
        · exact .inr (.inl ⟨h1, ob, es, ep, hX _ h2 (fun q => h4 q.symm), h3⟩)
        · refine .inr (.inr ⟨h1, c', ob, h2, hX _ h3 (fun q => ?_), h4'⟩)
          have q' : c' = c := q
          subst q'
          exact hy (h5 y h2)
    · intro y c' hy
      obtain ⟨⟨o₁, v₁, a1, a2, a3⟩, a4⟩ := R.cells y c' hy
      refine ⟨?_, a4⟩
      by_cases q : c' = c
      · subst q
        exact ⟨o', some v, List.mem_append_left _ (setM_mem h3), hd', fun _ => setM_mem h3⟩
      · exact ⟨o₁, v₁, hX _ a1 q, a2, fun hf => setM_ne (a3 hf) q⟩

theorem u_name {x : Str} {pos : Pos} {av : AV} {P : Lo → Sto → Prop} (h : AU X A env (storeName env x) av lo st P) : AU X A env (assign (.Name x pos) env) av lo st P :=
  fun f m Xc s g R v hv Q E hQ => wpAny_assign_Name (h f m Xc s g R v hv Q E hQ)

theorem s_assign {x : Str} {pos' pos : Pos} {e : Expr} (h : AE X A env lo e st (StoR X A env x lo P)) (hs : swapsWith e (some (.Name x pos')) pos.line env = pure false := by rfl) :
    AX X A env (.Assign [.Name x pos'] e pos) lo st P :=
  fun f m Xc s g R Q E hQ => wpAny_Assign_Name (h f m Xc s g R _ _ fun v s₁ g₁ av st₁ l₁ R₁ r₁ p₁ => p₁ f m Xc s₁ g₁ R₁ v r₁ _ _ fun s' g' m' Xc' lo' st' l' R' p' => hQ _ s' g' m' Xc' _ lo' st' (l₁.trans l') R' .next p') hs

/-- a row of targets -/
def AUs (X : Fix) (A : Around) (env : Env) : List Expr → List AV → Lo → Sto → (Lo → Sto → Prop) → Prop
  | [], [], lo, st, P => P lo st
  | t :: ts, x :: xs, lo, st, P => AU X A env (assign t env) x lo st fun lo' st' => AUs X A env ts xs lo' st' P
  | _, _, _, _, _ => False
theorem aus_run : ∀ (ts : List Expr) (xs : List AV) (lo : Lo) (st : Sto) (P : Lo → Sto → Prop), AUs X A env ts xs lo st P → assignEach ts env = ts.map (fun t => (false, assign t env)) →
    ∀ f m Xc s g, Rep X A env f m Xc s g lo st → ∀ vs, RVs X g.I g.R vs xs → ∀ (Q : Unit → Shared → Prop) (E : Value → Shared → Prop),
    (∀ s' g' m' Xc' lo' st', g.le g' → Rep X A env f m' Xc' s' g' lo' st' → P lo' st' → Q () s') → wpAny (model X.prog X.w) A (assignInOrder ((assignEach ts env).map (·.2)) vs) Q E s
  := by
  intro ts
  induction ts with
  | nil =>
    intro xs lo st P h he f m Xc s g R vs hv Q E hQ
    cases xs with
    | nil => rw [he]; exact assignInOrder_nil (hQ _ g m Xc _ _ (Gh.le.refl g) R h)
    | cons _ _ => exact h.elim
  | cons t ts ih =>
    intro xs lo st P h he f m Xc s g R vs hv Q E hQ
    cases xs with
    | nil => exact h.elim
    | cons x xs =>
    replace hv := RVs.inv hv; obtain ⟨v, vs, rfl, hv, hr⟩ := hv
    have he' : assignEach ts env = ts.map (fun t => (false, assign t env)) := by
      have q : assignEach (t :: ts) env = (false, assign t env) :: assignEach ts env ∨ ∃ y p, t = .Starred y p := by
        cases t <;> first | exact .inl rfl | exact .inr ⟨_, _, rfl⟩
      rcases q with q | ⟨y, p, rfl⟩
      · rw [q, List.map_cons] at he; exact (List.cons.inj he).2
      · have : assignEach (.Starred y p :: ts) env = (true, assign y env) :: assignEach ts env := rfl
        rw [this, List.map_cons] at he
        exact absurd (congrArg Prod.fst (List.cons.inj he).1) (by simp)
    rw [he, List.map_cons, List.map_cons]
    refine assignInOrder_cons (h f m Xc s g R v hv _ _ fun s₁ g₁ m₁ Xc₁ lo₁ st₁ l₁ R₁ p₁ => ?_)
    have := ih xs lo₁ st₁ P p₁ he' f m₁ Xc₁ s₁ g₁ R₁ vs (hr.le l₁) Q E fun s' g' m' Xc' lo' st' l' R' p' => hQ s' g' m' Xc' lo' st' (l₁.trans l') R' p'
    rw [he'] at this
    exact this

theorem u_tuple {ts : List Expr} {k : Nat} {pos : Pos} {xs : List AV} {P : Lo → Sto → Prop} (h : AUs X A env ts xs lo st P) (hn : ts.length = xs.length)
    (he : assignEach ts env = ts.map (fun t => (false, assign t env)) := by rfl) : AU X A env (assign (.Tuple ts k pos) env) (.tup xs) lo st P := by
  intro f m Xc s g R v hv Q E hQ
  replace hv := RV.inv hv; obtain ⟨a, vs, rfl, hI, hr⟩ := hv
  have hT : IsTup s.heap a vs.toArray := ⟨_, R.getI hI, rfl, _, rfl⟩
  refine unpackN_ R.F R.N hT R.ok.hand (by rw [he, List.length_map, hn, List.size_toArray, hr.length]) (by
    rw [he]; rw [List.findIdx?_eq_none_iff]; intro x hx; obtain ⟨t, _, rfl⟩ := List.mem_map.mp hx; rfl) fun h' F' N' => ?_
  refine aus_run ts xs lo st P h he f m Xc { s with heap := h' } g ⟨R.ok, R.globals, R.builtins, R.kind, R.loc, R.gens, R.os, F', N', R.nd, R.vars, R.cells, R.ndR, R.old, R.ban, R.obj⟩ _ (by simpa using hr) Q E hQ

/-- an item is set -/
def AI3 (X : Fix) (A : Around) (env : Env) (lo : Lo) (x y z : AV) (st : Sto) (P : Sto → Prop) : Prop :=
  ∀ f m Xc s g, Rep X A env f m Xc s g lo st → ∀ v w u, RV X g.I g.R v x → RV X g.I g.R w y → RV X g.I g.R u z → ∀ (Q : Unit → Shared → Prop) (E : Value → Shared → Prop),
    (∀ s' g' st', g.le g' → Rep X A env f m Xc s' g' lo st' → P st' → Q () s') → wpAny (model X.prog X.w) A (setItem v w u) Q E s
theorem s_assignI {o i e : Expr} {pos' pos : Pos} (h : AE X A env lo e st fun z st₁ => AE X A env lo o st₁ fun x st₂ => AE X A env lo i st₂ fun y st₃ => AI3 X A env lo x y z st₃ fun st' => P .next lo st')
    (hs : swapsWith e (some (.Subscript o i pos')) pos.line env = pure false := by rfl) : AX X A env (.Assign [.Subscript o i pos'] e pos) lo st P :=
  fun f m Xc s g R Q E hQ => wpAny_Assign_Subscript (h f m Xc s g R _ _ fun u s₁ g₁ z st₁ l₁ R₁ r₁ p₁ => p₁ f m Xc s₁ g₁ R₁ _ _ fun v s₂ g₂ x st₂ l₂ R₂ r₂ p₂ => p₂ f m Xc s₂ g₂ R₂ _ _ fun w s₃ g₃ y st₃ l₃ R₃ r₃ p₃ =>
    p₃ f m Xc s₃ g₃ R₃ v w u (r₂.le l₃) r₃ (r₁.le (l₂.trans l₃)) _ _ fun s' g' st' l' R' p' => hQ _ s' g' m Xc _ lo st' (((l₁.trans l₂).trans l₃).trans l') R' .next p') hs

/-- while -/
theorem s_while {test : Expr} {body : List Stmt} {pos : Pos} (Inv : Nat → Lo → Sto → Prop) (n : Nat) (h0 : Inv n lo st)
    (turn : ∀ n lo st, Inv n lo st → AT X A env lo test st fun b st₁ => if b = true then ASs X A env body lo st₁ fun fl lo' st' => match fl with
        | .next | .cont => ∃ k, k < n ∧ Inv k lo' st'
        | .brk => P .next lo' st'
        | .ret v => P (.ret v) lo' st'
      else P .next lo st₁) : AX X A env (.While test body [] pos) lo st P := by
  intro f m Xc s g R Q E hQ
  refine wpAny_While (codeAny_whileLoop (fun n s' => ∃ g' m' Xc' lo' st', g.le g' ∧ Rep X A env f m' Xc' s' g' lo' st' ∧ Inv n lo' st') ?_ n ⟨g, m, Xc, lo, st, Gh.le.refl g, R, h0⟩)
  rintro n s' ⟨g', m', Xc', lo', st', l', R', hI⟩
  refine turn n lo' st' hI f m' Xc' s' g' R' _ _ fun b s₁ g₁ c st₁ l₁ R₁ r₁ p₁ => ?_
  cases r₁
  cases b with
  | false => exact wpAny_execs_nil (hQ _ _ g₁ m' Xc' _ _ _ (l'.trans l₁) R₁ .next p₁)
  | true =>
    refine p₁ f m' Xc' s₁ g₁ R₁ _ _ fun fl s₂ g₂ m₂ Xc₂ af lo₂ st₂ l₂ R₂ r₂ p₂ => ?_
    cases r₂ with
    | next => obtain ⟨k, hk, hi⟩ := p₂; exact ⟨k, hk, g₂, m₂, Xc₂, lo₂, st₂, (l'.trans l₁).trans l₂, R₂, hi⟩
    | cont => obtain ⟨k, hk, hi⟩ := p₂; exact ⟨k, hk, g₂, m₂, Xc₂, lo₂, st₂, (l'.trans l₁).trans l₂, R₂, hi⟩
    | brk => exact hQ _ _ g₂ m₂ Xc₂ _ _ _ ((l'.trans l₁).trans l₂) R₂ .next p₂
    | ret h => exact hQ _ _ g₂ m₂ Xc₂ _ _ _ ((l'.trans l₁).trans l₂) R₂ (.ret h) p₂
end

section
variable {X : Fix} {A : Around} {env : Env} {lo : Lo} {st : Sto} {P : AF → Lo → Sto → Prop}
/-- while, what is wanted hidden behind letters -/
theorem s_whileK {test : Expr} {body : List Stmt} {pos : Pos} (Inv : Nat → Lo → Sto → Prop) (n : Nat) (h0 : Inv n lo st)
    (turn : ∀ (K : AF → Lo → Sto → Prop) (D : Lo → Sto → Prop) n lo st, (∀ k lo st, k < n → Inv k lo st → K .next lo st) → (∀ v lo st, P (.ret v) lo st → K (.ret v) lo st) → (∀ lo st, P .next lo st → D lo st) → Inv n lo st →
      AT X A env lo test st fun b st₁ => if b = true then ASs X A env body lo st₁ K else D lo st₁) : AX X A env (.While test body [] pos) lo st P :=
  s_while Inv n h0 fun n lo st h => turn _ (P .next) n lo st (fun k _ _ hk hi => ⟨k, hk, hi⟩) (fun _ _ _ x => x) (fun _ _ x => x) h
end
end Mine

namespace Mine

def Room (n : Nat) (A : Around) : Prop := A.depth + 2 * n + 5 < recursionLimit ∧ A.units + 10 * n + 120 < cLine
theorem Room.deeper {n : Nat} {A : Around} (h : Room (n + 1) A) (env : Env) : Room n (A.deeper env) := by
  obtain ⟨h1, h2⟩ := h
  refine ⟨?_, ?_⟩
  · rw [show (A.deeper env).depth = A.depth + 1 from rfl]; omega
  · rw [show (A.deeper env).units = A.units + 3 from rfl]; omega
theorem Room.depth {n : Nat} {A : Around} (h : Room n A) : A.depth < recursionLimit := by have := h.1; omega
theorem Room.u64 {n : Nat} {A : Around} (h : Room n A) : A.units + 64 < cLine :=
  Nat.lt_of_le_of_lt (Nat.le_trans (Nat.add_le_add_left (show 64 ≤ 10 * n + 120 from Nat.le_trans (by decide) (Nat.le_add_left 120 (10 * n))) _) (Nat.le_of_eq (Nat.add_assoc A.units (10 * n) 120).symm)) h.2
theorem Room.le {n k : Nat} {A : Around} (h : Room n A) (hk : k ≤ n) : Room k A := by
  obtain ⟨h1, h2⟩ := h; exact ⟨by omega, by omega⟩

/-- a def of the text -/
structure FnAt (X : Fix) (fa : Addr) (name qual : Str) (params : Arguments) (body : List Stmt) (scope : Scope) (cdv : Value) : Prop where
  at_ : ∃ doc pm an ct oc od osl, X.K.lookup fa = some ⟨oc, od, .func (fnX name qual params body scope [] .none .none doc pm an cdv ct), osl⟩
  code : codeIn X.K cdv qual = true
  kind : scope.kind = .function
  co : scope.isCoroutine = false
  gen : scope.isGenerator = false
  cells : ((cellsFrom 0 scope.names []).map (·.1)).Nodup

/-- a call of an object: what it gives -/
def ACallV (X : Fix) (n : Nat) (fv : Value) (args : List AV) (kws : List (Str × AV)) (st : Sto) (P : AV → Sto → Prop) : Prop :=
  ∀ A env lo f m Xc s g, Room n A → Rep X A env f m Xc s g lo st → ∀ vs ks, RVs X g.I g.R vs args → RKs X g.I g.R ks kws → ∀ (Q : Value → Shared → Prop) (E : Value → Shared → Prop),
    (∀ v s' g' av st', g.le g' → Rep X A env f m Xc s' g' lo st' → RV X g'.I g'.R v av → P av st' → Q v s') → wpAny (model X.prog X.w) A (call fv vs ks) Q E s
def ACallC (X : Fix) (n : Nat) (fa : Addr) (args : List AV) (kws : List (Str × AV)) (st : Sto) (P : AV → Sto → Prop) : Prop :=
  ∀ A env lo f m Xc s g, Room n A → Rep X A env f m Xc s g lo st → ∀ vs ks, RVs X g.I g.R vs args → RKs X g.I g.R ks kws → ∀ (Q : Result → Shared → Prop),
    (∀ v s' g' av st', g.le g' → Rep X A env f m Xc s' g' lo st' → RV X g'.I g'.R v av → P av st' → Q (.ok (.ret v)) s') → codeAny (model X.prog X.w) A (.call (.ref fa) ⟨vs, ks⟩) Q s
abbrev ACall (X : Fix) (n : Nat) (fa : Addr) (args : List AV) (kws : List (Str × AV)) (st : Sto) (P : AV → Sto → Prop) : Prop := ACallV X n (.ref fa) args kws st P

theorem ACallV.mono {X : Fix} {n : Nat} {fv : Value} {args : List AV} {kws : List (Str × AV)} {st : Sto} {P P' : AV → Sto → Prop} (h : ACallV X n fv args kws st P) (hp : ∀ v st', P v st' → P' v st') : ACallV X n fv args kws st P' :=
  fun A env lo f m Xc s g hr R vs ks hv hk Q E hQ => h A env lo f m Xc s g hr R vs ks hv hk Q E fun v s' g' av st' l R' r p => hQ v s' g' av st' l R' r (hp _ _ p)
theorem ACallV.room {X : Fix} {n k : Nat} {fv : Value} {args : List AV} {kws : List (Str × AV)} {st : Sto} {P : AV → Sto → Prop} (h : ACallV X n fv args kws st P) (hp : n ≤ k) : ACallV X k fv args kws st P :=
  fun A env lo f m Xc s g hr => h A env lo f m Xc s g (hr.le hp)
theorem RKs.names {X : Fix} {I : Led} {R : List Addr} {vs : List (Str × Value)} {xs : List (Str × AV)} (h : RKs X I R vs xs) : vs.map (·.1) = xs.map (·.1) :=
  RKs.rec (motive := fun vs xs _ => vs.map (·.1) = xs.map (·.1)) rfl (fun _ _ r => congrArg (_ :: ·) r) h
theorem RKs.find {X : Fix} {I : Led} {R : List Addr} : ∀ {xs : List (Str × AV)} {vs : List (Str × Value)}, RKs X I R vs xs → ∀ {x : Str} {av : AV}, xs.lookup x = some av → ∃ v, (x, v) ∈ vs ∧ RV X I R v av := by
  intro xs
  induction xs with
  | nil => intro vs h x av e; cases e
  | cons p xs ih =>
    intro vs h x av e
    replace h := RKs.inv h; obtain ⟨v, vs', rfl, h1, h2⟩ := h
    obtain ⟨k, w⟩ := p
    rw [List.lookup_cons] at e
    split at e
    · rename_i q; cases e; rw [eq_of_beq q]; exact ⟨v, .head _, h1⟩
    · obtain ⟨u, hu, hr⟩ := ih h2 e; exact ⟨u, .tail _ hu, hr⟩
theorem bindL_other (K : Str → Option NameKind) (x : Str) : ∀ (binds : List (Str × Value)) (m : Str → Option Value), x ∉ binds.map (·.1) → bindL K binds m x = m x
  | [], m, _ => rfl
  | (n, v) :: r, m, h => by
    have h1 : x ≠ n := fun e => h (e ▸ .head _)
    have h2 : x ∉ r.map (·.1) := fun e => h (.tail _ e)
    rw [bindL, bindL_other K x r _ h2]
    split
    · simp [h1]
    · rfl
theorem bindL_get (K : Str → Option NameKind) {x : Str} {v : Value} (hx : K x = some .local) : ∀ (binds : List (Str × Value)) (m : Str → Option Value), (binds.map (·.1)).Nodup → (x, v) ∈ binds → bindL K binds m x = some v
 := by
  intro binds
  induction binds with
  | nil => intro m _ hm; cases hm
  | cons b r ih =>
    intro m hn hm
    obtain ⟨n, u⟩ := b
    rw [List.map_cons, List.nodup_cons] at hn
    rw [bindL]
    rcases List.mem_cons.mp hm with e | hm
    · cases e; rw [bindL_other K x r _ hn.1, if_pos hx]; simp
    · exact ih _ hn.2 hm
theorem bindC_other (K : Str → Option NameKind) (x : Str) : ∀ (binds : List (Str × Value)) (m : Str → Option Value), x ∉ binds.map (·.1) → bindC K binds m x = m x
  | [], m, _ => rfl
  | (n, v) :: r, m, h => by
    have h1 : x ≠ n := fun e => h (e ▸ .head _)
    have h2 : x ∉ r.map (·.1) := fun e => h (.tail _ e)
    rw [bindC, bindC_other K x r _ h2]
    split
    · rfl
    · simp [h1]
theorem bindC_get (K : Str → Option NameKind) {x : Str} {v : Value} (hx : K x ≠ some .local) : ∀ (binds : List (Str × Value)) (m : Str → Option Value), (binds.map (·.1)).Nodup → (x, v) ∈ binds → bindC K binds m x = some v
  | (n, u) :: r, m, hn, hm => by
    rw [List.map_cons, List.nodup_cons] at hn
    rw [bindC]
    cases hm with
    | head => rw [bindC_other K x r _ hn.1, if_neg hx]; simp
    | tail _ hm => exact bindC_get K hx r _ hn.2 hm

theorem cellsFrom_ge : ∀ (names : List (Str × NameKind)) (n : Nat) (acc : List (Str × Addr)), (∀ p ∈ acc, p.2 < n) → (acc.map (·.2)).Nodup → ((cellsFrom n names acc).map (·.2)).Nodup
  | [], n, acc, h, hn => hn
  | (x, k) :: r, n, acc, h, hn => by
    unfold cellsFrom
    split
    · refine cellsFrom_ge r (n + 1) _ (fun p hp => ?_) ?_
      · rcases List.mem_cons.mp hp with rfl | hp
        · exact Nat.lt_succ_self _
        · exact Nat.lt_succ_of_lt (h p hp)
      · rw [List.map_cons, List.nodup_cons]
        refine ⟨fun q => ?_, hn⟩
        obtain ⟨p, hp, e⟩ := List.mem_map.mp q
        have := h p hp
        rw [e] at this
        exact absurd this (Nat.lt_irrefl _)
    · exact cellsFrom_ge r n acc h hn
theorem cellsFrom_le : ∀ (names : List (Str × NameKind)) (n k : Nat) (acc : List (Str × Addr)), (∀ p ∈ acc, k ≤ p.2) → k ≤ n → ∀ p ∈ cellsFrom n names acc, k ≤ p.2
  | [], n, k, acc, h, _ => h
  | (x, kd) :: r, n, k, acc, h, hk => by
    unfold cellsFrom
    split
    · exact cellsFrom_le r (n + 1) k _ (fun p hp => by
        rcases List.mem_cons.mp hp with rfl | hp
        · exact hk
        · exact h p hp) (Nat.le_succ_of_le hk)
    · exact cellsFrom_le r n k acc h hk
theorem cellsAre_addr {cm : Str → Option Value} {cs : List (Str × Addr)} {cells : Led} (h : CellsAre cm cs cells) : cells.map (·.1) = cs.map (·.2) := by
  induction h with
  | nil => rfl
  | cons _ _ ih => exact congrArg (_ :: ·) ih
theorem cellsAre_get {cm : Str → Option Value} {x : Str} {c : Addr} {cs : List (Str × Addr)} {cells : Led} (h : CellsAre cm cs cells) : cs.lookup x = some c → ∃ o, (c, o) ∈ cells ∧ o.data = .cell (cm x) := by
  induction h with
  | nil => intro e; cases e
  | cons hd _ ih =>
    intro e
    rw [List.lookup_cons] at e
    split at e
    · rename_i q; cases e; rw [eq_of_beq q]; exact ⟨_, .head _, hd⟩
    · obtain ⟨o, ho, hd⟩ := ih e; exact ⟨o, .tail _ ho, hd⟩
theorem mem_lookup {α : Type} {x : Str} {v : α} : ∀ {l : List (Str × α)}, l.lookup x = some v → (x, v) ∈ l
  | [], e => by cases e
  | (y, w) :: r, e => by
    rw [List.lookup_cons] at e
    split at e
    · rename_i q; cases e; rw [eq_of_beq q]; exact .head _
    · exact .tail _ (mem_lookup e)
theorem lookup_inj_of_nodup {x y : Str} {c : Addr} : ∀ {cs : List (Str × Addr)}, (cs.map (·.2)).Nodup → cs.lookup x = some c → cs.lookup y = some c → y = x
 := by
  intro cs
  induction cs with
  | nil => intro _ e; cases e
  | cons b r ih =>
    intro hn e1 e2
    obtain ⟨n, a⟩ := b
    rw [List.map_cons, List.nodup_cons] at hn
    rw [List.lookup_cons] at e1 e2
    have key : ∀ z, r.lookup z = some a → False := fun z hz => hn.1 (List.mem_map_of_mem (f := (·.2)) (mem_lookup hz))
    cases h1 : x == n <;> cases h2 : y == n <;> rw [h1] at e1 <;> rw [h2] at e2
    · exact ih hn.2 e1 e2
    · cases e2; exact (key x e1).elim
    · cases e1; exact (key y e2).elim
    · rw [eq_of_beq h1, eq_of_beq h2]

section
variable {X : Fix} {n : Nat} {fa : Addr} {name qual : Str} {params : Arguments} {body : List Stmt} {scope : Scope} {cdv : Value} {args : List AV} {kws : List (Str × AV)} {st : Sto} {P : AV → Sto → Prop} {lo₀ : Lo}

/-- how a def's body ends, as its call's value -/
def AsRet (P : AV → Sto → Prop) (af : AF) (_ : Lo) (st : Sto) : Prop := match af with
  | .ret v => P v st
  | .next => P .none st
  | _ => False

theorem call_fnC (F : FnAt X fa name qual params body scope cdv)
    (hbind : ∀ I R vs ks, RVs X I R vs args → RKs X I R ks kws → ∃ binds, (∀ s doc pm an ct, BindsTo s (fnX name qual params body scope [] .none .none doc pm an cdv ct) ⟨vs, ks⟩ binds) ∧ RKs X I R binds lo₀)
    (hkind : ∀ n, ∀ x ∈ lo₀.map (·.1), scope.names.lookup x = some .local ∨ (scope.names.lookup x = some .cell ∧ ((cellsFrom n scope.names []).lookup x).isSome = true))
    (hnd : (lo₀.map (·.1)).Nodup)
    (h : ∀ A' L', Room n A' → ASs X A' (envOfC qual scope L' fa cdv) body lo₀ st (AsRet P)) : ACallC X (n + 1) fa args kws st P := by
  intro A env lo f m Xc s g hr R vs ks hv hk Q hQ
  obtain ⟨binds, hb, hbr⟩ := hbind g.I g.R vs ks hv hk
  obtain ⟨doc, pm, an, ct, oc, od, osl, hK⟩ := F.at_
  have hnb : (binds.map (·.1)).Nodup := by rw [hbr.names]; exact hnd
  refine callX_cells (A₀ := f.A₀) (outer := f.outer) (env := f.fenv) R.ok.below R.F R.N R.ok.top.nolimit R.ok.frames R.ok.fr R.ok.kind (R.Kin _ _ hK) rfl (codeRec_of R.Kin F.code) hr.depth (hb s doc pm an ct) ?_ F.cells ?_ F.co F.gen F.kind
  · intro n x hx
    exact hkind n x.1 (by rw [← hbr.names]; exact List.mem_map_of_mem (f := (·.1)) hx)
  · intro g₀ L' h₁ tk cells FG F' N' CA B' stays hlt
    have hcn := cellsAre_addr CA
    have hcnd : (cells.map (·.1)).Nodup := by rw [hcn]; exact cellsFrom_ge scope.names (L' + 1) [] (by intro p hp; cases hp) (by simp)
    have hcge : ∀ p ∈ cells, L' < p.1 := fun p hp => by
      have hq : p.1 ∈ (cellsFrom (L' + 1) scope.names []).map (·.2) := by rw [← hcn]; exact List.mem_map_of_mem (f := (·.1)) hp
      obtain ⟨q, hq, e⟩ := List.mem_map.mp hq
      have := cellsFrom_le scope.names (L' + 1) (L' + 1) [] (by intro p hp; cases hp) (Nat.le_refl _) q hq
      rw [e] at this; exact this
    have nodup' : ((cells ++ ((Xc ++ f.Xo) ++ (g.M ++ g.I))).map (·.1)).Nodup := by
      rw [List.map_append, List.nodup_append]
      refine ⟨hcnd, by rw [List.append_assoc]; exact R.nd, fun a ha b hb e => ?_⟩
      obtain ⟨p, hp, rfl⟩ := List.mem_map.mp ha
      obtain ⟨q, hq, rfl⟩ := List.mem_map.mp hb
      rw [List.append_assoc] at hq
      have h1 := hcge p hp
      have h2 := hlt q hq
      rw [e] at h1
      exact absurd (Nat.lt_trans h1 h2) (Nat.lt_irrefl _)
    have R' : Rep X (A.deeper (envOfC qual scope L' fa cdv)) (envOfC qual scope L' fa cdv) ⟨g₀, L', A, f.fenv :: f.outer, envOfC qual scope L' fa cdv, Xc ++ f.Xo, f.ban⟩
        (bindL (envOfC qual scope L' fa cdv).kindOf binds fun _ => none) cells { s with heap := h₁, toks := tk } g lo₀ st := by
      refine ⟨⟨B', R.ok.K.keeps stays, R.ok.top.keeps stays, Around.frames_deeper R.ok.frames, rfl, F.kind, R.ok.hand⟩, rfl, rfl, F.kind, fun _ => rfl, R.gens, R.os, F', ?_, nodup', ?_, ?_, R.ndR, fun b hb => ?_, fun b hb => ⟨?_, (R.ban b hb).2⟩, R.obj⟩
      · intro p hp
        refine N' p ?_
        rw [List.append_assoc] at hp; exact hp
      · intro x av e
        obtain ⟨v, hv, hr⟩ := hbr.find e
        refine ⟨v, ?_, hr⟩
        rcases hkind (L' + 1) x (List.mem_map_of_mem (f := (·.1)) (mem_lookup e)) with hl | ⟨hl, hs⟩
        · exact .inl ⟨hl, rfl, bindL_get _ hl _ _ hnb hv⟩
        · obtain ⟨c, hc⟩ := Option.isSome_iff_exists.mp hs
          obtain ⟨o, ho, hd⟩ := cellsAre_get CA hc
          rw [bindC_get _ (by show ¬ scope.names.lookup x = _; rw [hl]; intro e; cases e) _ _ hnb hv] at hd
          exact .inr (.inr ⟨.inl hl, c, o, hc, List.mem_append_left _ ho, hd⟩)
      · intro x c e
        obtain ⟨o, ho, hd⟩ := cellsAre_get CA e
        refine ⟨⟨o, _, List.mem_append_left _ ho, hd, fun _ => ho⟩, fun q => ?_, fun y hy => lookup_inj_of_nodup (cs := cellsFrom (L' + 1) scope.names []) (by rw [← hcn]; exact hcnd) e hy⟩
        have := hcge _ ho
        rw [q] at this; exact Nat.lt_irrefl _ this
      · rw [List.append_assoc, List.map_append]; exact List.mem_append_right _ (R.old b hb)
      · rw [List.append_assoc, List.map_append]; exact List.mem_append_right _ (R.ban b hb).1
    refine wpAny_mono (h _ L' (hr.deeper _) _ _ _ _ _ R' _ (fun _ _ => False) fun fl s' g' m' Xc' af lo' st' l' R'' r' p' => ?_) (fun _ _ x => x) fun _ _ x => x.elim
    refine leaveK_ R''.F R''.N fun F₂ N₂ => ?_
    have P₂ : List.Perm (Xc' ++ ((Xc ++ f.Xo) ++ (g'.M ++ g'.I))) (Xc ++ (f.Xo ++ (g'.M ++ (Xc' ++ g'.I)))) := by
      have : List.Perm (Xc' ++ ((Xc ++ f.Xo) ++ (g'.M ++ g'.I))) (((Xc ++ f.Xo) ++ g'.M) ++ (Xc' ++ g'.I)) := by
        rw [← List.append_assoc (Xc ++ f.Xo), ← List.append_assoc Xc']
        exact (List.perm_append_comm.append_right _).trans (by rw [List.append_assoc])
      simpa only [List.append_assoc] using this
    have up : ∀ b, b ∈ (Xc' ++ ((Xc ++ f.Xo) ++ (g'.M ++ g'.I))).map (·.1) → b ∈ (Xc ++ (f.Xo ++ (g'.M ++ (Xc' ++ g'.I)))).map (·.1) := fun b hb => (P₂.map (·.1)).mem_iff.mp hb
    have hI : ∀ p ∈ g'.I, p ∈ Xc' ++ g'.I := fun p hp => List.mem_append_right _ hp
    have le2 : g.le { g' with I := Xc' ++ g'.I } := ⟨fun p hp => hI p (l'.I p hp), l'.R⟩
    have R₃ : Rep X A env f m Xc s' { g' with I := Xc' ++ g'.I } lo st' := by
      refine ⟨R.ok, R.globals, R.builtins, R.kind, R.loc, R''.gens, R''.os, F₂, News.perm N₂ P₂, (P₂.map (·.1)).nodup_iff.mp R''.nd, fun x av e => ?_, R.cells, R''.ndR, fun b hb => up b (R''.old b hb), fun b hb => ⟨up b (R''.ban b hb).1, (R''.ban b hb).2⟩, fun i => ⟨(R''.obj i).1, fun hi => ?_⟩⟩
      · obtain ⟨v, h1, h2⟩ := R.vars x av e
        exact ⟨v, h1, h2.le le2⟩
      · obtain ⟨a, ob, h1, h2, h3⟩ := (R''.obj i).2 hi
        exact ⟨a, ob, h1, h2, h3.mono hI (List.prefix_refl _)⟩
    cases r' with
    | next => exact hQ _ _ _ _ _ le2 R₃ .none p'
    | ret h => exact hQ _ _ _ _ _ le2 R₃ (h.mono hI (List.prefix_refl _)) p'
    | brk => exact p'.elim
    | cont => exact p'.elim

theorem ACallC.call (h : ACallC X n fa args kws st P) : ACall X n fa args kws st P :=
  fun A env lo f m Xc s g hr R vs ks hv hk Q E hQ => wpAny_call (h A env lo f m Xc s g hr R vs ks hv hk _ hQ)
theorem call_fn (F : FnAt X fa name qual params body scope cdv)
    (hbind : ∀ I R vs ks, RVs X I R vs args → RKs X I R ks kws → ∃ binds, (∀ s doc pm an ct, BindsTo s (fnX name qual params body scope [] .none .none doc pm an cdv ct) ⟨vs, ks⟩ binds) ∧ RKs X I R binds lo₀)
    (hkind : ∀ n, ∀ x ∈ lo₀.map (·.1), scope.names.lookup x = some .local ∨ (scope.names.lookup x = some .cell ∧ ((cellsFrom n scope.names []).lookup x).isSome = true))
    (hnd : (lo₀.map (·.1)).Nodup)
    (h : ∀ A' L', Room n A' → ASs X A' (envOfC qual scope L' fa cdv) body lo₀ st (AsRet P)) : ACall X (n + 1) fa args kws st P := (call_fnC F hbind hkind hnd h).call
end


section
variable {X : Fix} {n : Nat} {fa : Addr} {name qual : Str} {params : Arguments} {body : List Stmt} {scope : Scope} {cdv : Value} {args : List AV} {kws : List (Str × AV)} {st : Sto} {P : AV → Sto → Prop} {lo₀ : Lo}
/-- as call_fn, what is wanted hidden behind a letter -/
theorem call_fnK (F : FnAt X fa name qual params body scope cdv)
    (hbind : ∀ I R vs ks, RVs X I R vs args → RKs X I R ks kws → ∃ binds, (∀ s doc pm an ct, BindsTo s (fnX name qual params body scope [] .none .none doc pm an cdv ct) ⟨vs, ks⟩ binds) ∧ RKs X I R binds lo₀)
    (hkind : ∀ n, ∀ x ∈ lo₀.map (·.1), scope.names.lookup x = some .local ∨ (scope.names.lookup x = some .cell ∧ ((cellsFrom n scope.names []).lookup x).isSome = true))
    (hnd : (lo₀.map (·.1)).Nodup)
    (h : ∀ K A' L', (∀ v st', P v st' → K v st') → Room n A' → ASs X A' (envOfC qual scope L' fa cdv) body lo₀ st (AsRet K)) : ACall X (n + 1) fa args kws st P :=
  call_fn F hbind hkind hnd fun A' L' hr => h P A' L' (fun _ _ x => x) hr
theorem call_fnCK (F : FnAt X fa name qual params body scope cdv)
    (hbind : ∀ I R vs ks, RVs X I R vs args → RKs X I R ks kws → ∃ binds, (∀ s doc pm an ct, BindsTo s (fnX name qual params body scope [] .none .none doc pm an cdv ct) ⟨vs, ks⟩ binds) ∧ RKs X I R binds lo₀)
    (hkind : ∀ n, ∀ x ∈ lo₀.map (·.1), scope.names.lookup x = some .local ∨ (scope.names.lookup x = some .cell ∧ ((cellsFrom n scope.names []).lookup x).isSome = true))
    (hnd : (lo₀.map (·.1)).Nodup)
    (h : ∀ K A' L', (∀ v st', P v st' → K v st') → Room n A' → ASs X A' (envOfC qual scope L' fa cdv) body lo₀ st (AsRet K)) : ACallC X (n + 1) fa args kws st P :=
  call_fnC F hbind hkind hnd fun A' L' hr => h P A' L' (fun _ _ x => x) hr
end
end Mine

namespace Mine

abbrev Fm.with (f : Fm) (p : Addr × Obj) : Fm := { f with Xo := p :: f.Xo, ban := fun a => a = p.1 ∨ f.ban a }
def isRec (o : Obj) : Prop := ∃ vs, o.data = .fields vs
def NoOwn (o : Obj) : Prop := ∃ n vs, o.cls = .type n ∧ o.data = .fields vs ∧ (["enumerate", "zip", "dict_itemiterator", "dict_reverseitemiterator", "odict_iterator", "itertools.zip_longest", "itertools.pairwise"] : List String).contains n = false
theorem NoOwn.rec {o : Obj} (h : NoOwn o) : isRec o := let ⟨_, vs, _, h, _⟩ := h; ⟨vs, h⟩

section
variable {X : Fix} {A : Around} {env : Env} {f : Fm} {m : Str → Option Value} {Xc : Led} {s : Shared} {g : Gh} {lo : Lo} {st : Sto}

theorem perm_mid {α : Type} (a b c : List α) (p : α) : List.Perm (p :: (a ++ (b ++ c))) (a ++ (p :: b ++ c)) := by
  have := (List.perm_middle (l₁ := a) (l₂ := b ++ c) (a := p)).symm
  simpa only [List.cons_append] using this

/-- a record of the frame's own is turned -/
theorem Rep.step {I : Addr} {o o' : Obj} (R : Rep X A env (f.with (I, o)) m Xc s g lo st) (hd : isRec o) {h' : Heap} {tk : Nat}
    (hk : ∀ b q, b ≠ I → s.heap.get? b = some q → h'.get? b = some q) (ho' : h'.get? I = some o') : Rep X A env (f.with (I, o')) m Xc { s with heap := h', toks := tk } g lo st := by
  have P := perm_mid Xc f.Xo (g.M ++ g.I) (I, o)
  have P' := perm_mid Xc f.Xo (g.M ++ g.I) (I, o')
  have hnd : (((I, o) :: (Xc ++ (f.Xo ++ (g.M ++ g.I)))).map (·.1)).Nodup := (P.map (·.1)).nodup_iff.mpr R.nd
  rw [List.map_cons, List.nodup_cons] at hnd
  have hne : ∀ p ∈ Xc ++ (f.Xo ++ (g.M ++ g.I)), p.1 ≠ I := fun p hp e => hnd.1 (e ▸ List.mem_map_of_mem (f := (·.1)) hp)
  have hI := R.N (I, o) (P.mem_iff.mp (.head _))
  have up : ∀ b, b ∈ (Xc ++ (((I, o) :: f.Xo) ++ (g.M ++ g.I))).map (·.1) → b ∈ (Xc ++ (((I, o') :: f.Xo) ++ (g.M ++ g.I))).map (·.1) := fun b hb => by
    have := (P.map (·.1)).mem_iff.mpr hb
    exact (P'.map (·.1)).mem_iff.mp this
  obtain ⟨vs, hd⟩ := hd
  have cut : ∀ c ob, (c, ob) ∈ Xc ++ ((I, o) :: f.Xo) → (∀ vs, ob.data ≠ .fields vs) → (c, ob) ∈ Xc ++ ((I, o') :: f.Xo) := fun c ob hm hn => by
    rcases List.mem_append.mp hm with h | h
    · exact List.mem_append_left _ h
    · rcases List.mem_cons.mp h with e | h
      · cases e; exact absurd hd (hn vs)
      · exact List.mem_append_right _ (.tail _ h)
  refine ⟨⟨R.ok.below, R.ok.K, R.ok.top, R.ok.frames, R.ok.fr, R.ok.kind, R.ok.hand⟩, R.globals, R.builtins, R.kind, R.loc, R.gens, R.os, ?_, ?_, ?_, ?_, ?_, R.ndR, fun b hb => up b (R.old b hb), fun b hb => ⟨up b (R.ban b hb).1, (R.ban b hb).2⟩, R.obj⟩
  · exact LCg.fr_but R.F (I := I) (fun b q hb e => hk b q (by simpa using hb) e) (Ne.symm hI.2.1) hI.2.2
  · intro p hp
    rcases List.mem_cons.mp (P'.mem_iff.mpr hp) with e | hp
    · subst e; exact ⟨ho', hI.2⟩
    · have := R.N p (P.mem_iff.mp (.tail _ hp))
      exact ⟨hk _ _ (hne p hp) this.1, this.2⟩
  · refine (P'.map (·.1)).nodup_iff.mp ?_
    rw [List.map_cons, List.nodup_cons]
    exact hnd
  · intro x av e
    obtain ⟨v, hv, hr⟩ := R.vars x av e
    refine ⟨v, ?_, hr⟩
    rcases hv with h | ⟨h1, ob, es, ep, h2, h3, h4⟩ | ⟨h1, c, ob, h2, h3, h4⟩
    · exact .inl h
    · exact .inr (.inl ⟨h1, ob, es, ep, cut _ _ h2 (by rw [h3]; intro vs e; cases e), h3, h4⟩)
    · exact .inr (.inr ⟨h1, c, ob, h2, cut _ _ h3 (by rw [h4]; intro vs e; cases e), h4⟩)
  · intro x c e
    obtain ⟨⟨ob, v₀, h1, h2, h3⟩, h4⟩ := R.cells x c e
    exact ⟨⟨ob, v₀, cut _ _ h1 (by rw [h2]; intro vs e; cases e), h2, h3⟩, h4⟩

/-- a new record of the frame's own -/
theorem Rep.lay {I : Addr} {o : Obj} (R : Rep X A env f m Xc s g lo st) {h' : Heap} (ha : s.heap.objs.size ≤ I) (F' : Fr f.h₀ f.L h' m) (N' : News f.h₀ f.L h' ((I, o) :: (Xc ++ (f.Xo ++ (g.M ++ g.I))))) :
    Rep X A env (f.with (I, o)) m Xc { s with heap := h' } g lo st := by
  have P := perm_mid Xc f.Xo (g.M ++ g.I) (I, o)
  have up : ∀ b, b ∈ (Xc ++ (f.Xo ++ (g.M ++ g.I))).map (·.1) → b ∈ (Xc ++ (((I, o) :: f.Xo) ++ (g.M ++ g.I))).map (·.1) := fun b hb => (P.map (·.1)).mem_iff.mp (.tail _ hb)
  have cut : ∀ p, p ∈ Xc ++ f.Xo → p ∈ Xc ++ ((I, o) :: f.Xo) := fun p hm => by
    rcases List.mem_append.mp hm with h | h
    · exact List.mem_append_left _ h
    · exact List.mem_append_right _ (.tail _ h)
  refine ⟨⟨R.ok.below, R.ok.K, R.ok.top, R.ok.frames, R.ok.fr, R.ok.kind, R.ok.hand⟩, R.globals, R.builtins, R.kind, R.loc, R.gens, R.os, F', News.perm N' P, ?_, ?_, ?_, R.ndR, fun b hb => up b (R.old b hb), fun b hb => ?_, R.obj⟩
  · refine (P.map (·.1)).nodup_iff.mp ?_
    rw [List.map_cons, List.nodup_cons]
    exact ⟨R.fresh_ne ha, R.nd⟩
  · intro x av e
    obtain ⟨v, hv, hr⟩ := R.vars x av e
    refine ⟨v, ?_, hr⟩
    rcases hv with h | ⟨h1, ob, es, ep, h2, h3, h4⟩ | ⟨h1, c, ob, h2, h3, h4⟩
    · exact .inl h
    · exact .inr (.inl ⟨h1, ob, es, ep, cut _ h2, h3, h4⟩)
    · exact .inr (.inr ⟨h1, c, ob, h2, cut _ h3, h4⟩)
  · intro x c e
    obtain ⟨⟨ob, v₀, h1, h2, h3⟩, h4⟩ := R.cells x c e
    exact ⟨⟨ob, v₀, cut _ h1, h2, h3⟩, h4⟩
  · rcases hb with hb | hb
    · rw [hb]
      exact ⟨(P.map (·.1)).mem_iff.mp (.head _), fun q => R.fresh_ne ha (R.old _ q)⟩
    · exact ⟨up b (R.ban b hb).1, (R.ban b hb).2⟩

/-- a record of the frame's own is gone -/
theorem Rep.gone {I : Addr} {o : Obj} (R : Rep X A env (f.with (I, o)) m Xc s g lo st) (hd : isRec o) (hb : ¬ f.ban I) {h' : Heap} {tk : Nat}
    (hk : ∀ b q, b ≠ I → s.heap.get? b = some q → h'.get? b = some q) : Rep X A env f m Xc { s with heap := h', toks := tk } g lo st := by
  have P := perm_mid Xc f.Xo (g.M ++ g.I) (I, o)
  have hnd : (((I, o) :: (Xc ++ (f.Xo ++ (g.M ++ g.I)))).map (·.1)).Nodup := (P.map (·.1)).nodup_iff.mpr R.nd
  rw [List.map_cons, List.nodup_cons] at hnd
  have hne : ∀ p ∈ Xc ++ (f.Xo ++ (g.M ++ g.I)), p.1 ≠ I := fun p hp e => hnd.1 (e ▸ List.mem_map_of_mem (f := (·.1)) hp)
  have hI := R.N (I, o) (P.mem_iff.mp (.head _))
  have down : ∀ b, b ≠ I → b ∈ (Xc ++ (((I, o) :: f.Xo) ++ (g.M ++ g.I))).map (·.1) → b ∈ (Xc ++ (f.Xo ++ (g.M ++ g.I))).map (·.1) := fun b hb' h => by
    rcases List.mem_cons.mp ((P.map (·.1)).mem_iff.mpr h) with e | h
    · exact absurd e hb'
    · exact h
  obtain ⟨vs, hd⟩ := hd
  have cut : ∀ c ob, (c, ob) ∈ Xc ++ ((I, o) :: f.Xo) → (∀ vs, ob.data ≠ .fields vs) → (c, ob) ∈ Xc ++ f.Xo := fun c ob hm hn => by
    rcases List.mem_append.mp hm with h | h
    · exact List.mem_append_left _ h
    · rcases List.mem_cons.mp h with e | h
      · cases e; exact absurd hd (hn vs)
      · exact List.mem_append_right _ h
  refine ⟨⟨R.ok.below, R.ok.K, R.ok.top, R.ok.frames, R.ok.fr, R.ok.kind, R.ok.hand⟩, R.globals, R.builtins, R.kind, R.loc, R.gens, R.os, ?_, ?_, hnd.2, ?_, ?_, R.ndR, fun b hb' => ?_, fun b hb' => ?_, R.obj⟩
  · exact LCg.fr_but R.F (I := I) (fun b q hb e => hk b q (by simpa using hb) e) (Ne.symm hI.2.1) hI.2.2
  · intro p hp
    have := R.N p (P.mem_iff.mp (.tail _ hp))
    exact ⟨hk _ _ (hne p hp) this.1, this.2⟩
  · intro x av e
    obtain ⟨v, hv, hr⟩ := R.vars x av e
    refine ⟨v, ?_, hr⟩
    rcases hv with h | ⟨h1, ob, es, ep, h2, h3, h4⟩ | ⟨h1, c, ob, h2, h3, h4⟩
    · exact .inl h
    · exact .inr (.inl ⟨h1, ob, es, ep, cut _ _ h2 (by rw [h3]; intro vs e; cases e), h3, h4⟩)
    · exact .inr (.inr ⟨h1, c, ob, h2, cut _ _ h3 (by rw [h4]; intro vs e; cases e), h4⟩)
  · intro x c e
    obtain ⟨⟨ob, v₀, h1, h2, h3⟩, h4⟩ := R.cells x c e
    exact ⟨⟨ob, v₀, cut _ _ h1 (by rw [h2]; intro vs e; cases e), h2, h3⟩, h4⟩
  · exact down b (fun q => (R.ban I (.inl rfl)).2 (q ▸ hb')) (R.old b hb')
  · exact ⟨down b (fun q => hb (q ▸ hb')) (R.ban b (.inr hb')).1, (R.ban b (.inr hb')).2⟩
end

/-- an iterator: what it gives next -/
structure IterOK (X : Fix) (A : Around) (I : Addr) (xs : List AV) (g₀ : Gh) (need : Led) (O : Nat → Obj → Prop) : Prop where
  next : ∀ i x, xs[i]? = some x → ∀ env f m Xc s g lo st o, g₀.le g → (∀ p ∈ need, p ∈ f.Xo) → O i o → Rep X A env (Fm.with f (I, o)) m Xc s g lo st → ∀ (Q : Option Value → Shared → Prop) (E : Value → Shared → Prop),
    (∀ v s' o', O (i + 1) o' → Rep X A env (f.with (I, o')) m Xc s' g lo st → RV X g.I g.R v x → Q (some v) s') → wpAny (model X.prog X.w) A (pyNext (.ref I)) Q E s
  done : ∀ env f m Xc s g lo st o, g₀.le g → (∀ p ∈ need, p ∈ f.Xo) → ¬ f.ban I → O xs.length o → Rep X A env (Fm.with f (I, o)) m Xc s g lo st → ∀ (Q : Option Value → Shared → Prop) (E : Value → Shared → Prop),
    (∀ s', Rep X A env f m Xc s' g lo st → Q none s') → wpAny (model X.prog X.w) A (pyNext (.ref I)) Q E s
  own : ∀ i o, O i o → NoOwn o

def IterSelf (X : Fix) (A : Around) (I : Addr) (g₀ : Gh) (O : Nat → Obj → Prop) : Prop :=
  ∀ o s, O 0 o → s.heap.get? I = some o → (∀ p ∈ g₀.I, s.heap.get? p.1 = some p.2) → (∀ b o, X.base.get? b = some o → s.heap.get? b = some o) → ∀ (Q : Value → Shared → Prop) (E : Value → Shared → Prop), Q (.ref I) s → wpAny (model X.prog X.w) A (pyIter (.ref I)) Q E s
theorem iterSelf_of {X : Fix} {A : Around} {I : Addr} {n : Nat} {g₀ : Gh} {O : Nat → Obj → Prop} {fp : List Addr} {P : Nat → Value → Prop} {St : Nat → Heap → Prop}
    (W : Walks X.prog X.w A I fp [I] n P St)
    (hSt : ∀ i h o, O i o → h.get? I = some o → (∀ p ∈ g₀.I, h.get? p.1 = some p.2) → (∀ b o, X.base.get? b = some o → h.get? b = some o) → St i h) : IterSelf X A I g₀ O :=
  fun o s ho hI hg hb Q E hQ => W.self 0 s Q E (hSt 0 s.heap o ho hI hg hb) hQ

theorem iterOK_of {X : Fix} {A : Around} {I : Addr} {xs : List AV} {g₀ : Gh} {O : Nat → Obj → Prop} {fp : List Addr} {P : Nat → Value → Prop} {St : Nat → Heap → Prop}
    (W : Walks X.prog X.w A I fp [I] xs.length P St)
    (hSt : ∀ i h o, O i o → h.get? I = some o → (∀ p ∈ g₀.I, h.get? p.1 = some p.2) → (∀ b o, X.base.get? b = some o → h.get? b = some o) → St i h)
    (hO : ∀ i h, St i h → ∃ o, h.get? I = some o ∧ O i o) (hP : ∀ i v, P i v → ∀ x, xs[i]? = some x → RV X g₀.I g₀.R v x) (hown : ∀ i o, O i o → NoOwn o) :
    IterOK X A I xs g₀ [] O where
  next := fun i x hx env f m Xc s g lo st o hle hneed ho R Q E hQ => by
    have hlt : i < xs.length := (List.getElem?_eq_some_iff.mp hx).1
    have hIo : s.heap.get? I = some o := (R.N (I, o) (List.mem_append_right _ (List.mem_append_left _ (.head _)))).1
    refine W.item i s Q E hlt (hSt i s.heap o ho hIo (fun p hp => R.getI (hle.I p hp)) fun b o e => R.F.keep b o (R.ok.below.stays b o e)) fun v h' tk hv hs hk => ?_
    obtain ⟨o', ho', hO'⟩ := hO _ _ hs
    exact hQ v _ o' hO' (R.step (hown i o ho).rec (fun b q hb e => hk b q (by simpa using hb) e) ho') ((hP i v hv x hx).le hle)
  done := fun env f m Xc s g lo st o hle hneed hb ho R Q E hQ => by
    have hIo : s.heap.get? I = some o := (R.N (I, o) (List.mem_append_right _ (List.mem_append_left _ (.head _)))).1
    refine W.done s Q E (hSt _ s.heap o ho hIo (fun p hp => R.getI (hle.I p hp)) fun b o e => R.F.keep b o (R.ok.below.stays b o e)) fun h' tk hk => ?_
    exact hQ _ (R.gone (hown _ o ho).rec hb fun b q hb e => hk b q (by simpa using hb) e)
  own := hown

/-- what is gone through -/
def AIt (X : Fix) (A : Around) (env : Env) (lo : Lo) (x : AV) (st : Sto) (P : List AV → Sto → Prop) : Prop :=
  ∀ f m Xc s g, Rep X A env f m Xc s g lo st → ∀ v, RV X g.I g.R v x → ∀ (Q : Value → Shared → Prop) (E : Value → Shared → Prop),
    (∀ I o O xs s', IterOK X A I xs g [] O → IterSelf X A I g O → O 0 o → Rep X A env (Fm.with f (I, o)) m Xc s' g lo st → ¬ f.ban I → P xs st → Q (.ref I) s') → wpAny (model X.prog X.w) A (pyIter v) Q E s

section
variable {X : Fix} {A : Around} {env : Env} {lo : Lo} {st : Sto}

theorem Rep.noban {f : Fm} {m : Str → Option Value} {Xc : Led} {s : Shared} {g : Gh} (R : Rep X A env f m Xc s g lo st) {I : Addr} (h : s.heap.objs.size ≤ I) : ¬ f.ban I := fun q => R.fresh_ne h (R.ban I q).1

theorem it_list {xs : List AV} {P : List AV → Sto → Prop} (h : P xs st) : AIt X A env lo (.list xs) st P := by
  intro f m Xc s g R v hv Q E hQ
  replace hv := RV.inv hv; obtain ⟨a, vs, n, rfl, hI, hr⟩ := hv
  have hl : s.heap.IsList a vs.toArray := ⟨_, R.getI hI, rfl, _, rfl⟩
  have hne : a ≠ s.heap.objs.size := by obtain ⟨_, e, _⟩ := hl; exact Nat.ne_of_lt (Heap.lt_size e)
  refine wpAny_pyIter_list hl ?_
  have W := Walks.list (prog := X.prog) (w := X.w) R.ok.hand s.heap.objs.size a hne vs.toArray
  rw [show vs.toArray.size = xs.length by rw [List.size_toArray, hr.length]] at W
  have hSt : ∀ (i : Nat) (h : Heap) (o : Obj), (o.cls = .type "list_iterator" ∧ o.data = .fields #[.ref a, .int i 0]) → h.get? s.heap.objs.size = some o → (∀ p ∈ g.I, h.get? p.1 = some p.2) → (∀ b o, X.base.get? b = some o → h.get? b = some o) → (h.IsListIter s.heap.objs.size a i ∧ h.IsList a vs.toArray) :=
    fun i h o ho hIo hg _ => ⟨⟨o, hIo, ho.1, ho.2⟩, ⟨_, hg _ hI, rfl, _, rfl⟩⟩
  refine hQ s.heap.objs.size _ (fun i o => o.cls = .type "list_iterator" ∧ o.data = .fields #[.ref a, .int i 0]) xs _ (iterOK_of W hSt ?_ ?_ ?_) (iterSelf_of W hSt) ⟨rfl, rfl⟩ (R.lay (Nat.le_refl _) (R.F.push _) (R.N.push R.F _)) (R.noban (Nat.le_refl _)) h
  · exact fun i h ⟨⟨o, h1, h2, h3⟩, _⟩ => ⟨o, h1, h2, h3⟩
  · intro i v hv x hx
    obtain ⟨u, hu, hr'⟩ := hr.get hx
    have : vs[i]? = some v := by simpa using hv
    rw [this] at hu; cases hu; exact hr'
  · exact fun i o ho => ⟨_, _, ho.1, ho.2, by decide⟩
theorem it_tup {xs : List AV} {P : List AV → Sto → Prop} (h : P xs st) : AIt X A env lo (.tup xs) st P := by
  intro f m Xc s g R v hv Q E hQ
  replace hv := RV.inv hv; obtain ⟨a, vs, rfl, hI, hr⟩ := hv
  have hl : IsTup s.heap a vs.toArray := ⟨_, R.getI hI, rfl, _, rfl⟩
  have hne : a ≠ s.heap.objs.size := by obtain ⟨_, e, _⟩ := hl; exact Nat.ne_of_lt (Heap.lt_size e)
  refine iter_tuple hl ?_
  have W := Walks.tuple (prog := X.prog) (w := X.w) R.ok.hand s.heap.objs.size a hne vs.toArray
  rw [show vs.toArray.size = xs.length by rw [List.size_toArray, hr.length]] at W
  have hSt : ∀ (i : Nat) (h : Heap) (o : Obj), (o.cls = .type "tuple_iterator" ∧ o.data = .fields #[.ref a, .int i 0]) → h.get? s.heap.objs.size = some o → (∀ p ∈ g.I, h.get? p.1 = some p.2) → (∀ b o, X.base.get? b = some o → h.get? b = some o) → (h.IsTupleIter s.heap.objs.size a i ∧ h.IsTuple a vs.toArray) :=
    fun i h o ho hIo hg _ => ⟨⟨o, hIo, ho.1, ho.2⟩, ⟨_, hg _ hI, rfl, _, rfl⟩⟩
  refine hQ s.heap.objs.size _ (fun i o => o.cls = .type "tuple_iterator" ∧ o.data = .fields #[.ref a, .int i 0]) xs _ (iterOK_of W hSt ?_ ?_ ?_) (iterSelf_of W hSt) ⟨rfl, rfl⟩ (R.lay (Nat.le_refl _) (R.F.push _) (R.N.push R.F _)) (R.noban (Nat.le_refl _)) h
  · exact fun i h ⟨⟨o, h1, h2, h3⟩, _⟩ => ⟨o, h1, h2, h3⟩
  · intro i v hv x hx
    obtain ⟨u, hu, hr'⟩ := hr.get hx
    have : vs[i]? = some v := by simpa using hv
    rw [this] at hu; cases hu; exact hr'
  · exact fun i o ho => ⟨_, _, ho.1, ho.2, by decide⟩
def rangeL (a c : Int) (n : Nat) : List AV := (List.range n).map fun (i : Nat) => AV.int (a + (i : Int) * c)
theorem it_range {a b c : Int} {n : Nat} {P : List AV → Sto → Prop} (hs : Builtin.Range.small a b c = true) (hn : Builtin.Range.rangeSize a b c = (n : Int)) (h : P (rangeL a c n) st) : AIt X A env lo (.range a b c) st P := by
  intro f m Xc s g R v hv Q E hQ
  replace hv := RV.inv hv; obtain ⟨r, t, u, v, rfl, hI⟩ := hv
  have hr : IsRange s.heap r a b c t u v := R.getI hI
  refine wpAny_pyIter_range hr hs ?_
  have W := Walks.range (prog := X.prog) (w := X.w) R.ok.hand s.heap.objs.size a c n
  rw [show n = (rangeL a c n).length by simp [rangeL]] at W
  have hSt : ∀ (i : Nat) (h : Heap) (o : Obj), (o = { cls := .type "range_iterator", dict := none, data := .fields #[rawInt (a + (i : Nat) * c), rawInt (((rangeL a c n).length : Int) - (i : Nat)), rawInt c], slots := #[] }) → h.get? s.heap.objs.size = some o → (∀ p ∈ g.I, h.get? p.1 = some p.2) → (∀ b o, X.base.get? b = some o → h.get? b = some o) →
      IsRangeIter h s.heap.objs.size (a + (i : Nat) * c) (((rangeL a c n).length : Int) - (i : Nat)) c := fun i h o ho hIo hg _ => by rw [ho] at hIo; exact hIo
  refine hQ s.heap.objs.size _ (fun i o => o = { cls := .type "range_iterator", dict := none, data := .fields #[rawInt (a + (i : Nat) * c), rawInt (((rangeL a c n).length : Int) - (i : Nat)), rawInt c], slots := #[] }) (rangeL a c n) _ (iterOK_of W hSt ?_ ?_ ?_) (iterSelf_of W hSt) ?_
    (R.lay (Nat.le_refl _) (R.F.push _) (R.N.push R.F _)) (R.noban (Nat.le_refl _)) h
  · exact fun i h hi => ⟨_, hi, rfl⟩
  · intro i v hv x hx
    obtain ⟨t, rfl⟩ := hv
    have hlt : i < n := by have := (List.getElem?_eq_some_iff.mp hx).1; simpa [rangeL] using this
    have : x = AV.int (a + (i : Int) * c) := by
      unfold rangeL at hx
      rw [List.getElem?_map, List.getElem?_range hlt] at hx
      simpa using hx.symm
    subst this
    exact .int _ _
  · exact fun i o ho => by subst ho; exact ⟨_, _, rfl, rfl, by decide⟩
  · rw [hn]; simp [rangeL]

theorem own_skip {target : Expr} {I : Addr} {o : Obj} {v : Value} {s : Shared} {Q : Unit → Shared → Prop} {E : Value → Shared → Prop} {M : Model} (ho : s.heap.get? I = some o) (hn : NoOwn o) (h : Q () s) : wpAny M A (letOwnedTupleGo target (.ref I) v) Q E s := by
  obtain ⟨n, vs, h1, h2, h3⟩ := hn
  have key : ∀ (a : Addr), wpAny M A (do
      let o ← load I
      match o.cls, o.data with
      | .type n, .fields vs =>
        if ["enumerate", "zip", "dict_itemiterator", "dict_reverseitemiterator", "odict_iterator", "itertools.zip_longest", "itertools.pairwise"].contains n && vs[0]? == some (rawInt a) then
          rule "for.unpacks-the-owned-tuple"
          updateField I 0 .none
      | _, _ => pure ()) Q E s := fun a => by
    refine wpAny_bind (wpAny_load ho ?_)
    rw [h1, h2]
    dsimp only
    rw [h3, Bool.false_and, if_neg Bool.false_ne_true]
    exact wpAny_pure h
  cases target <;> first | exact wpAny_pure h | skip
  all_goals
    cases v <;> first | exact wpAny_pure h | skip
  all_goals
    unfold letOwnedTupleGo
    refine wpAny_bind (wpAny_load ho ?_)
    rw [h1, h2]
    dsimp only
    rw [h3, Bool.false_and, if_neg Bool.false_ne_true]
    exact wpAny_pure h

/-- the turns of a for -/
theorem for_core {target : Expr} {body : List Stmt} {f : Fm} {m : Str → Option Value} {Xc : Led} {s : Shared} {g : Gh} {I : Addr} {o : Obj} {O : Nat → Obj → Prop} {xs : List AV} {need : Led}
    (hit : IterOK X A I xs g need O) (hneed : ∀ p ∈ need, p ∈ f.Xo) (hb : ¬ f.ban I) (ho : O 0 o) (R : Rep X A env (f.with (I, o)) m Xc s g lo st) (Inv : Nat → Lo → Sto → Prop) (h0 : Inv 0 lo st) (T : AF → Lo → Sto → Prop)
    (turn : ∀ (K : AF → Lo → Sto → Prop) i x lo st, (∀ lo st, Inv (i + 1) lo st → K .next lo st) → (∀ lo st, Inv (i + 1) lo st → K .cont lo st) → (∀ lo st, T .next lo st → K .brk lo st) → (∀ v lo st, T (.ret v) lo st → K (.ret v) lo st) →
      xs[i]? = some x → Inv i lo st → AU X A env (assign target env) x lo st fun lo₁ st₁ => ASs X A env body lo₁ st₁ K)
    {RR : Result → Shared → Prop}
    (done : ∀ s' g' m' Xc' lo' st', g.le g' → Rep X A env f m' Xc' s' g' lo' st' → Inv xs.length lo' st' → RR (.ok .next) s')
    (early : ∀ fl s' g' m' Xc' af lo' st', g.le g' → Rep X A env f m' Xc' s' g' lo' st' → RF X g' fl af → T af lo' st' → RR (.ok fl) s') : codeAny (model X.prog X.w) A (.forLoop target (.ref I) body [] env) RR s := by
  obtain ⟨J, un, mk⟩ := hide2 (fun (k : Nat) (s' : Shared) => ∃ g' m' Xc' lo' st' o' i, g.le g' ∧ Rep X A env (f.with (I, o')) m' Xc' s' g' lo' st' ∧ O i o' ∧ i ≤ xs.length ∧ k = xs.length + 1 - i ∧ Inv i lo' st')
  refine codeAny_forLoop_any J (fun k s' hJ => ?_) _ (mk _ _ ⟨g, m, Xc, lo, st, o, 0, Gh.le.refl _, R, ho, Nat.zero_le _, rfl, h0⟩)
  obtain ⟨g', m', Xc', lo', st', o', i, l', R', ho', hle, rfl, hi'⟩ := un _ _ hJ
  clear un
  by_cases hlt : i < xs.length
  · have hx : xs[i]? = some xs[i] := List.getElem?_eq_getElem hlt
    refine hit.next i _ hx env f m' Xc' s' g' lo' st' o' l' hneed ho' R' _ _ fun v s₃ o₃ ho₃ R₃ r₃ => ?_
    have hIo : s₃.heap.get? I = some o₃ := (R₃.N (I, o₃) (List.mem_append_right _ (List.mem_append_left _ (.head _)))).1
    refine own_skip hIo (hit.own _ _ ho₃) ?_
    refine turn (fun fl lo₂ st₂ => match fl with | .next | .cont => Inv (i + 1) lo₂ st₂ | .brk => T .next lo₂ st₂ | .ret v => T (.ret v) lo₂ st₂) i _ lo' st' (fun _ _ x => x) (fun _ _ x => x) (fun _ _ x => x) (fun _ _ _ x => x) hx hi' (f.with (I, o₃)) m' Xc' s₃ g' R₃ v r₃ _ _
      fun s₄ g₄ m₄ Xc₄ lo₄ st₄ l₄ R₄ p₄ => p₄ (f.with (I, o₃)) m₄ Xc₄ s₄ g₄ R₄ _ _ fun fl s₅ g₅ m₅ Xc₅ af lo₅ st₅ l₅ R₅ r₅ p₅ => ?_
    have l6 := (l'.trans l₄).trans l₅
    have again : Inv (i + 1) lo₅ st₅ → ∃ k, k < xs.length + 1 - i ∧ J k s₅ := fun hp =>
      ⟨xs.length + 1 - (i + 1), Nat.sub_lt_sub_left (Nat.lt_succ_of_lt hlt) (Nat.lt_succ_self i), mk _ _ ⟨g₅, m₅, Xc₅, lo₅, st₅, o₃, i + 1, l6, R₅, ho₃, hlt, rfl, hp⟩⟩
    have off : Rep X A env f m₅ Xc₅ s₅ g₅ lo₅ st₅ := Rep.gone (tk := s₅.toks) R₅ (hit.own _ _ ho₃).rec hb fun _ _ _ e => e
    cases r₅ with
    | next => exact again p₅
    | cont => exact again p₅
    | brk => exact early _ _ g₅ m₅ Xc₅ _ _ _ l6 off .next p₅
    | ret h => exact early _ _ g₅ m₅ Xc₅ _ _ _ l6 off (.ret h) p₅
  · obtain rfl : i = xs.length := Nat.le_antisymm hle (Nat.le_of_not_lt hlt)
    exact hit.done env f m' Xc' s' g' lo' st' o' l' hneed hb ho' R' _ _ fun s₃ R₃ => wpAny_execs_nil (done _ g' m' Xc' _ _ l' R₃ hi')

/-- for, what is wanted hidden behind letters -/
theorem s_forK {target iter : Expr} {body : List Stmt} {pos : Pos} {P : AF → Lo → Sto → Prop} (Inv : List AV → Lo → Sto → Prop)
    (h : ∀ K : List AV → Sto → Prop, (∀ xs st₂, Inv xs lo st₂ → K xs st₂) → AE X A env lo iter st fun x st₁ => AIt X A env lo x st₁ K)
    (turn : ∀ (K : AF → Lo → Sto → Prop) x r lo st, (∀ lo st, Inv r lo st → K .next lo st) → (∀ v lo st, P (.ret v) lo st → K (.ret v) lo st) → Inv (x :: r) lo st → AU X A env (assign target env) x lo st fun lo₁ st₁ => ASs X A env body lo₁ st₁ K)
    (done : ∀ lo st, Inv [] lo st → P .next lo st) (hs : ∀ x, foldedSetIterable iter env x = pure x := by intro _; rfl) : AX X A env (.For target iter body [] pos) lo st P := by
  intro f m Xc s g R Q E hQ
  refine wpAny_For (h _ (fun _ _ x => x) f m Xc s g R _ _ fun v s₁ g₁ x st₁ l₁ R₁ r₁ p₁ => p₁ f m Xc s₁ g₁ R₁ v r₁ _ _ fun I o O xs s₂ hit _ ho R₂ hb hi => ?_) hs
  refine for_core hit (fun p hp => by cases hp) hb ho R₂ (fun i => Inv (xs.drop i)) hi P (fun K i x lo st kn _ _ kr hx hi => ?_) (fun s' g' m' Xc' lo' st' l' R' hi' => ?_) (fun fl s' g' m' Xc' af lo' st' l' R' r' p' => hQ _ _ g' m' Xc' _ _ _ (l₁.trans l') R' r' p')
  · obtain ⟨hlt, e⟩ := List.getElem?_eq_some_iff.mp hx
    rw [List.drop_eq_getElem_cons hlt, e] at hi
    exact turn K _ _ _ _ kn kr hi
  · rw [List.drop_length] at hi'
    exact hQ _ _ g' m' Xc' _ _ _ (l₁.trans l') R' .next (done _ _ hi')
end



end Mine

namespace Mine

/-- the part of a walk's state that no name is in -/
structure Ld (X : Fix) (h₀ : Heap) (L : Addr) (m : Str → Option Value) (Y : Led) (ban : Addr → Prop) (s : Shared) (g : Gh) (st : Sto) : Prop where
  gens : s.gens = X.gens
  os : s.os = X.os
  F : Fr h₀ L s.heap m
  N : News h₀ L s.heap (Y ++ (g.M ++ g.I))
  nd : ((Y ++ (g.M ++ g.I)).map (·.1)).Nodup
  ndR : g.R.Nodup
  old : ∀ a ∈ g.R, a ∈ (Y ++ (g.M ++ g.I)).map (·.1)
  ban : ∀ a, ban a → a ∈ (Y ++ (g.M ++ g.I)).map (·.1) ∧ a ∉ g.R
  obj : Objs X g st

section
variable {X : Fix} {A : Around} {env : Env} {f : Fm} {m : Str → Option Value} {Xc : Led} {s s' : Shared} {g g' : Gh} {lo : Lo} {st st' : Sto} {h₀ : Heap} {L : Addr} {Y Y' : Led} {ban ban' : Addr → Prop}

theorem Rep.ld (R : Rep X A env f m Xc s g lo st) : Ld X f.h₀ f.L m (Xc ++ f.Xo) f.ban s g st :=
  ⟨R.gens, R.os, R.F, by rw [List.append_assoc]; exact R.N, by rw [List.append_assoc]; exact R.nd, R.ndR, by rw [List.append_assoc]; exact R.old, by rw [List.append_assoc]; exact R.ban, R.obj⟩
theorem Rep.of (R : Rep X A env f m Xc s g lo st) (D : Ld X f.h₀ f.L m (Xc ++ f.Xo) f.ban s' g' st') (le : g.le g') : Rep X A env f m Xc s' g' lo st' :=
  ⟨R.ok, R.globals, R.builtins, R.kind, R.loc, D.gens, D.os, D.F, by have := D.N; rw [List.append_assoc] at this; exact this, by have := D.nd; rw [List.append_assoc] at this; exact this,
    fun x av e => let ⟨v, h1, h2⟩ := R.vars x av e; ⟨v, h1, h2.le le⟩, R.cells, D.ndR, by have := D.old; rw [List.append_assoc] at this; exact this, by have := D.ban; rw [List.append_assoc] at this; exact this, D.obj⟩

theorem Ld.perm (D : Ld X h₀ L m Y ban s g st) (P : List.Perm Y Y') : Ld X h₀ L m Y' ban s g st := by
  have P' : List.Perm (Y ++ (g.M ++ g.I)) (Y' ++ (g.M ++ g.I)) := P.append_right _
  have up : ∀ b, b ∈ (Y ++ (g.M ++ g.I)).map (·.1) → b ∈ (Y' ++ (g.M ++ g.I)).map (·.1) := fun b hb => (P'.map (·.1)).mem_iff.mp hb
  exact ⟨D.gens, D.os, D.F, News.perm D.N P', (P'.map (·.1)).nodup_iff.mp D.nd, D.ndR, fun b hb => up b (D.old b hb), fun b hb => ⟨up b (D.ban b hb).1, (D.ban b hb).2⟩, D.obj⟩
theorem Ld.reban (D : Ld X h₀ L m Y ban s g st) (h : ∀ a, ban' a → ban a) : Ld X h₀ L m Y ban' s g st := ⟨D.gens, D.os, D.F, D.N, D.nd, D.ndR, D.old, fun b hb => D.ban b (h b hb), D.obj⟩
theorem Ld.lt (D : Ld X h₀ L m Y ban s g st) : ∀ p ∈ Y ++ (g.M ++ g.I), p.1 < s.heap.objs.size := fun p hp => Heap.lt_size (D.N p hp).1
theorem Ld.fresh_ne (D : Ld X h₀ L m Y ban s g st) {a : Addr} (ha : s.heap.objs.size ≤ a) : a ∉ (Y ++ (g.M ++ g.I)).map (·.1) := fun q => by
  obtain ⟨p, hp, e⟩ := List.mem_map.mp q
  have := D.lt p hp; rw [e] at this; exact absurd this (Nat.not_lt.mpr ha)

/-- an object of one's own is laid -/
theorem Ld.lay (D : Ld X h₀ L m Y ban s g st) {a : Addr} {o : Obj} {h' : Heap} {tk : Nat} (ha : s.heap.objs.size ≤ a) (F' : Fr h₀ L h' m) (N' : News h₀ L h' ((a, o) :: (Y ++ (g.M ++ g.I)))) :
    Ld X h₀ L m ((a, o) :: Y) (fun b => b = a ∨ ban b) { s with heap := h', toks := tk } g st := by
  refine ⟨D.gens, D.os, F', N', ?_, D.ndR, fun b hb => .tail _ (D.old b hb), fun b hb => ?_, D.obj⟩
  · show (a :: (Y ++ (g.M ++ g.I)).map (·.1)).Nodup
    rw [List.nodup_cons]; exact ⟨D.fresh_ne ha, D.nd⟩
  · rcases hb with rfl | hb
    · exact ⟨.head _, fun q => D.fresh_ne ha (D.old _ q)⟩
    · exact ⟨.tail _ (D.ban b hb).1, (D.ban b hb).2⟩
theorem Ld.ne (D : Ld X h₀ L m ((a, o) :: Y) ban s g st) : ∀ p ∈ Y ++ (g.M ++ g.I), p.1 ≠ a := fun p hp e => by
  have := D.nd
  rw [List.cons_append, List.map_cons, List.nodup_cons] at this
  exact this.1 (e ▸ List.mem_map_of_mem (f := (·.1)) hp)
theorem Ld.head (D : Ld X h₀ L m ((a, o) :: Y) ban s g st) : s.heap.get? a = some o ∧ a ≠ L ∧ h₀.get? a = none := D.N (a, o) (.head _)
/-- an object of one's own is turned -/
theorem Ld.step {a : Addr} {o o' : Obj} (D : Ld X h₀ L m ((a, o) :: Y) ban s g st) {h' : Heap} {tk : Nat} (hk : ∀ b q, b ≠ a → s.heap.get? b = some q → h'.get? b = some q) (ho' : h'.get? a = some o') :
    Ld X h₀ L m ((a, o') :: Y) ban { s with heap := h', toks := tk } g st := by
  refine ⟨D.gens, D.os, LCg.fr_but D.F (I := a) (fun b q hb e => hk b q (by simpa using hb) e) (Ne.symm D.head.2.1) D.head.2.2, ?_, D.nd, D.ndR, D.old, D.ban, D.obj⟩
  intro p hp
  rcases List.mem_cons.mp hp with e | hp
  · subst e; exact ⟨ho', D.head.2⟩
  · have := D.N p (.tail _ hp)
    exact ⟨hk _ _ (D.ne p hp) this.1, this.2⟩
/-- an object of one's own is gone -/
theorem Ld.gone {a : Addr} {o : Obj} (D : Ld X h₀ L m ((a, o) :: Y) ban s g st) {h' : Heap} {tk : Nat} (hk : ∀ b q, b ≠ a → s.heap.get? b = some q → h'.get? b = some q) (hb : ban a) (hban : ∀ b, ban' b → ban b ∧ b ≠ a) :
    Ld X h₀ L m Y ban' { s with heap := h', toks := tk } g st := by
  have nd := D.nd
  rw [List.cons_append, List.map_cons, List.nodup_cons] at nd
  have down : ∀ b, b ≠ a → b ∈ (((a, o) :: Y) ++ (g.M ++ g.I)).map (·.1) → b ∈ (Y ++ (g.M ++ g.I)).map (·.1) := fun b hb' h => by
    rcases List.mem_cons.mp h with e | h
    · exact absurd e hb'
    · exact h
  refine ⟨D.gens, D.os, LCg.fr_but D.F (I := a) (fun b q hb e => hk b q (by simpa using hb) e) (Ne.symm D.head.2.1) D.head.2.2, ?_, nd.2, D.ndR, fun b hb' => ?_, fun b hb' => ?_, D.obj⟩
  · intro p hp
    have := D.N p (.tail _ hp)
    exact ⟨hk _ _ (D.ne p hp) this.1, this.2⟩
  · exact down b (fun q => (D.ban a hb).2 (q ▸ hb')) (D.old b hb')
  · exact ⟨down b (hban b hb').2 (D.ban b (hban b hb').1).1, (D.ban b (hban b hb').1).2⟩
/-- an object of one's own stays from now on -/
theorem Ld.toI {a : Addr} {o : Obj} (D : Ld X h₀ L m ((a, o) :: Y) ban s g st) : Ld X h₀ L m Y ban s { g with I := (a, o) :: g.I } st := by
  have P : List.Perm (((a, o) :: Y) ++ (g.M ++ g.I)) (Y ++ (g.M ++ (a, o) :: g.I)) := by
    have := (List.perm_middle (l₁ := Y ++ g.M) (l₂ := g.I) (a := (a, o))).symm
    simpa only [List.append_assoc, List.cons_append] using this
  have up : ∀ b, b ∈ (((a, o) :: Y) ++ (g.M ++ g.I)).map (·.1) → b ∈ (Y ++ (g.M ++ (a, o) :: g.I)).map (·.1) := fun b hb => (P.map (·.1)).mem_iff.mp hb
  refine ⟨D.gens, D.os, D.F, News.perm D.N P, (P.map (·.1)).nodup_iff.mp D.nd, D.ndR, fun b hb => up b (D.old b hb), fun b hb => ⟨up b (D.ban b hb).1, (D.ban b hb).2⟩, fun i => ⟨(D.obj i).1, fun hi => ?_⟩⟩
  obtain ⟨b, ob, h1, h2, h3⟩ := (D.obj i).2 hi
  exact ⟨b, ob, h1, h2, h3.mono (fun p hp => .tail _ hp) (List.prefix_refl _)⟩

/-- an object of one's own may change from now on: it has a number -/
theorem Ld.toM {a : Addr} {o : Obj} {ao : AO} (D : Ld X h₀ L m ((a, o) :: Y) ban s g st) (hb : ban a) (hban : ∀ b, ban' b → ban b ∧ b ≠ a) (hao : OR X g.I g.R a o ao) :
    Ld X h₀ L m Y ban' s { g with M := (a, o) :: g.M, R := g.R ++ [a] } (st.set g.R.length ao) := by
  have P := perm_mid Y g.M g.I (a, o)
  have hR : a ∉ g.R := (D.ban a hb).2
  have pre : g.R <+: g.R ++ [a] := List.prefix_append _ _
  have up : ∀ b, b ∈ (((a, o) :: Y) ++ (g.M ++ g.I)).map (·.1) → b ∈ (Y ++ (((a, o) :: g.M) ++ g.I)).map (·.1) := fun b hb => (P.map (·.1)).mem_iff.mp hb
  refine ⟨D.gens, D.os, D.F, News.perm D.N P, (P.map (·.1)).nodup_iff.mp D.nd, ?_, fun b hb => ?_, fun b hb' => ⟨up b (D.ban b (hban b hb').1).1, fun q => ?_⟩, fun i => ⟨fun hl => ?_, fun hl => ?_⟩⟩
  · refine List.nodup_append.mpr ⟨D.ndR, by simp, fun b hb c hc => ?_⟩
    rw [List.mem_singleton.mp hc]
    exact fun e => hR (e ▸ hb)
  · rcases List.mem_append.mp hb with hb | hb
    · exact up b (D.old b hb)
    · rw [List.mem_singleton.mp hb]; exact up _ (.head _)
  · rcases List.mem_append.mp q with q | q
    · exact (D.ban b (hban b hb').1).2 q
    · exact (hban b hb').2 (List.mem_singleton.mp q)
  · rw [List.length_append, List.length_singleton]
    by_cases hi : i = g.R.length
    · rw [hi]; exact Nat.lt_succ_self _
    · rw [Sto.set_ne _ _ hi] at hl
      exact Nat.lt_succ_of_lt ((D.obj i).1 hl)
  · by_cases hi : i = g.R.length
    · subst hi
      rw [Sto.set_self]
      refine ⟨a, o, ?_, .head _, hao.mono (fun p hp => hp) pre⟩
      show (g.R ++ [a])[g.R.length]? = some a
      rw [List.getElem?_append_right (Nat.le_refl _), Nat.sub_self]; rfl
    · rw [Sto.set_ne _ _ hi] at hl ⊢
      obtain ⟨b, ob, h1, h2, h3⟩ := (D.obj i).2 hl
      exact ⟨b, ob, get_pre pre h1, .tail _ h2, h3.mono (fun p hp => hp) pre⟩

/-- the view of a comprehension's block -/
structure BlockOk (X : Fix) (env env' : Env) (C : Addr) (lo : Lo) (lc : Lo) : Prop where
  globals : env'.globals = env.globals
  builtins : env'.builtins = env.builtins
  kind : env'.scope.kind = .function
  func : env'.func = none
  locals : env'.locals = C
  cells : ∀ y c, env'.cells.lookup y = some c → env.cells.lookup y = some c
  caps : ∀ y av, lc.lookup y = some av → lo.lookup y = some av ∧ env.kindOf y ≠ some .local ∧ (env'.kindOf y = some .cell ∨ (env'.kindOf y = some .free ∧ (y == ("__classdict__" : Str)) = false)) ∧ env'.cells.lookup y = env.cells.lookup y

theorem Rep.block {env' : Env} {C : Addr} {oC : Obj} {lc : Lo} {B : Fm} (R : Rep X A env f m Xc s g lo st) (ho : BlockOk X env env' C lo lc) (hB : B.h₀ = f.h₀ ∧ B.L = f.L ∧ B.A₀ = f.A₀ ∧ B.outer = f.outer ∧ B.fenv = f.fenv)
    (D : Ld X f.h₀ f.L m B.Xo B.ban s' g' st') (le : g.le g') (hsub : ∀ p ∈ Xc ++ f.Xo, p ∈ B.Xo) (hC : (C, oC) ∈ B.Xo) (hCn : ∀ p ∈ Xc ++ f.Xo, p.1 ≠ C) {x : Str} {v : Value} {item : AV} {mC : Str → Option Value}
    (hoC : LCg.NsObj oC mC) (hx : env'.kindOf x = some .local) (hv : mC x = some v) (hr : RV X g'.I g'.R v item) : Rep X A env' B m [] s' g' ((x, item) :: lc) st' := by
  obtain ⟨b1, b2, b3, b4, b5⟩ := hB
  have D' : Ld X B.h₀ B.L m ([] ++ B.Xo) B.ban s' g' st' := by rw [b1, b2]; exact D
  refine ⟨⟨by rw [b3, b4, b1]; exact R.ok.below, by rw [b1]; exact R.ok.K, by rw [b1]; exact R.ok.top, by rw [b5, b4]; exact R.ok.frames, by rw [b5, b2]; exact R.ok.fr, by rw [b5]; exact R.ok.kind, R.ok.hand⟩,
    ho.globals.trans R.globals, ho.builtins.trans R.builtins, ho.kind, fun h => absurd (h.symm.trans (by rw [ho.func])) (by decide), D'.gens, D'.os, D'.F, D'.N, D'.nd, ?_, ?_, D'.ndR, D'.old, D'.ban, D'.obj⟩
  · intro y av e
    by_cases hy : y = x
    · subst hy
      rw [List.lookup_cons, beq_self_eq_true] at e
      cases e
      obtain ⟨es, ep, h1, h2, h3⟩ := hoC
      exact ⟨v, .inr (.inl ⟨hx, oC, es, ep, by rw [ho.locals]; exact hC, h1, h2, (h3 y).trans hv⟩), hr⟩
    · rw [List.lookup_cons, beq_eq_false_iff_ne.mpr hy] at e
      obtain ⟨h1, h2, h3, h4⟩ := ho.caps y av e
      obtain ⟨u, hu, hur⟩ := R.vars y av h1
      refine ⟨u, ?_, hur.le le⟩
      rcases hu with ⟨k1, _⟩ | ⟨k1, _⟩ | ⟨k1, c, ob, k2, k3, k4⟩
      · exact absurd k1 h2
      · exact absurd k1 h2
      · exact .inr (.inr ⟨h3, c, ob, by rw [h4]; exact k2, hsub _ k3, k4⟩)
  · intro y c e
    obtain ⟨⟨o, v₀, h1, h2, h3⟩, h4, h5⟩ := R.cells y c (ho.cells y c e)
    exact ⟨⟨o, v₀, hsub _ h1, h2, fun h => absurd (h.symm.trans (by rw [ho.func])) (by decide)⟩, fun q => hCn _ h1 (q.trans ho.locals), fun z hz => h5 z (ho.cells z c hz)⟩
end

abbrev tests (ifs : List Expr) (env : Env) : Sem Bool := forIn ifs true fun c r => if r = true then do let ok ← isTrue c env (eval c env); pure (ForInStep.yield ok) else pure (ForInStep.yield r)
theorem tests_nil {X : Fix} {A : Around} {env : Env} {lo : Lo} {st : Sto} {P : Bool → Sto → Prop} (h : P true st) : AG X A env lo REq (tests [] env) st P :=
  fun f m Xc s g R Q E hQ => wpAny_tests_nil (hQ _ _ g _ _ (Gh.le.refl g) R rfl h)
theorem tests_one {X : Fix} {A : Around} {env : Env} {lo : Lo} {st : Sto} {c : Expr} {P : Bool → Sto → Prop} (h : AT X A env lo c st P) : AG X A env lo REq (tests [c] env) st P :=
  fun f m Xc s g R Q E hQ => wpAny_tests_one (h f m Xc s g R Q E hQ)

theorem RVs.snoc {X : Fix} {I : Led} {R : List Addr} {vs : List Value} {xs : List AV} {v : Value} {x : AV} (h : RVs X I R vs xs) (r : RV X I R v x) : RVs X I R (vs ++ [v]) (xs ++ [x]) := h.app (.cons r .nil)

section
variable {X : Fix} {A : Around} {env : Env} {f : Fm} {m : Str → Option Value} {Xc : Led} {g : Gh} {lo lc : Lo} {st : Sto}

theorem comp_core {elt iter : Expr} {x : Str} {px pos : Pos} {ifs : List Expr} {scope : Scope} {cl : List (Str × Addr)} {s₁ s₂ : Shared} {I : Addr} {o₀ : Obj} {O : Nat → Obj → Prop} {xs : List AV} {st₁ : Sto} {E : Value → Shared → Prop}
    (R : Rep X A env f m Xc s₁ g lo st₁) (R₂ : Rep X A env (f.with (I, o₀)) m Xc s₂ g lo st) (hit : IterOK X A I xs g [] O) (hself : IterSelf X A I g O) (ho₀ : O 0 o₀) (hb : ¬ f.ban I) (hlen : xs.length ≤ 1000)
    (hblock : ∀ C, BlockOk X env (compEnvC scope cl C env) C lo lc) (hcell : ∀ y ∈ scope.names, y.2 ≠ .cell) (hkind : scope.kind = .function) (hx : scope.names.lookup x = some .local)
    (Inv : List AV → List AV → Sto → Prop) (h0 : Inv xs [] st)
    (turn : ∀ C y r acc st, Inv (y :: r) acc st → AG X A (compEnvC scope cl C env) ((x, y) :: lc) REq (tests ifs (compEnvC scope cl C env)) st fun b st₁ =>
      if b = true then AE X A (compEnvC scope cl C env) ((x, y) :: lc) elt st₁ fun z st₂ => Inv r (acc ++ [z]) st₂ else Inv r acc st₁)
    {RR : Value → Addr → Result → Shared → Prop}
    (fin : ∀ D C oC mC vs acc s' g' st', ¬ f.ban C → ¬ f.ban D → g.le g' → Ld X f.h₀ f.L m ((D, listOf vs.toArray vs.length) :: (C, oC) :: (Xc ++ f.Xo)) (fun a => a = D ∨ a = C ∨ f.ban a) s' g' st' → LCg.NsObj oC mC → RVs X g'.I g'.R vs acc → vs.length ≤ xs.length → Inv [] acc st' → RR (.ref D) C (.ok .next) s') :
    wpAny (model X.prog X.w) A (newList []) (fun acc s₃ => wpAny (model X.prog X.w) A (newFunctionEnv scope env.globals cl [] env.qual none .none (some env)) (fun cenv s₄ =>
      codeAny (model X.prog X.w) A (.compStart (.ListComp elt [⟨.Name x px, iter, ifs, 0⟩] scope pos) 0 (.ref I) acc { cenv with scope := relabel scope env }) (RR acc cenv.locals) s₄) E s₃) E s₂ := by
  have D₂ : Ld X f.h₀ f.L m ((I, o₀) :: (Xc ++ f.Xo)) (fun a => a = I ∨ f.ban a) s₂ g st := R₂.ld.perm List.perm_middle
  refine wpAny_newObj_type (wpAny_newFunctionEnv hcell (by intro y hy; cases hy) (fun h₁ hns₁ hsb₁ => ?_) hkind)
  have D₃ := D₂.lay (h' := s₂.heap.push (listOf [].toArray 0)) (tk := s₂.toks) (Nat.le_refl _) (D₂.F.push _) (D₂.N.push D₂.F _)
  obtain ⟨oC, heC, hoC⟩ := LCg.ns_obj hns₁
  have hgrow : ∀ b q, (s₂.heap.push (listOf [].toArray 0)).get? b = some q → h₁.get? b = some q := fun b q e => by
    have hbn : b ≠ (s₂.heap.push (listOf [].toArray 0)).objs.size := Nat.ne_of_lt (Heap.lt_size e)
    exact hsb₁.extBut b q hbn (Heap.get?_push_of_some _ e)
  have D₄ := D₃.lay (a := (s₂.heap.push (listOf [].toArray 0)).objs.size) (o := oC) (h' := h₁) (tk := s₂.toks + ([] : List (Str × Value)).length) (Nat.le_refl _) (D₃.F.keeps hgrow) (fun p hp => by
    rcases List.mem_cons.mp hp with e | hp
    · subst e
      exact ⟨heC, Nat.ne_of_gt D₃.F.ns.lt, next_is_new D₃.F⟩
    · have := D₃.N p hp; exact ⟨hgrow _ _ this.1, this.2⟩)
  have hbD : ¬ f.ban s₂.heap.objs.size := fun q => D₂.fresh_ne (Nat.le_refl _) (D₂.ban _ (.inr q)).1
  have hbC : ¬ f.ban (s₂.heap.push (listOf [].toArray 0)).objs.size := fun q => D₃.fresh_ne (Nat.le_refl _) (D₃.ban _ (.inr (.inr q))).1
  generalize hDa : s₂.heap.objs.size = D at *
  generalize hCa : (s₂.heap.push (listOf [].toArray 0)).objs.size = C at *
  have hCD : C ≠ D := fun q => D₄.ne (D, listOf [].toArray 0) (.head _) q.symm
  have hCI : C ≠ I := fun q => D₄.ne (I, o₀) (.tail _ (.head _)) q.symm
  have hDI : D ≠ I := fun q => D₃.ne (I, o₀) (.head _) q.symm
  have hCX : ∀ p ∈ Xc ++ f.Xo, p.1 ≠ C := fun p hp => D₄.ne p (.tail _ (.tail _ (List.mem_append_left _ hp)))
  have loop : ∀ s₃ : Shared, s₃ = { s₂ with heap := h₁, toks := s₂.toks + ([] : List (Str × Value)).length } →
      codeAny (model X.prog X.w) A (.compLoop (.ListComp elt [⟨.Name x px, iter, ifs, 0⟩] scope pos) 0 (.ref I) (.ref D) (compEnvC scope cl C env)) (RR (.ref D) C) s₃ := by
    rintro s₃ rfl
    obtain ⟨J, un, mk⟩ := hide2 (fun (k : Nat) (s' : Shared) => ∃ i o' oC' mC vs acc g' st', Ld X f.h₀ f.L m ((I, o') :: (C, oC') :: (D, listOf vs.toArray vs.length) :: (Xc ++ f.Xo)) (fun a => a = I ∨ a = C ∨ a = D ∨ f.ban a) s' g' st' ∧ LCg.NsObj oC' mC ∧ O i o' ∧
      g.le g' ∧ RVs X g'.I g'.R vs acc ∧ Inv (xs.drop i) acc st' ∧ vs.length ≤ i ∧ i ≤ xs.length ∧ k = xs.length + 1 - i)
    refine codeAny_compLoop_tests J (fun k s' hJ => ?_) (xs.length + 1) (mk _ _ ⟨0, o₀, oC, _, [], [], g, st, (D₄.perm ?_).reban ?_, hoC, ho₀, Gh.le.refl g, .nil, h0, Nat.zero_le _, Nat.zero_le _, rfl⟩)
    · obtain ⟨i, o', oC', mC, vs, acc, g', st', D', hoC', ho', le', hvs, hI, hvl, hil, rfl⟩ := un _ _ hJ
      clear un
      let B : Fm := ⟨f.h₀, f.L, f.A₀, f.outer, f.fenv, (C, oC') :: (D, listOf vs.toArray vs.length) :: (Xc ++ f.Xo), fun a => a = C ∨ a = D ∨ f.ban a⟩
      have hBI : ¬ B.ban I := fun q => by
        rcases q with q | q | q
        · exact hCI q.symm
        · exact hDI q.symm
        · exact hb q
      have RB : Rep X A (compEnvC scope cl C env) (B.with (I, o')) m [] s' g' [] st' := by
        have ho := hblock C
        refine ⟨⟨R.ok.below, R.ok.K, R.ok.top, R.ok.frames, R.ok.fr, R.ok.kind, R.ok.hand⟩, ho.globals.trans R.globals, ho.builtins.trans R.builtins, ho.kind, (fun h => by rw [ho.func] at h; cases h), D'.gens, D'.os, D'.F, D'.N, D'.nd, (fun x av e => by cases e), ?_, D'.ndR, D'.old, D'.ban, D'.obj⟩
        intro y c e
        obtain ⟨⟨o, v₀, h1, h2, h3⟩, h4, h5⟩ := R.cells y c (ho.cells y c e)
        exact ⟨⟨o, v₀, .tail _ (.tail _ (.tail _ h1)), h2, (fun h => by rw [ho.func] at h; cases h)⟩, (fun q => hCX _ h1 (q.trans ho.locals)), fun z hz => h5 z (ho.cells z c hz)⟩
      by_cases hlt : i < xs.length
      · have hxi : xs[i]? = some xs[i] := List.getElem?_eq_getElem hlt
        rw [List.drop_eq_getElem_cons hlt] at hI
        refine hit.next i _ hxi _ B m [] s' g' [] st' o' le' (fun p hp => by cases hp) ho' RB _ _ fun v s₃ o₃ ho₃ R₃ r₃ => ?_
        have D₃' : Ld X f.h₀ f.L m ((C, oC') :: (I, o₃) :: (D, listOf vs.toArray vs.length) :: (Xc ++ f.Xo)) (fun a => a = I ∨ a = C ∨ a = D ∨ f.ban a) s₃ g' st' := R₃.ld.perm (List.Perm.swap _ _ _)
        refine wpAny_assign_Name (wpAny_storeName_local (lookup_relabel_local hx) (hoC'.ns D₃'.head.1) (fun h₄ hn₄ hs₄ => ?_) (by simp [compEnvC, relabel, hkind]))
        obtain ⟨oC₄, heC₄, hoC₄⟩ := LCg.ns_obj hn₄
        have D₄' := (D₃'.step (o' := oC₄) (h' := h₄) (tk := s₃.toks + 1) (fun b q hb e => hs₄.extBut b q hb e) heC₄).perm (List.Perm.swap (I, o₃) _ _)
        let B₄ : Fm := ⟨f.h₀, f.L, f.A₀, f.outer, f.fenv, (I, o₃) :: (C, oC₄) :: (D, listOf vs.toArray vs.length) :: (Xc ++ f.Xo), fun a => a = I ∨ a = C ∨ a = D ∨ f.ban a⟩
        have R₄ : Rep X A (compEnvC scope cl C env) B₄ m [] { s₃ with heap := h₄, toks := s₃.toks + 1 } g' ((x, xs[i]) :: lc) st' :=
          R.block (B := B₄) (hblock C) ⟨rfl, rfl, rfl, rfl, rfl⟩ D₄' le' (fun p hp => .tail _ (.tail _ (.tail _ hp))) (.tail _ (.head _)) hCX hoC₄ (lookup_relabel_local hx) (by simp) r₃
        refine turn C _ _ acc st' hI B₄ m [] _ g' R₄ _ _ fun b s₅ g₅ b' st₅ le₅ R₅ r₅ p₅ => ?_
        cases r₅
        cases b with
        | false =>
          simp only [Bool.false_eq_true, if_false] at p₅ ⊢
          exact ⟨xs.length + 1 - (i + 1), Nat.sub_lt_sub_left (Nat.lt_succ_of_lt hlt) (Nat.lt_succ_self i), mk _ _ ⟨i + 1, o₃, oC₄, _, vs, acc, g₅, st₅, R₅.ld, hoC₄, ho₃, le'.trans le₅, hvs.le le₅, p₅, Nat.le_succ_of_le hvl, hlt, rfl⟩⟩
        | true =>
          simp only [if_true] at p₅ ⊢
          refine p₅ B₄ m [] s₅ g₅ R₅ _ _ fun z s₆ g₆ z' st₆ le₆ R₆ r₆ p₆ => ?_
          have P₆ : List.Perm ([] ++ B₄.Xo) ((D, listOf vs.toArray vs.length) :: (I, o₃) :: (C, oC₄) :: (Xc ++ f.Xo)) := by
            show List.Perm ((I, o₃) :: (C, oC₄) :: (D, listOf vs.toArray vs.length) :: (Xc ++ f.Xo)) _
            exact (List.Perm.cons _ (List.Perm.swap _ _ _)).trans (List.Perm.swap _ _ _)
          have D₆ := R₆.ld.perm P₆
          refine append_at (hsz := by show vs.toArray.size ≤ sizeLine; rw [List.size_toArray, sizeLine_eq]; omega) D₆.head.1 fun h₇ hs₇ hD₇ => ?_
          have D₇ := (D₆.step (o' := listOf (vs ++ [z]).toArray (vs ++ [z]).length) (h' := h₇) (tk := s₆.toks) (fun b q hb e => hs₇.extBut b q hb e) (by rw [hD₇]; exact congrArg some (LCg.lst_snoc vs z)))
          refine ⟨xs.length + 1 - (i + 1), Nat.sub_lt_sub_left (Nat.lt_succ_of_lt hlt) (Nat.lt_succ_self i), mk _ _ ⟨i + 1, o₃, oC₄, _, vs ++ [z], acc ++ [z'], g₆, st₆, D₇.perm ?_, hoC₄, ho₃, (le'.trans le₅).trans le₆, (hvs.le (le₅.trans le₆)).snoc r₆, p₆, by rw [List.length_append, List.length_singleton]; exact Nat.succ_le_succ hvl, hlt, rfl⟩⟩
          exact (List.Perm.swap _ _ _).trans (List.Perm.cons _ (List.Perm.swap _ _ _))
      · obtain rfl : i = xs.length := Nat.le_antisymm hil (Nat.le_of_not_lt hlt)
        rw [List.drop_length] at hI
        refine hit.done _ B m [] s' g' [] st' o' le' (fun p hp => by cases hp) hBI ho' RB _ _ fun s₃ R₃ => ?_
        have D₃' : Ld X f.h₀ f.L m ((D, listOf vs.toArray vs.length) :: (C, oC') :: (Xc ++ f.Xo)) (fun a => a = C ∨ a = D ∨ f.ban a) s₃ g' st' := R₃.ld.perm (List.Perm.swap _ _ _)
        refine fin D C oC' mC vs acc s₃ g' st' hbC hbD le' (D₃'.reban fun a ha => ?_) hoC' hvs hvl hI
        rcases ha with h | h | h
        · exact .inr (.inl h)
        · exact .inl h
        · exact .inr (.inr h)
    · show List.Perm ((C, oC) :: (D, listOf [].toArray 0) :: (I, o₀) :: (Xc ++ f.Xo)) ((I, o₀) :: (C, oC) :: (D, listOf [].toArray 0) :: (Xc ++ f.Xo))
      exact (List.Perm.cons _ (List.Perm.swap _ _ _)).trans (List.Perm.swap _ _ _)
    · intro a ha
      rcases ha with h | h | h | h
      · exact .inr (.inr (.inl h))
      · exact .inl h
      · exact .inr (.inl h)
      · exact .inr (.inr (.inr h))
  refine codeAny_compStart_list (loop _ rfl) (hself o₀ _ ho₀ (D₄.N (I, o₀) (.tail _ (.tail _ (.head _)))).1 (fun p hp => (D₄.N p (.tail _ (.tail _ (.tail _ (List.mem_append_right _ (List.mem_append_right _ hp)))))).1) (fun b o e => D₄.F.keep b o (R.ok.below.stays b o e)) _ _ (loop _ rfl))

/-- a made list stays, its frame is left -/
theorem comp_toI {D C : Addr} {oC : Obj} {vs : List Value} {acc : List AV} {s' : Shared} {g' : Gh} {st' : Sto} (D' : Ld X f.h₀ f.L m ((D, listOf vs.toArray vs.length) :: (C, oC) :: (Xc ++ f.Xo)) (fun a => a = D ∨ a = C ∨ f.ban a) s' g' st') (hr : RVs X g'.I g'.R vs acc) :
    ∃ g'', g'.le g'' ∧ Ld X f.h₀ f.L m ((C, oC) :: (Xc ++ f.Xo)) (fun a => a = C ∨ f.ban a) s' g'' st' ∧ RV X g''.I g''.R (.ref D) (.list acc) :=
  ⟨_, Gh.le.imm g' _, D'.toI.reban fun _ h => .inr h, .list (.head _) (hr.mono (fun p hp => .tail _ hp) (List.prefix_refl _))⟩
theorem comp_toM {D C : Addr} {oC : Obj} {vs : List Value} {acc : List AV} {s' : Shared} {g' : Gh} {st' : Sto} (hbC : ¬ f.ban C) (D' : Ld X f.h₀ f.L m ((D, listOf vs.toArray vs.length) :: (C, oC) :: (Xc ++ f.Xo)) (fun a => a = D ∨ a = C ∨ f.ban a) s' g' st') (hb : ¬ f.ban D) (hr : RVs X g'.I g'.R vs acc) :
    ∃ g'' i, g'.le g'' ∧ st' i = .dead ∧ Ld X f.h₀ f.L m ((C, oC) :: (Xc ++ f.Xo)) (fun a => a = C ∨ f.ban a) s' g'' (st'.set i (.list acc)) ∧ RV X g''.I g''.R (.ref D) (.ref i) := by
  have hCD : C ≠ D := fun e => D'.ne (C, oC) (.head _) e
  refine ⟨_, g'.R.length, Gh.le.new g' (D, listOf vs.toArray vs.length), ?_, D'.toM (.inl rfl) (fun b h => ⟨.inr h, fun e => ?_⟩) ⟨vs, vs.length, rfl, hr⟩, .ref ?_⟩
  · by_cases e : st' g'.R.length = .dead
    · exact e
    · exact absurd ((D'.obj _).1 e) (Nat.lt_irrefl _)
  · rcases h with h | h
    · exact hCD (h.symm.trans e)
    · exact hb (e ▸ h)
  · show (g'.R ++ [D])[g'.R.length]? = some D
    rw [List.getElem?_append_right (Nat.le_refl _), Nat.sub_self]; rfl

theorem e_compK {elt iter : Expr} {x : Str} {px pos : Pos} {ifs : List Expr} {scope : Scope} {cl : List (Str × Addr)} {P : AV → Sto → Prop} (lc : Lo) (Inv : List AV → List AV → Sto → Prop)
    (hclos : closureFor scope env = pure cl) (hblock : ∀ C, BlockOk X env (compEnvC scope cl C env) C lo lc) (hcell : ∀ y ∈ scope.names, y.2 ≠ .cell) (hkind : scope.kind = .function)
    (hnames : ∀ y ∈ scope.names, y.2 = .local → scope.names.lookup y.1 = some .local) (hx : scope.names.lookup x = some .local)
    (h : ∀ K : List AV → Sto → Prop, (∀ xs st₂, xs.length ≤ 1000 → Inv xs [] st₂ → K xs st₂) → AE X A env lo iter st fun src st₁ => AIt X A env lo src st₁ K)
    (turn : ∀ (Kt : AV → Sto → Prop) (Kf : Sto → Prop) C y r acc st, (∀ z st₂, Inv r (acc ++ [z]) st₂ → Kt z st₂) → (∀ st₁, Inv r acc st₁ → Kf st₁) → Inv (y :: r) acc st →
      AG X A (compEnvC scope cl C env) ((x, y) :: lc) REq (tests ifs (compEnvC scope cl C env)) st fun b st₁ => if b = true then AE X A (compEnvC scope cl C env) ((x, y) :: lc) elt st₁ Kt else Kf st₁)
    (done : ∀ acc st, Inv [] acc st → P (.list acc) st) (hs : ∀ x, foldedSetIterable iter env x = pure x := by intro _; rfl) :
    AE X A env lo (.ListComp elt [⟨.Name x px, iter, ifs, 0⟩] scope pos) st P := by
  intro f m Xc s g R Q E hQ
  rw [eval_ListComp]
  refine wpAny_comprehension_free (use := none) rfl hs hclos hkind hnames (h (fun xs st₂ => xs.length ≤ 1000 ∧ Inv xs [] st₂) (fun _ _ a b => ⟨a, b⟩) f m Xc s g R _ _ fun v s₁ g₁ src st₁ l₁ R₁ r₁ p₁ => p₁ f m Xc s₁ g₁ R₁ v r₁ _ _ fun I o O xs s₂ hit hself ho R₂ hb ⟨hlen, hi⟩ => ?_)
  refine comp_core (RR := fun acc C => compPost (model X.prog X.w) A E none Q acc C) R₁ R₂ hit hself ho hb hlen hblock hcell hkind hx Inv hi (fun C y r acc st hi => turn _ _ C y r acc st (fun _ _ x => x) (fun _ x => x) hi) ?_
  intro D C oC mC vs acc s' g' st' hbC hbD le D₀ hoC hvs _ hI
  obtain ⟨g'', l2, D', hr⟩ := comp_toI D₀ hvs
  refine ⟨mC, hoC.ns D'.head.1, fun h' hs' => ?_⟩
  have D₂ : Ld X f.h₀ f.L m (Xc ++ f.Xo) f.ban { s' with heap := h' } g'' st' := D'.gone (tk := s'.toks) (fun b q hb e => hs'.extBut b q hb e) (.inl rfl) fun b hb' => ⟨.inr hb', fun q => hbC (q ▸ hb')⟩
  exact hQ _ _ g'' _ _ (l₁.trans (le.trans l2)) (R.of D₂ (l₁.trans (le.trans l2))) hr (done acc st' hI)

/-- a comprehension whose name is stored at once: what is left when the turns are over -/
theorem comp_store {y : Str} {py : Pos} {P : AF → Lo → Sto → Prop} {Q : Flow → Shared → Prop} {E : Value → Shared → Prop} {s s' : Shared} {g' : Gh} {st' : Sto} {D C : Addr} {oC : Obj} {mC : Str → Option Value} {av : AV}
    (R : Rep X A env f m Xc s g lo st) (hy : env.kindOf y = some .local) (hf : env.func.isSome = true) (le' : g.le g') (hbC : ¬ f.ban C) (D' : Ld X f.h₀ f.L m ((C, oC) :: (Xc ++ f.Xo)) (fun a => a = C ∨ f.ban a) s' g' st') (hoC : LCg.NsObj oC mC)
    (hr : RV X g'.I g'.R (.ref D) av) (p : P .next (put lo y av) st') (hQ : ∀ fl s' g' m' Xc' af lo' st', g.le g' → Rep X A env f m' Xc' s' g' lo' st' → RF X g' fl af → P af lo' st' → Q fl s') :
    compPost (model X.prog X.w) A E (some (assign (.Name y py) env)) (fun _ s' => Q .next s') (.ref D) C (.ok .next) s' := by
  show wpAny _ A (assign (.Name y py) env (.ref D)) _ _ _
  have hL := R.loc hf
  refine wpAny_assign_Name (wpAny_storeName_local hy (by rw [hL]; exact D'.F.ns) (fun h' hn hs => ?_) (by rw [R.kind]; rfl))
  rw [hL] at hn hs
  have hCL : C ≠ f.L := D'.head.2.1
  refine ⟨mC, (hoC.ns D'.head.1).sameBut hs hCL, fun h'' hs'' => ?_⟩
  have D₁ : Ld X f.h₀ f.L (fun z => if z = y then some (.ref D) else m z) ((C, oC) :: (Xc ++ f.Xo)) (fun a => a = C ∨ f.ban a) { s' with heap := h', toks := s'.toks + 1 } g' st' :=
    ⟨D'.gens, D'.os, D'.F.set hn hs, D'.N.set hs, D'.nd, D'.ndR, D'.old, D'.ban, D'.obj⟩
  have D₂ : Ld X f.h₀ f.L (fun z => if z = y then some (.ref D) else m z) (Xc ++ f.Xo) f.ban { s' with heap := h'', toks := s'.toks + 1 } g' st' :=
    D₁.gone (tk := s'.toks + 1) (fun b q hb e => hs''.extBut b q hb e) (.inl rfl) fun b hb' => ⟨.inr hb', fun q => hbC (q ▸ hb')⟩
  refine hQ _ { s' with heap := h'', toks := s'.toks + 1 } g' (fun z => if z = y then some (.ref D) else m z) Xc _ (put lo y av) st' le' ⟨R.ok, R.globals, R.builtins, R.kind, R.loc, D₂.gens, D₂.os, D₂.F, ?_, ?_, ?_, R.cells, D₂.ndR, ?_, ?_, D₂.obj⟩ .next p
  · have := D₂.N; rw [List.append_assoc] at this; exact this
  · have := D₂.nd; rw [List.append_assoc] at this; exact this
  · intro z bv e
    by_cases hz : z = y
    · subst hz
      rw [put_self] at e
      cases e
      exact ⟨.ref D, .inl ⟨hy, hL, by simp⟩, hr⟩
    · rw [put_ne hz] at e
      obtain ⟨u, hu, hur⟩ := R.vars z bv e
      refine ⟨u, ?_, hur.le le'⟩
      rcases hu with ⟨h1, h2, h3⟩ | h2 | h3
      · exact .inl ⟨h1, h2, by simp [hz]; exact h3⟩
      · exact .inr (.inl h2)
      · exact .inr (.inr h3)
  · have := D₂.old; rw [List.append_assoc] at this; exact this
  · have := D₂.ban; rw [List.append_assoc] at this; exact this

theorem s_compB {elt iter : Expr} {x y : Str} {px py pos spos : Pos} {ifs : List Expr} {scope : Scope} {cl : List (Str × Addr)} {P : AF → Lo → Sto → Prop} (lc : Lo) (Inv : List AV → List AV → Sto → Prop)
    (hsw : swapsWith (.ListComp elt [⟨.Name x px, iter, ifs, 0⟩] scope pos) (some (.Name y py)) spos.line env = pure true)
    (hclos : closureFor scope env = pure cl) (hblock : ∀ C, BlockOk X env (compEnvC scope cl C env) C lo lc) (hcell : ∀ y ∈ scope.names, y.2 ≠ .cell) (hkind : scope.kind = .function)
    (hnames : ∀ y ∈ scope.names, y.2 = .local → scope.names.lookup y.1 = some .local) (hx : scope.names.lookup x = some .local) (hy : env.kindOf y = some .local) (hf : env.func.isSome = true)
    (h : ∀ K : List AV → Sto → Prop, (∀ xs st₂, xs.length ≤ 1000 → Inv xs [] st₂ → K xs st₂) → AE X A env lo iter st fun src st₁ => AIt X A env lo src st₁ K)
    (turn : ∀ (Kt : AV → Sto → Prop) (Kf : Sto → Prop) C y r acc st, (∀ z st₂, Inv r (acc ++ [z]) st₂ → Kt z st₂) → (∀ st₁, Inv r acc st₁ → Kf st₁) → Inv (y :: r) acc st →
      AG X A (compEnvC scope cl C env) ((x, y) :: lc) REq (tests ifs (compEnvC scope cl C env)) st fun b st₁ => if b = true then AE X A (compEnvC scope cl C env) ((x, y) :: lc) elt st₁ Kt else Kf st₁)
    (done : ∀ acc st, Inv [] acc st → P .next (put lo y (.list acc)) st ∨ ∀ i, st i = .dead → P .next (put lo y (.ref i)) (st.set i (.list acc))) (hs : ∀ x, foldedSetIterable iter env x = pure x := by intro _; rfl) :
    AX X A env (.Assign [.Name y py] (.ListComp elt [⟨.Name x px, iter, ifs, 0⟩] scope pos) spos) lo st P := by
  intro f m Xc s g R Q E hQ
  rw [exec_Assign_Name_used _ _ _ _ hsw]
  refine wpAny_bind (wpAny_standAt (wpAny_bind ?_))
  show wpAny _ A (do let _ ← comprehension (.ListComp elt [⟨.Name x px, iter, ifs, 0⟩] scope pos) scope env _ (newList []) false (eval iter env) (some (assign (.Name y py) env))) _ _ s
  refine wpAny_bind (wpAny_mono (wpAny_comprehension_free (use := some (assign (.Name y py) env)) (Q := fun _ s' => Q .next s') rfl hs hclos hkind hnames
    (h (fun xs st₂ => xs.length ≤ 1000 ∧ Inv xs [] st₂) (fun _ _ a b => ⟨a, b⟩) f m Xc s g R _ _ fun v s₁ g₁ src st₁ l₁ R₁ r₁ p₁ => p₁ f m Xc s₁ g₁ R₁ v r₁ _ _ fun I o O xs s₂ hit hself ho R₂ hb ⟨hlen, hi⟩ => ?_)) (fun _ s' hq => wpAny_pure (wpAny_pure hq)) fun _ _ e => e)
  refine comp_core (RR := fun acc C => compPost (model X.prog X.w) A E (some (assign (.Name y py) env)) (fun _ s' => Q .next s') acc C) R₁ R₂ hit hself ho hb hlen hblock hcell hkind hx Inv hi (fun C y r acc st hi => turn _ _ C y r acc st (fun _ _ x => x) (fun _ x => x) hi) ?_
  intro D C oC mC vs acc s' g' st' hbC hbD le D₀ hoC hvs _ hI
  rcases done acc st' hI with p | p
  · obtain ⟨g'', l2, D', hr⟩ := comp_toI D₀ hvs
    exact comp_store R hy hf (l₁.trans (le.trans l2)) hbC D' hoC hr p hQ
  · obtain ⟨g'', i, l2, hi, D', hr⟩ := comp_toM hbC D₀ hbD hvs
    exact comp_store R hy hf (l₁.trans (le.trans l2)) hbC D' hoC hr (p i hi) hQ
theorem s_compK {elt iter : Expr} {x y : Str} {px py pos spos : Pos} {ifs : List Expr} {scope : Scope} {cl : List (Str × Addr)} {P : AF → Lo → Sto → Prop} (lc : Lo) (Inv : List AV → List AV → Sto → Prop)
    (hsw : swapsWith (.ListComp elt [⟨.Name x px, iter, ifs, 0⟩] scope pos) (some (.Name y py)) spos.line env = pure true)
    (hclos : closureFor scope env = pure cl) (hblock : ∀ C, BlockOk X env (compEnvC scope cl C env) C lo lc) (hcell : ∀ y ∈ scope.names, y.2 ≠ .cell) (hkind : scope.kind = .function)
    (hnames : ∀ y ∈ scope.names, y.2 = .local → scope.names.lookup y.1 = some .local) (hx : scope.names.lookup x = some .local) (hy : env.kindOf y = some .local) (hf : env.func.isSome = true)
    (h : ∀ K : List AV → Sto → Prop, (∀ xs st₂, xs.length ≤ 1000 → Inv xs [] st₂ → K xs st₂) → AE X A env lo iter st fun src st₁ => AIt X A env lo src st₁ K)
    (turn : ∀ (Kt : AV → Sto → Prop) (Kf : Sto → Prop) C y r acc st, (∀ z st₂, Inv r (acc ++ [z]) st₂ → Kt z st₂) → (∀ st₁, Inv r acc st₁ → Kf st₁) → Inv (y :: r) acc st →
      AG X A (compEnvC scope cl C env) ((x, y) :: lc) REq (tests ifs (compEnvC scope cl C env)) st fun b st₁ => if b = true then AE X A (compEnvC scope cl C env) ((x, y) :: lc) elt st₁ Kt else Kf st₁)
    (done : ∀ acc st, Inv [] acc st → P .next (put lo y (.list acc)) st) (hs : ∀ x, foldedSetIterable iter env x = pure x := by intro _; rfl) :
    AX X A env (.Assign [.Name y py] (.ListComp elt [⟨.Name x px, iter, ifs, 0⟩] scope pos) spos) lo st P := s_compB lc Inv hsw hclos hblock hcell hkind hnames hx hy hf h turn (fun acc st hi => .inl (done acc st hi)) hs
end
end Mine

namespace Mine

section
variable {X : Fix} {A : Around} {env : Env} {lo : Lo} {st : Sto} {a b : Int} {P : AV → Sto → Prop}

theorem b_add (h : P (.int (a + b)) st) : AW2 X A env lo (binaryOp .Add) (.int a) (.int b) st P := by
  intro f m Xc s g R v w hv hw Q E hQ
  replace hv := RV.inv hv; obtain ⟨_, rfl⟩ := hv; replace hw := RV.inv hw; obtain ⟨_, rfl⟩ := hw
  exact PyProof.Rows.add_int (hQ _ _ g _ _ (Gh.le.refl g) (R.tk _) (.int _ _) h)
theorem b_sub (h : P (.int (a - b)) st) : AW2 X A env lo (binaryOp .Sub) (.int a) (.int b) st P := by
  intro f m Xc s g R v w hv hw Q E hQ
  replace hv := RV.inv hv; obtain ⟨_, rfl⟩ := hv; replace hw := RV.inv hw; obtain ⟨_, rfl⟩ := hw
  exact PyProof.Rows.sub_int (hQ _ _ g _ _ (Gh.le.refl g) (R.tk _) (.int _ _) h)
theorem b_mod (hb : b ≠ 0) (h : P (.int (a.fmod b)) st) : AW2 X A env lo (binaryOp .Mod) (.int a) (.int b) st P := by
  intro f m Xc s g R v w hv hw Q E hQ
  replace hv := RV.inv hv; obtain ⟨_, rfl⟩ := hv; replace hw := RV.inv hw; obtain ⟨_, rfl⟩ := hw
  exact PyProof.Rows.mod_int hb (hQ _ _ g _ _ (Gh.le.refl g) (R.tk _) (.int _ _) h)
theorem b_div (hb : b ≠ 0) (hp : Builtin.divisionGoesByPylong a b = false) (h : P (.int (a.fdiv b)) st) : AW2 X A env lo (binaryOp .FloorDiv) (.int a) (.int b) st P := by
  intro f m Xc s g R v w hv hw Q E hQ
  replace hv := RV.inv hv; obtain ⟨_, rfl⟩ := hv; replace hw := RV.inv hw; obtain ⟨_, rfl⟩ := hw
  exact floordiv_int hb (hQ _ _ g _ _ (Gh.le.refl g) (R.tk _) (.int _ _) h) (.inl hp)
theorem c_eq (h : P (.bool (a == b)) st) : AW2 X A env lo (compareOp .Eq) (.int a) (.int b) st P := by
  intro f m Xc s g R v w hv hw Q E hQ
  replace hv := RV.inv hv; obtain ⟨_, rfl⟩ := hv; replace hw := RV.inv hw; obtain ⟨_, rfl⟩ := hw
  exact PyProof.Rows.eq_int (hQ _ _ g _ _ (Gh.le.refl g) R (.bool _) h)
theorem c_lt (h : P (.bool (decide (a < b))) st) : AW2 X A env lo (compareOp .Lt) (.int a) (.int b) st P := by
  intro f m Xc s g R v w hv hw Q E hQ
  replace hv := RV.inv hv; obtain ⟨_, rfl⟩ := hv; replace hw := RV.inv hw; obtain ⟨_, rfl⟩ := hw
  exact PyProof.Rows.lt_int (hQ _ _ g _ _ (Gh.le.refl g) R (.bool _) h)
theorem c_gt (h : P (.bool (decide (b < a))) st) : AW2 X A env lo (compareOp .Gt) (.int a) (.int b) st P := by
  intro f m Xc s g R v w hv hw Q E hQ
  replace hv := RV.inv hv; obtain ⟨_, rfl⟩ := hv; replace hw := RV.inv hw; obtain ⟨_, rfl⟩ := hw
  exact PyProof.Rows.gt_int (hQ _ _ g _ _ (Gh.le.refl g) R (.bool _) h)
theorem n_neg (h : P (.int (-a)) st) : AW1 X A env lo (unaryOp .USub) (.int a) st P := by
  intro f m Xc s g R v hv Q E hQ
  replace hv := RV.inv hv; obtain ⟨_, rfl⟩ := hv
  exact PySem.P.neg_int (hQ _ _ g _ _ (Gh.le.refl g) (R.tk _) (.int _ _) h)

/-- lists and tuples -/
theorem isL {f : Fm} {m : Str → Option Value} {Xc : Led} {s : Shared} {g : Gh} (R : Rep X A env f m Xc s g lo st) {v : Value} {xs : List AV} (h : RV X g.I g.R v (.list xs)) : ∃ a vs, v = .ref a ∧ s.heap.IsList a vs.toArray ∧ RVs X g.I g.R vs xs := by
  replace h := RV.inv h; obtain ⟨a, vs, n, rfl, hI, hr⟩ := h; exact ⟨a, vs, rfl, ⟨_, R.getI hI, rfl, _, rfl⟩, hr⟩
theorem isT {f : Fm} {m : Str → Option Value} {Xc : Led} {s : Shared} {g : Gh} (R : Rep X A env f m Xc s g lo st) {v : Value} {xs : List AV} (h : RV X g.I g.R v (.tup xs)) : ∃ a vs, v = .ref a ∧ IsTup s.heap a vs.toArray ∧ RVs X g.I g.R vs xs := by
  replace h := RV.inv h; obtain ⟨a, vs, rfl, hI, hr⟩ := h; exact ⟨a, vs, rfl, ⟨_, R.getI hI, rfl, _, rfl⟩, hr⟩

theorem b_addL {xs ys : List AV} (hsz : xs.length + ys.length ≤ 1000) (h : P (.list (xs ++ ys)) st) : AW2 X A env lo (binaryOp .Add) (.list xs) (.list ys) st P := by
  intro f m Xc s g R v w hv hw Q E hQ
  obtain ⟨a, vs, rfl, hl, hr⟩ := isL R hv
  obtain ⟨b, ws, rfl, hl', hr'⟩ := isL R hw
  refine add_arrays R.F R.N hl hl' (fun h' F' N' => ?_) (by rw [List.size_toArray, List.size_toArray, hr.length, hr'.length, sizeLine_eq]; omega)
  refine hQ _ _ _ _ _ (Gh.le.imm g _) (R.imm (s' := { s with heap := h' }) (Nat.le_refl _) F' N' rfl rfl rfl) ?_ h
  exact .list (vs := vs ++ ws) (n := 0) (.head _) ((hr.app hr').mono (fun p hp => .tail _ hp) (List.prefix_refl _))
theorem b_addT {xs ys : List AV} (hsz : xs.length + ys.length ≤ 1000) (h : P (.tup (xs ++ ys)) st) : AW2 X A env lo (binaryOp .Add) (.tup xs) (.tup ys) st P := by
  intro f m Xc s g R v w hv hw Q E hQ
  obtain ⟨a, vs, rfl, hl, hr⟩ := isT R hv
  obtain ⟨b, ws, rfl, hl', hr'⟩ := isT R hw
  have e1 := hr.length
  have e2 := hr'.length
  refine add_tuples R.F R.N hl hl' (fun e => ?_) (fun _ e => ?_) (fun _ _ h' F' N' => ?_) (by rw [e1, e2, sizeLine_eq]; omega)
  · subst e
    have : xs = [] := List.eq_nil_of_length_eq_zero e1.symm
    subst this
    exact hQ _ _ g _ _ (Gh.le.refl g) R hw h
  · subst e
    have : ys = [] := List.eq_nil_of_length_eq_zero e2.symm
    subst this
    rw [List.append_nil] at h
    exact hQ _ _ g _ _ (Gh.le.refl g) R hv h
  · refine hQ _ _ _ _ _ (Gh.le.imm g _) (R.imm (s' := { s with heap := h' }) (Nat.le_refl _) F' N' rfl rfl rfl) ?_ h
    exact .tup (vs := vs ++ ws) (.head _) ((hr.app hr').mono (fun p hp => .tail _ hp) (List.prefix_refl _))

theorem getM {f : Fm} {m : Str → Option Value} {Xc : Led} {s : Shared} {g : Gh} (R : Rep X A env f m Xc s g lo st) {v : Value} {xs : List AV} (h : RV X g.I g.R v (.list xs)) : ∃ a vs n, v = .ref a ∧ s.heap.get? a = some { cls := .type "list", data := .seq vs.toArray n } ∧ RVs X g.I g.R vs xs := by
  replace h := RV.inv h; obtain ⟨a, vs, n, rfl, hI, hr⟩ := h; exact ⟨a, vs, n, rfl, R.getI hI, hr⟩
theorem foldl_one {α : Type} (xs : Array α) : List.foldl (fun x1 x2 => x1 ++ x2) #[] (List.replicate 1 xs) = xs := by simp
/-- a list taken no time or once -/
theorem b_mulL {xs : List AV} {k : Int} (hk : k = 0 ∨ k = 1) (hsz : xs.length ≤ 1000) (h : P (.list (if k = 1 then xs else [])) st) : AW2 X A env lo (binaryOp .Mult) (.list xs) (.int k) st P := by
  intro f m Xc s g R v w hv hw Q E hQ
  obtain ⟨a, vs, n, rfl, hl, hr⟩ := getM R hv
  replace hw := RV.inv hw; obtain ⟨_, rfl⟩ := hw
  refine mul_list R.F R.N hl (by omega) (by omega) (by
    rw [List.size_toArray, hr.length]
    rcases hk with rfl | rfl
    · simp
    · show xs.length * 1 ≤ _; omega) (fun h' F' N' => ?_)
  have e : List.foldl (fun x1 x2 => x1 ++ x2) #[] (List.replicate (if vs.toArray.isEmpty = true then 0 else k.toNat) vs.toArray) = (if k = 1 then vs else []).toArray := by
    rcases hk with rfl | rfl
    · simp
    · by_cases hv : vs = []
      · subst hv; simp
      · have : vs.toArray.isEmpty = false := by simpa using hv
        rw [this]
        show List.foldl _ _ (List.replicate 1 vs.toArray) = _
        rw [foldl_one]; simp
  rw [e] at N'
  refine hQ _ _ _ _ _ (Gh.le.imm g _) (R.imm (s' := { s with heap := h' }) (Nat.le_refl _) F' N' rfl rfl rfl) ?_ h
  refine .list (vs := if k = 1 then vs else []) (n := 0) (.head _) ?_
  split
  · exact hr.mono (fun p hp => .tail _ hp) (List.prefix_refl _)
  · exact .nil

theorem sub_list {value slice : Expr} {xs : List AV} {k : Int} {z : AV} (h0 : 0 ≤ k) (hfit : k < 2 ^ 63) (hx : xs[k.toNat]? = some z) (h : P z st)
    (hs : ∀ l u, subscripted slice false (.ref l) (.int k u) = operate [.ref l, .int k u] (getItem (.ref l) (.int k u)) := by intro _ _; with_unfolding_all rfl) : AW2 X A env lo (subscriptTail value slice) (.list xs) (.int k) st P := by
  intro f m Xc s g R v w hv hw Q E hQ
  obtain ⟨a, vs, rfl, hl, hr⟩ := isL R hv
  replace hw := RV.inv hw; obtain ⟨_, rfl⟩ := hw
  obtain ⟨u, hu, hr'⟩ := hr.get hx
  exact tail_any hl.typeIs slot_list_getitem.lookup (wpAny_getItem_list hl h0 hfit (by simpa using hu) (hQ _ _ g _ _ (Gh.le.refl g) R hr' h)) (hs _ _)
theorem sub_tup {value slice : Expr} {xs : List AV} {k : Int} {j : Nat} {z : AV} (hlo : -(2 ^ 63) ≤ k) (hhi : k < 2 ^ 63) (hj : seqIndex? k xs.length = some j) (hx : xs[j]? = some z) (h : P z st)
    (hs : ∀ l u, subscripted slice false (.ref l) (.int k u) = operate [.ref l, .int k u] (getItem (.ref l) (.int k u)) := by intro _ _; with_unfolding_all rfl) : AW2 X A env lo (subscriptTail value slice) (.tup xs) (.int k) st P := by
  intro f m Xc s g R v w hv hw Q E hQ
  obtain ⟨a, vs, rfl, hl, hr⟩ := isT R hv
  replace hw := RV.inv hw; obtain ⟨_, rfl⟩ := hw
  obtain ⟨u, hu, hr'⟩ := hr.get hx
  exact item_tupleT hl hlo hhi (by rw [hr.length]; exact hj) hu (hQ _ _ g _ _ (Gh.le.refl g) R hr' h) (hs _ _)

/-- slices -/
theorem slc_lay {f : Fm} {m : Str → Option Value} {Xc : Led} {s : Shared} {g : Gh} (R : Rep X A env f m Xc s g lo st) {t u v : Value} {a b c : Option Int} (h1 : IsPart t a) (h2 : IsPart u b) (h3 : IsPart v c) :
    Rep X A env f m Xc { s with heap := s.heap.push { cls := .type "slice", data := .fields #[t, u, v] } } { g with I := (s.heap.objs.size, { cls := .type "slice", data := .fields #[t, u, v] }) :: g.I } lo st ∧
      RV X ((s.heap.objs.size, { cls := .type "slice", data := .fields #[t, u, v] }) :: g.I) g.R (.ref s.heap.objs.size) (.slc a b c) :=
  ⟨R.imm (Nat.le_refl _) (R.F.push _) (R.N.push R.F _) rfl rfl rfl, .slc (.head _) h1 h2 h3⟩
theorem e_upto {e : Expr} {p : Pos} (h : AE X A env lo e st fun x st₁ => ∃ i, x = .int i ∧ P (.slc none (some i) none) st₁) : AE X A env lo (.Slice none (some e) none p) st P := by
  intro f m Xc s g R Q E hQ
  refine wpAny_Slice ?_
  rw [evalPart_none]
  refine wpAny_pure ?_
  rw [evalPart_some]
  refine h f m Xc s g R _ _ fun v s₁ g₁ x st₁ l₁ R₁ r₁ ⟨i, e, p⟩ => ?_
  subst e
  refine wpAny_pure ?_
  replace r₁ := RV.inv r₁; obtain ⟨_, rfl⟩ := r₁
  obtain ⟨R₂, r₂⟩ := slc_lay R₁ .none (.int i _) .none
  exact hQ _ _ _ _ _ (l₁.trans (Gh.le.imm g₁ _)) R₂ r₂ p
theorem e_from {e : Expr} {p : Pos} (h : AE X A env lo e st fun x st₁ => ∃ i, x = .int i ∧ P (.slc (some i) none none) st₁) : AE X A env lo (.Slice (some e) none none p) st P := by
  intro f m Xc s g R Q E hQ
  refine wpAny_Slice ?_
  rw [evalPart_some]
  refine h f m Xc s g R _ _ fun v s₁ g₁ x st₁ l₁ R₁ r₁ ⟨i, e, p⟩ => ?_
  subst e
  rw [evalPart_none]
  refine wpAny_pure ?_
  refine wpAny_pure ?_
  replace r₁ := RV.inv r₁; obtain ⟨_, rfl⟩ := r₁
  obtain ⟨R₂, r₂⟩ := slc_lay R₁ (.int i _) .none .none
  exact hQ _ _ _ _ _ (l₁.trans (Gh.le.imm g₁ _)) R₂ r₂ p
theorem e_step {e : Expr} {p : Pos} (h : AE X A env lo e st fun x st₁ => ∃ i, x = .int i ∧ P (.slc none none (some i)) st₁) : AE X A env lo (.Slice none none (some e) p) st P := by
  intro f m Xc s g R Q E hQ
  refine wpAny_Slice ?_
  rw [evalPart_none]
  refine wpAny_pure ?_
  refine wpAny_pure ?_
  rw [evalPart_some]
  refine h f m Xc s g R _ _ fun v s₁ g₁ x st₁ l₁ R₁ r₁ ⟨i, e, p⟩ => ?_
  subst e
  replace r₁ := RV.inv r₁; obtain ⟨_, rfl⟩ := r₁
  obtain ⟨R₂, r₂⟩ := slc_lay R₁ .none .none (.int i _)
  exact hQ _ _ _ _ _ (l₁.trans (Gh.le.imm g₁ _)) R₂ r₂ p

theorem sub_pick {value slice : Expr} {xs : List AV} {a b c : Option Int} {ops : Addr → Addr → List Value} {ys : List AV} (hc : c ≠ some 0) (hlen : xs.length ≤ 1000)
    (hp : ∀ (vs : List Value) (I : Led) (R : List Addr), RVs X I R vs xs → ∃ ws : List Value, slicePick vs.toArray a b c = ws.toArray ∧ RVs X I R ws ys) (h : P (.list ys) st)
    (hs : ∀ l sl, subscripted slice false (.ref l) (.ref sl) = operate (ops l sl) (getItem (.ref l) (.ref sl))) (ht : ∀ l r, letTemporaryGo value (.ref l) r = pure () := by intro _ _; with_unfolding_all rfl) :
    AW2 X A env lo (subscriptTail value slice) (.list xs) (.slc a b c) st P := by
  intro f m Xc s g R v w hv hw Q E hQ
  obtain ⟨l, vs, rfl, hl, hr⟩ := isL R hv
  replace hw := RV.inv hw; obtain ⟨r, t, u, v, rfl, hI, h1, h2, h3⟩ := hw
  obtain ⟨ws, e, hw⟩ := hp vs _ _ hr
  have hS : s.heap.IsSliceOf r t u v := ⟨_, R.getI hI, rfl, rfl⟩
  refine subscriptTail_ops hl.typeIs list_getitem_lookup (wpAny_getItem_list_slice hl hS h1 h2 h3 hc ?_ (by rw [List.size_toArray, hr.length, sizeLine_eq]; omega)) (hs _ _) (ht _)
  rw [e]
  refine hQ _ _ _ _ _ (Gh.le.imm g _) (R.imm (Nat.le_refl _) (R.F.push _) (R.N.push R.F _) rfl rfl rfl) ?_ h
  exact .list (vs := ws) (n := 0) (.head _) (hw.mono (fun p hp => .tail _ hp) (List.prefix_refl _))
theorem sub_from {value e : Expr} {p : Pos} {xs : List AV} {i : Nat} (hlen : xs.length ≤ 1000) (h : P (.list (xs.drop i)) st) (ht : ∀ l r, letTemporaryGo value (.ref l) r = pure () := by intro _ _; with_unfolding_all rfl) :
    AW2 X A env lo (subscriptTail value (.Slice (some e) none none p)) (.list xs) (.slc (some (i : Int)) none none) st P :=
  sub_pick (ops := fun l sl => [.ref sl, .ref l]) (by simp) hlen (fun vs I R hr => ⟨vs.drop i, slicePick_from' vs.toArray i, hr.drop i⟩) h (fun _ _ => by with_unfolding_all rfl) ht
theorem sub_rev {value e : Expr} {p : Pos} {xs : List AV} (hlen : xs.length ≤ 1000) (h : P (.list xs.reverse) st) (ht : ∀ l r, letTemporaryGo value (.ref l) r = pure () := by intro _ _; with_unfolding_all rfl) :
    AW2 X A env lo (subscriptTail value (.Slice none none (some e) p)) (.list xs) (.slc none none (some (-1))) st P :=
  sub_pick (ops := fun l sl => [.ref l, .ref sl]) (by simp) hlen (fun vs I R hr => ⟨vs.reverse, krv_pick vs.toArray, hr.rev⟩) h (fun _ _ => by with_unfolding_all rfl) ht
end
end Mine

namespace Mine

/-- who keeps a callee -/
def Keep (X : Fix) (v : Value) : Prop := ∀ (M : Model) (h : Heap), X.K.In h → ∃ k, (k = Keeper.frame ∨ k = Keeper.machine ∨ k = Keeper.boundFrame) ∧ Looks M h (keeperOf v) k
theorem keep_K {X : Fix} {v : Value} (h : keepIn X.K v = true) : Keep X v := fun M h' hK => keeps_K h h' hK
theorem keep_b {X : Fix} (id : String) : Keep X (.builtin id) := fun M h hK => ⟨.machine, .inr (.inl rfl), .now⟩
theorem keep_t {X : Fix} (T : String) : Keep X (.type T) := fun M h hK => ⟨.machine, .inr (.inl rfl), .now⟩

section
variable (X : Fix) (A : Around) (env : Env) (lo : Lo)
/-- keyword arguments -/
def AKws (pos : Pos) : List Keyword → Sto → (List (Str × AV) → Sto → Prop) → Prop
  | [], st, P => P [] st
  | ⟨some n, e, _⟩ :: r, st, P => AE X A env lo e st fun x st₁ => AKws pos r st₁ fun xs st₂ => P ((n, x) :: xs) st₂
  | _ :: _, _, _ => False
/-- what is wanted behind the arguments of a call -/
abbrev CallR (n : Nat) (pos : Pos) (kws : List Keyword) (fv : Value) (P : AV → Sto → Prop) (xs : List AV) (st : Sto) : Prop := AKws X A env lo pos kws st fun ks st₂ => ACallV X n fv xs ks st₂ P
def plainArgs (args : List Expr) : Bool := args.all fun e => match e with | .Starred .. => false | _ => true
/-- a name that is called, or a method that is looked up -/
def AName (e : Expr) (fv : Value) : Prop := ∀ f m Xc s g st, Rep X A env f m Xc s g lo st → ∀ (Q : Value → Shared → Prop) (E : Value → Shared → Prop), Q fv s → wpAny (model X.prog X.w) A (eval e env) Q E s
def AMeth (x : AV) (name : Str) (fv : Value) (st : Sto) : Prop := ∀ f m Xc s g, Rep X A env f m Xc s g lo st → ∀ v, RV X g.I g.R v x → ∀ pl (Q : Value × List Value → Shared → Prop) (E : Value → Shared → Prop), Q (fv, [v]) s → wpAny (model X.prog X.w) A (getMethod v name pl) Q E s
/-- what is wanted behind the object of a method's call -/
abbrev MethR (n : Nat) (pos : Pos) (name : Str) (args : List Expr) (kws : List Keyword) (P : AV → Sto → Prop) (x : AV) (st : Sto) : Prop :=
  ∃ fv, AMeth X A env lo x name fv st ∧ Keep X fv ∧ AArgs X A env lo pos args st fun xs st₂ => AKws X A env lo pos kws st₂ fun ks st₃ => ACallV X n fv (x :: xs) ks st₃ P
end

section
variable {X : Fix} {A : Around} {env : Env} {lo : Lo} {st : Sto} {P : AV → Sto → Prop} {n : Nat}

theorem an_glob {x : Str} {v : Value} {p : Pos} (e : nsIn X.K mainGlobals x = some (some v)) (hx : env.kindOf x = some .globalImplicit) (hd : (x == ("__debug__" : Str)) = false := by decide) : AName X A env lo (.Name x p) v :=
  fun f m Xc s g st R Q E hQ => g_name R e hQ hx hd
theorem an_bi {x : Str} {v : Value} {p : Pos} (e : nsIn X.K mainGlobals x = some none) (hv : bootBuiltins x = some v) (hx : env.kindOf x = some .globalImplicit) (hn : x ≠ "__name__" := by decide) (hd : (x == ("__debug__" : Str)) = false := by decide) : AName X A env lo (.Name x p) v :=
  fun f m Xc s g st R Q E hQ => b_name R e hv hn hQ hx hd

theorem starEach_plain : ∀ {args : List Expr}, plainArgs args = true → starEach args env = args.map fun e => (false, eval e env)
 := by
  intro args
  induction args with
  | nil => exact fun _ => rfl
  | cons e r ih0 =>
    intro h
    unfold plainArgs at h
    rw [List.all_cons, Bool.and_eq_true] at h
    have ih := ih0 h.2
    have q : starEach (e :: r) env = (false, eval e env) :: starEach r env := by
      cases e <;> first | rfl | (exact absurd h.1 (by simp))
    rw [q, ih, List.map_cons]

def kwOk (kws : List Keyword) : Bool := kws.all fun k => k.arg.isSome
theorem kw_all : ∀ {kws : List Keyword}, kwOk kws = true → (keywordEach kws env).all (·.1.isSome) = true
  | [], _ => rfl
  | ⟨a, v, p⟩ :: t, h => by
    unfold kwOk at h
    rw [List.all_cons, Bool.and_eq_true] at h
    have q : keywordEach (⟨a, v, p⟩ :: t) env = (a, eval v env) :: keywordEach t env := rfl
    rw [q, List.all_cons, kw_all (kws := t) h.2, Bool.and_true]
    exact h.1
theorem kws_run : ∀ (kws : List Keyword) {pos : Pos} {st : Sto} {P : List (Str × AV) → Sto → Prop}, AKws X A env lo pos kws st P →
    ∀ f m Xc s g, Rep X A env f m Xc s g lo st → ∀ (Q : List Value → Shared → Prop) (E : Value → Shared → Prop),
      (∀ ks s' g' xs st', g.le g' → Rep X A env f m Xc s' g' lo st' → RKs X g'.I g'.R (((backToKw pos (keywordEach kws env)).filterMap (·.1)).zip ks) xs → P xs st' → Q ks s') →
      wpAny (model X.prog X.w) A (evalAll ((backToKw pos (keywordEach kws env)).map (·.2))) Q E s
 := by
  intro kws
  induction kws with
  | nil => exact fun h f m Xc s g R Q E hQ => wpAny_evalAll_nil (hQ [] s g [] _ (Gh.le.refl g) R .nil h)
  | cons b r ih =>
    intro pos st P h f m Xc s g R Q E hQ
    obtain ⟨nm, e, p⟩ := b
    cases nm with
    | none => exact h.elim
    | some nm =>
      have q : (backToKw pos (keywordEach (⟨some nm, e, p⟩ :: r) env)) = (some nm, (do let v ← eval e env; standAt pos; pure v)) :: backToKw pos (keywordEach r env) := rfl
      rw [q, List.map_cons]
      refine wpAny_evalAll_cons (wpAny_bind (h f m Xc s g R _ _ fun v s₁ g₁ x st₁ l₁ R₁ r₁ p₁ => wpAny_bind (wpAny_standAt (wpAny_pure ?_))))
      refine ih p₁ f m Xc s₁ g₁ R₁ _ _ fun ks s₂ g₂ xs st₂ l₂ R₂ r₂ p₂ => ?_
      refine hQ _ s₂ g₂ _ st₂ (l₁.trans l₂) R₂ ?_ p₂
      rw [q]
      exact .cons (r₁.le l₂) r₂

/-- the arguments of a call, row and names -/
theorem args_run {fv : Value} {pos : Pos} {args : List Expr} {kws : List Keyword} {P : List AV → List (Str × AV) → Sto → Prop} (hpa : plainArgs args = true) (hkw : kwOk kws = true)
    (h : AArgs X A env lo pos args st fun xs st₁ => AKws X A env lo pos kws st₁ fun ks st₂ => P xs ks st₂) :
    ∀ f m Xc s g, Rep X A env f m Xc s g lo st → ∀ (Q : Args → Shared → Prop) (E : Value → Shared → Prop),
      (∀ a s' g' xs ks st', g.le g' → Rep X A env f m Xc s' g' lo st' → RVs X g'.I g'.R a.pos xs → RKs X g'.I g'.R a.kw ks → P xs ks st' → Q a s') →
      wpAny (model X.prog X.w) A (evalArgs fv true (backTo pos (starEach args env)) (backToKw pos (keywordEach kws env))) Q E s := by
  intro f m Xc s g R Q E hQ
  have hall : (backToKw pos (keywordEach kws env)).all (·.1.isSome) = true := by
    have := kw_all (env := env) hkw
    unfold backToKw
    rw [List.all_map]; exact this
  have tail : ∀ vs s₁ g₁ xs st₁, g.le g₁ → Rep X A env f m Xc s₁ g₁ lo st₁ → RVs X g₁.I g₁.R vs xs → (AKws X A env lo pos kws st₁ fun ks st₂ => P xs ks st₂) →
      wpAny (model X.prog X.w) A (evalAll ((backToKw pos (keywordEach kws env)).map (·.2))) (fun ks s₂ => Q ⟨vs, ((backToKw pos (keywordEach kws env)).filterMap (·.1)).zip ks⟩ s₂) E s₁ :=
    fun vs s₁ g₁ xs st₁ l₁ R₁ r₁ h₁ => kws_run kws h₁ f m Xc s₁ g₁ R₁ _ _ fun ks s₂ g₂ ys st₂ l₂ R₂ r₂ p₂ => hQ _ s₂ g₂ xs ys st₂ (l₁.trans l₂) R₂ (r₁.le l₂) r₂ p₂
  rw [starEach_plain hpa]
  cases args with
  | nil =>
    refine evalArgs_kw_nil hall ?_
    have z : wpAny (model X.prog X.w) A (pure [] : Sem (List Value)) (fun vs s₁ => wpAny (model X.prog X.w) A (evalAll ((backToKw pos (keywordEach kws env)).map (·.2))) (fun ks s₂ => Q ⟨vs, ((backToKw pos (keywordEach kws env)).filterMap (·.1)).zip ks⟩ s₂) E s₁) E s :=
      h f m Xc s g R _ E fun vs s₁ g₁ xs st₁ l₁ R₁ r₁ p₁ => tail vs s₁ g₁ xs st₁ l₁ R₁ r₁ p₁
    exact fun Γ p hΓ => z Γ p hΓ Γ p hΓ
  | cons e r =>
    refine evalArgs_kw hall ?_
    have := h f m Xc s g R (fun vs s₁ => wpAny (model X.prog X.w) A (evalAll ((backToKw pos (keywordEach kws env)).map (·.2))) (fun ks s₂ => Q ⟨vs, ((backToKw pos (keywordEach kws env)).filterMap (·.1)).zip ks⟩ s₂) E s₁) E
      fun vs s₁ g₁ xs st₁ l₁ R₁ r₁ p₁ => tail vs s₁ g₁ xs st₁ l₁ R₁ r₁ p₁
    rw [starEach_plain hpa] at this
    exact this

theorem not_starred (hpa : plainArgs args = true) (hkw : kwOk kws = true) {pos : Pos} : ((backTo pos (starEach args env)).any (·.1) || (backToKw pos (keywordEach kws env)).any (·.1.isNone)) = false := by
  rw [starEach_plain hpa]
  have h1 : (backTo pos (args.map fun e => (false, eval e env))).any (·.1) = false := by
    unfold backTo
    rw [List.map_map, List.any_map, List.any_eq_false]
    intro e _ h; cases h
  have h2 : (backToKw pos (keywordEach kws env)).any (·.1.isNone) = false := by
    have := kw_all (env := env) hkw
    unfold backToKw
    rw [List.any_map, List.any_eq_false]
    intro k hk h
    have h3 := List.all_eq_true.mp this k hk
    have h4 : k.1.isNone = true := h
    rw [Option.isNone_iff_eq_none] at h4
    rw [h4] at h3; cases h3
  rw [h1, h2]; rfl

/-- a call of a name -/
theorem e_call {x : Str} {p pos : Pos} {args : List Expr} {kws : List Keyword} {fv : Value} (hn : AName X A env lo (.Name x p) fv) (hk : Keep X fv) (hr : Room n A) (hpa : plainArgs args = true := by rfl) (hkw : kwOk kws = true := by rfl)
    (h : AArgs X A env lo pos args st (CallR X A env lo n pos kws fv P)) : AE X A env lo (.Call (.Name x p) args kws pos) st P := by
  intro f m Xc s g R Q E hQ
  refine wpAny_Call_Name_kw (hn f m Xc s g st R _ _ (callWith_of (P := X.K.In) (not_starred hpa hkw) (fun h hK => hk _ h hK) ?_))
  refine args_run hpa hkw h f m Xc s g R _ _ fun a s₁ g₁ xs ks st₁ l₁ R₁ r₁ r₂ p₁ => ⟨R₁.Kin, ?_⟩
  exact p₁ A env lo f m Xc s₁ g₁ hr R₁ a.pos a.kw r₁ r₂ Q E fun v s' g' av st' l' R' r' p' => hQ v s' g' av st' (l₁.trans l') R' r' p'

/-- a call of a method -/
theorem e_meth {o : Expr} {name : Str} {apos pos : Pos} {args : List Expr} {kws : List Keyword} {pl : Sem Bool}
    (he : eval (.Call (.Attribute o name apos) args kws pos) env = (do
      let ov ← eval o env
      standAt apos.atName
      let (f, first) ← holding [ov] (getMethod ov name pl)
      callWith pos f first (backTo pos (starEach args env)) (backToKw pos (keywordEach kws env))) := by rfl)
    (hr : Room n A) (hpa : plainArgs args = true := by rfl) (hkw : kwOk kws = true := by rfl)
    (h : AE X A env lo o st (MethR X A env lo n pos name args kws P)) :
    AE X A env lo (.Call (.Attribute o name apos) args kws pos) st P := by
  intro f m Xc s g R Q E hQ
  refine methodCall_KW (pl := pl) (h f m Xc s g R _ _ fun v s₁ g₁ x st₁ l₁ R₁ r₁ ⟨fv, hm, hk, ha⟩ => hm f m Xc s₁ g₁ R₁ v r₁ pl _ _ ?_) he
  refine callWith_of (P := X.K.In) (not_starred hpa hkw) (fun h hK => hk _ h hK) ?_
  refine args_run hpa hkw ha f m Xc s₁ g₁ R₁ _ _ fun a s₂ g₂ xs ks st₂ l₂ R₂ r₂ r₃ p₂ => ⟨R₂.Kin, ?_⟩
  exact p₂ A env lo f m Xc s₂ g₂ hr R₂ (v :: a.pos) a.kw (.cons (r₁.le l₂) r₂) r₃ Q E fun v s' g' av st' l' R' r' p' => hQ v s' g' av st' ((l₁.trans l₂).trans l') R' r' p'
end
end Mine

namespace Mine

theorem le_of_nodup_sub : ∀ (l : List Str) (r : List Str), l.Nodup → (∀ x ∈ l, x ∈ r) → l.length ≤ r.length
  | [], r, _, _ => Nat.zero_le _
  | x :: l, r, hn, hs => by
    rw [List.nodup_cons] at hn
    have hx : x ∈ r := hs x (.head _)
    have := le_of_nodup_sub l (r.erase x) hn.2 fun y hy => (List.mem_erase_of_ne (fun e => hn.1 (by rw [← e]; exact hy))).mpr (hs y (.tail _ hy))
    rw [List.length_erase_of_mem hx] at this
    have h2 : 0 < r.length := List.length_pos_of_mem hx
    rw [List.length_cons]; omega

section
variable {X : Fix} {A : Around} {env : Env} {f : Fm} {m : Str → Option Value} {Xc : Led} {s : Shared} {g : Gh} {lo : Lo} {st : Sto}

theorem Rep.chg (R : Rep X A env f m Xc s g lo st) {i : Nat} (hl : (st i).live = true) : ∃ a ob, g.R[i]? = some a ∧ s.heap.get? a = some ob ∧ OR X g.I g.R a ob (st i) ∧
    ∀ h' tk o' ao', Heap.SameBut a s.heap h' → h'.get? a = some o' → OR X g.I g.R a o' ao' → Rep X A env f m Xc { s with heap := h', toks := tk } (g.set a o') lo (st.set i ao') := by
  obtain ⟨a, ob, gU, h1, h2, U, hm, k⟩ := R.at hl
  have hN := R.N _ hm
  refine ⟨a, ob, h1, hN.1, h2, fun h' tk o' ao' hs ho' hao => ?_⟩
  obtain ⟨pre, post, e, hg, k1, k2⟩ := U.split
  have N' : News f.h₀ f.L h' (gU o') := by rw [hg]; have := R.N; rw [e] at this; exact this.setAt k1 k2 hs ho'
  exact k { s with heap := h', toks := tk } o' ao' (R.F.change hs hN.2.1 hN.2.2) N' rfl rfl hao

theorem Rep.refAt (R : Rep X A env f m Xc s g lo st) {i : Nat} {v : Value} {a : Addr} (hv : RV X g.I g.R v (.ref i)) (h : g.R[i]? = some a) : v = .ref a := by
  replace hv := RV.inv hv; obtain ⟨_, rfl, h'⟩ := hv; rw [h] at h'; cases h'; rfl

theorem ORV.none_iff {I : Led} {R : List Addr} {v : Option Value} {x : Option AV} (h : ORV X I R v x) : v.isSome = x.isSome := by cases h <;> rfl
theorem ORV.get {I : Led} {R : List Addr} {v : Option Value} {z : AV} (h : ORV X I R v (Option.some z)) : ∃ u, v = Option.some u ∧ RV X I R u z := by cases h with | some h => exact ⟨_, rfl, h⟩
end

section
variable {X : Fix} {A : Around} {env : Env} {lo : Lo} {st : Sto} {P : AV → Sto → Prop} {i : Nat} {d : Str → Option AV} {k : Str}

theorem str_is (t : Tok) : (PySem.strKind X.prog X.w).is k (.str k t) = true := strKind_is _ _ k t

theorem d_in (hi : st i = .dict d) (h : P (.bool (d k).isSome) st) : AW2 X A env lo (compareOp .In) (.str k) (.ref i) st P := by
  intro f m Xc s g R v w hv hw Q E hQ
  obtain ⟨a, ob, h1, h2, h3, _⟩ := R.chg (i := i) (by rw [hi]; rfl)
  rw [hi] at h3
  obtain ⟨vs, hd, hr, _, hm⟩ := h3
  rw [R.refAt hw h1]
  replace hv := RV.inv hv; obtain ⟨_, rfl⟩ := hv
  have hD : s.heap.DictOf (PySem.strKind X.prog X.w) a vs := Heap.dictOf_iff.mpr ⟨ob, h2, hd⟩
  refine wpAny_in_of (str_is _) hm hD.mapOf ?_
  rw [(hr k).none_iff]
  exact hQ _ _ g _ _ (Gh.le.refl g) (R.tk _) (.bool _) h
theorem d_notin (hi : st i = .dict d) (h : P (.bool !(d k).isSome) st) : AW2 X A env lo (compareOp .NotIn) (.str k) (.ref i) st P := by
  intro f m Xc s g R v w hv hw Q E hQ
  obtain ⟨a, ob, h1, h2, h3, _⟩ := R.chg (i := i) (by rw [hi]; rfl)
  rw [hi] at h3
  obtain ⟨vs, hd, hr, _, hm⟩ := h3
  rw [R.refAt hw h1]
  replace hv := RV.inv hv; obtain ⟨_, rfl⟩ := hv
  have hD : s.heap.DictOf (PySem.strKind X.prog X.w) a vs := Heap.dictOf_iff.mpr ⟨ob, h2, hd⟩
  refine wpAny_notIn_of (str_is _) hm hD.mapOf ?_
  rw [(hr k).none_iff]
  exact hQ _ _ g _ _ (Gh.le.refl g) (R.tk _) (.bool _) h
theorem d_get {value slice : Expr} {z : AV} (hi : st i = .dict d) (hz : d k = some z) (h : P z st)
    (hs : ∀ l u, subscripted slice false (.ref l) (.str k u) = operate [.ref l, .str k u] (getItem (.ref l) (.str k u)) := by intro _ _; with_unfolding_all rfl) : AW2 X A env lo (subscriptTail value slice) (.ref i) (.str k) st P := by
  intro f m Xc s g R v w hv hw Q E hQ
  obtain ⟨a, ob, h1, h2, h3, _⟩ := R.chg (i := i) (by rw [hi]; rfl)
  rw [hi] at h3
  obtain ⟨vs, hd, hr, _, hm⟩ := h3
  rw [R.refAt hv h1]
  replace hw := RV.inv hw; obtain ⟨_, rfl⟩ := hw
  have hD : s.heap.DictOf (PySem.strKind X.prog X.w) a vs := Heap.dictOf_iff.mpr ⟨ob, h2, hd⟩
  have hk := hr k
  rw [hz] at hk
  obtain ⟨u, hu, hru⟩ := hk.get
  exact tail_any hD.typeIs slot_dict_getitem.lookup (wpAny_getItem_of (str_is _) hD.mapOf hu (hQ _ _ g _ _ (Gh.le.refl g) (R.tk _) hru h)) (hs _ _)

theorem valueAt_stored (kvs : List (Str × Value)) (k x : Str) (v : Value) : valueAt (stored kvs k v) x = if x = k then some v else valueAt kvs x := by
  unfold stored
  split
  · rename_i hany
    unfold valueAt
    induction kvs with
    | nil => simp at hany
    | cons p r ih =>
      rw [List.map_cons, List.find?_cons, List.find?_cons]
      by_cases hp : p.1 = k
      · rw [if_pos hp]
        dsimp only
        by_cases hx : x = k
        · subst hx; simp [hp]
        · have e1 : ¬ p.1 = x := fun e => hx (e.symm.trans hp)
          rw [if_neg hx]
          simp only [e1, decide_false]
          by_cases hr : (r.any fun kv => decide (kv.1 = k)) = true
          · have := ih hr; rw [if_neg hx] at this; exact this
          · have : (r.map fun kv => if kv.1 = k then (kv.1, v) else kv) = r := by
              refine map_store_of_not_mem r k v fun hm => hr ?_
              obtain ⟨q, hq, e⟩ := List.mem_map.mp hm
              exact List.any_eq_true.mpr ⟨q, hq, by simpa using e⟩
            rw [this]
      · rw [if_neg hp]
        have hr : (r.any fun kv => decide (kv.1 = k)) = true := by simpa [hp] using hany
        have := ih hr
        by_cases hx : x = k
        · subst hx
          rw [if_pos rfl] at this ⊢
          simp only [hp, decide_false]
          exact this
        · rw [if_neg hx] at this ⊢
          by_cases e : p.1 = x
          · simp [e]
          · simp only [e, decide_false]; exact this
  · rename_i hany
    unfold valueAt
    rw [List.find?_append]
    by_cases hx : x = k
    · subst hx
      rw [if_pos rfl]
      have : (kvs.find? fun kv => decide (kv.1 = x)) = none := by
        rw [List.find?_eq_none]; intro p hp e
        exact hany (List.any_eq_true.mpr ⟨p, hp, e⟩)
      rw [this]; simp
    · rw [if_neg hx]
      have : ¬ k = x := fun e => hx e.symm
      cases h : kvs.find? fun kv => decide (kv.1 = x) with
      | some p => simp
      | none => simp [this]
theorem stored_keys {kvs : List (Str × Value)} {k : Str} {v : Value} {p : Str × Value} (h : p ∈ stored kvs k v) : p.1 = k ∨ ∃ q ∈ kvs, q.1 = p.1 := by
  unfold stored at h
  split at h
  · obtain ⟨q, hq, e⟩ := List.mem_map.mp h
    refine .inr ⟨q, hq, ?_⟩
    split at e <;> rw [← e]
  · rcases List.mem_append.mp h with h | h
    · exact .inr ⟨p, h, rfl⟩
    · rw [List.mem_singleton.mp h]; exact .inl rfl
theorem valueAt_without (kvs : List (Str × Value)) (k x : Str) : valueAt (without kvs k) x = if x = k then none else valueAt kvs x := by
  unfold without valueAt
  rw [List.find?_filter]
  by_cases hx : x = k
  · subst hx
    rw [if_pos rfl]
    have : (kvs.find? fun a => decide (a.1 ≠ x) && decide (a.1 = x)) = none := by
      rw [List.find?_eq_none]; intro p _ e
      simp at e
    rw [show (fun a : Str × Value => decide (decide (a.1 ≠ x) = true ∧ decide (a.1 = x) = true)) = (fun a => decide (a.1 ≠ x) && decide (a.1 = x)) from by funext a; simp]
    rw [this]; rfl
  · rw [if_neg hx]
    congr 2
    funext a
    by_cases e : a.1 = x
    · have : a.1 ≠ k := fun q => hx (e.symm.trans q)
      simp [e, hx]
    · simp [e]

theorem IsDictOf.keys {o : Obj} {vs : List (Str × Value)} (h : o.IsDictOf (PySem.strKind X.prog X.w) vs) : (vs.map (·.1)).Nodup := by
  obtain ⟨es, ep, h1, h2, h3, h4, h5⟩ := h
  exact h5
theorem dict_small {o : Obj} {vs : List (Str × Value)} (h : o.IsDictOf (PySem.strKind X.prog X.w) vs) (hn : ∀ p ∈ vs, p.1 ∈ X.names) (hX : X.names.length ≤ 900) : vs.length ≤ 900 := by
  have := le_of_nodup_sub (vs.map (·.1)) X.names (IsDictOf.keys h) fun x hx => by
    obtain ⟨p, hp, rfl⟩ := List.mem_map.mp hx; exact hn p hp
  rw [List.length_map] at this; omega

theorem d_set {z : AV} {P : Sto → Prop} (hi : st i = .dict d) (hk : k ∈ X.names) (hX : X.names.length ≤ 900) (h : P (st.set i (.dict fun x => if x = k then some z else d x))) : AI3 X A env lo (.ref i) (.str k) z st P := by
  intro f m Xc s g R v w u hv hw hu Q E hQ
  obtain ⟨a, ob, h1, h2, h3, ch⟩ := R.chg (i := i) (by rw [hi]; rfl)
  rw [hi] at h3
  obtain ⟨vs, hd, hr, hn, hm⟩ := h3
  rw [R.refAt hv h1]
  replace hw := RV.inv hw; obtain ⟨_, rfl⟩ := hw
  have hD : s.heap.DictOf (PySem.strKind X.prog X.w) a vs := Heap.dictOf_iff.mpr ⟨ob, h2, hd⟩
  refine wpAny_setItem_pairs (str_is _) hD (fun h' hD' hs => ?_) (by have := dict_small hd hn hX; rw [sizeLine_eq]; omega)
  obtain ⟨o', ho', hd'⟩ := Heap.dictOf_iff.mp hD'
  have hao : OR X g.I g.R a o' (.dict fun x => if x = k then some z else d x) := by
    refine ⟨_, hd', fun x => ?_, fun p hp => ?_, hm⟩
    · rw [valueAt_stored]
      show ORV X g.I g.R (if x = k then some u else valueAt vs x) (if x = k then some z else d x)
      split
      · exact .some hu
      · exact hr x
    · rcases stored_keys hp with e | ⟨q, hq, e⟩
      · rw [e]; exact hk
      · rw [← e]; exact hn q hq
  exact hQ _ _ _ (Gh.le.set g a o') (ch h' _ o' _ hs ho' hao) h

/-- pop with a default -/
theorem meets_dict_pop_gone {prog : Program} {w : World} {knd : KeyKind prog w Str} {key dflt : Value} {d : Addr} (hkey : knd.is k key = true) (hpart : (keyPart key).isSome = true) :
    MeetsIn prog w (Builtin.«dict.pop» ⟨.ref d :: key :: [dflt], []⟩) (fun _ R s => ∃ kvs, s.heap.DictOf knd d kvs ∧ valueAt kvs k = none ∧ (d == sysModules) = false ∧
      R (.ok (.ret dflt)) { s with toks := s.toks + 1 }) :=
  .of_wp fun A R s ⟨kvs, hm, hv, hnm, h⟩ => by
    unfold Builtin.«dict.pop»
    refine wpAny_bind ?_
    unfold Builtin.Dict.keyAndDefault
    refine wpAny_bind (wpAny_notOrdered_dict hm.typeIs ?_)
    show wpAny _ _ (pure (d, key, some dflt)) _ _ s
    refine wpAny_pure ?_
    simp only [hpart, if_true]
    refine wpAny_bind (wpAny_pure ?_)
    simp only [Bool.false_eq_true, if_false]
    refine wpAny_bind (wpAny_takeOut_pairs_none hkey hm hv ?_)
    simp only [Option.isNone_none, if_true]
    unfold Builtin.Dict.missedRemoval
    simp only [hnm, Bool.false_eq_true, if_false]
    exact wpAny_bind (wpAny_pure (wpAny_bind (wpAny_rule (wpAny_pure ⟨dflt, rfl, h⟩))))

theorem d_pop {n : Nat} (hi : st i = .dict d) (hX : X.names.length ≤ 900) (h1 : d k = none → P .none st) (h2 : ∀ z, d k = some z → P z (st.set i (.dict fun x => if x = k then none else d x))) :
    ACallV X n (.builtin "dict.pop") [.ref i, .str k, .none] [] st P := by
  intro A env lo f m Xc s g hr R vs ks hv hk Q E hQ
  obtain ⟨a, ob, h3, h4, h5, ch⟩ := R.chg (i := i) (by rw [hi]; rfl)
  rw [hi] at h5
  obtain ⟨ps, hd, hrel, hn, hm⟩ := h5
  obtain rfl := RKs.inv hk
  replace hv := RVs.inv hv; obtain ⟨_, _, rfl, hv, hv'⟩ := hv; replace hv' := RVs.inv hv'; obtain ⟨_, _, rfl, hw, hv'⟩ := hv'; replace hv' := RVs.inv hv'; obtain ⟨_, _, rfl, hx, hv'⟩ := hv'
  replace hv' := RVs.inv hv'; obtain rfl := hv'
  rw [R.refAt hv h3]
  replace hw := RV.inv hw; obtain ⟨_, rfl⟩ := hw
  replace hx := RV.inv hx; obtain rfl := hx
  have hD : s.heap.DictOf (PySem.strKind X.prog X.w) a ps := Heap.dictOf_iff.mpr ⟨ob, h4, hd⟩
  have hrk := hrel k
  cases hz : d k with
  | none =>
    rw [hz] at hrk
    have hvn : valueAt ps k = none := by cases hq : valueAt ps k with
      | none => rfl
      | some q => rw [hq] at hrk; cases hrk
    exact call_meetsIn F.slot_dict_pop hD.typeIs F.entry_dict_pop (F.args_dict_pop_3 _ _ _) (meets_dict_pop_gone (str_is _) rfl) ⟨ps, hD, hvn, hm, hQ _ _ g _ _ (Gh.le.refl g) (R.tk _) .none (h1 hz)⟩
  | some z =>
    rw [hz] at hrk
    obtain ⟨u, hu, hru⟩ := hrk.get
    refine call_meetsIn F.slot_dict_pop hD.typeIs F.entry_dict_pop (F.args_dict_pop_3 _ _ _) (meets_dict_pop_there _ a (str_is _) [Value.none] (.inr ⟨_, rfl⟩) rfl) ⟨ps, u, hD, by have := dict_small hd hn hX; rw [sizeLine_eq]; omega, hu, fun h' hD' hs => ?_⟩
    obtain ⟨o', ho', hd'⟩ := Heap.dictOf_iff.mp hD'
    have hao : OR X g.I g.R a o' (.dict fun x => if x = k then none else d x) := by
      refine ⟨_, hd', fun x => ?_, fun p hp => hn p (List.mem_filter.mp hp).1, hm⟩
      rw [valueAt_without]
      show ORV X g.I g.R (if x = k then none else valueAt ps x) (if x = k then none else d x)
      split
      · exact .none
      · exact hrel x
    exact hQ _ _ _ _ _ (Gh.le.set g a o') (ch h' _ o' _ hs ho' hao) hru (h2 z hz)

/-- methods of built-in objects that may change -/
theorem am_dict {name : Str} {id : String} (hi : st i = .dict d) (slot : Slot "dict" name id) (hty : typeOf (.builtin id) = pure (.type "method_descriptor")) : AMeth X A env lo (.ref i) name (.builtin id) st := by
  intro f m Xc s g R v hv pl Q E hQ
  obtain ⟨a, ob, h3, h4, h5, ch⟩ := R.chg (i := i) (by rw [hi]; rfl)
  rw [hi] at h5
  obtain ⟨ps, hd, hrel, hn, hm⟩ := h5
  have e := R.refAt hv h3
  subst e
  have hD : s.heap.DictOf (PySem.strKind X.prog X.w) a ps := Heap.dictOf_iff.mpr ⟨ob, h4, hd⟩
  refine getMethod_builtin hD.typeIs F.plainAttrs_dict slot hty (fun b e => ?_) hQ
  cases e
  obtain ⟨o, es, ep, ho, hx, _⟩ := hD
  exact ⟨o, ho, hx.2.1⟩
end
end Mine

namespace Mine

section
variable {X : Fix} {A : Around} {env : Env} {f : Fm} {m : Str → Option Value} {Xc : Led} {s : Shared} {g : Gh} {lo : Lo} {st : Sto} {P : AV → Sto → Prop}

theorem Rep.big (R : Rep X A env f m Xc s g lo st) : (s.heap.objs.size == sysModules) = false := R.F.notModules (modules_low R.ok.top.nolimit)
theorem lastR (l : List Addr) (a : Addr) : (l ++ [a])[l.length]? = some a := by
  rw [List.getElem?_append_right (Nat.le_refl _), Nat.sub_self]; rfl

/-- an empty dict -/
theorem e_dict0 {pos : Pos} (h : ∀ i, st i = .dead → P (.ref i) (st.set i (.dict fun _ => none))) : AE X A env lo (.Dict [] [] pos) st P := by
  intro f m Xc s g R Q E hQ
  refine Dict_empty_made2 R.F R.N (modules_low R.ok.top.nolimit) fun h' o F' N' hm hd _ _ _ _ => ?_
  refine hQ _ _ _ _ _ (Gh.le.new g _) (R.new (s' := { s with heap := h' }) (ao := .dict fun _ => none) (Nat.le_refl _) F' N' rfl rfl rfl ⟨[], hd, fun k => .none, (fun p hp => nomatch hp), hm⟩) ?_ (h _ (R.dead (Nat.le_refl _)))
  exact .ref (lastR _ _)

/-- an empty set of small numbers, or of pairs -/
theorem c_set0 {n : Nat} (h : ∀ i, st i = .dead → P (.ref i) (st.set i (.iset fun _ => false))) : ACallV X n (.type "set") [] [] st P := by
  intro A env lo f m Xc s g hr R vs ks hv hk Q E hQ
  replace hv := RVs.inv hv; obtain rfl := hv; obtain rfl := RKs.inv hk
  refine newSet_N R.F R.N fun h' led F' N' => ?_
  refine hQ _ _ _ _ _ (Gh.le.new g _) (R.new (s' := { s with heap := h' }) (ao := .iset fun _ => false) (Nat.le_refl _) F' N' rfl rfl rfl ⟨setObjOf_fresh led, fun k hk => by cases hk⟩) (.ref (lastR _ _)) (h _ (R.dead (Nat.le_refl _)))

theorem card_le (S : Int → Bool) : card S ≤ 64 := by
  unfold card
  have := List.length_filter_le (fun (i : Nat) => S (i : Int)) (List.range 64)
  rwa [List.length_range] at this
theorem filter_insert (S : Int → Bool) (k : Nat) : ∀ l : List Nat, l.Nodup → (l.filter fun (i : Nat) => S (i : Int) || decide ((i : Int) = (k : Int))).length = (l.filter fun (i : Nat) => S (i : Int)).length + (if k ∈ l ∧ S k = false then 1 else 0)
 := by
  intro l
  induction l with
  | nil => intro _; simp
  | cons x l ih0 =>
    intro hn
    rw [List.nodup_cons] at hn
    have ih := ih0 hn.2
    rw [List.filter_cons, List.filter_cons]
    by_cases hx : x = k
    · subst hx
      have hl : ¬ (x ∈ l ∧ S x = false) := fun q => hn.1 q.1
      rw [if_neg hl] at ih
      cases hS : S x with
      | true => simp [hS, ih]
      | false => simp [hS, ih]
    · have hxk : ¬ ((x : Int) = (k : Int)) := fun e => hx (by omega)
      have hm : (k ∈ x :: l ∧ S k = false) = (k ∈ l ∧ S k = false) := by
        rw [List.mem_cons]; simp [Ne.symm hx]
      simp only [hm]
      cases hS : S x with
      | true => simp only [Bool.true_or, if_true, List.length_cons, ih]; omega
      | false => simp only [hxk, decide_false, Bool.or_false, Bool.false_eq_true, if_false]; exact ih
theorem card_insert (S : Int → Bool) (k : Int) (h0 : 0 ≤ k) (h1 : k < 64) : card (fun k' => S k' || decide (k' = k)) = if S k = true then card S else card S + 1 := by
  unfold card
  obtain ⟨j, rfl⟩ := Int.eq_ofNat_of_zero_le h0
  have := filter_insert S j (List.range 64) List.nodup_range
  rw [this]
  have hj : j ∈ List.range 64 := List.mem_range.mpr (by omega)
  cases hS : S (j : Int) <;> simp [hS, hj] <;> omega

variable {i : Nat} {S : Int → Bool} {k : Int}
theorem i_in (hi : st i = .iset S) (h : P (.bool (S k)) st) : AW2 X A env lo (compareOp .In) (.int k) (.ref i) st P := by
  intro f m Xc s g R v w hv hw Q E hQ
  obtain ⟨a, ob, gU, h1, h2, U, hm, _⟩ := R.at (i := i) (by rw [hi]; rfl)
  rw [hi] at h2
  rw [R.refAt hw h1]
  replace hv := RV.inv hv; obtain ⟨_, rfl⟩ := hv
  exact kse_in (knd := PySem.intKind X.prog X.w) R.N U h2.1 (by have := card_le S; unfold scanBound; omega) (intKind_is _ _ _ _) rfl (hQ _ _ g _ _ (Gh.le.refl g) (R.tk _) (.bool _) h)
theorem i_add {n : Nat} (hi : st i = .iset S) (h0 : 0 ≤ k) (h1 : k < 64) (h : P .none (st.set i (.iset fun k' => S k' || decide (k' = k)))) : ACallV X n (.builtin "set.add") [.ref i, .int k] [] st P := by
  intro A env lo f m Xc s g hr R vs ks hv hk Q E hQ
  obtain ⟨a, ob, gU, h3, h4, U, hm, ch⟩ := R.at (i := i) (by rw [hi]; rfl)
  rw [hi] at h4
  obtain rfl := RKs.inv hk
  replace hv := RVs.inv hv; obtain ⟨_, _, rfl, hv, hv'⟩ := hv; replace hv' := RVs.inv hv'; obtain ⟨_, _, rfl, hw, hv'⟩ := hv'
  replace hv' := RVs.inv hv'; obtain rfl := hv'
  rw [R.refAt hv h3]
  replace hw := RV.inv hw; obtain ⟨_, rfl⟩ := hw
  refine kse_add (knd := PySem.intKind X.prog X.w) R.F R.N U h4.1 (by have := card_le S; unfold scanBound; omega) (intKind_is _ _ _ _) rfl fun h' so' F' N' hs => ?_
  refine hQ _ _ _ _ _ (Gh.le.set g a so') (ch { s with heap := h', toks := s.toks + 1 } so' (.iset fun k' => S k' || decide (k' = k)) F' N' rfl rfl ⟨?_, fun x hx => ?_⟩) .none h
  · rw [card_insert S k h0 h1]; exact hs
  · rw [Bool.or_eq_true] at hx
    rcases hx with hx | hx
    · exact h4.2 x hx
    · have := of_decide_eq_true hx; subst this; exact ⟨h0, h1⟩
theorem am_set {name : Str} {id : String} (hi : st i = .iset S) (slot : Slot "set" name id) (hty : typeOf (.builtin id) = pure (.type "method_descriptor")) : AMeth X A env lo (.ref i) name (.builtin id) st := by
  intro f m Xc s g R v hv pl Q E hQ
  obtain ⟨a, ob, h3, h4, h5, ch⟩ := R.chg (i := i) (by rw [hi]; rfl)
  rw [hi] at h5
  have e := R.refAt hv h3
  subst e
  obtain ⟨⟨⟨hc, hd, hs⟩, _⟩, _⟩ := h5
  refine getMethod_builtin (T := "set") ⟨ob, h4, hc⟩ F.plainAttrs_set slot hty (fun b e => ?_) hQ
  cases e
  exact ⟨ob, h4, hd⟩

/-- a list that grows -/
theorem l_append {n : Nat} {xs : List AV} {x : AV} (hi : st i = .list xs) (hlen : xs.length ≤ 1000) (h : P .none (st.set i (.list (xs ++ [x])))) : ACallV X n (.builtin "list.append") [.ref i, x] [] st P := by
  intro A env lo f m Xc s g hr R vs ks hv hk Q E hQ
  obtain ⟨a, ob, h3, h4, h5, ch⟩ := R.chg (i := i) (by rw [hi]; rfl)
  rw [hi] at h5
  obtain rfl := RKs.inv hk
  replace hv := RVs.inv hv; obtain ⟨_, _, rfl, hv, hv'⟩ := hv; replace hv' := RVs.inv hv'; obtain ⟨_, _, rfl, hw, hv'⟩ := hv'
  replace hv' := RVs.inv hv'; obtain rfl := hv'
  rw [R.refAt hv h3]
  obtain ⟨us, k, e, hr⟩ := h5
  subst e
  refine append_at h4 (fun h' hs ho' => ?_) (by rw [List.size_toArray, hr.length, sizeLine_eq]; omega)
  have hao : OR X g.I g.R a { cls := .type "list", data := .seq (us.toArray.push _) (k + 1) } (.list (xs ++ [x])) := ⟨_, k + 1, congrArg (fun z => ({ cls := .type "list", data := .seq z (k + 1) } : Obj)) (List.push_toArray us _), hr.snoc hw⟩
  exact hQ _ _ _ _ _ (Gh.le.set g a _) (ch h' s.toks _ _ hs ho' hao) .none h
theorem am_list {name : Str} {id : String} {xs : List AV} (hi : st i = .list xs) (slot : Slot "list" name id) (hty : typeOf (.builtin id) = pure (.type "method_descriptor")) : AMeth X A env lo (.ref i) name (.builtin id) st := by
  intro f m Xc s g R v hv pl Q E hQ
  obtain ⟨a, ob, h3, h4, h5, ch⟩ := R.chg (i := i) (by rw [hi]; rfl)
  rw [hi] at h5
  have e := R.refAt hv h3
  subst e
  obtain ⟨us, k, e, hr⟩ := h5
  subst e
  refine getMethod_builtin (T := "list") ⟨_, h4, rfl⟩ F.plainAttrs_list slot hty (fun b e => ?_) hQ
  cases e
  exact ⟨_, h4, rfl⟩

/-- a node -/
theorem n_get {value slice : Expr} {fl rc ne : Nat} {key : Str} {z : Nat} (hz : (key = Str.ofString "flags" ∧ z = fl) ∨ (key = Str.ofString "recursive_flags" ∧ z = rc) ∨ (key = Str.ofString "nested" ∧ z = ne)) (h : P (.ref z) st)
    (hs : ∀ l u, subscripted slice false (.ref l) (.str key u) = operate [.ref l, .str key u] (getItem (.ref l) (.str key u)) := by intro _ _; with_unfolding_all rfl) : AW2 X A env lo (subscriptTail value slice) (.node fl rc ne) (.str key) st P := by
  intro f m Xc s g R v w hv hw Q E hQ
  replace hw := RV.inv hw; obtain ⟨_, rfl⟩ := hw
  replace hv := RV.inv hv; obtain ⟨a, o, af, ar, ad, rfl, hI, hm, hd, h1, h2, h3⟩ := hv
  have hD : s.heap.DictOf (PySem.strKind X.prog X.w) a _ := Heap.dictOf_iff.mpr ⟨o, R.getI hI, hd⟩
  rcases hz with ⟨rfl, rfl⟩ | ⟨rfl, rfl⟩ | ⟨rfl, rfl⟩
  · exact tail_any hD.typeIs slot_dict_getitem.lookup (wpAny_getItem_of (str_is _) hD.mapOf (by with_unfolding_all rfl) (hQ _ _ g _ _ (Gh.le.refl g) (R.tk _) (.ref h1) h)) (hs _ _)
  · exact tail_any hD.typeIs slot_dict_getitem.lookup (wpAny_getItem_of (str_is _) hD.mapOf (by with_unfolding_all rfl) (hQ _ _ g _ _ (Gh.le.refl g) (R.tk _) (.ref h2) h)) (hs _ _)
  · exact tail_any hD.typeIs slot_dict_getitem.lookup (wpAny_getItem_of (str_is _) hD.mapOf (by with_unfolding_all rfl) (hQ _ _ g _ _ (Gh.le.refl g) (R.tk _) (.ref h3) h)) (hs _ _)

theorem e_node {k1 k2 k3 : Nat} {p1 p2 p3 pos : Pos} {e1 e2 e3 : Expr}
    (h : AE X A env lo e1 st fun x st₁ => ∃ fl, x = .ref fl ∧ AE X A env lo e2 st₁ fun y st₂ => ∃ rc, y = .ref rc ∧ AE X A env lo e3 st₂ fun z st₃ => ∃ ne, z = .ref ne ∧ P (.node fl rc ne) st₃)
    (hshape : (evalEachOpt [some (.Constant (.str (Str.ofString "flags")) k1 p1), some (.Constant (.str (Str.ofString "recursive_flags")) k2 p2), some (.Constant (.str (Str.ofString "nested")) k3 p3)] env).zip ((evalEach [e1, e2, e3] env).map fun v => do let x ← v; standAt pos; pure x) =
      [(some (eval (.Constant (.str (Str.ofString "flags")) k1 p1) env), (do let x ← eval e1 env; standAt pos; pure x)), (some (eval (.Constant (.str (Str.ofString "recursive_flags")) k2 p2) env), (do let x ← eval e2 env; standAt pos; pure x)), (some (eval (.Constant (.str (Str.ofString "nested")) k3 p3) env), (do let x ← eval e3 env; standAt pos; pure x))] := by rfl) :
    AE X A env lo (.Dict [some (.Constant (.str (Str.ofString "flags")) k1 p1), some (.Constant (.str (Str.ofString "recursive_flags")) k2 p2), some (.Constant (.str (Str.ofString "nested")) k3 p3)] [e1, e2, e3] pos) st P := by
  intro f m Xc s g R Q E hQ
  have hbig := R.big
  refine wpAny_Dict_pairs (knd := PySem.strKind X.prog X.w) (pairs := [(eval (.Constant (.str (Str.ofString "flags")) k1 p1) env, (do let x ← eval e1 env; standAt pos; pure x)), (eval (.Constant (.str (Str.ofString "recursive_flags")) k2 p2) env, (do let x ← eval e2 env; standAt pos; pure x)), (eval (.Constant (.str (Str.ofString "nested")) k3 p3) env, (do let x ← eval e3 env; standAt pos; pure x))]) hshape (by simp) (by simp) ?_
  have R₀ : Rep X A env (f.with (s.heap.objs.size, { cls := .type "dict", data := .dict #[] })) m Xc { s with heap := s.heap.push { cls := .type "dict", data := .dict #[] } } g lo st := R.lay (Nat.le_refl _) (R.F.push _) (R.N.push R.F _)
  have hnb : ¬ f.ban s.heap.objs.size := R.noban (Nat.le_refl _)
  generalize s.heap.objs.size = I at *
  refine evalPairs_cons (wpAny_Constant_str (wpAny_bind (h _ _ _ _ _ (R₀.tk _) _ _ fun v₁ s₁ g₁ x₁ st₁ l₁ R₁ r₁ ⟨fl, e, h⟩ => wpAny_bind (wpAny_standAt (wpAny_pure ?_)))))
  subst e
  refine evalPairs_cons (wpAny_Constant_str (wpAny_bind (h _ _ _ _ _ (R₁.tk _) _ _ fun v₂ s₂ g₂ x₂ st₂ l₂ R₂ r₂ ⟨rc, e, h⟩ => wpAny_bind (wpAny_standAt (wpAny_pure ?_)))))
  subst e
  refine evalPairs_cons (wpAny_Constant_str (wpAny_bind (h _ _ _ _ _ (R₂.tk _) _ _ fun v₃ s₃ g₃ x₃ st₃ l₃ R₃ r₃ ⟨ne, e, h⟩ => wpAny_bind (wpAny_standAt (wpAny_pure (evalPairs_nil ?_))))))
  subst e
  have D : Ld X f.h₀ f.L m ((I, { cls := .type "dict", data := .dict #[] }) :: (Xc ++ f.Xo)) (fun a => a = I ∨ f.ban a) s₃ g₃ st₃ := R₃.ld.perm List.perm_middle
  refine ⟨[(_, v₁), (_, v₂), (_, v₃)], ⟨str_is _, rfl, str_is _, rfl, str_is _, rfl, trivial⟩, Heap.dictOf_iff.mpr ⟨_, D.head.1, ?_⟩, fun h' hD hs => ?_⟩
  · obtain ⟨o, ho, hd⟩ := Heap.dictOf_iff.mp (Heap.DictOf.new (knd := PySem.strKind X.prog X.w) s.heap)
    rw [Heap.get?_push_size _ rfl] at ho
    exact (Option.some.inj ho) ▸ hd
  · obtain ⟨o', ho', hd'⟩ := Heap.dictOf_iff.mp hD
    have D' := (D.step (o' := o') (h' := h') (tk := s₃.toks + 3) (fun b q hb e => hs.extBut b q hb e) ho').toI.reban (ban' := f.ban) fun a ha => .inr ha
    have le : g.le { g₃ with I := (I, o') :: g₃.I } := ((l₁.trans l₂).trans l₃).trans (Gh.le.imm g₃ _)
    refine hQ _ _ _ _ _ le (R.of D' le) ?_ h
    replace r₁ := RV.inv r₁; obtain ⟨_, rfl, q₁⟩ := r₁
    replace r₂ := RV.inv r₂; obtain ⟨_, rfl, q₂⟩ := r₂
    replace r₃ := RV.inv r₃; obtain ⟨_, rfl, q₃⟩ := r₃
    exact .node (.head _) hbig hd' (get_pre (l₂.trans l₃).R q₁) (get_pre l₃.R q₂) q₃
end
end Mine

namespace Mine

/-- what is fixed of the class -/
structure ClsOk (X : Fix) (fI : Addr) : Prop where
  plain : plainGet X.K X.C (Str.ofString "") = true
  has : hasDictIn X.K X.C = true
  set : findIn X.K (.ref X.C) "__setattr__" = some (some (.builtin "object.__setattr__"))
  over : plainOver X.K X.C = true
  makes : makesIn X.K X.C = true
  init : findIn X.K (.ref X.C) "__init__" = some (some (.ref fI))
  fn : typeIn X.K (.ref fI) = some (.type "function")

theorem handed_RV {X : Fix} {I : Led} {R : List Addr} {v : Value} {x : AV} (h : RV X I R v x) : handedIn v = true := by cases h <;> rfl

theorem getL_put (name : Str) (hsh : Int) (t : Tok) (v : Value) (k : Str) : ∀ es : List DictEntry, (getL name es).isSome = true → (getL k es).isSome = true →
    getL k (putL name hsh (.str name t) v es) = if k = name then some (some v) else getL k es := by
  have key : ∀ es : List DictEntry, ((putL name hsh (.str name t) v es).find? (·.key.isStr k)).map (·.val) = if k = name then some v else (es.find? (·.key.isStr k)).map (·.val) := by
    intro es
    induction es with
    | nil =>
      unfold putL
      rw [List.find?_cons]
      have : (Value.str name t).isStr k = decide (name = k) := rfl
      by_cases h : k = name
      · subst h; simp [Value.isStr]
      · rw [this, if_neg h, decide_eq_false (fun e => h e.symm)]
    | cons e r ih =>
      unfold putL
      split
      · rename_i he
        rw [List.find?_cons, List.find?_cons]
        dsimp only
        have hk : e.key.isStr k = decide (k = name) := by
          cases hq : e.key <;> rw [hq] at he <;> simp only [Value.isStr] at he ⊢ <;> first | cases he | skip
          rename_i u _
          have hu : u = name := by simpa using he
          subst hu
          by_cases h : k = u
          · subst h; simp
          · simp [h, Ne.symm h]
        rw [hk]
        by_cases h : k = name
        · simp [h]
        · simp [h]
      · rename_i he
        rw [List.find?_cons, List.find?_cons]
        cases hq : e.key.isStr k with
        | false => exact ih
        | true =>
          have hkn : k ≠ name := fun h => by subst h; exact he hq
          simp [hkn]
  have kref : ∀ es : List DictEntry, (putL name hsh (.str name t) v es).any (·.refKey) = es.any (·.refKey) := by
    intro es
    induction es with
    | nil => rfl
    | cons e r ih =>
      unfold putL
      split
      · rfl
      · rw [List.any_cons, List.any_cons, ih]
  intro es h1 h2
  have hk := key es
  unfold getL at h1 h2 ⊢
  rw [kref]
  cases hf : (putL name hsh (.str name t) v es).find? (·.key.isStr k) with
  | some e =>
    rw [hf] at hk
    by_cases h : k = name
    · rw [if_pos h] at hk ⊢
      simpa using hk
    · rw [if_neg h] at hk ⊢
      cases hg : es.find? (·.key.isStr k) with
      | some e' => rw [hg] at hk; simpa using hk
      | none => rw [hg] at hk; cases hk
  | none =>
    rw [hf] at hk
    by_cases h : k = name
    · rw [if_pos h] at hk; cases hk
    · rw [if_neg h] at hk ⊢
      cases hg : es.find? (·.key.isStr k) with
      | some e' => rw [hg] at hk; cases hk
      | none => rfl
theorem upd_mid {d : Addr} {o o' : Obj} : ∀ {pre post : Led}, (∀ p ∈ pre, p.1 ≠ d) → (∀ p ∈ post, p.1 ≠ d) → Upd d o o' (pre ++ (d, o) :: post) (pre ++ (d, o') :: post)
  | [], post, _, h => .head h
  | p :: pre, post, h1, h2 => .tail (h1 p (.head _)) (upd_mid (fun q hq => h1 q (.tail _ hq)) h2)
theorem putL_len_in (name : Str) (hsh : Int) (key v : Value) : ∀ es : List DictEntry, (∃ u, getL name es = some (some u)) → (putL name hsh key v es).length = es.length
 := by
  intro es
  induction es with
  | nil => rintro ⟨u, h⟩; cases h
  | cons e r ih =>
    rintro ⟨u, h⟩
    unfold putL
    split
    · rfl
    · rename_i he
      rw [List.length_cons, List.length_cons, ih]
      refine ⟨u, ?_⟩
      unfold getL at h ⊢
      simp only [Bool.not_eq_true] at he
      rw [List.find?_cons, he] at h
      dsimp only at h
      split at h
      · rename_i e' he'; rw [he']; exact h
      · split at h <;> cases h
theorem put_len (k : Str) (v : AV) : ∀ l : List (Str × AV), (put l k v).length = if (l.lookup k).isSome = true then l.length else l.length + 1
  | [] => rfl
  | (y, w) :: r => by
    unfold put
    rw [List.lookup_cons]
    cases hq : k == y with
    | true => simp
    | false =>
      simp only [Bool.false_eq_true, if_false]
      rw [List.length_cons, put_len k v r, List.length_cons]
      split <;> rfl
theorem putL_len (name : Str) (hsh : Int) (key v : Value) : ∀ es : List DictEntry, (putL name hsh key v es).length ≤ es.length + 1
  | [] => by simp [putL]
  | e :: r => by
    unfold putL
    split
    · simp
    · have := putL_len name hsh key v r; simp; omega

section
variable {X : Fix} {A : Around} {env : Env} {f : Fm} {m : Str → Option Value} {Xc : Led} {s : Shared} {g : Gh} {lo : Lo} {st : Sto} {P : AV → Sto → Prop} {fI : Addr} {j : Nat} {kvs : List (Str × AV)} {name : Str}

theorem Rep.inst (R : Rep X A env f m Xc s g lo st) (hj : st j = .fields kvs) {v : Value} (hv : RV X g.I g.R v (.inst j)) :
    ∃ x dx es n, v = .ref x ∧ g.R[j]? = some dx ∧ InstAt s.heap x (instObj X.C dx) X.C (some (dictOf es n)) ∧
      (∀ k : Str, (kvs.lookup k = none ∧ getL k es = some none) ∨ ∃ v av, kvs.lookup k = some av ∧ getL k es = some (some v) ∧ RV X g.I g.R v av) ∧ (x, instObj X.C dx) ∈ g.I := by
  replace hv := RV.inv hv; obtain ⟨x, dx, rfl, hI, hR⟩ := hv
  obtain ⟨a, ob, h3, h4, h5, ch⟩ := R.chg (i := j) (by rw [hj]; rfl)
  rw [hj] at h5
  obtain ⟨es, n, e, hz, hr⟩ := h5
  rw [hR] at h3; cases h3
  subst e
  exact ⟨x, dx, es, n, rfl, hR, ⟨R.getI hI, rfl, rfl, h4⟩, hr, hI⟩

/-- an attribute of an object of the class -/
theorem at_get {av : AV} {expr : Bool} (hc : ClsOk X fI) (hj : st j = .fields kvs) (hk : kvs.lookup name = some av) (hn : findIn X.K (.ref X.C) name = some none) (h : P av st) :
    AW1 X A env lo (fun v => getAttr v name expr) (.inst j) st P := by
  intro f m Xc s g R v hv Q E hQ
  obtain ⟨x, dx, es, n, rfl, hR, I, hr, hI⟩ := R.inst hj hv
  rcases hr name with ⟨e, _⟩ | ⟨u, av', e1, e2, e3⟩
  · rw [hk] at e; cases e
  · rw [hk] at e1; cases e1
    exact get_own R.F R.ok.K I hc.plain hc.has hn rfl e2 (handed_RV e3) (hQ _ _ g _ _ (Gh.le.refl g) (R.tk _) e3 h)

/-- a method of an object of the class -/
theorem am_inst {fa : Addr} (hc : ClsOk X fI) (hj : st j = .fields kvs) (hk : kvs.lookup name = none) (hn : findIn X.K (.ref X.C) name = some (some (.ref fa))) (hf : isFn X.K (.ref fa) = true) :
    AMeth X A env lo (.inst j) name (.ref fa) st := by
  intro f m Xc s g R v hv pl Q E hQ
  obtain ⟨x, dx, es, n, rfl, hR, I, hr, hI⟩ := R.inst hj hv
  rcases hr name with ⟨_, e⟩ | ⟨u, av', e1, e2, e3⟩
  · exact method_inst R.F R.ok.K I hc.plain hn hf e hQ
  · rw [hk] at e1; cases e1

theorem lookup_put (k : Str) (v : AV) (x : Str) (l : List (Str × AV)) : (put l k v).lookup x = if x = k then some v else l.lookup x := by
  by_cases h : x = k
  · subst h; rw [if_pos rfl, put_self]
  · rw [if_neg h, put_ne h]

/-- an attribute of an object of the class is set -/
theorem at_set {av : AV} {P : Sto → Prop} (hc : ClsOk X fI) (hj : st j = .fields kvs) (hlen : kvs.length ≤ 100) (ht : takerIn X.K X.C name = some none) (h : P (st.set j (.fields (put kvs name av)))) :
    ∀ f m Xc s g, Rep X A env f m Xc s g lo st → ∀ v w, RV X g.I g.R v (.inst j) → RV X g.I g.R w av → ∀ (Q : Unit → Shared → Prop) (E : Value → Shared → Prop),
      (∀ s' g' st', g.le g' → Rep X A env f m Xc s' g' lo st' → P st' → Q () s') → wpAny (model X.prog X.w) A (setAttr v name w) Q E s := by
  intro f m Xc s g R v w hv hw Q E hQ
  replace hv := RV.inv hv; obtain ⟨x, dx, rfl, hI, hR⟩ := hv
  obtain ⟨a, ob, gU, h3, h4, U, hm, ch⟩ := R.at (i := j) (by rw [hj]; rfl)
  rw [hj] at h4
  obtain ⟨es, n, e, hz, hr⟩ := h4
  rw [hR] at h3; cases h3
  subst e
  obtain ⟨pre, post, e, hg, k1, k2⟩ := U.split
  have N := R.N
  rw [e] at N
  have I : InstAt s.heap x (instObj X.C dx) X.C (some (dictOf es n)) := ⟨R.getI hI, rfl, rfl, (R.N _ hm).1⟩
  have hsome : ∀ k, (getL k es).isSome = true := fun k => by
    rcases hr k with ⟨_, e⟩ | ⟨_, _, _, e, _⟩ <;> rw [e] <;> rfl
  refine set_dict R.F R.ok.K N I rfl hc.set hc.over ht hc.has (hsome name) rfl (upd_mid k1 k2) (by have := putL_len name (PyData.keyHash X.w.params name) (.str name (s.toks + 1)) w es; omega) fun h' F' N' => ?_
  rw [← hg] at N'
  refine hQ _ _ _ (Gh.le.set g dx _) (ch { s with heap := h', toks := s.toks + 2 } _ (.fields (put kvs name av)) F' N' rfl rfl ⟨_, _, rfl, ?_, fun k => ?_⟩) h
  · rw [put_len]
    rcases hr name with ⟨e1, e2⟩ | ⟨u, au, e1, e2, _⟩
    · rw [e1, if_neg (by simp)]
      have := putL_len name (PyData.keyHash X.w.params name) (.str name (s.toks + 1)) w es; omega
    · rw [e1, if_pos (by rfl), putL_len_in _ _ _ _ _ ⟨u, e2⟩]; exact hz
  · rw [lookup_put, getL_put _ _ _ _ _ _ (hsome name) (hsome k)]
    split
    · exact .inr ⟨w, av, rfl, rfl, hw⟩
    · exact hr k

theorem s_assignA {o e : Expr} {attr : Str} {pos' pos : Pos} {P : AF → Lo → Sto → Prop}
    (h : AE X A env lo e st fun z st₁ => AE X A env lo o st₁ fun x st₂ => ∃ j kvs, x = .inst j ∧ st₂ j = .fields kvs ∧ kvs.length ≤ 100 ∧ P .next lo (st₂.set j (.fields (put kvs attr z))))
    (hc : ClsOk X fI) (ht : takerIn X.K X.C attr = some none)
    (hs : swapsWith e (some (.Attribute o attr pos')) pos.line env = pure false := by rfl) : AX X A env (.Assign [.Attribute o attr pos'] e pos) lo st P := by
  intro f m Xc s g R Q E hQ
  refine plainObj_wpAny_Assign_Attribute (h f m Xc s g R _ _ fun u s₁ g₁ z st₁ l₁ R₁ r₁ p₁ => p₁ f m Xc s₁ g₁ R₁ _ _ fun v s₂ g₂ x st₂ l₂ R₂ r₂ ⟨j, kvs, ex, hj, hlen, p⟩ => ?_) hs
  subst ex
  refine at_set (P := fun st' => P .next lo st') hc hj hlen ht p f m Xc s₂ g₂ R₂ v u r₂ (r₁.le l₂) _ _ fun s' g' st' l' R' p' => hQ _ s' g' m Xc _ lo st' ((l₁.trans l₂).trans l') R' .next p'

theorem Rep.around {A' : Around} (R : Rep X A env f m Xc s g lo st) (h1 : A'.frames = A.frames) (h2 : A'.handled = A.handled) : Rep X A' env f m Xc s g lo st :=
  ⟨⟨R.ok.below, R.ok.K, R.ok.top, h1.trans R.ok.frames, R.ok.fr, R.ok.kind, h2.trans R.ok.hand⟩, R.globals, R.builtins, R.kind, R.loc, R.gens, R.os, R.F, R.N, R.nd, R.vars, R.cells, R.ndR, R.old, R.ban, R.obj⟩

/-- a new object of the class -/
theorem c_make {n : Nat} (hc : ClsOk X fI) (h : ∀ j, st j = .dead → ACallC X n fI [.inst j] [] (st.set j (.fields [])) fun v st' => v = .none ∧ P (.inst j) st') : ACallV X (n + 1) (.ref X.C) [] [] st P := by
  intro A env lo f m Xc s g hr R vs ks hv hk Q E hQ
  replace hv := RVs.inv hv; obtain rfl := hv; obtain rfl := RKs.inv hk
  refine call_cls R.F R.ok.K R.N hc.makes hc.init (beq_iff_eq.mpr hc.fn) fun x dx h' F' N' hdx hxx => ?_
  have N₁ : News f.h₀ f.L h' ((dx, dictOf [] 0) :: (Xc ++ (f.Xo ++ (g.M ++ g.I)))) := fun p hp => N' p (.tail _ hp)
  have hne : dx ∉ (Xc ++ (f.Xo ++ (g.M ++ g.I))).map (·.1) := fun q => by
    obtain ⟨p, hp, e⟩ := List.mem_map.mp q
    have := hdx p hp
    rw [e] at this; exact Nat.lt_irrefl _ this
  have hnx : x ∉ ((dx, dictOf [] 0) :: (Xc ++ (f.Xo ++ (g.M ++ g.I)))).map (·.1) := fun q => by
    rcases List.mem_cons.mp q with e | q
    · rw [e] at hxx; exact Nat.lt_irrefl _ hxx
    · obtain ⟨p, hp, e⟩ := List.mem_map.mp q
      have h1 := hdx p hp
      rw [e] at h1; exact Nat.lt_irrefl _ (Nat.lt_trans h1 hxx)
  have R₁ := R.new' (s' := { s with heap := h' }) (ao := .fields []) hne F' N₁ rfl rfl rfl ⟨[], 0, rfl, Nat.le_refl _, fun k => .inl ⟨rfl, rfl⟩⟩
  have R₂ := R₁.imm' (s' := { s with heap := h' }) (a := x) (o := instObj X.C dx) (fun q => hnx (((perm_new Xc f.Xo g.M g.I (dx, dictOf [] 0)).map (·.1)).mem_iff.mpr q)) F' (News.perm N' (List.Perm.cons _ (perm_new Xc f.Xo g.M g.I (dx, dictOf [] 0)))) rfl rfl rfl
  have R₃ := R₂.around (A' := A.under (.builtin "type.__call__" ⟨[.ref X.C], []⟩)) rfl rfl
  have hroom : Room n (A.under (.builtin "type.__call__" ⟨[.ref X.C], []⟩)) := by
    obtain ⟨h1, h2⟩ := hr
    have e1 : (A.under (.builtin "type.__call__" ⟨[.ref X.C], []⟩)).depth = A.depth + 1 := rfl
    have e2 : (A.under (.builtin "type.__call__" ⟨[.ref X.C], []⟩)).units = A.units + 1 := rfl
    exact ⟨by omega, by omega⟩
  have hinst : RV X ((x, instObj X.C dx) :: g.I) (g.R ++ [dx]) (.ref x) (.inst g.R.length) := .inst (.head _) (lastR _ _)
  refine h g.R.length (R.dead (Nat.le_refl _)) _ env lo f m Xc _ _ hroom R₃ _ _ (.cons hinst .nil) .nil _ fun v s' g' av st' l' R' r' ⟨e, p⟩ => ?_
  subst e
  replace r' := RV.inv r'; obtain rfl := r'
  refine ⟨rfl, hQ _ _ _ _ _ ⟨fun p hp => l'.I p (.tail _ hp), (List.prefix_append _ _).trans l'.R⟩ (R'.around rfl rfl) (hinst.mono l'.I l'.R) p⟩
end
end Mine

namespace Mine

mutual
/-- the data that a plain value is -/
inductive Dt : AV → PyData → Prop
  | bool (b : Bool) : Dt (.bool b) (.bool b)
  | int (i : Int) : Dt (.int i) (.int i)
  | list {xs : List AV} {ds : List PyData} : Dts xs ds → Dt (.list xs) (.list ds)
  | tup {xs : List AV} {ds : List PyData} : Dts xs ds → Dt (.tup xs) (.tuple ds)
inductive Dts : List AV → List PyData → Prop
  | nil : Dts [] []
  | cons {x : AV} {d : PyData} {xs : List AV} {ds : List PyData} : Dt x d → Dts xs ds → Dts (x :: xs) (d :: ds)
end
theorem Dts.map {α : Type} {f : α → AV} {g : α → PyData} (h : ∀ a, Dt (f a) (g a)) : ∀ l : List α, Dts (l.map f) (l.map g) := by
  intro l
  induction l with
  | nil => exact .nil
  | cons a r ih => exact .cons (h a) ih
theorem RV.reads {X : Fix} {I : Led} {R : List Addr} {h : Heap} (hg : ∀ p ∈ I, h.get? p.1 = some p.2) {v : Value} {x : AV} (hv : RV X I R v x) {d : PyData} (e : Dt x d) : ∃ as, Reads h v d as :=
  Dt.rec (motive_1 := fun x d _ => ∀ v, RV X I R v x → ∃ as, Reads h v d as) (motive_2 := fun xs ds _ => ∀ vs, RVs X I R vs xs → ∃ as, ReadsAll h vs ds as)
    (fun b v hv => by have hv := RV.inv hv; obtain rfl := hv; exact ⟨_, .bool b⟩)
    (fun i v hv => by have hv := RV.inv hv; obtain ⟨t, rfl⟩ := hv; exact ⟨_, .int i t⟩)
    (fun _ ih v hv => by have hv := RV.inv hv; obtain ⟨a, vs, n, rfl, hI, hr⟩ := hv; obtain ⟨as, ha⟩ := ih _ hr; exact ⟨_, .list (hg _ hI) rfl rfl ha⟩)
    (fun _ ih v hv => by have hv := RV.inv hv; obtain ⟨a, vs, rfl, hI, hr⟩ := hv; obtain ⟨as, ha⟩ := ih _ hr; exact ⟨_, .tuple (hg _ hI) rfl rfl ha⟩)
    (fun vs hv => by have hv := RVs.inv hv; obtain rfl := hv; exact ⟨_, .nil⟩)
    (fun _ _ ih1 ih2 vs hv => by have hv := RVs.inv hv; obtain ⟨v, vs', rfl, h1, h2⟩ := hv; obtain ⟨as, ha⟩ := ih1 _ h1; obtain ⟨bs, hb⟩ := ih2 _ h2; exact ⟨_, .cons ha hb⟩)
    e v hv
theorem Dt.can {x : AV} {d : PyData} (e : Dt x d) : d.canLay0 = true :=
  Dt.rec (motive_1 := fun x d _ => d.canLay0 = true) (motive_2 := fun xs ds _ => PyData.canLayAll0 ds = true)
    (fun _ => rfl) (fun _ => rfl) (fun _ ih => ih) (fun _ ih => ih) rfl (fun _ _ h1 h2 => by unfold PyData.canLayAll0; rw [h1, h2]; rfl) e

section
variable {X : Fix} {A : Around} {env : Env} {lo : Lo} {st : Sto} {P : AV → Sto → Prop}

theorem c_eqD {x y : AV} {d e : PyData} (hu : A.units + 64 < cLine) (hx : Dt x d) (hy : Dt y e) (h1 : d.depth ≤ 64) (h2 : e.depth ≤ 64) (hm : SeqAt.noMix d e = true) (h : P (.bool (Spec.same d e)) st) : AW2 X A env lo (compareOp .Eq) x y st P := by
  intro f m Xc s g R v w hv hw Q E hQ
  obtain ⟨as, ha⟩ := hv.reads (h := s.heap) (fun p hp => R.getI hp) hx
  obtain ⟨bs, hb⟩ := hw.reads (h := s.heap) (fun p hp => R.getI hp) hy
  exact eq_dataH_same ha hb (by show (_ && _) = true; rw [hx.can, decide_eq_true h1]; rfl) (by show (_ && _) = true; rw [hy.can, decide_eq_true h2]; rfl) hu hm (hQ _ _ g _ _ (Gh.le.refl g) R (.bool _) h)
theorem c_neD {x y : AV} {d e : PyData} (hu : A.units + 64 < cLine) (hx : Dt x d) (hy : Dt y e) (h1 : d.depth ≤ 64) (h2 : e.depth ≤ 64) (hm : SeqAt.noMix d e = true) (h : P (.bool (!Spec.same d e)) st) : AW2 X A env lo (compareOp .NotEq) x y st P := by
  intro f m Xc s g R v w hv hw Q E hQ
  obtain ⟨as, ha⟩ := hv.reads (h := s.heap) (fun p hp => R.getI hp) hx
  obtain ⟨bs, hb⟩ := hw.reads (h := s.heap) (fun p hp => R.getI hp) hy
  exact ne_dataH_same ha hb (by show (_ && _) = true; rw [hx.can, decide_eq_true h1]; rfl) (by show (_ && _) = true; rw [hy.can, decide_eq_true h2]; rfl) hu hm (hQ _ _ g _ _ (Gh.le.refl g) R (.bool _) h)

/-- lists of lists of bools, and lists of bools -/
def lb (bs : List Bool) : AV := .list (bs.map .bool)
def llb (bss : List (List Bool)) : AV := .list (bss.map lb)
def dlb (bs : List Bool) : PyData := .list (bs.map .bool)
def dllb (bss : List (List Bool)) : PyData := .list (bss.map dlb)
theorem dat_lb (bs : List Bool) : Dt (lb bs) (dlb bs) := .list (Dts.map .bool bs)
theorem dat_llb (bss : List (List Bool)) : Dt (llb bss) (dllb bss) := .list (Dts.map dat_lb bss)
theorem depthAll_le {n : Nat} : ∀ {ds : List PyData}, (∀ d ∈ ds, d.depth ≤ n) → PyData.depthAll ds ≤ n
  | [], _ => Nat.zero_le _
  | d :: r, h => by
    unfold PyData.depthAll
    exact Nat.max_le.mpr ⟨h d (.head _), depthAll_le fun e he => h e (.tail _ he)⟩
theorem depth_lb (bs : List Bool) : (dlb bs).depth ≤ 1 := by
  unfold dlb PyData.depth
  refine Nat.succ_le_succ (depthAll_le fun d hd => ?_)
  obtain ⟨b, _, rfl⟩ := List.mem_map.mp hd
  exact Nat.le_refl 0
theorem depth_llb (bss : List (List Bool)) : (dllb bss).depth ≤ 2 := by
  unfold dllb PyData.depth
  refine Nat.succ_le_succ (depthAll_le fun d hd => ?_)
  obtain ⟨b, _, rfl⟩ := List.mem_map.mp hd
  exact depth_lb b
theorem noMix_b : ∀ bs cs : List Bool, SeqAt.noMixAll (bs.map .bool) (cs.map .bool) = true
  | [], [] | [], _ :: _ | _ :: _, [] => by simp [SeqAt.noMixAll]
  | b :: r, c :: q => by rw [List.map_cons, List.map_cons, SeqAt.noMixAll, noMix_b r q]; rfl
theorem noMix_lb : ∀ bs cs : List (List Bool), SeqAt.noMixAll (bs.map dlb) (cs.map dlb) = true
  | [], [] | [], _ :: _ | _ :: _, [] => by simp [SeqAt.noMixAll]
  | b :: r, c :: q => by
    rw [List.map_cons, List.map_cons, SeqAt.noMixAll, noMix_lb r q]
    have : SeqAt.noMix (dlb b) (dlb c) = true := by unfold dlb SeqAt.noMix; exact noMix_b b c
    rw [this]; rfl
theorem same_b : ∀ bs cs : List Bool, Spec.sameAll (bs.map .bool) (cs.map .bool) = (bs == cs)
  | [], [] => rfl
  | [], _ :: _ => rfl
  | _ :: _, [] => rfl
  | b :: r, c :: q => by
    rw [List.map_cons, List.map_cons, Spec.sameAll, same_b r q]; rfl
theorem same_lb : ∀ bs cs : List (List Bool), Spec.sameAll (bs.map dlb) (cs.map dlb) = (bs == cs)
  | [], [] => rfl
  | [], _ :: _ => rfl
  | _ :: _, [] => rfl
  | b :: r, c :: q => by
    rw [List.map_cons, List.map_cons, Spec.sameAll, same_lb r q]
    have : Spec.same (dlb b) (dlb c) = (b == c) := by unfold dlb Spec.same; exact same_b b c
    rw [this]; rfl
theorem c_eqL {bs cs : List (List Bool)} (hu : A.units + 64 < cLine) (h : P (.bool (bs == cs)) st) : AW2 X A env lo (compareOp .Eq) (llb bs) (llb cs) st P :=
  c_eqD hu (dat_llb bs) (dat_llb cs) (Nat.le_trans (depth_llb _) (by decide)) (Nat.le_trans (depth_llb _) (by decide)) (by unfold dllb SeqAt.noMix; exact noMix_lb bs cs) (by rw [show Spec.same (dllb bs) (dllb cs) = (bs == cs) by unfold dllb Spec.same; exact same_lb bs cs]; exact h)
theorem c_neL {bs cs : List (List Bool)} (hu : A.units + 64 < cLine) (h : P (.bool (bs != cs)) st) : AW2 X A env lo (compareOp .NotEq) (llb bs) (llb cs) st P :=
  c_neD hu (dat_llb bs) (dat_llb cs) (Nat.le_trans (depth_llb _) (by decide)) (Nat.le_trans (depth_llb _) (by decide)) (by unfold dllb SeqAt.noMix; exact noMix_lb bs cs) (by rw [show Spec.same (dllb bs) (dllb cs) = (bs == cs) by unfold dllb Spec.same; exact same_lb bs cs]; exact h)
/-- a list against the empty one -/
theorem same_nil (ds : List PyData) : Spec.same (.list ds) (.list []) = ds.isEmpty := by cases ds <;> simp [Spec.same, Spec.sameAll]
theorem noMix_nil (ds : List PyData) : SeqAt.noMix (.list ds) (.list []) = true := by cases ds <;> simp [SeqAt.noMix, SeqAt.noMixAll]
theorem dats_empty {xs : List AV} {ds : List PyData} (h : Dts xs ds) : ds.isEmpty = xs.isEmpty :=
  Dts.rec (motive_1 := fun _ _ _ => True) (motive_2 := fun xs ds _ => ds.isEmpty = xs.isEmpty) (fun _ => trivial) (fun _ => trivial) (fun _ _ => trivial) (fun _ _ => trivial) rfl (fun _ _ _ _ => rfl) h
theorem c_eqNil {xs : List AV} {ds : List PyData} (hu : A.units + 64 < cLine) (hd : Dts xs ds) (h1 : PyData.depthAll ds ≤ 63) (h : P (.bool xs.isEmpty) st) : AW2 X A env lo (compareOp .Eq) (.list xs) (.list []) st P :=
  c_eqD (d := .list ds) (e := .list []) hu (.list hd) (.list .nil) (Nat.succ_le_succ h1) (by decide) (noMix_nil ds) (by rw [same_nil, dats_empty hd]; exact h)
theorem c_neNil {xs : List AV} {ds : List PyData} (hu : A.units + 64 < cLine) (hd : Dts xs ds) (h1 : PyData.depthAll ds ≤ 63) (h : P (.bool !xs.isEmpty) st) : AW2 X A env lo (compareOp .NotEq) (.list xs) (.list []) st P :=
  c_neD (d := .list ds) (e := .list []) hu (.list hd) (.list .nil) (Nat.succ_le_succ h1) (by decide) (noMix_nil ds) (by rw [same_nil, dats_empty hd]; exact h)
end
end Mine

namespace Mine

theorem noFill_tuple_mul : fillsNumberSlot (.type "tuple") "mul" = pure false :=
  PySem.fillsNumberSlot_seq (id := "tuple.__mul__") (r := some (.builtin "tuple.__rmul__")) F.slot_tuple_mul.lookup (by decide +kernel) F.slot_tuple_rmul.lookup (by decide +kernel)
theorem repeat_tuple : seqRepeat? (.type "tuple") = pure (some (.builtin "tuple.__mul__")) := by
  unfold seqRepeat?
  rw [PySem.seqSlot_of (T := "tuple") (name := "__mul__") (id := "tuple.__mul__") F.slot_tuple_mul.lookup (by decide +kernel), PySem.seqSlot_of (T := "tuple") (name := "__rmul__") (id := "tuple.__rmul__") F.slot_tuple_rmul.lookup (by decide +kernel)]
  rfl
theorem rmul_tuple (a : Int) (t : Tok) (l : Addr) (items : Array Value) (n : Nat) :
    Meets (Builtin.«int.__rmul__» ⟨[.int a t, .ref l], []⟩) (fun _ R s => s.heap.get? l = some { cls := .type "tuple", dict := none, data := .seq items n, slots := #[] } ∧ R (.ok (.ret Value.notImplemented)) s) :=
  .of_wp fun prog w A R s h => by obtain ⟨hp, g, d, tk, os⟩ := s; obtain ⟨hl, h⟩ := h; wp_walk; exact ⟨_, rfl, h⟩
theorem mul_tuple1 (u : Tok) (l : Addr) (items : Array Value) (n : Nat) :
    Meets (Builtin.«tuple.__mul__» ⟨[.ref l, .int 1 u], []⟩) (fun _ R s => s.heap.get? l = some { cls := .type "tuple", dict := none, data := .seq items n, slots := #[] } ∧ R (.ok (.ret (.ref l))) s) :=
  .of_wp fun prog w A R s h => by obtain ⟨hp, g, d, tk, os⟩ := s; obtain ⟨hl, h⟩ := h; wp_walk; exact ⟨_, rfl, h⟩
theorem mul_tuple0 (u : Tok) (l : Addr) (items : Array Value) (n : Nat) :
    Meets (Builtin.«tuple.__mul__» ⟨[.ref l, .int 0 u], []⟩) (fun _ R s => s.heap.get? l = some { cls := .type "tuple", dict := none, data := .seq items n, slots := #[] } ∧ items.isEmpty = false ∧ R (.ok (.ret (.ref s.heap.objs.size))) { s with heap := s.heap.push { cls := .type "tuple", data := .seq #[] } }) :=
  .of_wp fun prog w A R s h => by obtain ⟨hp, g, d, tk, os⟩ := s; obtain ⟨hl, hne, h⟩ := h; wp_walk; exact ⟨_, rfl, h⟩

section
variable {X : Fix} {A : Around} {env : Env} {lo : Lo} {st : Sto} {P : AV → Sto → Prop} {n : Nat}

/-- len -/
theorem c_len {xs : List AV} (hlen : xs.length ≤ 1000) (h : P (.int xs.length) st) : ACallV X n (.builtin "len") [.list xs] [] st P := by
  intro A env lo f m Xc s g hr R vs ks hv hk Q E hQ
  obtain rfl := RKs.inv hk
  replace hv := RVs.inv hv; obtain ⟨_, _, rfl, hv, hv'⟩ := hv
  replace hv' := RVs.inv hv'; obtain rfl := hv'
  obtain ⟨a, vs, rfl, hl, hr⟩ := isL R hv
  have e := hr.length
  refine call_len_list hl (by rw [List.size_toArray]; omega) ?_
  rw [List.size_toArray, e]
  exact hQ _ _ g _ _ (Gh.le.refl g) (R.tk _) (.int _ _) h
theorem Rep.script {f : Fm} {m : Str → Option Value} {Xc : Led} {s : Shared} {g : Gh} (R : Rep X A env f m Xc s g lo st) {v : Value} {ns : List Int} (h : RV X g.I g.R v (.script ns)) : ∃ a vs, v = .ref a ∧ s.heap.IsList a vs.toArray ∧ IntsAre vs ns := by
  cases h with
  | script h1 h2 =>
    obtain ⟨o, ho, hc, n, hd⟩ := h1
    exact ⟨_, _, rfl, ⟨o, R.F.keep _ _ (R.ok.below.stays _ _ ho), hc, n, hd⟩, h2⟩
theorem c_lenS {ns : List Int} (hlen : ns.length ≤ 1000) (h : P (.int ns.length) st) : ACallV X n (.builtin "len") [.script ns] [] st P := by
  intro A env lo f m Xc s g hr R vs ks hv hk Q E hQ
  obtain rfl := RKs.inv hk
  replace hv := RVs.inv hv; obtain ⟨_, _, rfl, hv, hv'⟩ := hv
  replace hv' := RVs.inv hv'; obtain rfl := hv'
  obtain ⟨a, vs, rfl, hl, hi⟩ := R.script hv
  have e := hi.length
  refine call_len_list hl (by rw [List.size_toArray]; omega) ?_
  rw [List.size_toArray, e]
  exact hQ _ _ g _ _ (Gh.le.refl g) (R.tk _) (.int _ _) h
theorem ints_RV {I : Led} {R : List Addr} {vs : List Value} {ns : List Int} (h : IntsAre vs ns) : RVs X I R vs (ns.map .int) := by
  induction h with
  | nil => exact .nil
  | cons k t _ ih => exact .cons (.int k t) ih
theorem RVs.ints {I : Led} {R : List Addr} : ∀ {ns : List Int} {vs : List Value}, RVs X I R vs (ns.map .int) → IntsAre vs ns := by
  intro ns
  induction ns with
  | nil => intro vs h; replace h := RVs.inv h; obtain rfl := h; exact .nil
  | cons k r ih =>
    intro vs h
    replace h := RVs.inv h; obtain ⟨_, _, rfl, h1, h2⟩ := h
    replace h1 := RV.inv h1; obtain ⟨_, rfl⟩ := h1
    exact .cons _ _ (ih h2)

/-- a slice of the script -/
theorem sub_uptoS {value e : Expr} {p : Pos} {ns : List Int} {i : Nat} (hlen : ns.length ≤ 1000) (h : P (.list ((ns.take i).map .int)) st) (ht : ∀ l r, letTemporaryGo value (.ref l) r = pure () := by intro _ _; with_unfolding_all rfl) :
    AW2 X A env lo (subscriptTail value (.Slice none (some e) none p)) (.script ns) (.slc none (some (i : Int)) none) st P := by
  intro f m Xc s g R v w hv hw Q E hQ
  obtain ⟨l, vs, rfl, hl, hi⟩ := R.script hv
  have e1 := hi.length
  replace hw := RV.inv hw; obtain ⟨r, t, u, v, rfl, hI, h1, h2, h3⟩ := hw
  have hS : s.heap.IsSliceOf r t u v := ⟨_, R.getI hI, rfl, rfl⟩
  refine subscriptTail_ops (ops := [.ref r, .ref l]) hl.typeIs list_getitem_lookup (wpAny_getItem_list_slice hl hS h1 h2 h3 (by simp) ?_ (by rw [List.size_toArray, e1, sizeLine_eq]; omega)) (by with_unfolding_all rfl) (ht _)
  rw [slicePick_upto' vs.toArray i]
  refine hQ _ _ _ _ _ (Gh.le.imm g _) (R.imm (Nat.le_refl _) (R.F.push _) (R.N.push R.F _) rfl rfl rfl) ?_ h
  refine .list (vs := vs.take i) (n := 0) (.head _) ?_
  rw [List.map_take]
  exact (ints_RV hi).take i

/-- range -/
theorem range_lay {f : Fm} {m : Str → Option Value} {Xc : Led} {s : Shared} {g : Gh} (R : Rep X A env f m Xc s g lo st) {h' : Heap} {tk : Nat} {a b c : Int} {t u v : Tok} (hr : IsRange h' s.heap.objs.size a b c t u v) (F' : Fr f.h₀ f.L h' m) (N' : News f.h₀ f.L h' (Xc ++ (f.Xo ++ (g.M ++ g.I)))) :
    ∃ g', g.le g' ∧ Rep X A env f m Xc { s with heap := h', toks := tk } g' lo st ∧ RV X g'.I g'.R (.ref s.heap.objs.size) (.range a b c) := by
  have hne := R.fresh_ne (Nat.le_refl s.heap.objs.size)
  refine ⟨_, Gh.le.imm g (s.heap.objs.size, { cls := .type "range", dict := none, data := .fields #[.int a t, .int b u, .int c v], slots := #[] }), R.imm' (s' := { s with heap := h', toks := tk }) hne F' (fun p hp => ?_) rfl rfl rfl, .range (.head _)⟩
  rcases List.mem_cons.mp hp with e | hp
  · subst e
    exact ⟨hr, Nat.ne_of_gt R.F.ns.lt, next_is_new R.F⟩
  · exact N' p hp
theorem c_range1 {b : Int} (h : P (.range 0 b 1) st) : ACallV X n (.type "range") [.int b] [] st P := by
  intro A env lo f m Xc s g hr R vs ks hv hk Q E hQ
  obtain rfl := RKs.inv hk
  replace hv := RVs.inv hv; obtain ⟨_, _, rfl, hv, hv'⟩ := hv
  replace hv' := RVs.inv hv'; obtain rfl := hv'; replace hv := RV.inv hv; obtain ⟨_, rfl⟩ := hv
  refine range1_rows R.F R.N fun h' tk t₁ u₁ v₁ hi F' N' _ => ?_
  obtain ⟨g', l, R', r⟩ := range_lay R (tk := tk) hi F' N'
  exact hQ _ _ g' _ _ l R' r h
theorem c_range2 {a b : Int} (h : P (.range a b 1) st) : ACallV X n (.type "range") [.int a, .int b] [] st P := by
  intro A env lo f m Xc s g hr R vs ks hv hk Q E hQ
  obtain rfl := RKs.inv hk
  replace hv := RVs.inv hv; obtain ⟨_, _, rfl, hv, hv'⟩ := hv; replace hv' := RVs.inv hv'; obtain ⟨_, _, rfl, hw, hv'⟩ := hv'
  replace hv' := RVs.inv hv'; obtain rfl := hv'; replace hv := RV.inv hv; obtain ⟨_, rfl⟩ := hv; replace hw := RV.inv hw; obtain ⟨_, rfl⟩ := hw
  refine range2_rows R.F R.N fun h' tk t₁ u₁ v₁ hi F' N' _ => ?_
  obtain ⟨g', l, R', r⟩ := range_lay R (tk := tk) hi F' N'
  exact hQ _ _ g' _ _ l R' r h
theorem c_range3 {a b c : Int} (hc : c ≠ 0) (hs : c.natAbs < 1073741824) (h : P (.range a b c) st) : ACallV X n (.type "range") [.int a, .int b, .int c] [] st P := by
  intro A env lo f m Xc s g hr R vs ks hv hk Q E hQ
  obtain rfl := RKs.inv hk
  replace hv := RVs.inv hv; obtain ⟨_, _, rfl, hv, hv'⟩ := hv; replace hv' := RVs.inv hv'; obtain ⟨_, _, rfl, hw, hv'⟩ := hv'; replace hv' := RVs.inv hv'; obtain ⟨_, _, rfl, hx, hv'⟩ := hv'
  replace hv' := RVs.inv hv'; obtain rfl := hv'; replace hv := RV.inv hv; obtain ⟨_, rfl⟩ := hv; replace hw := RV.inv hw; obtain ⟨_, rfl⟩ := hw; replace hx := RV.inv hx; obtain ⟨_, rfl⟩ := hx
  refine range3_rows R.F R.N hc (fun h' tk t₁ u₁ v₁ hi F' N' _ => ?_) (.inl (PyProof.noPylong_small hs))
  obtain ⟨g', l, R', r⟩ := range_lay R (tk := tk) hi F' N'
  exact hQ _ _ g' _ _ l R' r h

theorem c_min {ns : List Int} (hne : 0 < ns.length) (h : ∀ k, k ∈ ns → (∀ a, a ∈ ns → k ≤ a) → P (.int k) st) : ACallV X n (.builtin "min") [.list (ns.map .int)] [] st P := by
  intro A env lo f m Xc s g hr R vs ks hv hk Q E hQ
  obtain rfl := RKs.inv hk
  replace hv := RVs.inv hv; obtain ⟨_, _, rfl, hv, hv'⟩ := hv
  replace hv' := RVs.inv hv'; obtain rfl := hv'
  obtain ⟨a, vs, rfl, hl, hr⟩ := isL R hv
  refine min_list_N R.ok.hand R.F R.N hl hr.ints hne fun h' k t' tk F' N' hm hmin => ?_
  exact hQ _ _ g _ _ (Gh.le.refl g) ⟨R.ok, R.globals, R.builtins, R.kind, R.loc, R.gens, R.os, F', N', R.nd, R.vars, R.cells, R.ndR, R.old, R.ban, R.obj⟩ (.int _ _) (h k hm hmin)
/-- isinstance of a bool -/
theorem c_isb {b : Bool} (h : P (.bool true) st) : ACallV X n (.builtin "isinstance") [.bool b, .ty "bool"] [] st P := by
  intro A env lo f m Xc s g hr R vs ks hv hk Q E hQ
  obtain rfl := RKs.inv hk
  replace hv := RVs.inv hv; obtain ⟨_, _, rfl, hv, hv'⟩ := hv; replace hv' := RVs.inv hv'; obtain ⟨_, _, rfl, hw, hv'⟩ := hv'
  replace hv' := RVs.inv hv'; obtain rfl := hv'; replace hv := RV.inv hv; obtain rfl := hv; replace hw := RV.inv hw; obtain rfl := hw
  exact call_isinstance (isinstance_true F.isi_meta_bool F.sub_bool_bool) ⟨rfl, hQ _ _ g _ _ (Gh.le.refl g) R (.bool true) h⟩

/-- in a list of ints -/
theorem l_in {ns : List Int} {k : Int} (h : P (.bool (ns.any (· == k))) st) : AW2 X A env lo (compareOp .In) (.int k) (.list (ns.map .int)) st P := by
  intro f m Xc s g R v w hv hw Q E hQ
  obtain ⟨a, vs, rfl, hl, hr⟩ := isL R hw
  replace hv := RV.inv hv; obtain ⟨_, rfl⟩ := hv
  exact in_list_ints hl hr.ints (hQ _ _ g _ _ (Gh.le.refl g) R (.bool _) h)
/-- the truth of a tuple -/
theorem t_tup {xs : List AV} {P : Bool → Sto → Prop} (hlen : xs.length ≤ 1000) (h : P (!xs.isEmpty) st) : AG1 X A env lo REq truthy (.tup xs) st P := by
  intro f m Xc s g R v hv Q E hQ
  obtain ⟨a, vs, rfl, hl, hr⟩ := isT R hv
  have e := hr.length
  refine truthy_tuple hl (by rw [List.size_toArray]; omega) ?_
  have : (!vs.toArray.isEmpty) = !xs.isEmpty := by
    cases hr <;> rfl
  rw [this]
  exact hQ _ _ g _ _ (Gh.le.refl g) (R.tk _) rfl h

/-- all but the last of a tuple -/
theorem adjust_init (n : Nat) (hn : 1 ≤ n) : Builtin.Slice.sliceAdjust none (some (-1)) 1 (n : Int) = (0, ((n - 1 : Nat) : Int)) := by
  unfold Builtin.Slice.sliceAdjust
  have h1 : ¬ ((1 : Int) < 0) := by omega
  have h3 : ((-1 : Int) < 0) := by omega
  simp only [h1, h3, if_false, if_true]
  congr 1
  omega
theorem places_init (n : Nat) (hn : 1 ≤ n) : Builtin.Slice.slicePlaces 0 ((n - 1 : Nat) : Int) 1 = n - 1 := by
  unfold Builtin.Slice.slicePlaces
  have h1 : (1 : Int) > 0 := by omega
  simp only [h1, if_true, Int.ediv_one]
  split <;> omega
theorem pick_init (xs : Array Value) : ((List.range (xs.size - 1)).filterMap fun (k : Nat) => xs[((0 : Int) + (k : Int) * 1).toNat]?).toArray = xs.toList.dropLast.toArray := by
  have e : (fun (k : Nat) => xs[((0 : Int) + (k : Int) * 1).toNat]?) = fun k => xs[0 + k]? := by
    funext k
    have : ((0 : Int) + (k : Int) * 1).toNat = 0 + k := by omega
    rw [this]
  rw [e]
  have := pick_run xs 0 (xs.size - 1)
  rw [List.filterMap_map] at this
  have e2 : ((fun x => xs[x]?) ∘ fun x => 0 + x) = fun k => xs[0 + k]? := rfl
  rw [e2] at this
  rw [this, List.dropLast_eq_take]
  simp

theorem getItem_tuple_init {E : Value → Shared → Prop} {s : Shared} {t sl : Addr} {items : Array Value} {u : Tok} {Q : Value → Shared → Prop} (ht : IsTup s.heap t items) (hs : s.heap.IsSliceOf sl .none (.int (-1) u) .none) (h1 : 1 ≤ items.size)
    (h : Q (.ref s.heap.objs.size) { s with heap := s.heap.push { cls := .type "tuple", data := .seq items.toList.dropLast.toArray } })
    (hsz : items.size ≤ sizeLine) : wpAny (model X.prog X.w) A (getItem (.ref t) (.ref sl)) Q E s := by
  have hdrop : sizeOk (.seq items.toList.dropLast.toArray) := by
    show items.toList.dropLast.toArray.size ≤ sizeLine
    rw [List.size_toArray, List.length_dropLast, Array.length_toList]
    omega
  obtain ⟨os, hos, hcs, hds⟩ := id hs
  have hTs : s.TypeIs (.ref sl) "slice" := ⟨os, hos, hcs⟩
  unfold getItem
  try with_reducible refine wpAny_holding ?_
  first | refine wpAny_bind (wpAny_pure ?_) | skip
  refine wpAny_bind (wpAny_sequenceKey ht.typeIs (by decide) ?_)
  refine wpAny_bind (wpAny_callSpecial?_slot (name := Str.ofString "__getitem__") ht.typeIs slot_tuple_getitem
    (wpAny_call_entry slot_tuple_getitem ht.typeIs entry_tuple_getitem ?_ (args_tuple_getitem _ _)))
  show wpAny _ _ (Builtin.Tuple.tupleItemsOf (.ref t) >>= _) _ _ s
  refine wpAny_bind (tupleItemsOf_ ht ?_)
  refine wpAny_bind (wpAny_typeOf hTs ?_)
  rw [if_pos (by decide)]
  have happ : ∀ {Q : Int × Int × Nat → Shared → Prop} {A : Around} {E : Value → Shared → Prop}, Q ((0 : Int), 1, items.size - 1) s → wpAny (model X.prog X.w) A (Builtin.Slice.sliceApplied (.ref sl) (pure (items.size : Int))) Q E s := by
    intro Q A E h
    unfold Builtin.Slice.sliceApplied Builtin.Slice.sliceFields
    refine wpAny_bind (wpAny_bind (wpAny_field hos hds (x := .none) rfl (wpAny_bind (wpAny_field hos hds (x := .int (-1) u) rfl (wpAny_bind (wpAny_field hos hds (x := .none) rfl (wpAny_pure ?_)))))))
    refine wpAny_bind (slicePart_none ?_)
    show wpAny _ _ (if ((1 : Int) == 0) = true then _ else _) _ _ s
    rw [if_neg (by decide)]
    refine wpAny_bind (slicePart_none (wpAny_bind (slicePart_int (wpAny_bind (wpAny_pure ?_)))))
    show wpAny _ _ (match Builtin.Slice.sliceAdjust none (some (-1)) 1 (items.size : Int) with | (lo, hi) => pure (lo, (1 : Int), Builtin.Slice.slicePlaces lo hi 1)) _ _ s
    rw [adjust_init _ h1]
    show wpAny _ _ (pure ((0 : Int), (1 : Int), Builtin.Slice.slicePlaces (0 : Int) ((items.size - 1 : Nat) : Int) 1)) _ _ s
    rw [places_init _ h1]
    exact wpAny_pure h
  refine wpAny_bind (happ ?_)
  have hno : ¬ (((0 : Int) == 0 && (1 : Int) == 1 && (items.size - 1) == items.size) = true) := by
    have : ((items.size - 1) == items.size) = false := by rw [beq_eq_false_iff_ne]; omega
    rw [this]; simp
  show wpAny _ _ (if ((0 : Int) == 0 && (1 : Int) == 1 && (items.size - 1) == items.size) = true then _ else _) _ _ s
  rw [if_neg hno, pick_init items]
  first
    | exact wpAny_bind (m := Builtin.Tuple.tupleExact _) (wpAny_newObj_type (wpAny_pure ⟨_, rfl, wpAny_pure h⟩) hdrop)
    | exact wpAny_bind (m := Builtin.Tuple.tupleExact _) (wpAny_newObj_type (wpAny_bind (wpAny_pure (wpAny_pure ⟨_, rfl, wpAny_pure h⟩))) hdrop)
    | exact wpAny_bind (wpAny_bind (m := Builtin.Tuple.tupleExact _) (wpAny_newObj_type (wpAny_pure (wpAny_pure ⟨_, rfl, wpAny_pure h⟩)) hdrop))
    | exact wpAny_bind (wpAny_bind (m := Builtin.Tuple.tupleExact _) (wpAny_newObj_type (wpAny_pure ⟨_, rfl, wpAny_pure h⟩) hdrop))
theorem RVs.dropLast {I : Led} {R : List Addr} {vs : List Value} {xs : List AV} (h : RVs X I R vs xs) : RVs X I R vs.dropLast xs.dropLast := by
  rw [List.dropLast_eq_take, List.dropLast_eq_take, h.length]; exact h.take _
theorem sub_init {value e : Expr} {p : Pos} {xs : List AV} (hne : 1 ≤ xs.length) (hlen : xs.length ≤ 1000) (h : P (.tup xs.dropLast) st) (ht : ∀ l r, letTemporaryGo value (.ref l) r = pure () := by intro _ _; with_unfolding_all rfl) :
    AW2 X A env lo (subscriptTail value (.Slice none (some e) none p)) (.tup xs) (.slc none (some (-1)) none) st P := by
  intro f m Xc s g R v w hv hw Q E hQ
  obtain ⟨a, vs, rfl, hl, hr⟩ := isT R hv
  have e1 := hr.length
  replace hw := RV.inv hw; obtain ⟨r, t, u, v, rfl, hI, h1, h2, h3⟩ := hw
  cases h1; cases h2; cases h3
  have hS : s.heap.IsSliceOf r .none (.int (-1) _) .none := ⟨_, R.getI hI, rfl, rfl⟩
  refine subscriptTail_ops (ops := [.ref r, .ref a]) hl.typeIs slot_tuple_getitem.lookup (getItem_tuple_init hl hS (by rw [List.size_toArray]; omega) ?_ (by rw [List.size_toArray, sizeLine_eq]; omega)) (by with_unfolding_all rfl) (ht _)
  refine hQ _ _ _ _ _ (Gh.le.imm g _) (R.imm (Nat.le_refl _) (R.F.push _) (R.N.push R.F _) rfl rfl rfl) ?_ h
  exact .tup (vs := vs.dropLast) (.head _) (hr.dropLast.mono (fun p hp => .tail _ hp) (List.prefix_refl _))
/-- a tuple taken no time or once -/
theorem b_mulT {xs : List AV} {k : Int} (hk : k = 0 ∨ k = 1) (hne : xs ≠ []) (h : P (.tup (if k = 1 then xs else [])) st) : AW2 X A env lo (binaryOp .Mult) (.tup xs) (.int k) st P := by
  intro f m Xc s g R v w hv hw Q E hQ
  have hv' := hv
  replace hv := RV.inv hv; obtain ⟨a, vs, rfl, hI, hr⟩ := hv
  replace hw := RV.inv hw; obtain ⟨_, rfl⟩ := hw
  rename_i u
  have hl := R.getI hI
  rcases hk with rfl | rfl
  · refine wpAny_binaryOp_repeat_ref (T := "tuple") (U := "int") (by decide) ⟨_, hl, rfl⟩ (fun s' => typeIs_int s' 0 u) noFill_tuple_mul F.fills_int_mul F.slot_int_rmul repeat_tuple F.slot_int_index.lookup
      (call_meets F.slot_int_rmul (typeIs_int s 0 u) F.entry_int_rmul (F.args_int_rmul_2 _ _) (rmul_tuple 0 u a vs.toArray 0)
        ⟨hl, rfl, ⟨_, hl, rfl⟩, call_meets F.slot_tuple_mul ⟨_, hl, rfl⟩ F.entry_tuple_mul (F.args_tuple_mul_2 _ _) (mul_tuple0 u a vs.toArray 0) ⟨hl, ?_, ?_⟩⟩)
    · cases hr with
      | nil => exact absurd rfl hne
      | cons _ _ => rfl
    · exact hQ _ _ _ _ _ (Gh.le.imm g _) (R.imm (Nat.le_refl _) (R.F.push _) (R.N.push R.F _) rfl rfl rfl) (.tup (vs := []) (.head _) .nil) h
  · exact wpAny_binaryOp_repeat_ref (T := "tuple") (U := "int") (by decide) ⟨_, hl, rfl⟩ (fun s' => typeIs_int s' 1 u) noFill_tuple_mul F.fills_int_mul F.slot_int_rmul repeat_tuple F.slot_int_index.lookup
      (call_meets F.slot_int_rmul (typeIs_int s 1 u) F.entry_int_rmul (F.args_int_rmul_2 _ _) (rmul_tuple 1 u a vs.toArray 0)
        ⟨hl, rfl, ⟨_, hl, rfl⟩, call_meets F.slot_tuple_mul ⟨_, hl, rfl⟩ F.entry_tuple_mul (F.args_tuple_mul_2 _ _) (mul_tuple1 u a vs.toArray 0) ⟨hl, hQ _ _ g _ _ (Gh.le.refl g) R hv' h⟩⟩)
end
end Mine

namespace Mine
/-! the table of a set: an empty place is found -/
open SetTable

theorem le_of_nodup_subN : ∀ (l : List Nat) (r : List Nat), l.Nodup → (∀ x ∈ l, x ∈ r) → l.length ≤ r.length
  | [], r, _, _ => Nat.zero_le _
  | x :: l, r, hn, hs => by
    rw [List.nodup_cons] at hn
    have hx : x ∈ r := hs x (.head _)
    have := le_of_nodup_subN l (r.erase x) hn.2 fun y hy => (List.mem_erase_of_ne (fun e => hn.1 (by rw [← e]; exact hy))).mpr (hs y (.tail _ hy))
    rw [List.length_erase_of_mem hx] at this
    have h2 : 0 < r.length := List.length_pos_of_mem hx
    rw [List.length_cons]; omega

def stepM (mask i : Nat) : Nat := (i * 5 + 1) % (mask + 1)
def stepN (mask : Nat) : Nat → Nat → Nat
  | 0, i => i
  | n + 1, i => stepN mask n (stepM mask i)
theorem orbit : ∀ mask ∈ [7, 31], ∀ i < 32, i ≤ mask → ∀ j < 32, j ≤ mask → ∃ n, n < 32 ∧ n ≤ mask ∧ stepN mask n i = j := by decide +kernel
def leapN (mask : Nat) : Nat → Nat × Nat → Nat × Nat
  | 0, x => x
  | n + 1, x => leapN mask n (leap mask x.1 x.2)
theorem leapN_snd (mask : Nat) : ∀ (n i p : Nat), (leapN mask n (i, p)).2 = p / 32 ^ n
  | 0, i, p => by simp [leapN]
  | n + 1, i, p => by
    show (leapN mask n ((i * 5 + 1 + p / 32) % (mask + 1), p / 32)).2 = _
    rw [leapN_snd mask n, Nat.pow_succ, Nat.mul_comm, Nat.div_div_eq_div_mul]
theorem leapN_zero (mask : Nat) : ∀ (n i : Nat), leapN mask n (i, 0) = (stepN mask n i, 0)
  | 0, i => rfl
  | n + 1, i => by
    show leapN mask n ((i * 5 + 1 + 0 / 32) % (mask + 1), 0 / 32) = _
    rw [Nat.zero_div, Nat.add_zero, leapN_zero mask n]; rfl
theorem leapN_add (mask : Nat) : ∀ (n m : Nat) (x : Nat × Nat), leapN mask (n + m) x = leapN mask m (leapN mask n x)
  | 0, m, x => by rw [Nat.zero_add]; rfl
  | n + 1, m, x => by
    rw [show n + 1 + m = (n + m) + 1 by omega]
    exact leapN_add mask n m _
theorem leapN_le (mask : Nat) : ∀ (n : Nat) (x : Nat × Nat), x.1 ≤ mask → (leapN mask n x).1 ≤ mask
  | 0, x, h => h
  | n + 1, x, h => leapN_le mask n _ (Nat.le_of_lt_succ (Nat.mod_lt _ (Nat.succ_pos _)))
theorem reach {mask i p j : Nat} (hm : mask = 7 ∨ mask = 31) (hi : i ≤ mask) (hp : p < 2 ^ 64) (hj : j ≤ mask) : ∃ n, 1 ≤ n ∧ n ≤ 13 + mask ∧ (leapN mask n (i, p)).1 = j := by
  have h1 := leapN_le mask 13 (i, p) hi
  have h2 : (leapN mask 13 (i, p)).2 = 0 := by
    rw [leapN_snd]; exact Nat.div_eq_of_lt (Nat.lt_of_lt_of_le hp (by decide))
  have hmm : mask ≤ 31 := by omega
  obtain ⟨n, _, hn, e⟩ := orbit mask (by simp; exact hm) (leapN mask 13 (i, p)).1 (by omega) h1 j (by omega) hj
  refine ⟨13 + n, by omega, by omega, ?_⟩
  rw [leapN_add, show leapN mask 13 (i, p) = ((leapN mask 13 (i, p)).1, 0) from Prod.ext rfl h2, leapN_zero]
  exact e

def advN (t : SetTable) : Nat → Probe → Probe
  | 0, p => p
  | n + 1, p => advN t n (t.advance p)
theorem advN_add (t : SetTable) : ∀ (n m : Nat) (p : Probe), advN t (n + m) p = advN t m (advN t n p)
  | 0, m, p => by rw [Nat.zero_add]; rfl
  | n + 1, m, p => by
    rw [show n + 1 + m = (n + m) + 1 by omega]
    exact advN_add t n m _
theorem runEnd_le (mask i : Nat) : runEnd mask i - i ≤ 9 := by unfold runEnd; split <;> omega
theorem run_end (t : SetTable) : ∀ (k : Nat) (p : Probe), p.more = k →
    (advN t (k + 1) p).i = (leap t.mask p.i p.perturb).1 ∧ (advN t (k + 1) p).perturb = (leap t.mask p.i p.perturb).2 ∧ (advN t (k + 1) p).j = (leap t.mask p.i p.perturb).1 ∧ (advN t (k + 1) p).more ≤ 9
  | 0, p, h => by
    show (t.advance p).i = _ ∧ (t.advance p).perturb = _ ∧ (t.advance p).j = _ ∧ (t.advance p).more ≤ 9
    unfold advance
    rw [if_neg (by omega)]
    exact ⟨rfl, rfl, rfl, runEnd_le _ _⟩
  | k + 1, p, h => by
    have e : t.advance p = { p with j := p.j + 1, more := p.more - 1 } := by unfold advance; rw [if_pos (by omega)]
    have := run_end t k (t.advance p) (by rw [e]; dsimp only; omega)
    rw [e] at this
    show (advN t (k + 1) (t.advance p)).i = _ ∧ (advN t (k + 1) (t.advance p)).perturb = _ ∧ (advN t (k + 1) (t.advance p)).j = _ ∧ (advN t (k + 1) (t.advance p)).more ≤ 9
    rw [e]
    exact this
theorem reachP (t : SetTable) : ∀ (n : Nat) (p : Probe), 1 ≤ n → p.more ≤ 9 → ∃ k, k ≤ 10 * n ∧ (advN t k p).j = (leapN t.mask n (p.i, p.perturb)).1
  | 0, p, h, _ => absurd h (by omega)
  | 1, p, _, hm => by
    obtain ⟨a, b, c, d⟩ := run_end t p.more p rfl
    exact ⟨p.more + 1, by omega, c⟩
  | n + 2, p, _, hm => by
    obtain ⟨a, b, c, d⟩ := run_end t p.more p rfl
    obtain ⟨k, hk, e⟩ := reachP t (n + 1) (advN t (p.more + 1) p) (by omega) d
    refine ⟨p.more + 1 + k, by omega, ?_⟩
    rw [advN_add, e, a, b]; rfl
theorem bits_lt (h : Int) : bits h < 2 ^ 64 := by
  unfold bits
  have h1 := Int.emod_lt_of_pos h (show (0 : Int) < 2 ^ 64 by decide)
  have h2 := Int.emod_nonneg h (show (2 ^ 64 : Int) ≠ 0 by decide)
  omega

theorem not_dummy {t : SetTable} (hd : t.dummies = #[]) (j : Nat) : t.slot j = .empty ∨ ∃ i, t.slot j = .live i ∧ i < t.place.size := by
  unfold slot
  dsimp only
  split
  · rename_i h
    refine .inr ⟨_, rfl, ?_⟩
    rw [beq_iff_eq] at h
    obtain ⟨h1, _⟩ := Array.getElem?_eq_some_iff.mp h
    exact h1
  · refine .inl ?_
    rw [hd]
    rfl
theorem empty_of {t : SetTable} (hd : t.dummies = #[]) (hs : t.place.size ≤ t.mask) : ∃ j, j ≤ t.mask ∧ t.slot j = .empty := by
  by_cases h : ∃ j, j ≤ t.mask ∧ j ∉ t.place.toList
  · obtain ⟨j, hj, hn⟩ := h
    refine ⟨j, hj, ?_⟩
    unfold slot
    dsimp only
    rw [if_neg, hd]
    · rfl
    · intro e
      rw [beq_iff_eq] at e
      obtain ⟨h1, h2⟩ := Array.getElem?_eq_some_iff.mp e
      exact hn (by rw [← h2]; simp)
  · exfalso
    have := le_of_nodup_subN (List.range (t.mask + 1)) t.place.toList List.nodup_range fun x hx => by
      by_cases q : x ∈ t.place.toList
      · exact q
      · exact absurd ⟨x, Nat.le_of_lt_succ (List.mem_range.mp hx), q⟩ h
    rw [List.length_range, Array.length_toList] at this
    omega
/-- from the start of a search an empty place is not far -/
theorem start_near {t : SetTable} (hm : t.mask = 7 ∨ t.mask = 31) (hd : t.dummies = #[]) (hs : t.place.size ≤ t.mask) (h : Int) : ∃ k, k < 10 * turns t.mask ∧ t.slot (advN t k (t.probeStart h)).j = .empty := by
  obtain ⟨j, hj, he⟩ := empty_of hd hs
  obtain ⟨n, h1, h2, e⟩ := reach (i := bits h % (t.mask + 1)) (p := bits h) hm (Nat.le_of_lt_succ (Nat.mod_lt _ (Nat.succ_pos _))) (bits_lt h) hj
  obtain ⟨k, hk, ek⟩ := reachP t n (t.probeStart h) h1 (runEnd_le _ _)
  refine ⟨k, by unfold turns; omega, ?_⟩
  rw [ek, show (leapN t.mask n ((t.probeStart h).i, (t.probeStart h).perturb)).1 = j from e]; exact he

theorem adv_dummy (t : SetTable) (p : Probe) : (t.advance p).dummy = p.dummy := by
  unfold advance; split <;> rfl
theorem go_found (t : SetTable) (hashAt : Nat → Int) (h : Int) (hd : t.dummies = #[]) : ∀ (fuel k : Nat) (p : Probe), k < fuel → t.slot (advN t k p).j = .empty → p.dummy = none →
    (∃ j, SetTable.probe.go t hashAt h fuel p = some (.empty j none)) ∨
      ∃ j i k', k' < k ∧ SetTable.probe.go t hashAt h fuel p = some (.candidate j i (advN t (k' + 1) p)) ∧ t.slot j = .live i ∧ i < t.place.size ∧ hashAt i = h
 := by
  intro fuel
  induction fuel with
  | zero => exact fun k p hk => absurd hk (Nat.not_lt_zero k)
  | succ fuel ih =>
    intro k p hk he hp
    rcases not_dummy hd p.j with hs | ⟨i, hs, hi⟩
    · refine .inl ⟨p.j, ?_⟩
      unfold SetTable.probe.go
      rw [hs, hp]
    · cases k with
      | zero => rw [show advN t 0 p = p from rfl, hs] at he; cases he
      | succ k =>
        by_cases hh : hashAt i == h
        · refine .inr ⟨p.j, i, 0, by omega, ?_, hs, hi, eq_of_beq hh⟩
          unfold SetTable.probe.go
          rw [hs]
          dsimp only
          rw [if_pos hh]; rfl
        · have hgo : SetTable.probe.go t hashAt h (fuel + 1) p = SetTable.probe.go t hashAt h fuel (t.advance p) := by
            conv => lhs; unfold SetTable.probe.go
            rw [hs]
            dsimp only
            rw [if_neg hh]
          rcases ih k (t.advance p) (by omega) he (by rw [adv_dummy]; exact hp) with ⟨j, e⟩ | ⟨j, i', k', h1, e, h2⟩
          · exact .inl ⟨j, hgo.trans e⟩
          · exact .inr ⟨j, i', k' + 1, by omega, hgo.trans e, h2⟩

/-! laying anew -/
def owned (o : Array (Option Nat)) : List Nat := o.toList.filterMap id
theorem owned_set : ∀ (l : List (Option Nat)) (j k : Nat), l[j]? = some none → List.Perm ((l.set j (some k)).filterMap id) (k :: l.filterMap id)
  | [], j, k, h => by simp at h
  | x :: l, 0, k, h => by
    simp at h; subst h
    simp
  | x :: l, j + 1, k, h => by
    simp at h
    have := owned_set l j k h
    cases x with
    | none => simpa using this
    | some y =>
      simp only [List.set_cons_succ, List.filterMap_cons, id]
      exact (List.Perm.cons _ this).trans (List.Perm.swap _ _ _)
theorem some_none : ∀ (l : List (Option Nat)), (l.filterMap id).length < l.length → ∃ j : Nat, l[j]? = some none
  | [], h => absurd h (by simp)
  | none :: l, h => ⟨0, rfl⟩
  | some x :: l, h => by
    simp only [List.filterMap_cons, id, List.length_cons] at h
    obtain ⟨j, hj⟩ := some_none l (by omega)
    exact ⟨j + 1, by simpa using hj⟩
theorem free_found (mask : Nat) (owner : Array (Option Nat)) (hsz : owner.size = mask + 1) : ∀ (fuel n i p : Nat), n < fuel → owner[(leapN mask n (i, p)).1]? = some none → i ≤ mask →
    ∃ j, SetTable.layClean.free mask owner fuel i p = some j ∧ owner[j]? = some none
 := by
  intro fuel
  induction fuel with
  | zero => exact fun n i p h => absurd h (Nat.not_lt_zero n)
  | succ fuel ih =>
    intro n i p hn ho hi
    unfold SetTable.layClean.free
    cases hf : (List.range (runEnd mask i + 1 - i)).find? fun k => (owner.getD (i + k) (some 0)).isNone with
    | some k =>
      refine ⟨i + k, rfl, ?_⟩
      have := List.find?_some hf
      by_cases hik : i + k < owner.size
      · rw [Array.getD, dif_pos hik, Option.isNone_iff_eq_none] at this
        rw [Array.getElem?_eq_getElem hik]; exact congrArg some this
      · rw [Array.getD, dif_neg hik] at this; cases this
    | none =>
      dsimp only
      cases n with
      | zero =>
        exfalso
        have h0 := List.find?_eq_none.mp hf 0 (List.mem_range.mpr (by unfold runEnd; split <;> omega))
        apply h0
        have : owner[i]? = some none := ho
        obtain ⟨h1, h2⟩ := Array.getElem?_eq_some_iff.mp this
        rw [Nat.add_zero, Array.getD, dif_pos h1]
        show (owner[i]).isNone = true
        rw [h2]; rfl
      | succ n => exact ih n _ _ (Nat.lt_of_succ_lt_succ hn) ho (Nat.le_of_lt_succ (Nat.mod_lt _ (Nat.succ_pos _)))
theorem lay_fold (mask : Nat) (hm : mask = 7 ∨ mask = 31) : ∀ (hs : List Int) (owner : Array (Option Nat)) (k : Nat), owner.size = mask + 1 → List.Perm (owned owner) (List.range k) → k + hs.length ≤ mask →
    ∃ o', List.foldl (fun (acc : Option (Array (Option Nat) × Nat)) h => do
        let (owner, k) ← acc
        let j ← SetTable.layClean.free mask owner (turns mask) (bits h % (mask + 1)) (bits h)
        pure (owner.setIfInBounds j (some k), k + 1)) (some (owner, k)) hs = some (o', k + hs.length) ∧ o'.size = mask + 1 ∧ List.Perm (owned o') (List.range (k + hs.length))
 := by
  intro hs
  induction hs with
  | nil => exact fun owner k h1 h2 _ => ⟨owner, rfl, h1, h2⟩
  | cons h hs ih =>
    intro owner k h1 h2 h3
    rw [List.length_cons] at h3
    have hlt : (owner.toList.filterMap id).length < owner.toList.length := by
      have := h2.length_eq
      unfold owned at this
      rw [this, List.length_range, Array.length_toList, h1]; omega
    obtain ⟨j₀, hj₀⟩ := some_none _ hlt
    have hj₀' : owner[j₀]? = some none := by rw [← Array.getElem?_toList]; exact hj₀
    have hj₁ : j₀ ≤ mask := by obtain ⟨q, _⟩ := Array.getElem?_eq_some_iff.mp hj₀'; omega
    obtain ⟨n, n1, n2, e⟩ := reach (i := bits h % (mask + 1)) (p := bits h) hm (Nat.le_of_lt_succ (Nat.mod_lt _ (Nat.succ_pos _))) (bits_lt h) hj₁
    obtain ⟨j, ej, hj⟩ := free_found mask owner h1 (turns mask) n (bits h % (mask + 1)) (bits h) (by unfold turns; omega) (by rw [e]; exact hj₀') (Nat.le_of_lt_succ (Nat.mod_lt _ (Nat.succ_pos _)))
    have hjs : j < owner.size := by obtain ⟨q, _⟩ := Array.getElem?_eq_some_iff.mp hj; exact q
    obtain ⟨o', e1, e2, e3⟩ := ih (owner.setIfInBounds j (some k)) (k + 1) (by rw [Array.size_setIfInBounds]; exact h1) (by
      unfold owned
      rw [Array.toList_setIfInBounds]
      refine (owned_set _ j k (by rw [Array.getElem?_toList]; exact hj)).trans ?_
      rw [List.range_succ]
      exact (List.Perm.cons k h2).trans (List.perm_append_comm (l₁ := [k])) ) (by omega)
    refine ⟨o', ?_, e2, ?_⟩
    · rw [List.foldl_cons]
      have : (do
        let (owner, k) ← (some (owner, k) : Option (Array (Option Nat) × Nat))
        let j ← SetTable.layClean.free mask owner (turns mask) (bits h % (mask + 1)) (bits h)
        pure (owner.setIfInBounds j (some k), k + 1)) = some (owner.setIfInBounds j (some k), k + 1) := by
        show (SetTable.layClean.free mask owner (turns mask) (bits h % (mask + 1)) (bits h)).bind _ = _
        rw [ej]; rfl
      rw [this, e1, List.length_cons, show k + 1 + hs.length = k + (hs.length + 1) by omega]
    · rw [List.length_cons, show k + (hs.length + 1) = k + 1 + hs.length by omega]; exact e3

theorem toList_range (o : Array (Option Nat)) : o.toList = (List.range o.size).map fun j => o.getD j none := by
  refine List.ext_getElem (by simp) fun n h1 h2 => ?_
  have hn : n < o.size := by simpa using h1
  rw [List.getElem_map, List.getElem_range, Array.getElem_toList, Array.getD, dif_pos hn]; rfl
theorem laid_ok {mask : Nat} (hm : mask = 7 ∨ mask = 31) (finger moves : Nat) (led plain : Bool) (hs : Array Int) (hlen : hs.size ≤ mask) :
    ∃ t' order, SetTable.laid mask finger moves led plain hs = some (t', order) ∧ t'.mask = mask ∧ t'.place.size = hs.size ∧ t'.dummies = #[] ∧ t'.finger = finger ∧ t'.led = led ∧ t'.plain = plain ∧ List.Perm order.toList (List.range hs.size) := by
  obtain ⟨o', e1, e2, e3⟩ := lay_fold mask hm hs.toList (Array.replicate (mask + 1) none) 0 (by simp) (by
    unfold owned
    rw [Array.toList_replicate]
    have : ∀ n, (List.replicate n (none : Option Nat)).filterMap id = [] := fun n => by induction n with
      | zero => rfl
      | succ n ih => rw [List.replicate_succ]; simpa using ih
    rw [this]; simp) (by rw [Array.length_toList]; omega)
  rw [Nat.zero_add, Array.length_toList] at e1 e3
  have hclean : SetTable.layClean mask hs = some o' := by
    unfold SetTable.layClean
    rw [← Array.foldl_toList, e1]; rfl
  have hlive : ((List.range (mask + 1)).filterMap fun j => (o'.getD j none).map (j, ·)).map (·.2) = owned o' := by
    unfold owned
    rw [toList_range, List.filterMap_map, List.map_filterMap, e2]
    congr 1
    funext j
    show Option.map _ (Option.map _ (o'.getD j none)) = id (o'.getD j none)
    generalize o'.getD j none = q
    cases q <;> rfl
  have hl2 : ((List.range (mask + 1)).filterMap fun j => (o'.getD j none).map (j, ·)).length = hs.size := by
    have := congrArg List.length hlive
    rw [List.length_map, e3.length_eq, List.length_range] at this; exact this
  generalize hq : (List.range (mask + 1)).filterMap (fun j => (o'.getD j none).map (j, ·)) = live at hlive hl2
  refine ⟨{ mask, place := (live.map (·.1)).toArray, dummies := #[], finger, led, moves, plain }, (live.map (·.2)).toArray, ?_, rfl, ?_, rfl, rfl, rfl, rfl, ?_⟩
  · unfold SetTable.laid
    rw [hclean]
    show some _ = _
    rw [hq]
  · simpa using hl2
  · show List.Perm (List.map (fun (x : Nat × Nat) => x.2) live) _
    rw [hlive]; exact e3
theorem relaid_ok {t : SetTable} (hm : t.mask = 7) (hs : Array Int) (hlen : hs.size = 5) :
    ∃ t' order, t.relaid hs (SetTable.grown 5) = some (t', order) ∧ t'.mask = 31 ∧ t'.place.size = 5 ∧ t'.dummies = #[] ∧ t'.finger = t.finger ∧ t'.led = t.led ∧ t'.plain = t.plain ∧ List.Perm order.toList (List.range 5) := by
  have h1 : SetTable.sizeAbove (SetTable.grown 5) - 1 = 31 := by decide +kernel
  unfold SetTable.relaid
  rw [h1]
  obtain ⟨t', o, h⟩ := laid_ok (mask := 31) (.inr rfl) t.finger (t.movedTo 31) t.led t.plain hs (by omega)
  rw [hlen] at h
  exact ⟨t', o, h⟩
/-- the elements in the order of a relay -/
theorem reorder_ok {α : Type} (es : Array α) (order : Array Nat) (h : List.Perm order.toList (List.range es.size)) : (order.filterMap (es[·]?)).size = es.size ∧ List.Perm (order.filterMap (es[·]?)).toList es.toList := by
  have e : (List.range es.size).filterMap (fun (i : Nat) => es[i]?) = es.toList := by
    have : (fun (i : Nat) => es[i]?) = fun (i : Nat) => es.toList[i]? := by funext i; simp
    rw [this]
    have key : ∀ l : List α, (List.range l.length).filterMap (fun (i : Nat) => l[i]?) = l := fun l => by
      induction l with
      | nil => rfl
      | cons x l ih =>
        rw [List.length_cons, List.range_succ_eq_map, List.filterMap_cons, List.filterMap_map]
        simp only [List.getElem?_cons_zero]
        congr 1
    simpa using key es.toList
  have p : List.Perm (order.filterMap (es[·]?)).toList es.toList := by
    rw [Array.toList_filterMap, ← e]
    exact h.filterMap _
  exact ⟨by rw [← Array.length_toList, p.length_eq, Array.length_toList], p⟩
end Mine

namespace Mine

inductive SV : List Value → List Str → Prop
  | nil : SV [] []
  | cons {vs : List Value} {ys : List Str} (x : Str) (t : Tok) : SV vs ys → SV (.str x t :: vs) (x :: ys)
theorem RVs.strs {X : Fix} {I : Led} {R : List Addr} : ∀ {ys : List Str} {vs : List Value}, RVs X I R vs (ys.map .str) → SV vs ys := by
  intro ys
  induction ys with
  | nil => intro vs h; replace h := RVs.inv h; obtain rfl := h; exact .nil
  | cons y r ih =>
    intro vs h
    replace h := RVs.inv h; obtain ⟨_, _, rfl, h1, h2⟩ := h
    replace h1 := RV.inv h1; obtain ⟨_, rfl⟩ := h1
    exact .cons _ _ (ih h2)

/-- a pair in the heap -/
structure PairAt (h : Heap) (v : Value) (p : List Str × Int) : Prop where
  at_ : ∃ a b t vs, v = .ref a ∧ h.get? a = some { cls := .type "tuple", data := .seq [.ref b, .int p.2 t].toArray } ∧ h.get? b = some { cls := .type "tuple", data := .seq vs.toArray } ∧ SV vs p.1
theorem pair_at {X : Fix} {I : Led} {R : List Addr} {h : Heap} (hg : ∀ p ∈ I, h.get? p.1 = some p.2) {v : Value} {p : List Str × Int} (r : RV X I R v (pv p)) : PairAt h v p := by
  unfold pv at r
  replace r := RV.inv r; obtain ⟨_, _, rfl, hI, hr⟩ := r
  replace hr := RVs.inv hr; obtain ⟨_, _, rfl, h1, h2⟩ := hr; replace h2 := RVs.inv h2; obtain ⟨_, _, rfl, h3, h4⟩ := h2
  replace h4 := RVs.inv h4; obtain rfl := h4
  replace h3 := RV.inv h3; obtain ⟨_, rfl⟩ := h3
  replace h1 := RV.inv h1; obtain ⟨_, _, rfl, hJ, hs⟩ := h1
  exact ⟨_, _, _, _, rfl, hg _ hI, hg _ hJ, hs.strs⟩

def okP (p : List Str × Int) : Prop := p.1 ≠ [] ∧ ∀ x ∈ p.1, PyData.canLay0 (.str x) = true
def dp (p : List Str × Int) : PyData := .tuple [.tuple (p.1.map .str), .int p.2]
def wp_ (p : List Str × Int) : WData := .tuple [.tuple (p.1.map .str), .int p.2]

theorem SV.reads {h : Heap} {vs : List Value} {ys : List Str} (r : SV vs ys) : ReadsAll h vs (ys.map .str) [] := by
  induction r with
  | nil => exact .nil
  | cons x t _ ih => exact ReadsAll.cons (Reads.str (h := h) x t) ih
theorem PairAt.reads {h : Heap} {v : Value} {p : List Str × Int} (x : PairAt h v p) : Reads h v (dp p) [] := by
  obtain ⟨a, b, t, vs, rfl, h1, h2, h3⟩ := x.at_
  have r1 : Reads h (.ref b) (.tuple (p.1.map .str)) [] := .tuple h2 rfl rfl h3.reads
  have r2 : ReadsAll h [.ref b, .int p.2 t] [.tuple (p.1.map .str), .int p.2] [] := .cons r1 (.cons (.int p.2 t) .nil)
  exact .tuple h1 rfl rfl r2
theorem SV.well {P : Params} {h : Heap} {vs : List Value} {ys : List Str} (r : SV vs ys) : WellAll P h vs (ys.map .str) := by
  induction r with
  | nil => exact .nil
  | cons x t _ ih => exact .cons (.str x t) ih
theorem PairAt.well {P : Params} {h : Heap} {v : Value} {p : List Str × Int} (x : PairAt h v p) : Well P h v (wp_ p) := by
  obtain ⟨a, b, t, vs, rfl, h1, h2, h3⟩ := x.at_
  exact .tuple h1 (.cons (.tuple h2 h3.well) (.cons (.int p.2 t) .nil))

theorem noMix_strs : ∀ a b : List Str, SeqAt.noMixAll (a.map .str) (b.map .str) = true
  | [], [] | [], _ :: _ | _ :: _, [] => by simp [SeqAt.noMixAll]
  | x :: r, y :: q => by rw [List.map_cons, List.map_cons, SeqAt.noMixAll, noMix_strs r q]; rfl
theorem can_strs : ∀ a : List Str, (∀ x ∈ a, PyData.canLay0 (.str x) = true) → PyData.canLayAll0 (a.map .str) = true
  | [], _ => rfl
  | x :: r, h => by
    rw [List.map_cons]; unfold PyData.canLayAll0
    rw [h x (.head _), can_strs r fun y hy => h y (.tail _ hy)]; rfl
theorem can_dp {p : List Str × Int} (h : okP p) : (dp p).canLay0 = true := by
  show PyData.canLayAll0 [.tuple (p.1.map .str), .int p.2] = true
  unfold PyData.canLayAll0 PyData.canLayAll0 PyData.canLayAll0
  have : PyData.canLay0 (.tuple (p.1.map .str)) = true := can_strs p.1 h.2
  rw [this]; rfl
theorem depth_strs (a : List Str) : PyData.depthAll (a.map .str) = 0 := by
  refine Nat.le_zero.mp (depthAll_le fun d hd => ?_)
  obtain ⟨x, _, rfl⟩ := List.mem_map.mp hd
  exact Nat.le_refl 0
theorem depth_dp (p : List Str × Int) : (dp p).depth ≤ 2 := by
  show PyData.depthAll [.tuple (p.1.map .str), .int p.2] + 1 ≤ 2
  refine Nat.succ_le_succ (depthAll_le fun d hd => ?_)
  rcases List.mem_cons.mp hd with rfl | hd
  · show PyData.depthAll (p.1.map .str) + 1 ≤ 1
    rw [depth_strs]; exact Nat.le_refl 1
  · rw [List.mem_singleton.mp hd]; exact Nat.zero_le _
theorem str_inj : ∀ {a b : List Str}, a.map PyData.str = b.map PyData.str → a = b
  | [], [], _ => rfl
  | [], _ :: _, h => by cases h
  | _ :: _, [], h => by cases h
  | x :: r, y :: q, h => by
    rw [List.map_cons, List.map_cons] at h
    injection h with h1 h2
    injection h1 with h1
    rw [h1, str_inj h2]
theorem dp_inj {p q : List Str × Int} (h : dp p = dp q) : p = q := by
  unfold dp at h
  injection h with h
  injection h with h1 h2
  injection h1 with h1
  injection h2 with h2 h3
  injection h2 with h2
  exact Prod.ext (str_inj h1) h2

section
variable {prog : Program} {w : World} {A : Around} {E : Value → Shared → Prop} {s : Shared}

theorem pair_eq {x y : Value} {p q : List Str × Int} {Q : Bool → Shared → Prop} (hy : PairAt s.heap y q) (hx : PairAt s.heap x p) (ho : okP p) (hq : okP q) (hu : A.units + 8 < cLine)
    (h : ∀ b, (b = true → q = p) → Q b s) : wpAny (model prog w) A (eqBool y x) Q E s := by
  have e := SeqAt.eqAt_reads (dp q) (dp p) A s y x _ _ hy.reads hx.reads (can_dp hq) (can_dp ho) (by have := depth_dp p; have := Nat.min_le_right (dp q).depth (dp p).depth; omega)
  refine e prog w E Q (h _ fun hb => ?_)
  have hm : SeqAt.noMix (dp q) (dp p) = true := by
    show SeqAt.noMixAll [.tuple (q.1.map .str), .int q.2] [.tuple (p.1.map .str), .int p.2] = true
    have : SeqAt.noMix (.tuple (q.1.map .str)) (.tuple (p.1.map .str)) = true := by
      show SeqAt.noMixAll _ _ = true; exact noMix_strs _ _
    simp only [SeqAt.noMixAll, this]; rfl
  rw [← SeqAt.same_eq_eqv _ _ hm] at hb
  exact dp_inj (same_iff.mp hb)

theorem dk_strs : ∀ a : List Str, WData.areDKeys (a.map .str) = true
  | [] => rfl
  | x :: r => by
    rw [List.map_cons]; unfold WData.areDKeys
    rw [dk_strs r]; rfl
theorem wdepth_strs : ∀ a : List Str, WData.depthAll (a.map .str) = 0
  | [] => rfl
  | x :: r => by
    rw [List.map_cons]; unfold WData.depthAll
    rw [wdepth_strs r]; rfl
theorem pair_hash {x : Value} {p : List Str × Int} {Q : Int → Shared → Prop} (hx : PairAt s.heap x p) (hu : A.units + 8 < cLine) (h : ∀ tk, Q (hashW w.params (wp_ p)) { s with toks := tk }) : wpAny (model prog w) A (pyHash x) Q E s := by
  refine pyHash_laid (wp_ p) x A s Q ?_ hx.well ?_ h
  · show WData.areDKeys [.tuple (p.1.map .str), .int p.2] = true
    have : WData.isDKey (.tuple (p.1.map .str)) = true := dk_strs p.1
    simp only [WData.areDKeys, this]; rfl
  · have : (wp_ p).depth ≤ 2 := by
      show WData.depthAll [.tuple (p.1.map .str), .int p.2] + 1 ≤ 2
      simp only [WData.depthAll, WData.depth, wdepth_strs]; decide
    omega

theorem quiet_tuple {n : Nat} {a : Addr} {items : Array Value} {Q : Bool → Shared → Prop} (ho : s.heap.get? a = some { cls := .type "tuple", data := .seq items })
    (hall : ∀ v ∈ items.toList, ∀ Q : Bool → Shared → Prop, Q true s → wpAny (model prog w) A (eqIsQuiet n v) Q E s) (h : Q true s) : wpAny (model prog w) A (eqIsQuiet (n + 1) (.ref a)) Q E s := by
  have hT : s.TypeIs (.ref a) "tuple" := ⟨_, ho, rfl⟩
  unfold eqIsQuiet
  refine wpAny_bind (wpAny_specialOf hT F.slot_tuple_eq.lookup ?_)
  show wpAny _ _ (isInstance (.ref a) (.type "tuple") >>= _) _ _ s
  refine wpAny_bind (wpAny_isInstance hT isSubtype_tuple_tuple ?_)
  simp only [Bool.not_true, Bool.false_eq_true, if_false]
  refine wpAny_bind (wpAny_seqItems ho rfl ?_)
  refine wpAny_bind ?_
  show wpAny _ _ (forIn items _ _) _ _ s
  rw [← Array.forIn_toList]
  refine wpAny_forIn_list _ (fun rest r s' => r.1 = none ∧ s' = s ∧ ∀ v ∈ rest, ∀ Q : Bool → Shared → Prop, Q true s → wpAny (model prog w) A (eqIsQuiet n v) Q E s) _ ?_ ?_ _ _ ⟨rfl, rfl, hall⟩
  · rintro v rest r s' ⟨hr, rfl, hall⟩
    refine wpAny_bind (hall v List.mem_cons_self _ ?_)
    simp only [Bool.not_true, Bool.false_eq_true, if_false]
    exact wpAny_pure ⟨rfl, rfl, fun u hu' => hall u (List.mem_cons_of_mem _ hu')⟩
  · rintro ⟨r1, r2⟩ s' ⟨hr, rfl, _⟩
    simp only at hr
    subst hr
    exact wpAny_pure h
theorem SV.quiet {n : Nat} : ∀ {vs : List Value} {ys : List Str}, SV vs ys → ∀ v ∈ vs, ∀ Q : Bool → Shared → Prop, Q true s → wpAny (model prog w) A (eqIsQuiet n v) Q E s
  | _, _, .nil, v, hv => by cases hv
  | _, _, .cons x t r, v, hv => by
    rcases List.mem_cons.mp hv with rfl | hv
    · intro Q h; rw [eqIsQuiet_byValue n (v := .str x t) rfl]; exact wpAny_pure h
    · exact r.quiet v hv
theorem pair_quiet {x : Value} {p : List Str × Int} {Q : Bool → Shared → Prop} (hx : PairAt s.heap x p) (h : Q true s) : wpAny (model prog w) A (eqIsQuiet 8 x) Q E s := by
  obtain ⟨a, b, t, vs, rfl, h1, h2, h3⟩ := hx.at_
  refine quiet_tuple h1 (fun v hv => ?_) h
  rcases List.mem_cons.mp hv with rfl | hv
  · intro Q h; exact quiet_tuple h2 (fun v hv => h3.quiet v hv) h
  · rw [List.mem_singleton.mp hv]
    intro Q h; rw [eqIsQuiet_byValue _ (v := .int p.2 t) rfl]; exact wpAny_pure h

theorem cls_tuple {n : Nat} {a : Addr} {items : Array Value} {Q : Bool → Shared → Prop} (ho : s.heap.get? a = some { cls := .type "tuple", data := .seq items })
    (hall : ∀ v ∈ items.toList, ∀ Q : Bool → Shared → Prop, Q false s → wpAny (model prog w) A (ofAClassStatement n v) Q E s) (h : Q false s) : wpAny (model prog w) A (ofAClassStatement (n + 1) (.ref a)) Q E s := by
  have hT : s.TypeIs (.ref a) "tuple" := ⟨_, ho, rfl⟩
  unfold ofAClassStatement
  refine wpAny_bind (wpAny_typeOf hT ?_)
  dsimp only
  rw [if_pos (by decide)]
  refine wpAny_bind (wpAny_pure ?_)
  simp only [Bool.not_true, Bool.false_eq_true, if_false]
  refine wpAny_bind (wpAny_seqItems ho rfl ?_)
  dsimp only
  refine wpAny_bind ?_
  rw [← Array.forIn_toList]
  refine wpAny_forIn_list _ (fun rest r s' => r.1 = none ∧ s' = s ∧ ∀ v ∈ rest, ∀ Q : Bool → Shared → Prop, Q false s → wpAny (model prog w) A (ofAClassStatement n v) Q E s) _ ?_ ?_ _ _ ⟨rfl, rfl, hall⟩
  · rintro v rest r s' ⟨hr, rfl, hall⟩
    refine wpAny_bind (hall v List.mem_cons_self _ ?_)
    simp only [Bool.false_eq_true, if_false]
    exact wpAny_pure ⟨rfl, rfl, fun u hu' => hall u (List.mem_cons_of_mem _ hu')⟩
  · rintro ⟨r1, r2⟩ s' ⟨hr, rfl, _⟩
    simp only at hr
    subst hr
    exact wpAny_pure h
theorem SV.cls {n : Nat} : ∀ {vs : List Value} {ys : List Str}, SV vs ys → ∀ v ∈ vs, ∀ Q : Bool → Shared → Prop, Q false s → wpAny (model prog w) A (ofAClassStatement n v) Q E s
  | _, _, .nil, v, hv => by cases hv
  | _, _, .cons x t r, v, hv => by
    rcases List.mem_cons.mp hv with rfl | hv
    · intro Q h; unfold ofAClassStatement; exact wpAny_pure h
    · exact r.cls v hv
theorem pair_cls {x : Value} {p : List Str × Int} {Q : Bool → Shared → Prop} (hx : PairAt s.heap x p) (h : Q false s) : wpAny (model prog w) A (ofAClassStatement 8 x) Q E s := by
  obtain ⟨a, b, t, vs, rfl, h1, h2, h3⟩ := hx.at_
  refine cls_tuple h1 (fun v hv => ?_) h
  rcases List.mem_cons.mp hv with rfl | hv
  · intro Q h; exact cls_tuple h2 (fun v hv => h3.cls v hv) h
  · rw [List.mem_singleton.mp hv]
    intro Q h; unfold ofAClassStatement; exact wpAny_pure h

/-- the search is not to be seen -/
theorem pair_unseen {x : Value} {p : List Str × Int} {Q : Bool → Shared → Prop} (hx : PairAt s.heap x p) (h : Q false s) : ∀ (ys : List Value), (∀ y ∈ ys, ∃ q, PairAt s.heap y q) → wpAny (model prog w) A (searchCouldBeSeen x ys) Q E s := by
  intro ys hys
  unfold searchCouldBeSeen
  refine wpAny_bind ?_
  refine wpAny_forIn_list _ (fun rest r s' => r.1 = none ∧ s' = s ∧ ∀ y ∈ rest, ∃ q, PairAt s.heap y q) _ ?_ ?_ _ _ ⟨rfl, rfl, hys⟩
  · rintro y rest r s' ⟨hr, rfl, hall⟩
    obtain ⟨q, hy⟩ := hall y List.mem_cons_self
    obtain ⟨ax, _, _, _, ex, _⟩ := hx.at_
    obtain ⟨ay, _, _, _, ey, _⟩ := hy.at_
    subst ex; subst ey
    dsimp only
    split
    · exact wpAny_pure ⟨rfl, rfl, fun u hu' => hall u (List.mem_cons_of_mem _ hu')⟩
    · refine wpAny_bind (pair_quiet hx ?_)
      simp only [Bool.not_true, Bool.false_eq_true, if_false]
      refine wpAny_bind (pair_quiet hy ?_)
      simp only [Bool.not_true, Bool.false_eq_true, if_false]
      refine wpAny_bind (pair_cls hx ?_)
      simp only [Bool.false_eq_true, if_false]
      refine wpAny_bind (pair_cls hy ?_)
      simp only [Bool.false_eq_true, if_false]
      exact wpAny_pure ⟨rfl, rfl, fun u hu' => hall u (List.mem_cons_of_mem _ hu')⟩
  · rintro ⟨r1, r2⟩ s' ⟨hr, rfl, _⟩
    simp only at hr
    subst hr
    exact wpAny_pure h

theorem byValue_tuple {n : Nat} {a : Addr} {v : Value} {items : List Value} {Q : Bool → Shared → Prop} (ho : s.heap.get? a = some { cls := .type "tuple", data := .seq (v :: items).toArray })
    (h : wpAny (model prog w) A (hashByValue n v) (fun b s' => b = false ∧ Q false s') E s) : wpAny (model prog w) A (hashByValue (n + 1) (.ref a)) Q E s := by
  have hT : s.TypeIs (.ref a) "tuple" := ⟨_, ho, rfl⟩
  unfold hashByValue
  refine wpAny_bind (wpAny_specialOf hT F.slot_tuple_hash.lookup ?_)
  refine wpAny_bind (wpAny_seqItems ho rfl ?_)
  refine wpAny_bind ?_
  rw [← Array.forIn_toList]
  show wpAny _ _ (forIn (v :: items) _ _) _ _ s
  rw [List.forIn_cons]
  refine wpAny_bind (wpAny_bind (wpAny_mono h (fun b s' hb => ?_) fun _ _ e => e))
  obtain ⟨rfl, hq⟩ := hb
  simp only [Bool.not_false, if_true]
  exact wpAny_pure (wpAny_pure (wpAny_pure hq))
theorem pair_byValue {x : Value} {p : List Str × Int} {Q : Bool → Shared → Prop} (hx : PairAt s.heap x p) (hp : okP p) (h : Q false s) : wpAny (model prog w) A (hashByValue 8 x) Q E s := by
  obtain ⟨a, b, t, vs, rfl, h1, h2, h3⟩ := hx.at_
  refine byValue_tuple h1 ?_
  generalize hk : p.1 = ks at h3
  cases h3 with
  | nil => exact absurd hk hp.1
  | cons y u r =>
    refine byValue_tuple h2 ?_
    unfold hashByValue
    exact wpAny_pure ⟨rfl, rfl, h⟩

theorem probe_found {t : SetTable} {hashAt : Nat → Int} {h : Int} {p : SetTable.Probe} {o : Option SetTable.Met} (hP : t.probe hashAt h p = o) (hd : t.dummies = #[]) {k : Nat} (hk : k < 10 * SetTable.turns t.mask) (he : t.slot (advN t k p).j = .empty) (hp : p.dummy = none) :
    (∃ j, o = some (.empty j none)) ∨ ∃ j i k', k' < k ∧ o = some (.candidate j i (advN t (k' + 1) p)) ∧ t.slot j = .live i ∧ i < t.place.size ∧ hashAt i = h := by
  have := go_found t hashAt h hd (10 * SetTable.turns t.mask) k p hk he hp
  subst hP
  exact this
theorem advN_dummy (t : SetTable) : ∀ (n : Nat) (p : SetTable.Probe), (advN t n p).dummy = p.dummy
  | 0, p => rfl
  | n + 1, p => (advN_dummy t n _).trans (adv_dummy t p)

theorem TsetOk.fits {es : Array (Int × Value)} {t : SetTable} (h : TsetOk w es t) : t.fits es.size = true := by
  have h1 := h.room
  have h2 : t.fill = es.size := by unfold SetTable.fill; rw [h.place, h.dum]; rfl
  unfold SetTable.fits
  rw [h2, h.place, beq_self_eq_true, Bool.true_and, decide_eq_true_eq]
  omega
theorem isSame_self {y : Value} {q : List Str × Int} {Q : Bool → Shared → Prop} (hy : PairAt s.heap y q) (h : Q true s) : wpAny (model prog w) A (isSame y y) Q E s := by
  obtain ⟨a, b, t, vs, rfl, _⟩ := hy.at_
  unfold isSame
  dsimp only
  rw [if_pos (beq_self_eq_true a)]
  exact wpAny_pure h
theorem search_ok {a : Addr} {ep : Nat} {es : Array (Int × Value)} {t : SetTable} {x : Value} {p : List Str × Int} {h : Int} (ho : s.heap.get? a = some { cls := .type "set", data := .set es ep t }) (hT : TsetOk w es t)
    (hes : ∀ e ∈ es.toList, ∃ q, okP q ∧ PairAt s.heap e.2 q) (hx : PairAt s.heap x p) (hp : okP p) (hu : A.units + 8 < cLine) {Q : SetFound → Shared → Prop} (hfree : ∀ j, Q (.free j false) s)
    (hthere : (∃ e ∈ es.toList, PairAt s.heap e.2 p) → Q (.there none) s) :
    ∀ (k fuel : Nat) (stand : Option SetTable.Probe), k < fuel → k < 10 * SetTable.turns t.mask → t.slot (advN t k (stand.getD (t.probeStart h))).j = .empty → (stand.getD (t.probeStart h)).dummy = none →
      wpAny (model prog w) A (setSearchFrom a x h true fuel stand) Q E s := by
  intro k
  induction k using Nat.strongRecOn with
  | _ k ih =>
  intro fuel stand hf hk he hpd
  cases fuel with
  | zero => omega
  | succ fuel =>
  unfold setSearchFrom
  refine wpAny_bind (wpAny_setState_of ho rfl hT.fits ?_)
  dsimp only
  rw [if_neg (by unfold SetTable.gaveWay; rcases hT.mask with e | e <;> rw [e] <;> decide)]
  generalize hP : t.probe _ h _ = o
  rcases probe_found hP hT.dum hk he hpd with ⟨j, e⟩ | ⟨j, i, k', hk', e, hs, hi, hh⟩
  · subst e
    dsimp only
    exact wpAny_pure (hfree j)
  · subst e
    dsimp only
    have hi' : i < es.size := by rw [← hT.place]; exact hi
    have hget : es[i]? = some es[i] := Array.getElem?_eq_getElem hi'
    have hmem : es[i] ∈ es.toList := by simp
    obtain ⟨q, hq, hy⟩ := hes _ hmem
    generalize es[i] = e at *
    obtain ⟨eh, y⟩ := e
    rw [hget]
    have hsame : t.sameMemory t.moves t.mask = some true := by unfold SetTable.sameMemory; rw [if_pos (beq_self_eq_true _)]
    split
    · refine wpAny_bind (pair_unseen hx ?_ _ fun y' hy' => ?_)
      · simp only [Bool.false_eq_true, if_false]
        refine wpAny_bind (wpAny_holding (pair_eq hy hx hp hq hu fun b hb => ?_))
        refine wpAny_bind (wpAny_setState_of ho rfl hT.fits ?_)
        cases b with
        | true =>
          simp only [Bool.and_self, if_true]
          exact wpAny_pure (hthere ⟨_, hmem, by rw [← hb rfl]; exact hy⟩)
        | false =>
          simp only [Bool.and_false, Bool.false_eq_true, if_false]
          rw [hsame]
          dsimp only
          rw [if_pos rfl, hs]
          dsimp only
          rw [hget]
          dsimp only
          refine wpAny_bind (isSame_self hy ?_)
          refine wpAny_bind (wpAny_pure ?_)
          simp only [if_true]
          exact ih (k - (k' + 1)) (by omega) fuel (some _) (by omega) (by omega) (by
            show t.slot (advN t (k - (k' + 1)) (advN t (k' + 1) (stand.getD (t.probeStart h)))).j = _
            rw [← advN_add, show k' + 1 + (k - (k' + 1)) = k by omega]; exact he) (by
            show (advN t (k' + 1) (stand.getD (t.probeStart h))).dummy = none
            rw [advN_dummy]; exact hpd)
      · obtain ⟨e, he', rfl⟩ := List.mem_map.mp hy'
        have : e ∈ es.toList := by
          have := Array.mem_toList_iff.mp he'
          exact Array.mem_toList_iff.mpr (Array.mem_filter.mp this).1
        obtain ⟨q', _, h'⟩ := hes e this
        exact ⟨q', h'⟩
    · refine wpAny_bind (wpAny_holding (pair_eq hy hx hp hq hu fun b hb => ?_))
      refine wpAny_bind (wpAny_setState_of ho rfl hT.fits ?_)
      cases b with
      | true =>
        simp only [Bool.and_self, if_true]
        exact wpAny_pure (hthere ⟨_, hmem, by rw [← hb rfl]; exact hy⟩)
      | false =>
        simp only [Bool.and_false, Bool.false_eq_true, if_false]
        rw [hsame]
        dsimp only
        rw [if_pos rfl, hs]
        dsimp only
        rw [hget]
        dsimp only
        refine wpAny_bind (isSame_self hy ?_)
        refine wpAny_bind (wpAny_pure ?_)
        simp only [if_true]
        exact ih (k - (k' + 1)) (by omega) fuel (some _) (by omega) (by omega) (by
          show t.slot (advN t (k - (k' + 1)) (advN t (k' + 1) (stand.getD (t.probeStart h)))).j = _
          rw [← advN_add, show k' + 1 + (k - (k' + 1)) = k by omega]; exact he) (by
          show (advN t (k' + 1) (stand.getD (t.probeStart h))).dummy = none
          rw [advN_dummy]; exact hpd)

theorem insert_ok {α : Type} (es : Array α) (p : Nat) (x : α) : (SetTable.insertAt es p x).size = es.size + 1 ∧ ∀ e, e ∈ (SetTable.insertAt es p x).toList ↔ e = x ∨ e ∈ es.toList := by
  have e1 : (SetTable.insertAt es p x).toList = es.toList.take p ++ x :: es.toList.drop p := SetTable.toList_insertAt es p x
  constructor
  · rw [← Array.length_toList, e1, List.length_append, List.length_cons, List.length_take, List.length_drop, Array.length_toList]; omega
  · intro e
    rw [e1, List.mem_append, List.mem_cons]
    constructor
    · rintro (h | h | h)
      · exact .inr (List.mem_of_mem_take h)
      · exact .inl h
      · exact .inr (List.mem_of_mem_drop h)
    · rintro (h | h)
      · exact .inr (.inl h)
      · rw [← List.take_append_drop p es.toList, List.mem_append] at h
        rcases h with h | h
        · exact .inl h
        · exact .inr (.inr h)
theorem put_ok {t : SetTable} (hd : t.dummies = #[]) (j : Nat) : (t.put j).1.place.size = t.place.size + 1 ∧ (t.put j).1.dummies = #[] ∧ (t.put j).1.mask = t.mask ∧ (t.put j).1.led = t.led ∧ (t.put j).1.finger = t.finger ∧ (t.put j).1.plain = t.plain := by
  refine ⟨(insert_ok _ _ _).1, ?_, rfl, rfl, rfl, rfl⟩
  unfold SetTable.put
  dsimp only
  rw [hd]; rfl
theorem put_set {h : Heap} {a : Addr} {es es' : Array (Int × Value)} {ep : Nat} {t t' : SetTable} (ho : h.get? a = some { cls := .type "set", data := .set es ep t }) :
    (h.update a (Obj.putSet es' t')).get? a = some { cls := .type "set", data := .set es' (ep + 1) t' } := by
  have := Heap.get?_update_self (Obj.putSet es' t') ho (by rw [putSet_of es' t' rfl]; rfl)
  rw [putSet_of es' t' rfl] at this; exact this

theorem add_ok {a : Addr} {ep : Nat} {es : Array (Int × Value)} {t : SetTable} {x : Value} {p : List Str × Int} (ho : s.heap.get? a = some { cls := .type "set", data := .set es ep t }) (hT : TsetOk w es t)
    (hes : ∀ e ∈ es.toList, ∃ q, okP q ∧ PairAt s.heap e.2 q) (hx : PairAt s.heap x p) (hp : okP p) (hu : A.units + 8 < cLine) (hlen : es.size ≤ 17) {Q : Bool → Shared → Prop}
    (hthere : (∃ e ∈ es.toList, PairAt s.heap e.2 p) → ∀ tk, Q false { s with toks := tk })
    (hnew : ∀ h' tk es' ep' t', Heap.SameBut a s.heap h' → h'.get? a = some { cls := .type "set", data := .set es' ep' t' } → TsetOk w es' t' → es'.size = es.size + 1 → (∀ e, e ∈ es'.toList ↔ e = (hashW w.params (wp_ p), x) ∨ e ∈ es.toList) → Q true { s with heap := h', toks := tk }) :
    wpAny (model prog w) A (setAdd a x) Q E s := by
  unfold setAdd
  refine wpAny_holding (wpAny_bind (pair_hash hx hu fun tk => ?_))
  unfold setAddHashed
  refine wpAny_holding ?_
  unfold setAddHashedIn
  refine wpAny_bind (wpAny_setState_of (s := { s with toks := tk }) ho rfl hT.fits ?_)
  dsimp only
  rw [if_neg (by obtain ⟨b, _, _, _, rfl, _⟩ := hx.at_; simp [byScan, Value.scannable])]
  obtain ⟨k, hk, he⟩ := start_near hT.mask hT.dum (by have := hT.room; have := hT.place; omega) (hashW w.params (wp_ p))
  have hk2 : 10 * SetTable.turns t.mask < 100000 := by unfold SetTable.turns; rcases hT.mask with e | e <;> rw [e] <;> decide
  unfold setSearch
  refine wpAny_bind (search_ok (s := { s with toks := tk }) ho hT hes hx hp hu (fun j => ?_) (fun hth => wpAny_pure (hthere hth tk)) k 100000 none (by omega) hk he rfl)
  refine wpAny_bind (wpAny_setState_of (s := { s with toks := tk }) ho rfl hT.fits ?_)
  dsimp only
  obtain ⟨q1, q2, q3, q4, q5, q6⟩ := put_ok hT.dum j
  generalize (t.put j).2 = pp
  generalize (t.put j).1 = t₁ at *
  obtain ⟨i1, i2⟩ := insert_ok es pp (hashW w.params (wp_ p), x)
  generalize SetTable.insertAt es pp (hashW w.params (wp_ p), x) = es₁ at *
  have rest : ∀ t₂ : SetTable, t₂.place.size = es₁.size → t₂.dummies = #[] → t₂.mask = t.mask → t₂.led = t.led → t₂.finger = t.finger → t₂.plain = false →
      wpAny (model prog w) A (do
        storeSet a es₁ t₂
        if (!false && t₂.tooFull) = true then do
            setRelay a (SetTable.grown (es.size + 1))
            pure true
          else pure true) Q E { s with toks := tk } := by
    intro t₂ r1 r2 r3 r4 r5 r6
    refine wpAny_bind (wpAny_storeSet_of (s := { s with toks := tk }) ho rfl ?_ (by rw [i1, sizeLine_eq]; omega))
    have ho₁ := put_set (es' := es₁) (t' := t₂) ho
    have hs₁ := Heap.SameBut.update s.heap a (Obj.putSet es₁ t₂)
    have hfill : t₂.fill = es₁.size := by unfold SetTable.fill; rw [r1, r2]; rfl
    split
    · rename_i hfull
      rw [Bool.not_false, Bool.true_and] at hfull
      unfold SetTable.tooFull at hfull
      rw [decide_eq_true_eq, hfill, r3, i1] at hfull
      have hroom := hT.room
      have hm7 : t.mask = 7 := by
        rcases hT.mask with e | e
        · exact e
        · rw [e] at hfull; omega
      have h5 : es.size + 1 = 5 := by rw [hm7] at hfull hroom; omega
      rw [h5]
      unfold setRelay
      have hsz5 : es₁.size = 5 := by rw [i1]; exact h5
      have hfit : t₂.fits es₁.size = true := by
        unfold SetTable.fits
        rw [hfill, r1, beq_self_eq_true, Bool.true_and, decide_eq_true_eq, r3, hm7, hsz5]; decide
      refine wpAny_bind (wpAny_bind (wpAny_setState_of (s := { s with heap := s.heap.update a (Obj.putSet es₁ t₂), toks := tk }) ho₁ rfl hfit ?_))
      dsimp only
      rw [if_neg (by rw [sizeLine_eq]; decide +kernel)]
      obtain ⟨t₃, order, e1, e2, e3, e4, e5, e6, e7, e8⟩ := relaid_ok (t := t₂) (r3.trans hm7) (es₁.map (·.1)) (by rw [Array.size_map]; exact hsz5)
      rw [e1]
      obtain ⟨o1, o2⟩ := reorder_ok es₁ order (by rw [hsz5]; exact e8)
      refine wpAny_bind ?_
      show wpAny _ _ (if ((order.filterMap (es₁[·]?)).size != es₁.size) = true then _ else pure (order.filterMap (es₁[·]?), t₃)) _ _ _
      rw [if_neg (by rw [o1]; simp)]
      refine wpAny_pure ?_
      refine wpAny_storeSet_of (s := { s with heap := s.heap.update a (Obj.putSet es₁ t₂), toks := tk }) ho₁ rfl ?_ (by rw [o1, hsz5, sizeLine_eq]; decide)
      have ho₂ := put_set (es' := order.filterMap (es₁[·]?)) (t' := t₃) ho₁
      refine wpAny_pure (hnew _ tk _ _ t₃ (hs₁.trans (Heap.SameBut.update _ a _)) ho₂ ⟨?_, e4, ?_, .inr e2, ?_, ?_, ?_⟩ ?_ fun e => ?_)
      · rw [e3, o1, hsz5]
      · rw [o1, hsz5, e2]; decide
      · rw [e6, r4]; exact hT.led
      · intro _; rw [e7]; exact r6
      · rw [e5, r5]; exact hT.finger
      · rw [o1]; exact i1
      · exact o2.mem_iff.trans (i2 e)
    · rename_i hfull
      rw [Bool.not_false, Bool.true_and] at hfull
      unfold SetTable.tooFull at hfull
      rw [decide_eq_true_eq, hfill, r3] at hfull
      refine wpAny_pure (hnew _ tk _ _ t₂ hs₁ ho₁ ⟨r1, r2, ?_, by rw [r3]; exact hT.mask, by rw [r4]; exact hT.led, fun _ => r6, by rw [r5]; exact hT.finger⟩ i1 i2)
      rw [r3]; omega
  have hsz : t₁.place.size = es₁.size := by rw [q1, hT.place, i1]
  split
  · refine wpAny_bind (pair_byValue (s := { s with toks := tk }) hx hp ?_)
    simp only [Bool.false_eq_true, if_false]
    exact rest { t₁ with plain := false } hsz q2 q3 q4 q5 rfl
  · rename_i hpl
    refine wpAny_bind (wpAny_pure ?_)
    simp only [if_true]
    exact rest t₁ hsz q2 q3 q4 q5 (by simpa using hpl)
end
end Mine

namespace Mine

section
variable {prog : Program} {w : World} {A : Around} {E : Value → Shared → Prop} {s : Shared}

abbrev newSetObj (w : World) : Obj := { cls := .type "set", dict := none, data := .set #[] 0 (.fresh 0 0 (!byText w)) }
theorem set_new_led {Q₁ : Value → Shared → Prop} (h : Q₁ (.ref s.heap.objs.size) { s with heap := s.heap.push (newSetObj w) }) :
    codeAny (model prog w) A (.call (.builtin "set.__new__") ⟨[.type "set"], []⟩) (wants Q₁ E) s := by
  refine codeAny_of_tree ?_
  show wpAny _ A.in1 (do checkBuiltinCall "set.__new__" ⟨[.type "set"], []⟩; again (.builtin "set.__new__" ⟨[.type "set"], []⟩)) _ _ s
  refine wpAny_bind (wpAny_of_eq F.newCall_set_0 (wpAny_pure ⟨plainId_quiet F.plain_set_new _, codeAny_builtin F.entry_set_new ?_⟩))
  rw [Around.under_plainId F.plain_set_new _]
  unfold Builtin.«set.__new__» Builtin.Frozenset.newClass
  have hsub := sub_set_self
  obtain ⟨hp, g, d, tk, os⟩ := s
  dsimp only
  wp_walk
  refine wpAny_askSetting (wpAny_pure ?_)
  dsimp only
  simp only [newObj]
  exact wpAny_bind (wpAny_alloc (wpAny_pure (wpAny_pure h)))

set_option maxHeartbeats 1000000 in
theorem set_made {Q : Value → Shared → Prop} (h : Q (.ref s.heap.objs.size) { s with heap := s.heap.push (newSetObj w) }) : wpAny (model prog w) A (call (.type "set") []) Q E s := by
  obtain ⟨c, tl, hmro⟩ := F.called_set.mro
  have hmade := F.called_set.made
  have hsub := F.called_set.sub
  refine wpAny_call (codeAny_of_tree ?_)
  show wpAny _ _ (callAny (.type "set") _) _ _ _
  refine wpAny_pure ⟨Code.quiet_builtin _ (by decide +kernel), codeAny_builtin F.entry_type_call ?_⟩
  rw [Around.under_plain (weight_type_call_type "set" [] []) rfl]
  have h1 := F.called_set.notType
  have h2 := F.called_set.canCreate
  have hct := F.typeCall_set_0
  repeat (any_goals (first | assumption | wp_step))
  refine codeAny_mono (set_new_led (E := E) (Q₁ := fun obj s₁ => obj = .ref s.heap.objs.size ∧ s₁ = { s with heap := s.heap.push (newSetObj w) }) ⟨rfl, rfl⟩) fun r s₁ hr => ?_
  cases r with
  | error e => exact hr
  | ok fl =>
    cases fl with
    | ret obj =>
      obtain ⟨rfl, rfl⟩ := hr
      have hS : (s.heap.push (newSetObj w)).get? s.heap.objs.size = some (newSetObj w) := Heap.get?_push_size _ rfl
      have hT : Shared.TypeIs { s with heap := s.heap.push (newSetObj w) } (.ref s.heap.objs.size) "set" := ⟨_, hS, rfl⟩
      have hli := F.called_set.init.lookup
      have hbi := F.called_set.init.bind (.ref s.heap.objs.size)
      repeat (any_goals (first | assumption | wp_step))
      refine codeAny_mono (codeAny_call_builtin (R := wants (fun r s₂ => r = .none ∧ Q (.ref s.heap.objs.size) s₂) E) F.called_set.init.plain F.entry_set_init (check_set_init hT ?_)) fun r₂ s₂ hr₂ => ?_
      · unfold Builtin.«set.__init__» noKeywords
        wp_walk
        exact ⟨rfl, h⟩
      · cases r₂ with
        | error e => exact hr₂
        | ok fl₂ =>
          cases fl₂ with
          | ret r =>
            obtain ⟨rfl, hq⟩ := hr₂
            repeat (any_goals (first | assumption | wp_step))
          | _ => exact hr₂.elim
    | _ => exact hr.elim
end

section
variable {X : Fix} {A : Around} {env : Env} {lo : Lo} {st : Sto} {P : AV → Sto → Prop} {n : Nat}

/-- an empty set of pairs -/
theorem c_tset0 (h : ∀ i, st i = .dead → P (.ref i) (st.set i (.tset []))) : ACallV X n (.type "set") [] [] st P := by
  intro A env lo f m Xc s g hr R vs ks hv hk Q E hQ
  replace hv := RVs.inv hv; obtain rfl := hv; obtain rfl := RKs.inv hk
  refine set_made ?_
  refine hQ _ _ _ _ _ (Gh.le.new g _) (R.new (ao := .tset []) (Nat.le_refl _) (R.F.push _) (R.N.push R.F _) rfl rfl rfl ?_) (.ref (lastR _ _)) (h _ (R.dead (Nat.le_refl _)))
  refine ⟨#[], 0, _, rfl, ⟨rfl, rfl, (show 0 * 5 < 7 * 3 by decide), .inl rfl, rfl, fun e => absurd rfl e, rfl⟩, Nat.le_refl _, (fun p hp => nomatch hp), fun e he => by simp at he⟩

theorem am_tset {name : Str} {id : String} {i : Nat} {ps : List (List Str × Int)} (hi : st i = .tset ps) (slot : Slot "set" name id) (hty : typeOf (.builtin id) = pure (.type "method_descriptor")) : AMeth X A env lo (.ref i) name (.builtin id) st := by
  intro f m Xc s g R v hv pl Q E hQ
  obtain ⟨a, ob, h3, h4, h5, ch⟩ := R.chg (i := i) (by rw [hi]; rfl)
  rw [hi] at h5
  have e := R.refAt hv h3
  subst e
  obtain ⟨es, ep, t, e, _⟩ := h5
  subst e
  refine getMethod_builtin (T := "set") ⟨_, h4, rfl⟩ F.plainAttrs_set slot hty (fun b e => ?_) hQ
  cases e
  exact ⟨_, h4, rfl⟩

theorem t_add {i : Nat} {ps : List (List Str × Int)} {p : List Str × Int} (hi : st i = .tset ps) (hp : okP p) (hps : ∀ q ∈ ps, okP q) (hlen : ps.length ≤ 17) (h : P .none (st.set i (.tset (ps ++ [p])))) :
    ACallV X n (.builtin "set.add") [.ref i, pv p] [] st P := by
  intro A env lo f m Xc s g hr R vs ks hv hk Q E hQ
  obtain ⟨a, ob, h3, h4, h5, ch⟩ := R.chg (i := i) (by rw [hi]; rfl)
  rw [hi] at h5
  obtain rfl := RKs.inv hk
  replace hv := RVs.inv hv; obtain ⟨_, _, rfl, hv, hv'⟩ := hv; replace hv' := RVs.inv hv'; obtain ⟨_, _, rfl, hw, hv'⟩ := hv'
  replace hv' := RVs.inv hv'; obtain rfl := hv'
  have e := R.refAt hv h3
  subst e
  obtain ⟨es, ep, t, e, hT, hsz, k1, k2⟩ := h5
  subst e
  have hgI : ∀ p ∈ g.I, s.heap.get? p.1 = some p.2 := fun p hp => R.getI hp
  have hes : ∀ e ∈ es.toList, ∃ q, okP q ∧ PairAt s.heap e.2 q := fun e he => by
    obtain ⟨q, hq, hr⟩ := k2 e he
    exact ⟨q, hps q hq, pair_at hgI hr⟩
  rename_i x
  have hx := pair_at hgI hw
  refine wpAny_call_entry F.slot_set_add ⟨_, h4, rfl⟩ F.entry_set_add ?_ (F.args_set_add_2 _ _)
  unfold Builtin.«set.add» Builtin.Frozenset.oneOther
  simp only [List.isEmpty_nil, bind_assoc]
  unfold Builtin.Frozenset.addrOf
  refine wpAny_bind (wpAny_pure ?_)
  try dsimp only
  refine wpAny_bind (wpAny_pure ?_)
  try dsimp only
  refine wpAny_bind ?_
  refine add_ok h4 hT hes hx hp (by have := hr.2; show A.units + 1 + 8 < _; omega) (by omega) (fun hth tk => ?_) fun h' tk es' ep' t' hs ho' hT' hsz' hmem => ?_
  · show wpAny _ _ (ret Value.none) _ _ _
    refine wpAny_pure ⟨_, rfl, ?_⟩
    obtain ⟨e, he, hpe⟩ := hth
    obtain ⟨q, hq, hrq⟩ := k2 e he
    have hqp : q = p := by
      have r1 := (pair_at hgI hrq).reads
      have r2 := hpe.reads
      exact dp_inj (r1.unique _ _ r2).1
    subst hqp
    have hao : OR X g.I g.R a { cls := .type "set", data := .set es ep t } (.tset (ps ++ [q])) := by
      refine ⟨es, ep, t, rfl, hT, by rw [List.length_append]; omega, fun p' hp' => ?_, fun e' he' => ?_⟩
      · rcases List.mem_append.mp hp' with h | h
        · exact k1 p' h
        · rw [List.mem_singleton.mp h]; exact ⟨e, he, hrq⟩
      · obtain ⟨p', h1, h2⟩ := k2 e' he'
        exact ⟨p', List.mem_append_left _ h1, h2⟩
    exact hQ _ _ _ _ _ (Gh.le.set g a _) (ch s.heap tk _ _ (Heap.SameBut.refl _ _) h4 hao) .none h
  · show wpAny _ _ (ret Value.none) _ _ _
    refine wpAny_pure ⟨_, rfl, ?_⟩
    have hao : OR X g.I g.R a { cls := .type "set", data := .set es' ep' t' } (.tset (ps ++ [p])) := by
      refine ⟨es', ep', t', rfl, hT', by rw [hsz', List.length_append]; show _ ≤ ps.length + 1; omega, fun p' hp' => ?_, fun e' he' => ?_⟩
      · rcases List.mem_append.mp hp' with h | h
        · obtain ⟨e, he, hr⟩ := k1 p' h
          exact ⟨e, (hmem e).mpr (.inr he), hr⟩
        · rw [List.mem_singleton.mp h]; exact ⟨_, (hmem _).mpr (.inl rfl), hw⟩
      · rcases (hmem e').mp he' with h | h
        · subst h; exact ⟨p, List.mem_append_right _ (.head _), hw⟩
        · obtain ⟨p', h1, h2⟩ := k2 e' h
          exact ⟨p', List.mem_append_left _ h1, h2⟩
    exact hQ _ _ _ _ _ (Gh.le.set g a _) (ch h' tk _ _ hs ho' hao) .none h
end
end Mine

namespace Mine

theorem owner_si : Manifest.owners.lookup (String.ofList ['r', 'o', 't', 'a', 'r', 'e', 't', 'i', '_', 't', 'e', 's'].reverse) = some Manifest.sig_set_iterator := by kernel_rfl
theorem slot_si_next : Slot "set_iterator" "__next__" "set_iterator.__next__" :=
  .of (owner := "set_iterator") (n := "__next__") (by rw [typeLookup_type, builtinLookup_eq_fast]; kernel_rfl) (by decide +kernel) (by decide +kernel) (by decide +kernel)
    (by first | exact .inl (by decide +kernel) | exact .inr (by decide +kernel)) (by rw [isSubtype_type]; kernel_rfl)
theorem entry_si_next : entryFor table "set_iterator.__next__" = some Builtin.«set_iterator.__next__» := entryFor_of_tree (by kernel_rfl)
theorem args_si_next (a : Value) : argsOk "set_iterator.__next__" ⟨[a], []⟩ := by
  unfold argsOk; rw [signature?_of (id := "set_iterator.__next__") (n := ['_', '_', 't', 'x', 'e', 'n', '_', '_']) (o := ['r', 'o', 't', 'a', 'r', 'e', 't', 'i', '_', 't', 'e', 's']) (by kernel_rfl) owner_si]; kernel_rfl
theorem entry_set_iter' : entryFor table "set.__iter__" = some Builtin.«frozenset.__iter__» :=
  entryFor_alias (id' := "frozenset.__iter__") (by kernel_rfl) rfl (by decide +kernel) (by kernel_rfl)

theorem erase_perm {α : Type} : ∀ (l : List α) (i : Nat) (h : i < l.length), List.Perm (l[i] :: l.eraseIdx i) l
  | [], i, h => absurd h (by simp)
  | x :: l, 0, h => by simp
  | x :: l, i + 1, h => by
    rw [List.eraseIdx_cons_succ, List.getElem_cons_succ]
    exact (List.Perm.swap _ _ _).trans (List.Perm.cons _ (erase_perm l i (by simpa using h)))
theorem pickGo_perm {α : Type} (next : Nat → Nat) : ∀ (fuel k : Nat) (left : List α) (out : Array α), fuel = left.length → List.Perm (pickOrder.go next fuel k left out).toList (out.toList ++ left)
  | 0, k, left, out, h => by
    have : left = [] := List.eq_nil_of_length_eq_zero h.symm
    subst this
    unfold pickOrder.go
    rw [List.append_nil]
  | fuel + 1, k, left, out, h => by
    unfold pickOrder.go
    have hpos : 0 < left.length := by omega
    have hlt : next k % left.length < left.length := Nat.mod_lt _ hpos
    rw [List.getElem?_eq_getElem hlt]
    dsimp only
    refine (pickGo_perm next fuel (k + 1) _ _ (by rw [List.length_eraseIdx, if_pos hlt]; omega)).trans ?_
    rw [Array.toList_push, List.append_assoc]
    refine List.Perm.append_left _ ?_
    exact erase_perm _ _ hlt
theorem pick_perm {α : Type} (next : Nat → Nat) (xs : Array α) : List.Perm (pickOrder next xs).toList xs.toList := by
  have := pickGo_perm next xs.size 0 xs.toList #[] (by simp)
  simpa [pickOrder] using this

section
variable {prog : Program} {w : World} {A : Around} {E : Value → Shared → Prop} {s : Shared}
theorem choose_any {M : Model} {src : Source} {n : Nat} {Q : Nat → Shared → Prop} (hn : n ≠ 0) (h : ∀ i d, i < n → Q i { s with drawn := d }) : wpAny M A (choose src n) Q E s := fun Γ p hΓ => by
  unfold choose
  rw [Sem.wp_choose]
  refine ⟨hn, ?_⟩
  exact h _ _ (Nat.mod_lt _ (Nat.pos_of_ne_zero hn))
theorem draw_any {M : Model} {α : Type} : ∀ (n : Nat) (xs : List α) (s : Shared) {Q : List α → Shared → Prop}, n = xs.length → (∀ l d, List.Perm l xs → Q l { s with drawn := d }) → wpAny M A (drawOrder n xs) Q E s
  | 0, xs, s, Q, hn, h => by
    have : xs = [] := List.eq_nil_of_length_eq_zero hn.symm
    subst this
    unfold drawOrder
    exact wpAny_pure (h [] s.drawn (List.Perm.refl _))
  | n + 1, [], s, Q, hn, h => by simp at hn
  | n + 1, x :: xs, s, Q, hn, h => by
    unfold drawOrder
    refine wpAny_bind (choose_any (by simp) fun i d hi => ?_)
    rw [List.getElem?_eq_getElem hi]
    dsimp only
    refine wpAny_bind (draw_any n _ _ (by rw [List.length_eraseIdx, if_pos hi]; omega) fun l d' hp => ?_)
    exact wpAny_pure (h _ d' ((List.Perm.cons _ hp).trans (erase_perm _ _ hi)))

theorem byText_ask {Q : Bool → Shared → Prop} (h : Q (byText w) s) : wpAny (model prog w) A setsByText Q E s := by
  unfold setsByText
  exact wpAny_bind (wpAny_askSetting (wpAny_pure h))

/-- how a set is gone through: its entries in the order of the walk -/
def walkOf (w : World) (a : Addr) (ep : Nat) (es : Array (Int × Value)) : List (Int × Value) := if byText w = true then (pickOrder (w.params.setOrder a ep) es).toList else es.toList
theorem walk_perm (a : Addr) (ep : Nat) (es : Array (Int × Value)) : List.Perm (walkOf w a ep es) es.toList := by
  unfold walkOf
  split
  · exact pick_perm _ _
  · exact List.Perm.refl _

theorem setWalk_ok {a : Addr} {ep : Nat} {es : Array (Int × Value)} {t : SetTable} {Q : Array (Int × Value) → Shared → Prop} (ho : s.heap.get? a = some { cls := .type "set", data := .set es ep t }) (hT : TsetOk w es t)
    (hm : byText w = true ∨ es.size ≤ 1) (h : ∀ l, l.toList = walkOf w a ep es → Q l s) : wpAny (model prog w) A (setWalk a) Q E s := by
  unfold setWalk
  refine wpAny_bind (wpAny_setState_of ho rfl hT.fits ?_)
  dsimp only
  refine wpAny_bind (byText_ask ?_)
  cases hb : byText w with
  | true =>
    simp only [if_true]
    refine wpAny_bind (wpAny_askSetting (wpAny_pure (h _ ?_)))
    unfold walkOf; rw [if_pos hb]; rfl
  | false =>
    simp only [Bool.false_eq_true, if_false]
    have h1 : es.size ≤ 1 := by
      rcases hm with e | e
      · rw [hb] at e; cases e
      · exact e
    have hd : ∀ {α : Type} {x y : Sem α}, (if (!t.plain && decide (es.size > 1)) = true then x else y) = y := fun {α x y} => by
      rw [if_neg (by rw [decide_eq_false (by omega), Bool.and_false]; exact Bool.false_ne_true)]
    show wpAny _ _ (if (!t.plain && decide (es.size > 1)) = true then _ else _) _ _ _
    rw [hd]
    refine wpAny_bind ?_
    show wpAny _ _ (if (!t.led && decide (es.size > 1)) = true then _ else pure ()) _ _ _
    rw [if_neg (by rw [decide_eq_false (by omega), Bool.and_false]; exact Bool.false_ne_true)]
    refine wpAny_pure (wpAny_pure (h es ?_))
    unfold walkOf; rw [if_neg (by rw [hb]; exact Bool.false_ne_true)]

/-- where a walk by places stands -/
def SlotOk (w : World) (es : Array (Int × Value)) (t : SetTable) (i sl : Nat) : Prop := byText w = true ∨ (es.size ≤ 1 ∧ (i = 0 → sl = 0) ∧ (i = 1 → sl = t.place.getD 0 0 + 1))
theorem setNext_ok {a : Addr} {ep i sl : Nat} {es : Array (Int × Value)} {t : SetTable} {Q : Option (Value × Nat) → Shared → Prop} (ho : s.heap.get? a = some { cls := .type "set", data := .set es ep t }) (hT : TsetOk w es t)
    (hs : SlotOk w es t i sl) (hi : i ≤ es.size) (hsome : ∀ e sl', (walkOf w a ep es)[i]? = some e → SlotOk w es t (i + 1) sl' → Q (some (e.2, sl')) s) (hnone : i = es.size → Q none s) : wpAny (model prog w) A (setNext a sl i ep) Q E s := by
  unfold setNext
  refine wpAny_bind (wpAny_setState_of ho rfl hT.fits ?_)
  dsimp only
  refine wpAny_bind (byText_ask ?_)
  have hlen : (walkOf w a ep es).length = es.size := by rw [(walk_perm a ep es).length_eq, Array.length_toList]
  cases hb : byText w with
  | true =>
    simp only [if_true]
    rw [if_neg (by simp)]
    refine wpAny_bind (setWalk_ok ho hT (.inl hb) fun l hl => wpAny_pure ?_)
    have e1 : l[i]? = (walkOf w a ep es)[i]? := by rw [← hl, Array.getElem?_toList]
    rw [e1]
    by_cases hlt : i < es.size
    · have := List.getElem?_eq_getElem (by rw [hlen]; exact hlt : i < (walkOf w a ep es).length)
      rw [this]
      exact hsome _ sl this (.inl hb)
    · rw [List.getElem?_eq_none (by omega)]
      exact hnone (by omega)
  | false =>
    simp only [Bool.false_eq_true, if_false]
    have hw : walkOf w a ep es = es.toList := by unfold walkOf; rw [if_neg (by rw [hb]; exact Bool.false_ne_true)]
    obtain ⟨h1, h2, h3⟩ : es.size ≤ 1 ∧ (i = 0 → sl = 0) ∧ (i = 1 → sl = t.place.getD 0 0 + 1) := by
      rcases hs with e | e
      · rw [hb] at e; cases e
      · exact e
    show wpAny _ _ (if (!t.plain && decide (es.size > 1)) = true then _ else _) _ _ _
    rw [if_neg (by rw [decide_eq_false (by omega), Bool.and_false]; exact Bool.false_ne_true)]
    refine wpAny_bind ?_
    show wpAny _ _ (if (!t.led && !es.isEmpty) = true then _ else pure ()) _ _ _
    rw [if_neg (by rw [hT.led, hb]; exact Bool.false_ne_true)]
    refine wpAny_pure (wpAny_pure ?_)
    have hp := hT.place
    by_cases h0 : es.size = 0
    · have hp0 : t.place = #[] := Array.eq_empty_of_size_eq_zero (by rw [hp]; exact h0)
      have he0 : es = #[] := Array.eq_empty_of_size_eq_zero h0
      rw [hp0, he0]
      exact hnone (by omega)
    · have hs1 : es.size = 1 := by omega
      obtain ⟨j, hj⟩ : ∃ j, t.place = #[j] := by
        have hps : t.place.size = 1 := by rw [hp]; exact hs1
        exact ⟨t.place[0], by
          apply Array.ext (by simpa using hps)
          intro n h1 h2
          have : n = 0 := by omega
          subst this; rfl⟩
      rw [hj] at h3 ⊢
      have hi' : i = 0 ∨ i = 1 := by omega
      rcases hi' with rfl | rfl
      · rw [h2 rfl]
        have hbel : SetTable.below #[j] 0 = 0 := by simp [SetTable.below, SetTable.below.go]
        rw [hbel]
        have hg : es[0]? = some es[0] := Array.getElem?_eq_getElem (by omega)
        rw [hg]
        refine hsome es[0] (j + 1) (by rw [hw, Array.getElem?_toList, hg]) (.inr ⟨h1, fun e => by omega, fun _ => ?_⟩)
        rw [hj]; rfl
      · rw [h3 rfl]
        have hbel : SetTable.below #[j] (j + 1) = 1 := by simp [SetTable.below, SetTable.below.go]
        show Q (match es[SetTable.below #[j] (j + 1)]?, (#[j] : Array Nat)[SetTable.below #[j] (j + 1)]? with | some (_, x), some j => some (x, j + 1) | _, _ => none) s
        rw [hbel, Array.getElem?_eq_none (by omega : es.size ≤ 1)]
        exact hnone hs1.symm
end
end Mine

namespace Mine

section
variable {X : Fix} {A : Around} {env : Env} {f : Fm} {m : Str → Option Value} {Xc : Led} {s : Shared} {g : Gh} {lo : Lo} {st : Sto}

/-- a set that is lent to the frame while it is gone through -/
theorem Rep.lend (R : Rep X A env f m Xc s g lo st) {i : Nat} (hl : (st i).live = true) :
    ∃ a ob g', g.R[i]? = some a ∧ OR X g'.I g'.R a ob (st i) ∧ g.le g' ∧ g'.R = g.R ∧ Rep X A env { f with Xo := (a, ob) :: f.Xo } m Xc s g' lo (st.set i .lent) := by
  obtain ⟨a, ob, h1, h2, h3⟩ := (R.obj i).2 hl
  obtain ⟨pre, post, e⟩ := List.append_of_mem h2
  have P : List.Perm (Xc ++ (f.Xo ++ (g.M ++ g.I))) (Xc ++ (((a, ob) :: f.Xo) ++ ((pre ++ post) ++ g.I))) := by
    refine List.Perm.append_left _ ?_
    rw [e]
    have : List.Perm (f.Xo ++ (pre ++ (a, ob) :: post ++ g.I)) (((a, ob) :: f.Xo) ++ (pre ++ post ++ g.I)) := by
      have q : List.Perm (f.Xo ++ (pre ++ (a, ob) :: (post ++ g.I))) ((a, ob) :: (f.Xo ++ (pre ++ (post ++ g.I)))) := by
        rw [← List.append_assoc, ← List.append_assoc]; exact List.perm_middle
      simpa only [List.append_assoc, List.cons_append] using q
    exact this
  have up : ∀ b, b ∈ (Xc ++ (f.Xo ++ (g.M ++ g.I))).map (·.1) → b ∈ (Xc ++ (((a, ob) :: f.Xo) ++ ((pre ++ post) ++ g.I))).map (·.1) := fun b hb => (P.map (·.1)).mem_iff.mp hb
  have cut : ∀ p, p ∈ Xc ++ f.Xo → p ∈ Xc ++ ((a, ob) :: f.Xo) := fun p hm => by
    rcases List.mem_append.mp hm with h | h
    · exact List.mem_append_left _ h
    · exact List.mem_append_right _ (.tail _ h)
  refine ⟨a, ob, ⟨g.I, pre ++ post, g.R⟩, h1, h3, ⟨fun _ h => h, List.prefix_refl _⟩, rfl, ⟨R.ok.below, R.ok.K, R.ok.top, R.ok.frames, R.ok.fr, R.ok.kind, R.ok.hand⟩, R.globals, R.builtins, R.kind, R.loc, R.gens, R.os, R.F, News.perm R.N P, (P.map (·.1)).nodup_iff.mp R.nd, ?_, ?_, R.ndR, fun b hb => up b (R.old b hb), fun b hb => ⟨up b (R.ban b hb).1, (R.ban b hb).2⟩, ?_⟩
  · intro x av e
    obtain ⟨v, hv, hr⟩ := R.vars x av e
    refine ⟨v, ?_, hr⟩
    rcases hv with h | ⟨h1, ob', es, ep, h2, h3, h4⟩ | ⟨h1, c, ob', h2, h3, h4⟩
    · exact .inl h
    · exact .inr (.inl ⟨h1, ob', es, ep, cut _ h2, h3, h4⟩)
    · exact .inr (.inr ⟨h1, c, ob', h2, cut _ h3, h4⟩)
  · intro x c e
    obtain ⟨⟨ob', v₀, h1, h2, h3⟩, h4⟩ := R.cells x c e
    exact ⟨⟨ob', v₀, cut _ h1, h2, h3⟩, h4⟩
  · refine fun j => ⟨fun hl' => ?_, fun hl' => ?_⟩
    · by_cases hj : j = i
      · subst hj; exact (R.obj j).1 (live_dead hl)
      · rw [Sto.set_ne _ _ hj] at hl'; exact (R.obj j).1 hl'
    by_cases hj : j = i
    · subst hj; rw [Sto.set_self] at hl'; cases hl'
    · rw [Sto.set_ne _ _ hj] at hl' ⊢
      obtain ⟨b, oc, k1, k2, k3⟩ := (R.obj j).2 hl'
      refine ⟨b, oc, k1, ?_, k3⟩
      have hne : b ≠ a := fun q' => by
        subst q'
        have e1 : g.R[j]'((List.getElem?_eq_some_iff.mp k1).1) = b := (List.getElem?_eq_some_iff.mp k1).2
        have e2 : g.R[i]'((List.getElem?_eq_some_iff.mp h1).1) = b := (List.getElem?_eq_some_iff.mp h1).2
        exact hj ((List.getElem_inj R.ndR).mp (e1.trans e2.symm))
      rw [e] at k2
      simp only [List.mem_append, List.mem_cons] at k2 ⊢
      rcases k2 with h | h | h
      · exact .inl h
      · exact absurd (congrArg Prod.fst h) hne
      · exact .inr h

/-- it comes back -/
theorem Rep.back {a : Addr} {ob : Obj} {es : Array (Int × Value)} {ep : Nat} {t : SetTable} {ao : AO} {i : Nat} (R : Rep X A env { f with Xo := (a, ob) :: f.Xo } m Xc s g lo st) (hd : ob.data = .set es ep t) (hR : g.R[i]? = some a) (hao : OR X g.I g.R a ob ao) :
    Rep X A env f m Xc s { g with M := (a, ob) :: g.M } lo (st.set i ao) := by
  have P : List.Perm (Xc ++ (((a, ob) :: f.Xo) ++ (g.M ++ g.I))) (Xc ++ (f.Xo ++ ((a, ob) :: g.M ++ g.I))) := by
    refine List.Perm.append_left _ ?_
    have := (List.perm_middle (l₁ := f.Xo) (l₂ := g.M ++ g.I) (a := (a, ob))).symm
    simpa only [List.cons_append] using this
  have up : ∀ b, b ∈ (Xc ++ (((a, ob) :: f.Xo) ++ (g.M ++ g.I))).map (·.1) → b ∈ (Xc ++ (f.Xo ++ ((a, ob) :: g.M ++ g.I))).map (·.1) := fun b hb => (P.map (·.1)).mem_iff.mp hb
  have cut : ∀ c o, (c, o) ∈ Xc ++ ((a, ob) :: f.Xo) → (∀ x y z, o.data ≠ .set x y z) → (c, o) ∈ Xc ++ f.Xo := fun c o hm hn => by
    rcases List.mem_append.mp hm with h | h
    · exact List.mem_append_left _ h
    · rcases List.mem_cons.mp h with e | h
      · cases e; exact absurd hd (hn _ _ _)
      · exact List.mem_append_right _ h
  refine ⟨⟨R.ok.below, R.ok.K, R.ok.top, R.ok.frames, R.ok.fr, R.ok.kind, R.ok.hand⟩, R.globals, R.builtins, R.kind, R.loc, R.gens, R.os, R.F, News.perm R.N P, (P.map (·.1)).nodup_iff.mp R.nd, ?_, ?_, R.ndR, fun b hb => up b (R.old b hb), fun b hb => ⟨up b (R.ban b hb).1, (R.ban b hb).2⟩, ?_⟩
  · intro x av e
    obtain ⟨v, hv, hr⟩ := R.vars x av e
    refine ⟨v, ?_, hr⟩
    rcases hv with h | ⟨h1, ob', es, ep, h2, h3, h4⟩ | ⟨h1, c, ob', h2, h3, h4⟩
    · exact .inl h
    · exact .inr (.inl ⟨h1, ob', es, ep, cut _ _ h2 (by rw [h3]; intro _ _ _ e; cases e), h3, h4⟩)
    · exact .inr (.inr ⟨h1, c, ob', h2, cut _ _ h3 (by rw [h4]; intro _ _ _ e; cases e), h4⟩)
  · intro x c e
    obtain ⟨⟨ob', v₀, h1, h2, h3⟩, h4⟩ := R.cells x c e
    exact ⟨⟨ob', v₀, cut _ _ h1 (by rw [h2]; intro _ _ _ e; cases e), h2, h3⟩, h4⟩
  · refine fun j => ⟨fun hl' => ?_, fun hl' => ?_⟩
    · by_cases hj : j = i
      · subst hj; exact (List.getElem?_eq_some_iff.mp hR).1
      · rw [Sto.set_ne _ _ hj] at hl'; exact (R.obj j).1 hl'
    by_cases hj : j = i
    · subst hj
      rw [Sto.set_self]
      exact ⟨a, ob, hR, .head _, hao⟩
    · rw [Sto.set_ne _ _ hj] at hl' ⊢
      obtain ⟨b, oc, k1, k2, k3⟩ := (R.obj j).2 hl'
      exact ⟨b, oc, k1, .tail _ k2, k3⟩
end

section
variable {prog : Program} {w : World} {A : Around} {E : Value → Shared → Prop} {s : Shared}

abbrev siObj (first : Value) (i : Nat) (a : Addr) (n ep : Nat) : Obj := { cls := .type "set_iterator", data := .fields #[first, rawInt i, .ref a, rawInt n, rawInt ep] }

theorem raise_stop {I : Addr} {h₁ : Heap} {Q : Option Value → Shared → Prop} (hh : A.handled = none) (hk : Heap.ExtBut I s.heap h₁) (hQ : ∀ h', Heap.ExtBut I s.heap h' → Q none { s with heap := h' }) :
    wpAny (model prog w) A.in1 (do let e ← newExc (.type "StopIteration") []; raiseNew e : Sem Fin)
      (fun fin s' => ∃ v, fin = .done (.ret v) ∧ wpAny (model prog w) A (pure (some v)) Q E s')
      (fun e s' => wpAny (model prog w) A (do if ← isInstance e (.type "StopIteration") then pure none else throw e) Q E s') { s with heap := h₁ } := by
  refine wpAny_bind ?_
  simp only [newExc, newTuple]
  refine wpAny_bind (wpAny_newObj_type ?_ (by size_fits))
  refine wpAny_bind (m := firstArgMember _ _) (wpAny_of_eq (a := Value.none) (by first | rfl | (simp only [firstArgMember]; rfl)) ?_)
  refine wpAny_newObj_type ?_ (by size_fits)
  simp only [raiseNew]
  refine wpAny_bind (wpAny_handled ?_)
  rw [show A.in1.handled = none from hh]
  refine wpAny_bind (wpAny_pure (wpAny_throw ?_))
  refine wpAny_bind (wpAny_isInstance (T := "StopIteration") (b := true) ⟨_, Heap.get?_push_size _ rfl, rfl⟩ isSubtype_stop ?_)
  exact wpAny_pure (hQ _ ((hk.push _).push _))

theorem si_upd {h : Heap} {I : Addr} {first : Value} {i : Nat} {a : Addr} {n ep : Nat} (ho : h.get? I = some (siObj first i a n ep)) (k : Nat) (x : Value) :
    (h.update I (Obj.mapFields (·.setIfInBounds k x))).get? I = some { cls := .type "set_iterator", data := .fields (#[first, rawInt i, .ref a, rawInt n, rawInt ep].setIfInBounds k x) } := by
  exact Heap.get?_update_self _ ho (Obj.isFreed_of_fields (Obj.data_mapFields rfl _))

/-- by places -/
theorem next_slot {I a : Addr} {i sl ep : Nat} {es : Array (Int × Value)} {t : SetTable} {Q : Option Value → Shared → Prop} (hh : A.handled = none) (hI : s.heap.get? I = some (siObj (rawInt sl) i a es.size ep)) (hne : a ≠ I)
    (ho : s.heap.get? a = some { cls := .type "set", data := .set es ep t }) (hT : TsetOk w es t) (hs : SlotOk w es t i sl) (hi : i ≤ es.size)
    (hsome : ∀ e sl' h', (walkOf w a ep es)[i]? = some e → SlotOk w es t (i + 1) sl' → Heap.SameBut I s.heap h' → h'.get? I = some (siObj (rawInt sl') (i + 1) a es.size ep) → Q (some e.2) { s with heap := h' })
    (hnone : i = es.size → ∀ h', Heap.ExtBut I s.heap h' → Q none { s with heap := h' }) : wpAny (model prog w) A (pyNext (.ref I)) Q E s := by
  have hT' : s.TypeIs (.ref I) "set_iterator" := ⟨_, hI, rfl⟩
  unfold pyNext
  refine wpAny_bind (wpAny_attempt (wpAny_callSpecial?_slot (name := Str.ofString "__next__") hT' slot_si_next
    (wpAny_call_entry slot_si_next hT' entry_si_next ?_ (args_si_next _))))
  unfold Builtin.«set_iterator.__next__»
  refine wpAny_bind (wpAny_pure ?_)
  refine wpAny_bind (wpAny_fieldsOf hI rfl ?_)
  dsimp only [rawInt]
  refine wpAny_bind (wpAny_setEntries_of ho rfl hT.fits ?_)
  rw [if_neg (by simp)]
  simp only [Int.toNat_natCast]
  refine wpAny_bind (setNext_ok ho hT hs hi (fun e sl' he hs' => ?_) fun hn => ?_)
  · dsimp only
    refine wpAny_bind (wpAny_setField hI rfl (by simp) ?_)
    have h1 := si_upd hI 0 (rawInt sl')
    refine wpAny_bind (wpAny_setField (s := { s with heap := s.heap.update I (Obj.mapFields (·.setIfInBounds 0 (rawInt sl'))) }) h1 rfl (by simp) ?_)
    have h2 : ((s.heap.update I (Obj.mapFields (·.setIfInBounds 0 (rawInt sl')))).update I (Obj.mapFields (·.setIfInBounds 1 (rawInt ((i : Int) + 1))))).get? I = some (siObj (rawInt sl') (i + 1) a es.size ep) :=
      Heap.get?_update_self _ h1 (Obj.isFreed_of_fields (Obj.data_mapFields rfl _))
    exact wpAny_pure ⟨_, rfl, wpAny_pure (hsome e sl' _ he hs' ((Heap.SameBut.update ..).trans (Heap.SameBut.update ..)) h2)⟩
  · dsimp only
    refine wpAny_bind (wpAny_setField hI rfl (by simp) ?_)
    exact raise_stop hh (Heap.SameBut.update s.heap I _).extBut (hnone hn)

/-- in an order that was drawn -/
theorem next_drawn {I a tp : Addr} {i ep : Nat} {order : List Nat} {es : Array (Int × Value)} {t : SetTable} {Q : Option Value → Shared → Prop} (hh : A.handled = none) (hI : s.heap.get? I = some (siObj (.ref tp) i a es.size ep)) (hne : a ≠ I)
    (ho : s.heap.get? a = some { cls := .type "set", data := .set es ep t }) (htp : s.heap.get? tp = some { cls := .type "tuple", data := .seq (order.map fun (k : Nat) => rawInt k).toArray }) (hT : TsetOk w es t) (hord : ∀ k ∈ order, k < es.size)
    (hsome : ∀ k e h', order[i]? = some k → es[k]? = some e → Heap.SameBut I s.heap h' → h'.get? I = some (siObj (.ref tp) (i + 1) a es.size ep) → Q (some e.2) { s with heap := h' })
    (hnone : order[i]? = none → ∀ h', Heap.ExtBut I s.heap h' → Q none { s with heap := h' }) : wpAny (model prog w) A (pyNext (.ref I)) Q E s := by
  have hT' : s.TypeIs (.ref I) "set_iterator" := ⟨_, hI, rfl⟩
  unfold pyNext
  refine wpAny_bind (wpAny_attempt (wpAny_callSpecial?_slot (name := Str.ofString "__next__") hT' slot_si_next
    (wpAny_call_entry slot_si_next hT' entry_si_next ?_ (args_si_next _))))
  unfold Builtin.«set_iterator.__next__»
  refine wpAny_bind (wpAny_pure ?_)
  refine wpAny_bind (wpAny_fieldsOf hI rfl ?_)
  dsimp only [rawInt]
  refine wpAny_bind (wpAny_setEntries_of ho rfl hT.fits ?_)
  rw [if_neg (by simp)]
  refine wpAny_bind (wpAny_seqItems htp rfl ?_)
  dsimp only
  simp only [Int.toNat_natCast]
  have hget : ((order.map fun (k : Nat) => rawInt k).toArray)[i]? = (order[i]?).map fun (k : Nat) => rawInt k := by simp
  rw [hget]
  cases hk : order[i]? with
  | some k =>
    dsimp only [Option.map_some, rawInt]
    simp only [Int.toNat_natCast]
    have hlt := hord k (List.mem_of_getElem? hk)
    have hes : es[k]? = some es[k] := Array.getElem?_eq_getElem hlt
    unfold setNextDrawn
    refine wpAny_bind (wpAny_bind (wpAny_setState_of ho rfl hT.fits ?_))
    dsimp only
    rw [if_neg (by simp), hes]
    dsimp only
    refine wpAny_pure ?_
    refine wpAny_bind (wpAny_setField hI rfl (by simp) ?_)
    have h2 : (s.heap.update I (Obj.mapFields (·.setIfInBounds 1 (rawInt ((i : Int) + 1))))).get? I = some (siObj (.ref tp) (i + 1) a es.size ep) :=
      Heap.get?_update_self _ hI (Obj.isFreed_of_fields (Obj.data_mapFields rfl _))
    exact wpAny_pure ⟨_, rfl, wpAny_pure (hsome k es[k] _ hk hes (Heap.SameBut.update ..) h2)⟩
  | none =>
    dsimp only [Option.map_none]
    refine wpAny_bind (wpAny_setField hI rfl (by simp) ?_)
    have h1 := si_upd hI 0 (rawInt 0)
    refine wpAny_bind (wpAny_setField (s := { s with heap := s.heap.update I (Obj.mapFields (·.setIfInBounds 0 (rawInt 0))) }) h1 rfl (by simp) ?_)
    exact raise_stop (s := s) hh ((Heap.SameBut.update s.heap I _).trans (Heap.SameBut.update _ I _)).extBut (hnone hk)

theorem drawn_ask {a : Addr} {ep : Nat} {es : Array (Int × Value)} {t : SetTable} {Q : Bool → Shared → Prop} (ho : s.heap.get? a = some { cls := .type "set", data := .set es ep t }) (hT : TsetOk w es t)
    (h : Q (!byText w && (!t.plain && decide (es.size > 1))) s) : wpAny (model prog w) A (setDrawn a) Q E s := by
  unfold setDrawn
  refine wpAny_bind (wpAny_setState_of ho rfl hT.fits ?_)
  dsimp only
  exact wpAny_bind (byText_ask (wpAny_pure h))
/-- the iterator of a set -/
theorem iter_made {a : Addr} {ep : Nat} {es : Array (Int × Value)} {t : SetTable} {Q : Value → Shared → Prop} (ho : s.heap.get? a = some { cls := .type "set", data := .set es ep t }) (hT : TsetOk w es t) (hsz : es.size ≤ 1000)
    (hslot : (byText w = true ∨ es.size ≤ 1) → Q (.ref s.heap.objs.size) { s with heap := s.heap.push (siObj (rawInt 0) 0 a es.size ep) })
    (hdrawn : ∀ order d, List.Perm order (List.range es.size) → Q (.ref (s.heap.objs.size + 1)) { s with heap := (s.heap.push { cls := .type "tuple", data := .seq (order.map fun (k : Nat) => rawInt k).toArray }).push (siObj (.ref s.heap.objs.size) 0 a es.size ep), drawn := d }) :
    wpAny (model prog w) A (pyIter (.ref a)) Q E s := by
  have hTy : s.TypeIs (.ref a) "set" := ⟨_, ho, rfl⟩
  refine wpAny_pyIter_slot hTy F.slot_set_iter (wpAny_call_entry F.slot_set_iter hTy entry_set_iter' ?_ (F.args_set_iter_1 _))
  unfold Builtin.«frozenset.__iter__»
  refine wpAny_bind (wpAny_pure ?_)
  refine wpAny_bind ?_
  unfold Builtin.Frozenset.sizeOf
  refine wpAny_bind (wpAny_setEntries_of ho rfl hT.fits (wpAny_pure ?_))
  refine wpAny_bind (drawn_ask ho hT ?_)
  cases hd : (!byText w && (!t.plain && decide (es.size > 1))) with
  | false =>
    simp only [Bool.false_eq_true, if_false]
    refine wpAny_bind (wpAny_pure ?_)
    refine wpAny_bind (wpAny_setEpoch_of ho rfl hT.fits ?_)
    refine wpAny_bind (wpAny_newObj_type (wpAny_pure ⟨_, rfl, "set_iterator", _, ⟨_, Heap.get?_push_size _ rfl, rfl⟩, slot_si_next.lookup, ?_⟩))
    refine hslot ?_
    by_cases hb : byText w = true
    · exact .inl hb
    · refine .inr ?_
      by_cases h1 : es.size ≤ 1
      · exact h1
      · have hpl := hT.plain (by omega)
        simp only [Bool.not_eq_true] at hb
        rw [hb, hpl, decide_eq_true (by omega)] at hd
        cases hd
  | true =>
    simp only [if_true]
    refine wpAny_bind (draw_any es.size (List.range es.size) s (by simp) fun l d hp => ?_)
    unfold newTuple
    refine wpAny_bind (wpAny_newObj_type ?_ (by show Array.size _ ≤ sizeLine; rw [List.size_toArray, List.length_map, hp.length_eq, List.length_range, sizeLine_eq]; omega))
    refine wpAny_bind (wpAny_setEpoch_of (Heap.get?_push_of_some _ ho) rfl hT.fits ?_)
    refine wpAny_bind (wpAny_newObj_type (wpAny_pure ⟨_, rfl, "set_iterator", _, ⟨_, Heap.get?_push_size _ rfl, rfl⟩, slot_si_next.lookup, ?_⟩))
    rw [Heap.size_push]
    exact hdrawn l d hp
end
end Mine

namespace Mine

theorem chooseL {X : Fix} {I : Led} {R : List Addr} {ps : List (List Str × Int)} : ∀ l : List (Int × Value), (∀ e ∈ l, ∃ p ∈ ps, RV X I R e.2 (pv p)) →
    ∃ L : List (List Str × Int), L.length = l.length ∧ (∀ p ∈ L, p ∈ ps) ∧ ∀ (i : Nat) e p, l[i]? = some e → L[i]? = some p → RV X I R e.2 (pv p)
 := by
  intro l
  induction l with
  | nil => exact fun _ => ⟨[], rfl, (fun p hp => nomatch hp), (fun i e p h => by simp at h)⟩
  | cons e l ih =>
    intro h
    obtain ⟨p, hp, hr⟩ := h e (.head _)
    obtain ⟨L, h1, h2, h3⟩ := ih fun e' he' => h e' (.tail _ he')
    refine ⟨p :: L, by rw [List.length_cons, List.length_cons, h1], fun q hq => ?_, fun i e' q h4 h5 => ?_⟩
    · rcases List.mem_cons.mp hq with rfl | hq
      · exact hp
      · exact h2 q hq
    · cases i with
      | zero => simp at h4 h5; subst h4; subst h5; exact hr
      | succ i => exact h3 i e' q (by simpa using h4) (by simpa using h5)
theorem pv_inj {X : Fix} {I : Led} {R : List Addr} {h : Heap} (hg : ∀ p ∈ I, h.get? p.1 = some p.2) {v : Value} {p q : List Str × Int} (h1 : RV X I R v (pv p)) (h2 : RV X I R v (pv q)) : p = q :=
  dp_inj ((pair_at hg h1).reads.unique _ _ (pair_at hg h2).reads).1

section
variable {X : Fix} {A : Around} {env : Env} {lo : Lo} {st : Sto}

theorem Rep.apart {f : Fm} {m : Str → Option Value} {Xc : Led} {s : Shared} {g : Gh} {I a : Addr} {o ob : Obj} (R : Rep X A env (f.with (I, o)) m Xc s g lo st) (h : (a, ob) ∈ f.Xo) : a ≠ I ∧ s.heap.get? a = some ob ∧ s.heap.get? I = some o := by
  have hI : (I, o) ∈ Xc ++ (((I, o) :: f.Xo) ++ (g.M ++ g.I)) := List.mem_append_right _ (List.mem_append_left _ (.head _))
  have ha : (a, ob) ∈ Xc ++ (((I, o) :: f.Xo) ++ (g.M ++ g.I)) := List.mem_append_right _ (List.mem_append_left _ (.tail _ h))
  refine ⟨fun e => ?_, (R.N _ ha).1, (R.N _ hI).1⟩
  have nd := R.nd
  rw [List.map_append, List.nodup_append] at nd
  have nd2 := nd.2.1
  rw [show (f.with (I, o)).Xo = (I, o) :: f.Xo from rfl, List.cons_append, List.map_cons, List.nodup_cons] at nd2
  exact nd2.1 (by rw [← e]; exact List.mem_map_of_mem (f := (·.1)) (List.mem_append_left _ h))

theorem si_noOwn (first : Value) (i : Nat) (a : Addr) (n ep : Nat) : NoOwn (siObj first i a n ep) := ⟨_, _, rfl, rfl, by decide⟩

/-- the iterator of a set of pairs, by places -/
theorem itOK_slot {I a : Addr} {ep : Nat} {es : Array (Int × Value)} {t : SetTable} {L : List (List Str × Int)} {g₃ : Gh} (hh : A.handled = none) (hT : TsetOk X.w es t) (hlen : L.length = es.size)
    (hL : ∀ (i : Nat) e p, (walkOf X.w a ep es)[i]? = some e → L[i]? = some p → RV X g₃.I g₃.R e.2 (pv p)) :
    IterOK X A I (L.map pv) g₃ [(a, { cls := .type "set", data := .set es ep t })] (fun i o => ∃ sl : Nat, o = siObj (rawInt sl) i a es.size ep ∧ SlotOk X.w es t i sl) where
  next := fun i x hx env f m Xc s g lo st o hle hneed ⟨sl, e, hs⟩ R Q E hQ => by
    subst e
    obtain ⟨hne, ho, hI⟩ := R.apart (hneed _ (.head _))
    have hlt : i < (L.map pv).length := (List.getElem?_eq_some_iff.mp hx).1
    rw [List.length_map, hlen] at hlt
    refine next_slot hh hI hne ho hT hs (Nat.le_of_lt hlt) (fun e sl' h' he hs' hsb hI' => ?_) fun hn => absurd hn (Nat.ne_of_lt hlt)
    refine hQ _ _ _ ⟨sl', rfl, hs'⟩ (R.step (tk := s.toks) ((si_noOwn _ _ _ _ _).rec) (fun b q hb e => hsb.extBut b q hb e) hI') ?_
    rw [List.getElem?_map] at hx
    obtain ⟨p, hp, rfl⟩ := Option.map_eq_some_iff.mp hx
    exact (hL i e p he hp).le hle
  done := fun env f m Xc s g lo st o hle hneed hb ⟨sl, e, hs⟩ R Q E hQ => by
    subst e
    obtain ⟨hne, ho, hI⟩ := R.apart (hneed _ (.head _))
    have hl : (L.map pv).length = es.size := by rw [List.length_map]; exact hlen
    rw [hl] at hI hs
    refine next_slot hh hI hne ho hT hs (Nat.le_refl _) (fun e sl' h' he _ _ _ => ?_) fun _ h' hk => ?_
    · rw [List.getElem?_eq_none (by rw [(walk_perm a ep es).length_eq, Array.length_toList]; exact Nat.le_refl _)] at he; cases he
    · exact hQ _ (R.gone (tk := s.toks) ((si_noOwn _ _ _ _ _).rec) hb fun b q hb e => hk b q hb e)
  own := fun i o ⟨sl, e, _⟩ => by subst e; exact si_noOwn _ _ _ _ _

/-- the same in an order that was drawn -/
theorem itOK_drawn {I a tp : Addr} {ep : Nat} {es : Array (Int × Value)} {t : SetTable} {L : List (List Str × Int)} {order : List Nat} {g₃ : Gh} (hh : A.handled = none) (hT : TsetOk X.w es t) (hp : List.Perm order (List.range es.size)) (hlen : L.length = es.size)
    (htp : (tp, ({ cls := .type "tuple", data := .seq (order.map fun (k : Nat) => rawInt k).toArray } : Obj)) ∈ g₃.I)
    (hL : ∀ (i : Nat) e p, (order.filterMap fun (k : Nat) => es[k]?)[i]? = some e → L[i]? = some p → RV X g₃.I g₃.R e.2 (pv p)) :
    IterOK X A I (L.map pv) g₃ [(a, { cls := .type "set", data := .set es ep t })] (fun i o => o = siObj (.ref tp) i a es.size ep) where
  next := fun i x hx env f m Xc s g lo st o hle hneed e R Q E hQ => by
    subst e
    obtain ⟨hne, ho, hI⟩ := R.apart (hneed _ (.head _))
    have hol : order.length = es.size := by rw [hp.length_eq, List.length_range]
    have hlt : i < (L.map pv).length := (List.getElem?_eq_some_iff.mp hx).1
    rw [List.length_map, hlen, ← hol] at hlt
    have hord : ∀ k ∈ order, k < es.size := fun k hk => List.mem_range.mp (hp.mem_iff.mp hk)
    refine next_drawn hh hI hne ho (R.getI (hle.I _ htp)) hT hord (fun k e h' hk he hsb hI' => ?_) fun hn => ?_
    · refine hQ _ _ _ rfl (R.step (tk := s.toks) ((si_noOwn _ _ _ _ _).rec) (fun b q hb e => hsb.extBut b q hb e) hI') ?_
      rw [List.getElem?_map] at hx
      obtain ⟨p, hp', rfl⟩ := Option.map_eq_some_iff.mp hx
      refine (hL i e p ?_ hp').le hle
      have key : ∀ (l : List Nat) (i k : Nat), (∀ k ∈ l, k < es.size) → l[i]? = some k → (l.filterMap fun (k : Nat) => es[k]?)[i]? = es[k]? := by
        intro l
        induction l with
        | nil => intro i k _ h; simp at h
        | cons y l ih =>
          intro i k hl h
          have hyl : y < es.size := hl y (.head _)
          have hy : es[y]? = some es[y] := Array.getElem?_eq_getElem hyl
          rw [List.filterMap_cons, hy]
          cases i with
          | zero => simp at h; subst h; simp [hy]
          | succ i => simpa using ih i k (fun k hk => hl k (.tail _ hk)) (by simpa using h)
      rw [key order i k hord hk]; exact he
    · rw [List.getElem?_eq_getElem hlt] at hn; cases hn
  done := fun env f m Xc s g lo st o hle hneed hb e R Q E hQ => by
    subst e
    obtain ⟨hne, ho, hI⟩ := R.apart (hneed _ (.head _))
    have hol : order.length = es.size := by rw [hp.length_eq, List.length_range]
    have hord : ∀ k ∈ order, k < es.size := fun k hk => List.mem_range.mp (hp.mem_iff.mp hk)
    refine next_drawn hh hI hne ho (R.getI (hle.I _ htp)) hT hord (fun k e h' hk he _ _ => ?_) fun _ h' hk => ?_
    · rw [List.getElem?_eq_none (by rw [List.length_map, hlen, hol]; exact Nat.le_refl _)] at hk; cases hk
    · exact hQ _ (R.gone (tk := s.toks) ((si_noOwn _ _ _ _ _).rec) hb fun b q hb e => hk b q hb e)
  own := fun i o e => by subst e; exact si_noOwn _ _ _ _ _

/-- for over a set of pairs -/
theorem s_forTK {target iter : Expr} {body : List Stmt} {pos : Pos} {P : AF → Lo → Sto → Prop} {i : Nat} {ps : List (List Str × Int)} (Inv : List (List Str × Int) → Lo → Sto → Prop) (hsz : ps.length ≤ 1000)
    (h : ∀ K : List (List Str × Int) → Lo → Sto → Prop, (∀ xs lo st, Inv xs lo st → K xs lo st) → AE X A env lo iter st fun x st₁ => x = .ref i ∧ st₁ i = .tset ps ∧ ∀ xs, (∀ p ∈ ps, p ∈ xs) → (∀ p ∈ xs, p ∈ ps) → K xs lo (st₁.set i .lent))
    (turn : ∀ (K : AF → Lo → Sto → Prop) x r lo st, (∀ lo st, Inv r lo st → K .next lo st) → Inv (x :: r) lo st → AU X A env (assign target env) (pv x) lo st fun lo₁ st₁ => ASs X A env body lo₁ st₁ K)
    (done : ∀ lo st, Inv [] lo st → P .next lo (st.set i (.tset ps))) (hs : ∀ x, foldedSetIterable iter env x = pure x := by intro _; rfl) : AX X A env (.For target iter body [] pos) lo st P := by
  intro f m Xc s g R Q E hQ
  refine wpAny_For (h _ (fun _ _ _ x => x) f m Xc s g R _ _ fun v s₁ g₁ x st₁ l₁ R₁ r₁ ⟨ex, hi, hinv⟩ => ?_) hs
  subst ex
  obtain ⟨a, ob, g₂, hR, hao, l₂, eR, R₂⟩ := R₁.lend (i := i) (by rw [hi]; rfl)
  rw [hi] at hao
  have hao' := hao
  obtain ⟨es, ep, t, e, hT, hsz', k1, k2⟩ := hao
  subst e
  have ev := R₁.refAt r₁ hR
  subst ev
  have ho : s₁.heap.get? a = some { cls := .type "set", data := .set es ep t } := (R₂.N (a, _) (List.mem_append_right _ (List.mem_append_left _ (.head _)))).1
  have hgI : ∀ p ∈ g₂.I, s₁.heap.get? p.1 = some p.2 := fun p hp => R₂.getI hp
  have pick : ∀ l : List (Int × Value), List.Perm l es.toList → ∃ L : List (List Str × Int), L.length = es.size ∧ (∀ p ∈ ps, p ∈ L) ∧ (∀ p ∈ L, p ∈ ps) ∧ ∀ (i : Nat) e p, l[i]? = some e → L[i]? = some p → RV X g₂.I g₂.R e.2 (pv p) := by
    intro l hp
    obtain ⟨L, h1, h2, h3⟩ := chooseL (X := X) (I := g₂.I) (R := g₂.R) (ps := ps) l fun e he => k2 e (hp.mem_iff.mp he)
    refine ⟨L, by rw [h1, hp.length_eq, Array.length_toList], fun p hps => ?_, h2, h3⟩
    obtain ⟨e, he, hr⟩ := k1 p hps
    obtain ⟨j, hj⟩ := List.getElem?_of_mem (hp.mem_iff.mpr he)
    have hjl : j < L.length := by rw [h1]; exact (List.getElem?_eq_some_iff.mp hj).1
    have hLj : L[j]? = some L[j] := List.getElem?_eq_getElem hjl
    have := h3 j e _ hj hLj
    rw [pv_inj hgI hr this]
    exact List.getElem_mem hjl
  have loop : ∀ (I : Addr) (O : Nat → Obj → Prop) (o : Obj) (g₃ : Gh) (s₃ : Shared) (xs : List (List Str × Int)), g₂.le g₃ → IterOK X A I (xs.map pv) g₃ [(a, { cls := .type "set", data := .set es ep t })] O → O 0 o →
      Rep X A env (Fm.with { f with Xo := (a, { cls := .type "set", data := .set es ep t }) :: f.Xo } (I, o)) m Xc s₃ g₃ lo (st₁.set i .lent) → ¬ f.ban I → Inv xs lo (st₁.set i .lent) →
      ∀ RR : Result → Shared → Prop, (∀ s', Q .next s' → RR (.ok .next) s') → codeAny (model X.prog X.w) A (.forLoop target (.ref I) body [] env) RR s₃ := by
    intro I O o g₃ s₃ xs l₃ hit ho₃ R₃ hb hI RR hRR
    refine for_core (f := { f with Xo := (a, { cls := .type "set", data := .set es ep t }) :: f.Xo }) hit (fun p hp => by rw [List.mem_singleton.mp hp]; exact .head _) hb ho₃ R₃ (fun i => Inv (xs.drop i)) hI (fun _ _ _ => False) (fun K j x lo st kn _ _ kr hx hi => ?_)
      (fun s' g' m' Xc' lo' st' l' R' hi' => ?_) (fun _ _ _ _ _ _ _ _ _ _ _ q => q.elim)
    · rw [List.getElem?_map] at hx
      obtain ⟨y, hy, rfl⟩ := Option.map_eq_some_iff.mp hx
      obtain ⟨hlt, e⟩ := List.getElem?_eq_some_iff.mp hy
      rw [List.drop_eq_getElem_cons hlt, e] at hi
      exact turn K _ _ _ _ kn hi
    · rw [List.length_map, List.drop_length] at hi'
      have hRa : g'.R[i]? = some a := get_pre (l₃.trans l').R (by rw [eR]; exact hR)
      have RB := R'.back rfl hRa (hao'.mono (l₃.trans l').I (l₃.trans l').R)
      have l4 : g.le g' := l₁.trans (l₂.trans (l₃.trans l'))
      exact hRR _ (hQ _ _ { g' with M := (a, { cls := .type "set", data := .set es ep t }) :: g'.M } m' Xc' _ _ _ ⟨l4.I, l4.R⟩ RB .next (done _ _ hi'))
  refine iter_made ho hT (by omega) (fun hm => ?_) fun order d hp => ?_
  · obtain ⟨L, h1, h2, h3, h4⟩ := pick (walkOf X.w a ep es) (walk_perm a ep es)
    refine loop s₁.heap.objs.size _ (siObj (rawInt 0) 0 a es.size ep) g₂ _ L (Gh.le.refl _) (itOK_slot R.ok.hand hT h1 h4) ⟨0, rfl, ?_⟩ (R₂.lay (Nat.le_refl _) (R₂.F.push _) (R₂.N.push R₂.F _)) (R₂.noban (Nat.le_refl _)) (hinv L h2 h3) _ fun _ h => h
    rcases hm with e | e
    · exact .inl e
    · exact .inr ⟨e, fun _ => rfl, fun e => by cases e⟩
  · have hfm : List.Perm (order.filterMap fun (k : Nat) => es[k]?) es.toList := by
      have := (hp.filterMap fun (k : Nat) => es[k]?)
      rw [filterMap_getElem?_range] at this
      exact this
    obtain ⟨L, h1, h2, h3, h4⟩ := pick _ hfm
    have R₃ := R₂.imm (s' := { s₁ with heap := s₁.heap.push { cls := .type "tuple", data := .seq (order.map fun (k : Nat) => rawInt k).toArray }, drawn := d }) (Nat.le_refl _) (R₂.F.push _) (R₂.N.push R₂.F _) rfl rfl rfl
    have R₄ := R₃.lay (I := s₁.heap.objs.size + 1) (o := siObj (.ref s₁.heap.objs.size) 0 a es.size ep) (by rw [Heap.size_push]; exact Nat.le_refl _) (R₃.F.push _) (by have := R₃.N.push R₃.F (siObj (.ref s₁.heap.objs.size) 0 a es.size ep); rwa [Heap.size_push] at this)
    refine loop (s₁.heap.objs.size + 1) _ _ _ _ L (Gh.le.imm g₂ _) (itOK_drawn (tp := s₁.heap.objs.size) R.ok.hand hT hp h1 (.head _) fun i e p he hp' => (h4 i e p he hp').mono (fun q hq => .tail _ hq) (List.prefix_refl _)) rfl R₄ ?_ (hinv L h2 h3) _ fun _ h => h
    exact R₃.noban (I := s₁.heap.objs.size + 1) (by rw [Heap.size_push]; exact Nat.le_refl _)
end

end Mine

namespace Mine

section
variable {prog : Program} {w : World} {A : Around} {E : Value → Shared → Prop} {s : Shared}
theorem setClear_ok {a : Addr} {ep : Nat} {es : Array (Int × Value)} {t : SetTable} {Q : Option (List Value) → Shared → Prop} (ho : s.heap.get? a = some { cls := .type "set", data := .set es ep t }) (hT : TsetOk w es t)
    (h : ∀ old h' ep' t', Heap.SameBut a s.heap h' → h'.get? a = some { cls := .type "set", data := .set #[] ep' t' } → TsetOk w #[] t' → Q old { s with heap := h' }) : wpAny (model prog w) A (setClear a) Q E s := by
  unfold setClear
  have fin : ∀ old : Option (List Value), wpAny (model prog w) A (do
      let __do_lift ← setState a
      let t := __do_lift.2.2
      let __do_lift ← setsByText
      storeSet a #[] (t.cleared (!__do_lift && (t.led || t.finger == 0)))
      pure old) Q E s := by
    intro old
    refine wpAny_bind (wpAny_setState_of ho rfl hT.fits ?_)
    dsimp only
    refine wpAny_bind (byText_ask ?_)
    refine wpAny_bind (wpAny_storeSet_of ho rfl ?_ (by rw [sizeLine_eq]; decide))
    refine wpAny_pure ?_
    refine h old _ _ _ (Heap.SameBut.update s.heap a (Obj.putSet #[] (t.cleared (!byText w && (t.led || t.finger == 0))))) (put_set ho) ⟨rfl, rfl, (show 0 * 5 < 7 * 3 by decide), .inl rfl, ?_, fun e => absurd rfl e, ?_⟩
    · show (!byText w && (t.led || t.finger == 0)) = _
      rw [hT.finger]; simp
    · exact hT.finger
  unfold setDeathsKnown
  refine wpAny_bind (wpAny_bind (wpAny_setState_of ho rfl hT.fits ?_))
  dsimp only
  refine wpAny_bind (byText_ask (wpAny_pure ?_))
  split
  · rename_i hk
    unfold setItems
    refine wpAny_bind (wpAny_bind (setWalk_ok ho hT ?_ fun l hl => wpAny_pure (wpAny_bind (wpAny_pure (fin _)))))
    simp only [Bool.or_eq_true, decide_eq_true_eq, Bool.and_eq_true] at hk
    rcases hk with (hk | ⟨_, hk⟩) | hk
    · exact .inl hk
    · refine .inr ?_
      by_cases h0 : es.size = 0
      · omega
      · rw [hT.plain h0] at hk; cases hk
    · exact .inr hk
  · exact wpAny_bind (wpAny_pure (fin _))
theorem clearAll_ok {a : Addr} {ep : Nat} {es : Array (Int × Value)} {t : SetTable} {Q : Unit → Shared → Prop} (ho : s.heap.get? a = some { cls := .type "set", data := .set es ep t }) (hT : TsetOk w es t)
    (h : ∀ h' ep' t', Heap.SameBut a s.heap h' → h'.get? a = some { cls := .type "set", data := .set #[] ep' t' } → TsetOk w #[] t' → Q () { s with heap := h' }) : wpAny (model prog w) A (Builtin.Frozenset.clearAll a) Q E s := by
  unfold Builtin.Frozenset.clearAll
  refine wpAny_bind (setClear_ok ho hT fun old h' ep' t' hs ho' hT' => ?_)
  have hq := h h' ep' t' hs ho' hT'
  cases old with
  | none => show wpAny _ _ point _ _ _; exact wpAny_point hq
  | some l => show wpAny _ _ (letGo _) _ _ _; exact wpAny_letGo hq
end

section
variable {X : Fix} {A : Around} {env : Env} {lo : Lo} {st : Sto} {P : AV → Sto → Prop} {n : Nat}
theorem t_clear {i : Nat} {ps : List (List Str × Int)} (hi : st i = .tset ps) (h : P .none (st.set i (.tset []))) : ACallV X n (.builtin "set.clear") [.ref i] [] st P := by
  intro A env lo f m Xc s g hr R vs ks hv hk Q E hQ
  obtain ⟨a, ob, h3, h4, h5, ch⟩ := R.chg (i := i) (by rw [hi]; rfl)
  rw [hi] at h5
  obtain rfl := RKs.inv hk
  replace hv := RVs.inv hv; obtain ⟨_, _, rfl, hv, hv'⟩ := hv
  replace hv' := RVs.inv hv'; obtain rfl := hv'
  have e := R.refAt hv h3
  subst e
  obtain ⟨es, ep, t, e, hT, hsz, k1, k2⟩ := h5
  subst e
  refine wpAny_call_entry F.slot_set_clear ⟨_, h4, rfl⟩ F.entry_set_clear ?_ (F.args_set_clear_1 _)
  unfold Builtin.«set.clear» Builtin.Frozenset.noArgs
  simp only [List.isEmpty_nil, bind_assoc]
  unfold Builtin.Frozenset.addrOf
  refine wpAny_bind (wpAny_pure ?_)
  refine wpAny_bind (clearAll_ok h4 hT fun h' ep' t' hs ho' hT' => ?_)
  refine wpAny_pure ⟨_, rfl, ?_⟩
  have hao : OR X g.I g.R a { cls := .type "set", data := .set #[] ep' t' } (.tset []) := ⟨#[], ep', t', rfl, hT', Nat.le_refl _, (fun p hp => nomatch hp), fun e he => by simp at he⟩
  exact hQ _ _ _ _ _ (Gh.le.set g a _) (ch h' s.toks _ _ hs ho' hao) .none h

/-- a list that is handed on stays as it is -/
theorem e_freeze {e : Expr} (h : AE X A env lo e st fun v st₁ => ∃ i xs, v = .ref i ∧ st₁ i = .list xs ∧ P (.list xs) (st₁.set i .dead)) : AE X A env lo e st P := by
  intro f m Xc s g R Q E hQ
  refine h f m Xc s g R Q E fun v s₁ g₁ x st₁ l₁ R₁ r₁ ⟨i, xs, ex, hi, p⟩ => ?_
  subst ex
  obtain ⟨g', r', l', R'⟩ := R₁.freezeList hi r₁
  exact hQ v s₁ g' _ _ (l₁.trans l') R' r' p
/-- a type by its name -/
theorem e_type {x : Str} {T : String} {p : Pos} (e : nsIn X.K mainGlobals x = some none) (hv : bootBuiltins x = some (.type T)) (hx : env.kindOf x = some .globalImplicit) (h : P (.ty T) st) (hn : x ≠ "__name__" := by decide) (hd : (x == ("__debug__" : Str)) = false := by decide) : AE X A env lo (.Name x p) st P :=
  fun f m Xc s g R Q E hQ => b_name R e hv hn (hQ _ _ g _ _ (Gh.le.refl g) R (.ty T) h) hx hd
end
end Mine

namespace Mine
/-! what a Flags object is, in the store -/
inductive Who where
  | free | inst | root | pend | fl (p : List Str) | rc (p : List Str) | ne (p : List Str)
def nd (t : Nat × Nat × Nat) : AV := .node t.1 t.2.1 t.2.2
abbrev NT := List Str → Option (Nat × Nat × Nat)
abbrev MK := List Str → Int → Bool
structure FlgN (st : Sto) (j d0 q : Nat) (N : NT) (who : Nat → Who) (fl rc : MK) (pa : AO) : Prop where
  live : ∀ i, who i ≠ .free → st i ≠ .dead
  inst : st j = .fields [(Str.ofString "_flags", .ref d0), (Str.ofString "_pending_flags", .ref q)] ∧ who j = .inst
  root : st d0 = .dict (fun k => (N [k]).map nd) ∧ who d0 = .root
  pend : st q = pa ∧ who q = .pend
  node : ∀ p f r d, N p = some (f, r, d) → (who f = .fl p ∧ st f = .iset (fl p)) ∧ (who r = .rc p ∧ st r = .iset (rc p)) ∧ (who d = .ne p ∧ st d = .dict (fun k => (N (p ++ [k])).map nd))
  no : ∀ p, N p = none → (∀ x, fl p x = false) ∧ ∀ x, rc p x = false
  pre : ∀ p k, p ≠ [] → N (p ++ [k]) ≠ none → N p ≠ none
  nil : N [] = none

/-- what is not of an object stays -/
def Ext (st : Sto) (who : Nat → Who) (st' : Sto) (who' : Nat → Who) : Prop := ∀ i, who i = .free → st i ≠ .dead → st' i = st i ∧ who' i = .free
theorem Ext.refl (st : Sto) (who : Nat → Who) : Ext st who st who := fun i h _ => ⟨rfl, h⟩
theorem Ext.trans {st st' st'' : Sto} {who who' who'' : Nat → Who} (h : Ext st who st' who') (h' : Ext st' who' st'' who'') : Ext st who st'' who'' := fun i a b => by
  obtain ⟨e1, e2⟩ := h i a b
  obtain ⟨e3, e4⟩ := h' i e2 (by rw [e1]; exact b)
  exact ⟨e3.trans e1, e4⟩

/-- the number of the dict at a way -/
def dn (d0 : Nat) (N : NT) (p : List Str) : Option Nat := if p = [] then some d0 else (N p).map (·.2.2)
def wd (p : List Str) : Who := if p = [] then .root else .ne p

section
variable {st : Sto} {j d0 q : Nat} {N : NT} {who : Nat → Who} {fl rc : MK} {pa : AO}
theorem FlgN.dict (H : FlgN st j d0 q N who fl rc pa) {p : List Str} {c : Nat} (h : dn d0 N p = some c) : st c = .dict (fun k => (N (p ++ [k])).map nd) ∧ who c = wd p := by
  unfold dn at h
  unfold wd
  by_cases hp : p = []
  · subst hp
    rw [if_pos rfl] at h ⊢
    cases h
    exact H.root
  · rw [if_neg hp] at h ⊢
    obtain ⟨⟨f, r, d⟩, e, rfl⟩ := Option.map_eq_some_iff.mp h
    exact ⟨(H.node p f r d e).2.2.2, (H.node p f r d e).2.2.1⟩
theorem FlgN.gone (H : FlgN st j d0 q N who fl rc pa) {p : List Str} (hp : p ≠ []) (h : N p = none) : ∀ r, N (p ++ r) = none := by
  intro r
  have key : ∀ n (r : List Str), r.length = n → N (p ++ r) = none := by
    intro n
    induction n with
    | zero => intro r hr; rw [List.eq_nil_of_length_eq_zero hr, List.append_nil]; exact h
    | succ n ih =>
      intro r hr
      have hne : r ≠ [] := by intro e; rw [e] at hr; cases hr
      have e : r = r.dropLast ++ [r.getLast hne] := (List.dropLast_concat_getLast hne).symm
      rw [e, ← List.append_assoc]
      by_cases q : N (p ++ r.dropLast ++ [r.getLast hne]) = none
      · exact q
      · exact absurd (ih r.dropLast (by rw [List.length_dropLast, hr]; rfl)) (H.pre _ _ (by intro e; exact hp (List.append_eq_nil_iff.mp e).1) q)
  exact key r.length r rfl

/-- what is_ tells -/
def isG (fl rc : MK) (x : Int) : List Str → List Str → Bool
  | _, [] => false
  | pre, [k] => fl (pre ++ [k]) x || rc (pre ++ [k]) x
  | pre, k :: k' :: r => rc (pre ++ [k]) x || isG fl rc x (pre ++ [k]) (k' :: r)
theorem isG_gone (H : FlgN st j d0 q N who fl rc pa) {x : Int} : ∀ (r pre : List Str) (k : Str), N (pre ++ [k]) = none → isG fl rc x pre (k :: r) = false
  | [], pre, k, h => by unfold isG; rw [(H.no _ h).1, (H.no _ h).2]; rfl
  | k' :: r, pre, k, h => by
    unfold isG
    rw [(H.no _ h).2, Bool.false_or]
    exact isG_gone H r (pre ++ [k]) k' (H.gone (by simp) h [k'])
end

section
variable {X : Fix} {A : Around} {env : Env} {lo : Lo} {st : Sto}
/-- a name of the frame's own is set -/
theorem u_loc {x : Str} {av : AV} {P : Lo → Sto → Prop} (h : P (put lo x av) st) (hx : env.kindOf x = some .local := by rfl) (hf : env.func.isSome = true := by rfl) : AU X A env (storeName env x) av lo st P :=
  u_store h (.inl hx) hf fun e => by rw [hx] at e; cases e
theorem u_nm {x : Str} {pos : Pos} {av : AV} {P : Lo → Sto → Prop} (h : P (put lo x av) st) (hx : env.kindOf x = some .local := by rfl) (hf : env.func.isSome = true := by rfl) : AU X A env (assign (.Name x pos) env) av lo st P :=
  u_name (u_loc h hx hf)
theorem put_get {x y : Str} {v w : AV} (hn : (y == x) = false) (h : lo.lookup y = some w) : (put lo x v).lookup y = some w := by
  rw [put_ne (by intro e; subst e; simp at hn)]; exact h
end
end Mine

namespace Mine

theorem seq_last (n : Nat) : seqIndex? (-1) (n + 1) = some n := by
  unfold seqIndex?
  have h1 : ((-1 : Int) < 0) := by decide
  rw [if_pos h1]
  have h2 : (0 ≤ (-1 : Int) + ((n + 1 : Nat) : Int)) := by omega
  have h3 : ((-1 : Int) + ((n + 1 : Nat) : Int)) < ((n + 1 : Nat) : Int) := by omega
  have h4 : ((-1 : Int) + ((n + 1 : Nat) : Int)).toNat = n := by omega
  simp only [h2, h3, decide_true, Bool.and_self, if_true, h4]

theorem snoc_inj {a b : List Str} {x y : Str} (h : a ++ [x] = b ++ [y]) : a = b ∧ x = y := by
  obtain ⟨h1, h2⟩ := List.append_inj' h rfl
  injection h2 with h2
  exact ⟨h1, h2⟩
theorem ne_wd {p p' : List Str} (h : p' ≠ p) : Who.ne p' ≠ wd p := by
  unfold wd; split
  · intro e; cases e
  · intro e; injection e with e; exact h e
def upN (N : NT) (p : List Str) (t : Option (Nat × Nat × Nat)) : NT := fun p' => if p' = p then t else N p'
def upM (m : MK) (p : List Str) (x : Int) : MK := fun p' y => if p' = p then m p' y || decide (y = x) else m p' y
def cutN (N : NT) (p : List Str) : NT := fun p' => if p <+: p' then none else N p'
def cutM (m : MK) (p : List Str) : MK := fun p' y => if p <+: p' then false else m p' y
def upW (who : Nat → Who) (i : Nat) (v : Who) : Nat → Who := fun i' => if i' = i then v else who i'

section
variable {st : Sto} {j d0 q : Nat} {N : NT} {who : Nat → Who} {fl rc : MK} {pa : AO}

theorem FlgN.free (H : FlgN st j d0 q N who fl rc pa) {i : Nat} (h : st i = .dead) : who i = .free := by
  by_cases e : who i = .free
  · exact e
  · exact absurd h (H.live i e)
/-- a node is laid -/
theorem FlgN.grow (H : FlgN st j d0 q N who fl rc pa) {p : List Str} {k : Str} {c f r d : Nat} (hc : dn d0 N p = some c) (hN : N (p ++ [k]) = none) (hf : st f = .dead) (hr : st r = .dead) (hd : st d = .dead) (h1 : r ≠ f) (h2 : d ≠ f) (h3 : d ≠ r) :
    ∃ who', FlgN ((((st.set f (.iset fun _ => false)).set r (.iset fun _ => false)).set d (.dict fun _ => none)).set c (.dict fun x => if x = k then some (.node f r d) else (N (p ++ [x])).map nd)) j d0 q (upN N (p ++ [k]) (some (f, r, d))) who' fl rc pa ∧
      Ext st who ((((st.set f (.iset fun _ => false)).set r (.iset fun _ => false)).set d (.dict fun _ => none)).set c (.dict fun x => if x = k then some (.node f r d) else (N (p ++ [x])).map nd)) who' := by
  obtain ⟨hcd, hcw⟩ := H.dict hc
  have wf := H.free hf
  have wr := H.free hr
  have wdd := H.free hd
  have hcn : ∀ i, who i = .free → i ≠ c := fun i hi e => by
    rw [e, hcw] at hi; unfold wd at hi; split at hi <;> cases hi
  have cf := hcn f wf
  have cr := hcn r wr
  have cd := hcn d wdd
  generalize hS : ((((st.set f (.iset fun _ => false)).set r (.iset fun _ => false)).set d (.dict fun _ => none)).set c (.dict fun x => if x = k then some (.node f r d) else (N (p ++ [x])).map nd)) = S
  obtain ⟨W, hW⟩ : ∃ W, W = upW (upW (upW who f (.fl (p ++ [k]))) r (.rc (p ++ [k]))) d (.ne (p ++ [k])) := ⟨_, rfl⟩
  have vc : S c = .dict fun x => if x = k then some (.node f r d) else (N (p ++ [x])).map nd := by rw [← hS, Sto.set_self]
  have Wd : W d = .ne (p ++ [k]) := by rw [hW]; unfold upW; rw [if_pos rfl]
  have Wr : W r = .rc (p ++ [k]) := by rw [hW]; unfold upW; rw [if_neg (Ne.symm h3), if_pos rfl]
  have Wf : W f = .fl (p ++ [k]) := by rw [hW]; unfold upW; rw [if_neg (Ne.symm h2), if_neg (Ne.symm h1), if_pos rfl]
  have We : ∀ i, i ≠ f → i ≠ r → i ≠ d → W i = who i := fun i a b e => by rw [hW]; unfold upW; rw [if_neg e, if_neg b, if_neg a]
  have keep : ∀ i, i ≠ f → i ≠ r → i ≠ d → i ≠ c → S i = st i := fun i a b e g => by
    rw [← hS, Sto.set_ne _ _ g, Sto.set_ne _ _ e, Sto.set_ne _ _ b, Sto.set_ne _ _ a]
  have keepW : ∀ i, who i ≠ .free → i ≠ c → S i = st i := fun i hi hc =>
    keep i (fun e => hi (by rw [e]; exact wf)) (fun e => hi (by rw [e]; exact wr)) (fun e => hi (by rw [e]; exact wdd)) hc
  have whoK : ∀ i, who i ≠ .free → W i = who i := fun i hi => by
    exact We i (fun e => hi (by rw [e]; exact wf)) (fun e => hi (by rw [e]; exact wr)) (fun e => hi (by rw [e]; exact wdd))
  have vf : S f = .iset fun _ => false := by
    rw [← hS, Sto.set_ne _ _ cf, Sto.set_ne _ _ (Ne.symm h2), Sto.set_ne _ _ (Ne.symm h1), Sto.set_self]
  have vr : S r = .iset fun _ => false := by
    rw [← hS, Sto.set_ne _ _ cr, Sto.set_ne _ _ (Ne.symm h3), Sto.set_self]
  have vd : S d = .dict fun _ => none := by
    rw [← hS, Sto.set_ne _ _ cd, Sto.set_self]
  have hdict : ∀ p', p' ≠ p → (fun x => (N (p' ++ [x])).map nd) = fun x => (upN N (p ++ [k]) (some (f, r, d)) (p' ++ [x])).map nd := fun p' hp' => by
    funext x; unfold upN
    rw [if_neg (fun e => hp' (snoc_inj e).1)]
  have hdictp : (fun x => if x = k then some (.node f r d) else (N (p ++ [x])).map nd) = fun x => (upN N (p ++ [k]) (some (f, r, d)) (p ++ [x])).map nd := by
    funext x; unfold upN
    by_cases hx : x = k
    · subst hx; rw [if_pos rfl, if_pos rfl]; rfl
    · rw [if_neg hx, if_neg (fun e => hx (snoc_inj e).2)]
  have wj : who j ≠ .free := by rw [H.inst.2]; intro e; cases e
  have w0 : who d0 ≠ .free := by rw [H.root.2]; intro e; cases e
  have wq : who q ≠ .free := by rw [H.pend.2]; intro e; cases e
  have cne : ∀ i, who i ≠ wd p → i ≠ c := fun i h e => h (by rw [e]; exact hcw)
  clear hS
  refine ⟨W, ⟨?_, ⟨?_, ?_⟩, ⟨?_, ?_⟩, ⟨?_, ?_⟩, ?_, ?_, ?_, ?_⟩, ?_⟩
  · intro i hi
    by_cases ec : i = c
    · rw [ec, vc]; intro e; cases e
    by_cases ed : i = d
    · rw [ed, vd]; intro e; cases e
    by_cases er : i = r
    · rw [er, vr]; intro e; cases e
    by_cases ef : i = f
    · rw [ef, vf]; intro e; cases e
    rw [keep i ef er ed ec]
    refine H.live i fun e => hi ?_
    rw [We i ef er ed]; exact e
  · rw [keepW j wj (cne j (by rw [H.inst.2]; unfold wd; split <;> (intro e; cases e)))]; exact H.inst.1
  · rw [whoK j wj]; exact H.inst.2
  · by_cases hp : p = []
    · subst hp
      have : c = d0 := by unfold dn at hc; rw [if_pos rfl] at hc; injection hc with e; exact e.symm
      rw [this] at vc
      rw [vc]
      exact congrArg AO.dict (by have := hdictp; simpa using this)
    · rw [keepW d0 w0 (cne d0 (by rw [H.root.2]; unfold wd; rw [if_neg hp]; intro e; cases e)), H.root.1]
      exact congrArg AO.dict (by have := hdict [] (fun e => hp e.symm); simpa using this)
  · rw [whoK d0 w0]; exact H.root.2
  · rw [keepW q wq (cne q (by rw [H.pend.2]; unfold wd; split <;> (intro e; cases e)))]; exact H.pend.1
  · rw [whoK q wq]; exact H.pend.2
  · intro p' f' r' d' e
    unfold upN at e
    by_cases hp' : p' = p ++ [k]
    · rw [if_pos hp'] at e
      cases e
      subst hp'
      refine ⟨⟨?_, ?_⟩, ⟨?_, ?_⟩, ?_, ?_⟩
      · exact Wf
      · rw [vf]; exact congrArg AO.iset (by funext x; exact ((H.no _ hN).1 x).symm)
      · exact Wr
      · rw [vr]; exact congrArg AO.iset (by funext x; exact ((H.no _ hN).2 x).symm)
      · exact Wd
      · rw [vd]
        refine congrArg AO.dict ?_
        funext x
        unfold upN
        rw [if_neg (by intro e; simpa using congrArg List.length e), H.gone (by simp) hN [x]]; rfl
    · rw [if_neg hp'] at e
      obtain ⟨⟨a1, a2⟩, ⟨b1, b2⟩, c1, c2⟩ := H.node p' f' r' d' e
      have nf : who f' ≠ .free := by rw [a1]; intro e; cases e
      have nr : who r' ≠ .free := by rw [b1]; intro e; cases e
      have ndd : who d' ≠ .free := by rw [c1]; intro e; cases e
      refine ⟨⟨by rw [whoK f' nf]; exact a1, ?_⟩, ⟨by rw [whoK r' nr]; exact b1, ?_⟩, by rw [whoK d' ndd]; exact c1, ?_⟩
      · rw [keepW f' nf (cne f' (by rw [a1]; unfold wd; split <;> (intro e; cases e)))]; exact a2
      · rw [keepW r' nr (cne r' (by rw [b1]; unfold wd; split <;> (intro e; cases e)))]; exact b2
      · by_cases hpp : p' = p
        · subst hpp
          have hpn : p' ≠ [] := by intro e'; subst e'; rw [H.nil] at e; cases e
          have : c = d' := by unfold dn at hc; rw [if_neg hpn, e] at hc; injection hc with e; exact e.symm
          rw [← this, vc]
          exact congrArg AO.dict hdictp
        · rw [keepW d' ndd (cne d' (by rw [c1]; exact ne_wd hpp))]
          rw [c2]; exact congrArg AO.dict (hdict p' hpp)
  · intro p' e
    unfold upN at e
    split at e
    · cases e
    · exact H.no p' e
  · intro p' k' hp' e
    unfold upN at e ⊢
    by_cases h4 : p' = p ++ [k]
    · rw [if_pos h4]; intro e; cases e
    · rw [if_neg h4]
      by_cases h5 : p' ++ [k'] = p ++ [k]
      · have hpp : p' = p := (snoc_inj h5).1
        subst hpp
        intro e6
        unfold dn at hc
        rw [if_neg hp', e6] at hc; cases hc
      · rw [if_neg h5] at e; exact H.pre p' k' hp' e
  · unfold upN; rw [if_neg (by simp)]; exact H.nil
  · intro i hi hd'
    have ef : i ≠ f := fun e => hd' (by rw [e]; exact hf)
    have er : i ≠ r := fun e => hd' (by rw [e]; exact hr)
    have ed : i ≠ d := fun e => hd' (by rw [e]; exact hd)
    exact ⟨keep i ef er ed (hcn i hi), by rw [We i ef er ed]; exact hi⟩

/-- a flag is set -/
theorem FlgN.markF (H : FlgN st j d0 q N who fl rc pa) {p : List Str} {f r d : Nat} (h : N p = some (f, r, d)) (x : Int) :
    FlgN (st.set f (.iset fun y => fl p y || decide (y = x))) j d0 q N who (upM fl p x) rc pa ∧ Ext st who (st.set f (.iset fun y => fl p y || decide (y = x))) who := by
  have hw := (H.node p f r d h).1.1
  have ne : ∀ i, who i ≠ .fl p → i ≠ f := fun i hi e => hi (by rw [e]; exact hw)
  refine ⟨⟨fun i hi => ?_, ⟨?_, H.inst.2⟩, ⟨?_, H.root.2⟩, ⟨?_, H.pend.2⟩, fun p' f' r' d' e => ?_, fun p' e => ⟨fun y => ?_, (H.no p' e).2⟩, H.pre, H.nil⟩, fun i hi hd => ⟨Sto.set_ne _ _ (ne i (by rw [hi]; intro e; cases e)), hi⟩⟩
  · by_cases e : i = f
    · rw [e, Sto.set_self]; intro e; cases e
    · rw [Sto.set_ne _ _ e]; exact H.live i hi
  · rw [Sto.set_ne _ _ (ne j (by rw [H.inst.2]; intro e; cases e))]; exact H.inst.1
  · rw [Sto.set_ne _ _ (ne d0 (by rw [H.root.2]; intro e; cases e))]; exact H.root.1
  · rw [Sto.set_ne _ _ (ne q (by rw [H.pend.2]; intro e; cases e))]; exact H.pend.1
  · obtain ⟨⟨a1, a2⟩, ⟨b1, b2⟩, c1, c2⟩ := H.node p' f' r' d' e
    refine ⟨⟨a1, ?_⟩, ⟨b1, by rw [Sto.set_ne _ _ (ne r' (by rw [b1]; intro e; cases e))]; exact b2⟩, c1, by rw [Sto.set_ne _ _ (ne d' (by rw [c1]; intro e; cases e))]; exact c2⟩
    by_cases hp : p' = p
    · subst hp
      rw [h] at e; cases e
      rw [Sto.set_self]
      exact congrArg AO.iset (by funext y; unfold upM; rw [if_pos rfl])
    · rw [Sto.set_ne _ _ (ne f' (by rw [a1]; exact fun e => hp (by injection e))), a2]
      exact congrArg AO.iset (by funext y; unfold upM; rw [if_neg hp])
  · unfold upM
    rw [if_neg (by intro e'; subst e'; rw [h] at e; cases e)]
    exact (H.no p' e).1 y
theorem FlgN.markR (H : FlgN st j d0 q N who fl rc pa) {p : List Str} {f r d : Nat} (h : N p = some (f, r, d)) (x : Int) :
    FlgN (st.set r (.iset fun y => rc p y || decide (y = x))) j d0 q N who fl (upM rc p x) pa ∧ Ext st who (st.set r (.iset fun y => rc p y || decide (y = x))) who := by
  have hw := (H.node p f r d h).2.1.1
  have ne : ∀ i, who i ≠ .rc p → i ≠ r := fun i hi e => hi (by rw [e]; exact hw)
  refine ⟨⟨fun i hi => ?_, ⟨?_, H.inst.2⟩, ⟨?_, H.root.2⟩, ⟨?_, H.pend.2⟩, fun p' f' r' d' e => ?_, fun p' e => ⟨(H.no p' e).1, fun y => ?_⟩, H.pre, H.nil⟩, fun i hi hd => ⟨Sto.set_ne _ _ (ne i (by rw [hi]; intro e; cases e)), hi⟩⟩
  · by_cases e : i = r
    · rw [e, Sto.set_self]; intro e; cases e
    · rw [Sto.set_ne _ _ e]; exact H.live i hi
  · rw [Sto.set_ne _ _ (ne j (by rw [H.inst.2]; intro e; cases e))]; exact H.inst.1
  · rw [Sto.set_ne _ _ (ne d0 (by rw [H.root.2]; intro e; cases e))]; exact H.root.1
  · rw [Sto.set_ne _ _ (ne q (by rw [H.pend.2]; intro e; cases e))]; exact H.pend.1
  · obtain ⟨⟨a1, a2⟩, ⟨b1, b2⟩, c1, c2⟩ := H.node p' f' r' d' e
    refine ⟨⟨a1, by rw [Sto.set_ne _ _ (ne f' (by rw [a1]; intro e; cases e))]; exact a2⟩, ⟨b1, ?_⟩, c1, by rw [Sto.set_ne _ _ (ne d' (by rw [c1]; intro e; cases e))]; exact c2⟩
    by_cases hp : p' = p
    · subst hp
      rw [h] at e; cases e
      rw [Sto.set_self]
      exact congrArg AO.iset (by funext y; unfold upM; rw [if_pos rfl])
    · rw [Sto.set_ne _ _ (ne r' (by rw [b1]; exact fun e => hp (by injection e))), b2]
      exact congrArg AO.iset (by funext y; unfold upM; rw [if_neg hp])
  · unfold upM
    rw [if_neg (by intro e'; subst e'; rw [h] at e; cases e)]
    exact (H.no p' e).2 y

/-- what waits is changed -/
theorem FlgN.pendTo (H : FlgN st j d0 q N who fl rc pa) {pa' : AO} (hn : pa' ≠ .dead) : FlgN (st.set q pa') j d0 q N who fl rc pa' ∧ Ext st who (st.set q pa') who := by
  have ne : ∀ i, who i ≠ .pend → i ≠ q := fun i hi e => hi (by rw [e]; exact H.pend.2)
  refine ⟨⟨fun i hi => ?_, ⟨?_, H.inst.2⟩, ⟨?_, H.root.2⟩, ⟨Sto.set_self .., H.pend.2⟩, fun p' f' r' d' e => ?_, H.no, H.pre, H.nil⟩, fun i hi hd => ⟨Sto.set_ne _ _ (ne i (by rw [hi]; intro e; cases e)), hi⟩⟩
  · by_cases e : i = q
    · rw [e, Sto.set_self]; exact hn
    · rw [Sto.set_ne _ _ e]; exact H.live i hi
  · rw [Sto.set_ne _ _ (ne j (by rw [H.inst.2]; intro e; cases e))]; exact H.inst.1
  · rw [Sto.set_ne _ _ (ne d0 (by rw [H.root.2]; intro e; cases e))]; exact H.root.1
  · obtain ⟨⟨a1, a2⟩, ⟨b1, b2⟩, c1, c2⟩ := H.node p' f' r' d' e
    exact ⟨⟨a1, by rw [Sto.set_ne _ _ (ne f' (by rw [a1]; intro e; cases e))]; exact a2⟩, ⟨b1, by rw [Sto.set_ne _ _ (ne r' (by rw [b1]; intro e; cases e))]; exact b2⟩, c1, by rw [Sto.set_ne _ _ (ne d' (by rw [c1]; intro e; cases e))]; exact c2⟩

/-- a way is taken off -/
theorem FlgN.cut (H : FlgN st j d0 q N who fl rc pa) {p : List Str} {k : Str} {c : Nat} (hc : dn d0 N p = some c) :
    FlgN (st.set c (.dict fun x => if x = k then none else (N (p ++ [x])).map nd)) j d0 q (cutN N (p ++ [k])) who (cutM fl (p ++ [k])) (cutM rc (p ++ [k])) pa ∧ Ext st who (st.set c (.dict fun x => if x = k then none else (N (p ++ [x])).map nd)) who := by
  obtain ⟨hcd, hcw⟩ := H.dict hc
  have ne : ∀ i, who i ≠ wd p → i ≠ c := fun i hi e => hi (by rw [e]; exact hcw)
  have wdne : ∀ v, v ≠ .root → (∀ p', v ≠ .ne p') → v ≠ wd p := fun v h1 h2 => by
    unfold wd; split
    · exact h1
    · exact h2 p
  have hdictp : (fun x => if x = k then none else (N (p ++ [x])).map nd) = fun x => (cutN N (p ++ [k]) (p ++ [x])).map nd := by
    funext x; unfold cutN
    by_cases hx : x = k
    · subst hx; rw [if_pos rfl, if_pos (List.prefix_refl _)]; rfl
    · rw [if_neg hx, if_neg]
      intro e
      have := (List.prefix_append_right_inj p).mp e
      rcases this with ⟨t, ht⟩
      injection ht with h1 h2
      exact hx h1.symm
  have hdict : ∀ p', p' ≠ p → ¬ (p ++ [k]) <+: p' → (fun x => (N (p' ++ [x])).map nd) = fun x => (cutN N (p ++ [k]) (p' ++ [x])).map nd := fun p' hp' hn => by
    funext x; unfold cutN
    rw [if_neg]
    intro e
    rcases List.prefix_concat_iff.mp e with h | h
    · exact hp' (snoc_inj h).1.symm
    · exact hn h
  refine ⟨⟨fun i hi => ?_, ⟨?_, H.inst.2⟩, ⟨?_, H.root.2⟩, ⟨?_, H.pend.2⟩, fun p' f' r' d' e => ?_, fun p' e => ?_, fun p' k' hp' e => ?_, ?_⟩, fun i hi hd => ⟨Sto.set_ne _ _ (ne i (by rw [hi]; exact wdne _ (by intro e; cases e) (by intro _ e; cases e))), hi⟩⟩
  · by_cases e : i = c
    · rw [e, Sto.set_self]; intro e; cases e
    · rw [Sto.set_ne _ _ e]; exact H.live i hi
  · rw [Sto.set_ne _ _ (ne j (by rw [H.inst.2]; exact wdne _ (by intro e; cases e) (by intro _ e; cases e)))]; exact H.inst.1
  · by_cases hp : p = []
    · subst hp
      have : c = d0 := by unfold dn at hc; rw [if_pos rfl] at hc; injection hc with e; exact e.symm
      rw [this, Sto.set_self]
      exact congrArg AO.dict (by have := hdictp; simpa using this)
    · rw [Sto.set_ne _ _ (ne d0 (by rw [H.root.2]; unfold wd; rw [if_neg hp]; intro e; cases e)), H.root.1]
      exact congrArg AO.dict (by have := hdict [] (fun e => hp e.symm) (by intro e; simpa using List.IsPrefix.length_le e); simpa using this)
  · rw [Sto.set_ne _ _ (ne q (by rw [H.pend.2]; exact wdne _ (by intro e; cases e) (by intro _ e; cases e)))]; exact H.pend.1
  · unfold cutN at e
    split at e
    · cases e
    · rename_i hn
      obtain ⟨⟨a1, a2⟩, ⟨b1, b2⟩, c1, c2⟩ := H.node p' f' r' d' e
      refine ⟨⟨a1, ?_⟩, ⟨b1, ?_⟩, c1, ?_⟩
      · rw [Sto.set_ne _ _ (ne f' (by rw [a1]; exact wdne _ (by intro e; cases e) (by intro _ e; cases e))), a2]
        exact congrArg AO.iset (by funext y; unfold cutM; rw [if_neg hn])
      · rw [Sto.set_ne _ _ (ne r' (by rw [b1]; exact wdne _ (by intro e; cases e) (by intro _ e; cases e))), b2]
        exact congrArg AO.iset (by funext y; unfold cutM; rw [if_neg hn])
      · by_cases hpp : p' = p
        · subst hpp
          have hpn : p' ≠ [] := by intro e'; subst e'; rw [H.nil] at e; cases e
          have : c = d' := by unfold dn at hc; rw [if_neg hpn, e] at hc; injection hc with e; exact e.symm
          rw [← this, Sto.set_self]
          exact congrArg AO.dict hdictp
        · rw [Sto.set_ne _ _ (ne d' (by rw [c1]; exact ne_wd hpp)), c2]
          exact congrArg AO.dict (hdict p' hpp hn)
  · unfold cutN at e
    split at e
    · rename_i hn
      exact ⟨fun x => by unfold cutM; rw [if_pos hn], fun x => by unfold cutM; rw [if_pos hn]⟩
    · rename_i hn
      exact ⟨fun x => by unfold cutM; rw [if_neg hn]; exact (H.no p' e).1 x, fun x => by unfold cutM; rw [if_neg hn]; exact (H.no p' e).2 x⟩
  · unfold cutN at e ⊢
    split at e
    · exact absurd rfl e
    · rename_i hn
      rw [if_neg (fun h => hn (h.trans (List.prefix_append _ _)))]
      exact H.pre p' k' hp' e
  · unfold cutN
    rw [if_neg (by intro e; simpa using List.IsPrefix.length_le e)]
    exact H.nil
/-- a way that is not there needs no taking off -/
theorem FlgN.cutM_no (H : FlgN st j d0 q N who fl rc pa) {p : List Str} (hp : p ≠ []) (h : N p = none) : cutN N p = N ∧ cutM fl p = fl ∧ cutM rc p = rc := by
  have key : ∀ p', p <+: p' → N p' = none := fun p' ⟨r, hr⟩ => by rw [← hr]; exact H.gone hp h r
  refine ⟨?_, ?_, ?_⟩
  · funext p'; unfold cutN; split
    · rename_i hq; exact (key p' hq).symm
    · rfl
  · funext p' y; unfold cutM; split
    · rename_i hq; exact ((H.no p' (key p' hq)).1 y).symm
    · rfl
  · funext p' y; unfold cutM; split
    · rename_i hq; exact ((H.no p' (key p' hq)).2 y).symm
    · rfl
end

section
variable {X : Fix} {A : Around} {env : Env} {lo : Lo} {st : Sto} {P : AF → Lo → Sto → Prop}
/-- two names at once -/
theorem s_swap2 {x y : Str} {px py tpos pos : Pos} {k : Nat} {e : Expr} (h : AE X A env lo e st fun v st₁ => ∃ a b, v = .tup [a, b] ∧ AU X A env (storeName env y) b lo st₁ fun lo₁ st₂ => AU X A env (storeName env x) a lo₁ st₂ fun lo' st' => P .next lo' st')
    (hs : swapsWithSole [.Tuple [.Name x px, .Name y py] k tpos] e pos.line env = pure false := by rfl) (hw : swappedStores [.Tuple [.Name x px, .Name y py] k tpos] e env = pure (some [x, y]) := by rfl) :
    AX X A env (.Assign [.Tuple [.Name x px, .Name y py] k tpos] e pos) lo st P := by
  intro f m Xc s g R Q E hQ
  refine Assign_Tuple_swapped (names := [x, y]) (h f m Xc s g R _ _ fun v s₁ g₁ av st₁ l₁ R₁ r₁ ⟨a, b, ev, p₁⟩ => ?_) hs hw
  subst ev
  replace r₁ := RV.inv r₁; obtain ⟨t, vs, rfl, hI, hr⟩ := r₁
  have hT : IsTup s₁.heap t vs.toArray := ⟨_, R₁.getI hI, rfl, _, rfl⟩
  have hl := hr.length
  refine unpackItemsN_ R₁.F R₁.N hT R₁.ok.hand (by rw [List.size_toArray, hl]; rfl) fun h' F' N' => ?_
  replace hr := RVs.inv hr; obtain ⟨_, _, rfl, ra, hr'⟩ := hr; replace hr' := RVs.inv hr'; obtain ⟨_, _, rfl, rb, hr''⟩ := hr'
  replace hr'' := RVs.inv hr''; obtain rfl := hr''
  show wpAny _ A (assignInOrder [bindName env y, bindName env x] [_, _]) _ _ _
  refine assignInOrder_cons (bindName_ (p₁ f m Xc { s₁ with heap := h' } g₁ ⟨R₁.ok, R₁.globals, R₁.builtins, R₁.kind, R₁.loc, R₁.gens, R₁.os, F', N', R₁.nd, R₁.vars, R₁.cells, R₁.ndR, R₁.old, R₁.ban, R₁.obj⟩ _ rb _ _ fun s₂ g₂ m₂ Xc₂ lo₂ st₂ l₂ R₂ p₂ => ?_))
  refine assignInOrder_cons (bindName_ (p₂ f m₂ Xc₂ s₂ g₂ R₂ _ (ra.le l₂) _ _ fun s₃ g₃ m₃ Xc₃ lo₃ st₃ l₃ R₃ p₃ => ?_))
  exact assignInOrder_nil (hQ _ s₃ g₃ m₃ Xc₃ _ lo₃ st₃ ((l₁.trans l₂).trans l₃) R₃ .next p₃)
end

section
variable {X : Fix} {A : Around} {env : Env} {lo : Lo} {st : Sto} {P : AV → Sto → Prop}
/-- a new node, with its two sets and its dict -/
theorem e_newNode {k1 k2 k3 : Nat} {p1 p2 p3 pos q1 q2 c1 c2 c3 : Pos} (hset : nsIn X.K mainGlobals (Str.ofString "set") = some none) (hx : env.kindOf (Str.ofString "set") = some .globalImplicit) {n : Nat} (hr : Room n A)
    (h : ∀ f r d, st f = .dead → st r = .dead → st d = .dead → r ≠ f → d ≠ f → d ≠ r → P (.node f r d) (((st.set f (.iset fun _ => false)).set r (.iset fun _ => false)).set d (.dict fun _ => none))) :
    AE X A env lo (.Dict [some (.Constant (.str (Str.ofString "flags")) k1 p1), some (.Constant (.str (Str.ofString "recursive_flags")) k2 p2), some (.Constant (.str (Str.ofString "nested")) k3 p3)]
      [.Call (.Name (Str.ofString "set") q1) [] [] c1, .Call (.Name (Str.ofString "set") q2) [] [] c2, .Dict [] [] c3] pos) st P := by
  refine e_node (e_call (an_bi hset rfl hx) (keep_t _) hr (h := a_nil (c_set0 fun f hf => ⟨f, rfl, ?_⟩)))
  refine e_call (an_bi hset rfl hx) (keep_t _) hr (h := a_nil (c_set0 fun r hr' => ⟨r, rfl, ?_⟩))
  refine e_dict0 fun d hd => ⟨d, rfl, ?_⟩
  have h1 : r ≠ f := fun e => by rw [e, Sto.set_self] at hr'; cases hr'
  have h3 : d ≠ r := fun e => by rw [e, Sto.set_self] at hd; cases hd
  rw [Sto.set_ne _ _ h1] at hr'
  rw [Sto.set_ne _ _ h3] at hd
  have h2 : d ≠ f := fun e => by rw [e, Sto.set_self] at hd; cases hd
  rw [Sto.set_ne _ _ h2] at hd
  exact h f r d hf hr' hd h1 h2 h3
end
end Mine

namespace Mine
theorem mod2e {v : Nat} (h : v % 2 = 1) : ((v % 2 : Nat) : Int) = 1 := congrArg Int.ofNat h
theorem nlt1 {w : Nat} (h : 1 < w) : (1 : Int) < (w : Int) := Int.ofNat_lt.mpr h
theorem nnlt1 {w : Nat} (h : ¬ 1 < w) : ¬ (1 : Int) < (w : Int) := fun e => h (Int.ofNat_lt.mp e)
theorem fmodN (a b : Nat) : (a : Int).fmod (b : Int) = ((a % b : Nat) : Int) := by
  rw [Int.fmod_eq_emod_of_nonneg _ (Int.natCast_nonneg b)]; exact (Int.natCast_emod a b).symm
theorem fdivN (a b : Nat) : (a : Int).fdiv (b : Int) = ((a / b : Nat) : Int) := by
  rw [Int.fdiv_eq_ediv_of_nonneg _ (Int.natCast_nonneg b)]; exact (Int.natCast_ediv a b).symm

section
variable {X : Fix} {A : Around} {env : Env} {lo : Lo} {st : Sto} {P : AV → Sto → Prop} {a : Nat}
theorem b_modN {b : Nat} (hb : b ≠ 0) (h : P (.int ((a % b : Nat) : Int)) st) : AW2 X A env lo (binaryOp .Mod) (.int (a : Int)) (.int (b : Int)) st P :=
  b_mod (by omega) (by rw [fmodN]; exact h)
theorem b_divN {b : Nat} (hb : b ≠ 0) (hs : b < 1073741824) (h : P (.int ((a / b : Nat) : Int)) st) : AW2 X A env lo (binaryOp .FloorDiv) (.int (a : Int)) (.int (b : Int)) st P :=
  b_div (by omega) (PyProof.noPylong_small (by omega)) (by rw [fdivN]; exact h)
end

/-! the ways -/
def nmA : Nat → Str
  | 0 => Str.ofString "a"
  | _ => Str.ofString "nested"
def wy : Nat → Nat → List Str → List Str
  | 0, _, acc => acc
  | f + 1, w, acc => if w ≤ 1 then acc else wy f (w / 2) (nmA (w % 2) :: acc)
def way (v : Nat) : List Str := wy 10 (v / 2 + 1) (if v % 2 = 1 then [Str.ofString "c"] else [])
def gw : Nat → Nat → Nat → Nat
  | 0, w, _ => w
  | f + 1, w, m => if w > m then gw f (w / 2) m else w
def bg (v u : Nat) : Bool := if v % 2 = 1 then v == u else gw 10 (u / 2 + 1) (v / 2 + 1) == v / 2 + 1
theorem bg_prefix : ∀ v < 14, ∀ u < 14, bg v u = decide (way v <+: way u) := by decide +kernel
theorem way_ok : ∀ v < 14, (way v).length ≤ 900 ∧ (∀ k ∈ way v, k = Str.ofString "a" ∨ k = Str.ofString "nested" ∨ k = Str.ofString "c") ∧ (v ≠ 0 → way v ≠ []) := by decide +kernel
theorem way_inj : ∀ v < 14, ∀ u < 14, way v = way u → v = u := by decide +kernel
end Mine

namespace Mine
abbrev Call := Int × Int × Nat
def cav (c : Call) : AV := .tup [.int c.1, .int c.2.1, .int (c.2.2 : Int)]
def pendM (fl : MK) (ps : List (List Str × Int)) : MK := fun p y => fl p y || decide ((p, y) ∈ ps)
structure Mk where
  fl : MK
  rc : MK
  ps : List (List Str × Int)
def stp (m : Mk) (c : Call) : Mk :=
  if c.2.1 = 0 then ⟨upM m.fl (way c.2.2) c.1, m.rc, m.ps⟩
  else if c.2.1 = 1 then ⟨m.fl, upM m.rc (way c.2.2) c.1, m.ps⟩
  else if c.2.1 = 2 then ⟨m.fl, m.rc, m.ps ++ [(way c.2.2, c.1)]⟩
  else if c.2.1 = 3 then ⟨pendM m.fl m.ps, m.rc, []⟩
  else ⟨cutM m.fl (way c.2.2), cutM m.rc (way c.2.2), m.ps⟩
def OkC (c : Call) : Prop := 0 ≤ c.1 ∧ c.1 < 64 ∧ c.2.2 ≠ 0 ∧ c.2.2 < 14
def names3 : List Str := [Str.ofString "a", Str.ofString "nested", Str.ofString "c"]
def OkR (r : List Str × Int) : Prop := okP r ∧ r.1.length ≤ 900 ∧ (∀ k ∈ r.1, k ∈ names3) ∧ 0 ≤ r.2 ∧ r.2 < 64
theorem way_names {v : Nat} (hv : v < 14) : ∀ k ∈ way v, k ∈ names3 := fun k hk => by
  rcases (way_ok v hv).2.1 k hk with rfl | rfl | rfl
  · exact .head _
  · exact .tail _ (.head _)
  · exact .tail _ (.tail _ (.head _))
theorem lay3 : ∀ k ∈ names3, PyData.canLay0 (.str k) = true := by decide +kernel
theorem OkC.row {c : Call} (h : OkC c) : OkR (way c.2.2, c.1) :=
  ⟨⟨(way_ok _ h.2.2.2).2.2 h.2.2.1, fun k hk => lay3 k (way_names h.2.2.2 k hk)⟩, (way_ok _ h.2.2.2).1, way_names h.2.2.2, h.1, h.2.1⟩
theorem stp_ps {m : Mk} {c : Call} (hc : OkC c) (h : ∀ r ∈ m.ps, OkR r) : (∀ r ∈ (stp m c).ps, OkR r) ∧ (stp m c).ps.length ≤ m.ps.length + 1 := by
  unfold stp
  split
  · exact ⟨h, Nat.le_succ _⟩
  split
  · exact ⟨h, Nat.le_succ _⟩
  split
  · refine ⟨fun r hr => ?_, by simp⟩
    rcases List.mem_append.mp hr with hr | hr
    · exact h r hr
    · rw [List.mem_singleton.mp hr]; exact hc.row
  split
  · exact ⟨fun r hr => (by cases hr), Nat.zero_le _⟩
  · exact ⟨h, Nat.le_succ _⟩
end Mine

namespace Mine
section
variable {X : Fix} {env : Env} {scope : Scope} {cl : List (Str × Addr)} {C : Addr} {lo lc : Lo}
/-- a name that a block takes from its frame -/
def Cap (env : Env) (scope : Scope) (cl : List (Str × Addr)) (C : Addr) (lo : Lo) (y : Str) (av : AV) : Prop :=
  lo.lookup y = some av ∧ env.kindOf y ≠ some .local ∧ ((compEnvC scope cl C env).kindOf y = some .cell ∨ ((compEnvC scope cl C env).kindOf y = some .free ∧ (y == ("__classdict__" : Str)) = false)) ∧ (compEnvC scope cl C env).cells.lookup y = env.cells.lookup y
theorem block_of (hk : (compEnvC scope cl C env).scope.kind = .function) (hc : ∀ y c, (compEnvC scope cl C env).cells.lookup y = some c → env.cells.lookup y = some c) (h : ∀ y av, lc.lookup y = some av → Cap env scope cl C lo y av) :
    BlockOk X env (compEnvC scope cl C env) C lo lc := ⟨rfl, rfl, hk, rfl, rfl, hc, h⟩
theorem caps_cons {x : Str} {v : AV} (h : Cap env scope cl C lo x v) (r : ∀ y av, lc.lookup y = some av → Cap env scope cl C lo y av) : ∀ y av, ((x, v) :: lc).lookup y = some av → Cap env scope cl C lo y av := fun y av e => by
  rw [List.lookup_cons] at e
  split at e
  · rename_i q; rw [eq_of_beq q]; cases e; exact h
  · exact r y av e
theorem caps_nil : ∀ y av, ([] : Lo).lookup y = some av → Cap env scope cl C lo y av := fun y av e => by cases e
theorem cells_cons {x : Str} {c : Addr} {r : List (Str × Addr)} {e : List (Str × Addr)} (h : e.lookup x = some c) (h2 : ∀ y c, r.lookup y = some c → e.lookup y = some c) : ∀ y c', ((x, c) :: r).lookup y = some c' → e.lookup y = some c' := fun y c' q => by
  rw [List.lookup_cons] at q
  split at q
  · rename_i z; rw [eq_of_beq z]; cases q; exact h
  · exact h2 y c' q
theorem cells_nil {e : List (Str × Addr)} : ∀ y c, ([] : List (Str × Addr)).lookup y = some c → e.lookup y = some c := fun y c q => by cases q
end

/-! plain: since when -/
def kindAt (cs : List Call) (j : Nat) : Int := (cs[j]?.map (·.2.1)).getD 0
def minL (ns : List Nat) (d : Nat) : Nat := ns.foldr min d
def sinceN (cs : List Call) (k : Nat) : Nat :=
  if kindAt cs k < 2 then k
  else if kindAt cs k = 2 then minL ((List.range' k (cs.length - k)).filter fun j => kindAt cs j == 3) cs.length
  else cs.length
theorem minL_le : ∀ (ns : List Nat) (d : Nat), minL ns d ≤ d ∧ ∀ a ∈ ns, minL ns d ≤ a
  | [], d => ⟨Nat.le_refl _, fun a h => by cases h⟩
  | n :: r, d => by
    obtain ⟨h1, h2⟩ := minL_le r d
    refine ⟨Nat.le_trans (Nat.min_le_right _ _) h1, fun a h => ?_⟩
    rcases List.mem_cons.mp h with rfl | h
    · exact Nat.min_le_left _ _
    · exact Nat.le_trans (Nat.min_le_right _ _) (h2 a h)
theorem minL_mem : ∀ (ns : List Nat) (d : Nat), minL ns d = d ∨ minL ns d ∈ ns
  | [], d => .inl rfl
  | n :: r, d => by
    show min n (minL r d) = d ∨ min n (minL r d) ∈ n :: r
    rcases Nat.le_total n (minL r d) with h | h
    · rw [Nat.min_eq_left h]; exact .inr (.head _)
    · rw [Nat.min_eq_right h]
      rcases minL_mem r d with e | e
      · exact .inl e
      · exact .inr (.tail _ e)
theorem sub_listN {X : Fix} {A : Around} {env : Env} {lo : Lo} {st : Sto} {P : AV → Sto → Prop} {value slice : Expr} {xs : List AV} {k : Nat} {z : AV} (hfit : k < 1000000) (hx : xs[k]? = some z) (h : P z st)
    (hs : ∀ l u, subscripted slice false (.ref l) (.int (k : Int) u) = operate [.ref l, .int (k : Int) u] (getItem (.ref l) (.int (k : Int) u)) := by intro _ _; with_unfolding_all rfl) : AW2 X A env lo (subscriptTail value slice) (.list xs) (.int (k : Int)) st P :=
  sub_list (by omega) (by omega) (by simpa using hx) h hs
theorem rangeL_len (a c : Int) (n : Nat) : (rangeL a c n).length = n := by unfold rangeL; rw [List.length_map, List.length_range]
theorem rangeL_nat (a n : Nat) : rangeL (a : Int) 1 n = (List.range' a n).map fun (i : Nat) => AV.int (i : Int) := by
  unfold rangeL
  rw [List.range'_eq_map_range, List.map_map]
  refine List.map_congr_left fun i _ => ?_
  show AV.int ((a : Int) + (i : Int) * 1) = AV.int ((a + i : Nat) : Int)
  congr 1; omega
theorem rfit {i : Int} (h : -1000000 ≤ i) (h2 : i ≤ 1000000) : Builtin.Range.rangeFitsLong i = true := by
  unfold Builtin.Range.rangeFitsLong
  rw [Bool.and_eq_true, decide_eq_true_eq, decide_eq_true_eq]
  omega
theorem range_fit {a b : Nat} (hb : b < 100000) (hab : a ≤ b) : Builtin.Range.small (a : Int) (b : Int) 1 = true ∧ Builtin.Range.rangeSize (a : Int) (b : Int) 1 = ((b - a : Nat) : Int) := by
  have hs : Builtin.Range.rangeSize (a : Int) (b : Int) 1 = ((b - a : Nat) : Int) := by
    unfold Builtin.Range.rangeSize
    rw [if_pos (by decide)]
    by_cases h : (a : Int) < (b : Int)
    · rw [if_pos h, Int.ediv_one]; omega
    · rw [if_neg h]; omega
  refine ⟨?_, hs⟩
  unfold Builtin.Range.small
  rw [hs, rfit (by omega) (by omega), rfit (by omega) (by omega), rfit (by omega) (by omega), rfit (by omega) (by omega), if_pos (by decide), rfit (by omega) (by omega)]
  simp
theorem range_down {a : Nat} (hb : a < 100000) : Builtin.Range.small ((a : Int) - 1) (-1) (-1) = true ∧ Builtin.Range.rangeSize ((a : Int) - 1) (-1) (-1) = (a : Int) := by
  have hs : Builtin.Range.rangeSize ((a : Int) - 1) (-1) (-1) = (a : Int) := by
    unfold Builtin.Range.rangeSize
    rw [if_neg (by decide)]
    by_cases h : ((a : Int) - 1) > -1
    · rw [if_pos h, show (-(-1 : Int)) = 1 from rfl, Int.ediv_one]; omega
    · rw [if_neg h]; omega
  refine ⟨?_, hs⟩
  unfold Builtin.Range.small
  rw [hs, rfit (by omega) (by omega), rfit (by omega) (by omega), rfit (by omega) (by omega), rfit (by omega) (by omega), if_neg (by decide), rfit (by omega) (by omega)]
  simp
end Mine
namespace Mine
section
variable {X : Fix} {A : Around} {env : Env} {lo : Lo} {st : Sto}
/-- a name that blocks take is set -/
theorem u_cell {x : Str} {av : AV} {c : Addr} {P : Lo → Sto → Prop} (h : P (put lo x av) st) (hx : env.kindOf x = some .cell := by rfl) (hf : env.func.isSome = true := by rfl) (hc : env.cells.lookup x = some c := by rfl) : AU X A env (storeName env x) av lo st P :=
  u_store h (.inr hx) hf fun _ => ⟨c, hc⟩
theorem u_nmc {x : Str} {pos : Pos} {av : AV} {c : Addr} {P : Lo → Sto → Prop} (h : P (put lo x av) st) (hx : env.kindOf x = some .cell := by rfl) (hf : env.func.isSome = true := by rfl) (hc : env.cells.lookup x = some c := by rfl) : AU X A env (assign (.Name x pos) env) av lo st P :=
  u_name (u_cell h hx hf hc)
end

/-! plain: what stands -/
def endedN (cs : List Call) (k v : Nat) : List Call := (cs.drop (sinceN cs k)).filter fun c => c.2.1 == 4 && bg c.2.2 v
def stands (cs : List Call) (k : Nat) (c : Call) : Bool := decide (sinceN cs k < cs.length) && (endedN cs k c.2.2).isEmpty
def standAt (cs : List Call) (k : Nat) : Option Call := cs[k]?.bind fun c => if stands cs k c = true then some c else none
def standing (cs : List Call) : List Call := (List.range cs.length).filterMap (standAt cs)
def dcav (c : Call) : PyData := .tuple [.int c.1, .int c.2.1, .int (c.2.2 : Int)]
theorem dats_cav (cs : List Call) : Dts (cs.map cav) (cs.map dcav) := Dts.map (fun c => .tup (.cons (.int _) (.cons (.int _) (.cons (.int _) .nil)))) cs
theorem depth_cav (cs : List Call) : PyData.depthAll (cs.map dcav) ≤ 63 := by
  refine depthAll_le fun d hd => ?_
  obtain ⟨c, _, rfl⟩ := List.mem_map.mp hd
  show PyData.depthAll [.int c.1, .int c.2.1, .int (c.2.2 : Int)] + 1 ≤ 63
  refine Nat.le_trans (Nat.succ_le_succ (depthAll_le (n := 0) fun d hd => ?_)) (by decide)
  simp only [List.mem_cons, List.not_mem_nil, or_false] at hd
  rcases hd with rfl | rfl | rfl <;> exact Nat.le_refl 0
end Mine

namespace Mine
def tells (u : Nat) (c : Call) : Bool := c.2.2 == u || (c.2.1 == 1 && bg c.2.2 u)
def toldN (ss : List Call) (u : Nat) : List Int := (ss.filter (tells u)).map (·.1)
def dueRow (ss : List Call) (count u : Nat) : List Bool := (List.range count).map fun (place : Nat) => (toldN ss u).any (· == (place : Int))
def dueN (cs : List Call) (count : Nat) : List (List Bool) := (List.range 14).map (dueRow (standing cs) count)
theorem standing_sub {cs : List Call} {c : Call} (h : c ∈ standing cs) : c ∈ cs := by
  unfold standing at h
  obtain ⟨k, _, hk⟩ := List.mem_filterMap.mp h
  unfold standAt at hk
  obtain ⟨c', h1, h2⟩ := Option.bind_eq_some_iff.mp hk
  split at h2
  · cases h2; exact List.mem_of_getElem? h1
  · cases h2
theorem standing_len (cs : List Call) : (standing cs).length ≤ cs.length := by
  have := List.length_filterMap_le (standAt cs) (List.range cs.length)
  rwa [List.length_range] at this
end Mine
namespace Mine
theorem FlgN.of {st st' : Sto} {j d0 q : Nat} {N : NT} {who : Nat → Who} {fl rc : MK} {pa : AO} (H : FlgN st j d0 q N who fl rc pa) (h : ∀ i, who i ≠ .free → st' i = st i) : FlgN st' j d0 q N who fl rc pa := by
  refine ⟨fun i hi => by rw [h i hi]; exact H.live i hi, ⟨?_, H.inst.2⟩, ⟨?_, H.root.2⟩, ⟨?_, H.pend.2⟩, fun p f r d e => ?_, H.no, H.pre, H.nil⟩
  · rw [h j (by rw [H.inst.2]; intro e; cases e)]; exact H.inst.1
  · rw [h d0 (by rw [H.root.2]; intro e; cases e)]; exact H.root.1
  · rw [h q (by rw [H.pend.2]; intro e; cases e)]; exact H.pend.1
  · obtain ⟨⟨a1, a2⟩, ⟨b1, b2⟩, c1, c2⟩ := H.node p f r d e
    exact ⟨⟨a1, by rw [h f (by rw [a1]; intro e; cases e)]; exact a2⟩, ⟨b1, by rw [h r (by rw [b1]; intro e; cases e)]; exact b2⟩, c1, by rw [h d (by rw [c1]; intro e; cases e)]; exact c2⟩
theorem FlgN.put {st : Sto} {j d0 q : Nat} {N : NT} {who : Nat → Who} {fl rc : MK} {pa ao : AO} {i : Nat} (H : FlgN st j d0 q N who fl rc pa) (hi : st i = .dead) : FlgN (st.set i ao) j d0 q N who fl rc pa :=
  H.of fun k hk => Sto.set_ne _ _ (fun e => hk (by rw [e]; exact H.free hi))

def readRow (fl rc : MK) (count u : Nat) : List Bool := (List.range count).map fun (place : Nat) => isG fl rc (place : Int) [] (way u)
def readN (fl rc : MK) (count : Nat) : List (List Bool) := (List.range 14).map (readRow fl rc count)
end Mine

namespace Mine
def at2 (A : List (List Bool)) (u place : Nat) : Bool := ((A[u]?).bind fun r => r[place]?).getD false
def waysN (A : List (List Bool)) (place : Nat) : List Nat := (List.range 14).filter fun u => at2 A u place
def mstep (A : List (List Bool)) (m : MK × MK) (place : Nat) : MK × MK :=
  match waysN A place with
  | [] => m
  | u :: r => if (u % 2 == 0 && ((u :: r).map fun (i : Nat) => (i : Int)).any (· == (u : Int) + 1)) = true then (m.1, upM m.2 (way u) (place : Int)) else (upM m.1 (way u) (place : Int), m.2)
def made (A : List (List Bool)) (count : Nat) : MK × MK := ((List.range count).reverse).foldl (mstep A) (fun _ _ => false, fun _ _ => false)
theorem rangeL_down (n : Nat) : rangeL ((n : Int) - 1) (-1) n = ((List.range n).reverse).map fun (i : Nat) => AV.int (i : Int) := by
  unfold rangeL
  refine List.ext_getElem (by simp) fun k h1 h2 => ?_
  have hk : k < n := by simpa using h1
  rw [List.getElem_map, List.getElem_range, List.getElem_map, List.getElem_reverse, List.getElem_range, List.length_range]
  congr 1; omega
theorem dats_int (ns : List Int) : Dts (ns.map AV.int) (ns.map PyData.int) := Dts.map .int ns
theorem depth_int (ns : List Int) : PyData.depthAll (ns.map PyData.int) ≤ 63 := by
  refine depthAll_le fun d hd => ?_
  obtain ⟨b, _, rfl⟩ := List.mem_map.mp hd
  exact Nat.zero_le _
theorem llb_get {A : List (List Bool)} {u : Nat} (h : u < A.length) : (A.map lb)[u]? = some (lb A[u]) := by rw [List.getElem?_map, List.getElem?_eq_getElem h]; rfl
theorem lb_get {r : List Bool} {k : Nat} (h : k < r.length) : (r.map AV.bool)[k]? = some (.bool r[k]) := by rw [List.getElem?_map, List.getElem?_eq_getElem h]; rfl
end Mine

namespace Mine
def lawRow (ns : List Int) : List Int := [27, 6] ++ ns.take 4 ++ (if ns.length % 2 = 1 then [3] else [])
def lcN (i : Nat) (x : Int) : Call := ((i : Int), x.fmod 5, ((x.fdiv 5).fmod 13 + 1).toNat)
def lawCalls (row : List Int) : List Call := (List.range row.length).map fun i => lcN i (row.getD i 0)
def m0 : Mk := ⟨fun _ _ => false, fun _ _ => false, []⟩
def waits2 (cs : List Call) (count k : Nat) : Option (List Str × Int) := cs[k]?.bind fun c => if c.2.1 = 2 ∧ sinceN cs k = count then some (way c.2.2, c.1) else none
def pend2 (cs : List Call) (count : Nat) : List (List Str × Int) := (List.range count).filterMap (waits2 cs count)
theorem lcN_v (i : Nat) (x : Int) : 0 ≤ (x.fdiv 5).fmod 13 + 1 ∧ ((x.fdiv 5).fmod 13 + 1).toNat ≠ 0 ∧ ((x.fdiv 5).fmod 13 + 1).toNat < 14 := by
  have h1 := Int.fmod_nonneg_of_pos (x.fdiv 5) (show (0 : Int) < 13 by decide)
  have h2 := Int.fmod_lt_of_pos (x.fdiv 5) (show (0 : Int) < 13 by decide)
  omega
theorem lcN_ok {i : Nat} (hi : i < 64) (x : Int) : OkC (lcN i x) := by
  obtain ⟨h1, h2, h3⟩ := lcN_v i x
  exact ⟨Int.natCast_nonneg i, by show (i : Int) < 64; omega, h2, h3⟩
theorem lcN_av (i : Nat) (x : Int) : cav (lcN i x) = .tup [.int (i : Int), .int (x.fmod 5), .int ((x.fdiv 5).fmod 13 + 1)] := by
  unfold cav lcN
  rw [Int.toNat_of_nonneg (lcN_v i x).1]
theorem lawRow_len (ns : List Int) : (lawRow ns).length ≤ 7 := by
  unfold lawRow
  rw [List.length_append, List.length_append, List.length_take]
  split <;> simp <;> omega
theorem lawCalls_len (row : List Int) : (lawCalls row).length = row.length := by unfold lawCalls; simp
theorem lawCalls_ok {row : List Int} (h : row.length ≤ 60) : ∀ c ∈ lawCalls row, OkC c := fun c hc => by
  unfold lawCalls at hc
  obtain ⟨i, hi, rfl⟩ := List.mem_map.mp hc
  exact lcN_ok (by have := List.mem_range.mp hi; omega) _
theorem at2_read (fl rc : MK) (count place : Nat) : at2 (readN fl rc count) 0 place = false := by
  unfold at2 readN
  rw [List.getElem?_map, show (List.range 14)[0]? = some 0 from rfl]
  show ((readRow fl rc count 0)[place]?).getD false = false
  unfold readRow
  rw [List.getElem?_map]
  cases h : (List.range count)[place]? with
  | none => rfl
  | some k => rfl

section
variable {st st' : Sto} {j1 d1 q1 j2 d2 q2 : Nat} {N1 N2 N1' : NT} {w1 w2 w1' : Nat → Who} {f1 r1 f2 r2 : MK} {a1 a2 : AO}
def Apart (w1 w2 : Nat → Who) : Prop := ∀ i, w1 i ≠ .free → w2 i = .free
theorem Apart.symm (h : Apart w1 w2) : Apart w2 w1 := fun i hi => by
  by_cases e : w1 i = .free
  · exact e
  · exact absurd (h i e) hi
/-- the other object stays -/
theorem FlgN.beside (H2 : FlgN st j2 d2 q2 N2 w2 f2 r2 a2) (hd : Apart w1 w2) (E : Ext st w1 st' w1') : FlgN st' j2 d2 q2 N2 w2 f2 r2 a2 ∧ Apart w1' w2 := by
  have hs := hd.symm
  refine ⟨H2.of fun i hi => (E i (hs i hi) (H2.live i hi)).1, fun i hi => ?_⟩
  by_cases e : w2 i = .free
  · exact e
  · exact absurd (E i (hs i e) (H2.live i e)).2 hi
end
end Mine
namespace Mine
theorem waits2_ok {cs : List Call} (hok : ∀ c ∈ cs, OkC c) {count a : Nat} : ∀ r ∈ (List.range a).filterMap (waits2 cs count), OkR r := fun r hr => by
  obtain ⟨k, _, hk⟩ := List.mem_filterMap.mp hr
  unfold waits2 at hk
  obtain ⟨c, h1, h2⟩ := Option.bind_eq_some_iff.mp hk
  split at h2
  · cases h2; exact (hok c (List.mem_of_getElem? h1)).row
  · cases h2
theorem waits2_len (cs : List Call) (count a : Nat) : ((List.range a).filterMap (waits2 cs count)).length ≤ a := by
  have := List.length_filterMap_le (waits2 cs count) (List.range a)
  rwa [List.length_range] at this
end Mine

namespace Mine
/-! plain: what the marks are behind a row of calls -/
theorem kindAt_some {cs : List Call} {k : Nat} {c : Call} (h : cs[k]? = some c) : kindAt cs k = c.2.1 := by unfold kindAt; rw [h]; rfl
theorem kindAt_app {cs : List Call} {c : Call} {j : Nat} (h : j < cs.length) : kindAt (cs ++ [c]) j = kindAt cs j := by
  unfold kindAt; rw [List.getElem?_append_left h]
theorem kindAt_new (cs : List Call) (c : Call) : kindAt (cs ++ [c]) cs.length = c.2.1 := by
  unfold kindAt; rw [List.getElem?_append_right (Nat.le_refl _), Nat.sub_self]; rfl

/-- since when: the first call from k on that sets what waits -/
def IsSince (cs : List Call) (k s : Nat) : Prop := k ≤ s ∧ s ≤ cs.length ∧ (∀ j, k ≤ j → j < s → kindAt cs j ≠ 3) ∧ (s < cs.length → kindAt cs s = 3)
theorem IsSince.uniq {cs : List Call} {k s t : Nat} (h : IsSince cs k s) (h' : IsSince cs k t) : s = t := by
  obtain ⟨a1, a2, a3, a4⟩ := h
  obtain ⟨b1, b2, b3, b4⟩ := h'
  rcases Nat.lt_trichotomy s t with h | h | h
  · exact absurd (a4 (by omega)) (b3 s a1 h)
  · exact h
  · exact absurd (b4 (by omega)) (a3 t b1 h)
theorem since_is {cs : List Call} {k : Nat} (hk : k ≤ cs.length) (h : kindAt cs k = 2) : IsSince cs k (sinceN cs k) := by
  unfold sinceN
  rw [if_neg (by omega), if_pos h]
  obtain ⟨g1, g2⟩ := minL_le ((List.range' k (cs.length - k)).filter fun j => kindAt cs j == 3) cs.length
  have hm := minL_mem ((List.range' k (cs.length - k)).filter fun j => kindAt cs j == 3) cs.length
  generalize hM : minL ((List.range' k (cs.length - k)).filter fun j => kindAt cs j == 3) cs.length = M at *
  have mem : ∀ j, j ∈ ((List.range' k (cs.length - k)).filter fun j => kindAt cs j == 3) ↔ (k ≤ j ∧ j < cs.length) ∧ kindAt cs j = 3 := fun j => by
    rw [List.mem_filter, List.mem_range'_1, beq_iff_eq]
    constructor
    · rintro ⟨⟨a, b⟩, c⟩; exact ⟨⟨a, by omega⟩, c⟩
    · rintro ⟨⟨a, b⟩, c⟩; exact ⟨⟨a, by omega⟩, c⟩
  refine ⟨?_, g1, fun j h1 h2 h3 => ?_, fun hlt => ?_⟩
  · rcases hm with e | e
    · rw [e]; exact hk
    · exact ((mem M).mp e).1.1
  · have := g2 j ((mem j).mpr ⟨⟨h1, by omega⟩, h3⟩)
    omega
  · rcases hm with e | e
    · omega
    · exact ((mem M).mp e).2
theorem since_small {cs : List Call} {k : Nat} (h : kindAt cs k < 2) : sinceN cs k = k := by unfold sinceN; rw [if_pos h]
theorem since_big {cs : List Call} {k : Nat} (h : 2 < kindAt cs k) : sinceN cs k = cs.length := by unfold sinceN; rw [if_neg (by omega), if_neg (by omega)]
theorem since_le {cs : List Call} {k : Nat} (hk : k ≤ cs.length) : sinceN cs k ≤ cs.length := by
  rcases Int.lt_trichotomy (kindAt cs k) 2 with h | h | h
  · rw [since_small h]; exact hk
  · exact (since_is hk h).2.1
  · rw [since_big h]; exact Nat.le_refl _

section
variable {cs : List Call} {c ck : Call} {k : Nat}
theorem since_snoc (hk : cs[k]? = some ck) : sinceN (cs ++ [c]) k = if ck.2.1 < 2 then k else if ck.2.1 = 2 then (if sinceN cs k < cs.length then sinceN cs k else if c.2.1 = 3 then cs.length else cs.length + 1) else cs.length + 1 := by
  have hkl : k < cs.length := (List.getElem?_eq_some_iff.mp hk).1
  have e1 : kindAt cs k = ck.2.1 := kindAt_some hk
  have e2 : kindAt (cs ++ [c]) k = ck.2.1 := by rw [kindAt_app hkl, e1]
  have hl : (cs ++ [c]).length = cs.length + 1 := by simp
  by_cases h1 : ck.2.1 < 2
  · rw [if_pos h1, since_small (by rw [e2]; exact h1)]
  rw [if_neg h1]
  by_cases h2 : ck.2.1 = 2
  · rw [if_pos h2]
    have s1 := since_is (cs := cs) (Nat.le_of_lt hkl) (e1.trans h2)
    have s2 := since_is (cs := cs ++ [c]) (k := k) (by omega) (e2.trans h2)
    obtain ⟨a1, a2, a3, a4⟩ := s1
    by_cases h3 : sinceN cs k < cs.length
    · rw [if_pos h3]
      refine s2.uniq ⟨a1, by omega, fun j g1 g2 => ?_, fun _ => ?_⟩
      · rw [kindAt_app (by omega)]; exact a3 j g1 g2
      · rw [kindAt_app h3]; exact a4 h3
    · rw [if_neg h3]
      have hs : sinceN cs k = cs.length := by omega
      rw [hs] at a3
      by_cases h4 : c.2.1 = 3
      · rw [if_pos h4]
        refine s2.uniq ⟨by omega, by omega, fun j g1 g2 => ?_, fun _ => ?_⟩
        · rw [kindAt_app g2]; exact a3 j g1 g2
        · rw [kindAt_new]; exact h4
      · rw [if_neg h4]
        refine s2.uniq ⟨by omega, by omega, fun j g1 g2 => ?_, fun h => by omega⟩
        by_cases hj : j = cs.length
        · subst hj; rw [kindAt_new]; exact h4
        · rw [kindAt_app (by omega)]; exact a3 j g1 (by omega)
  · rw [if_neg h2, since_big (by rw [e2]; omega), hl]
theorem stands_snoc (hk : cs[k]? = some ck) : stands (cs ++ [c]) k ck = if ck.2.1 = 2 ∧ sinceN cs k = cs.length then decide (c.2.1 = 3) else (stands cs k ck && !(c.2.1 == 4 && bg c.2.2 ck.2.2)) := by
  have hkl : k < cs.length := (List.getElem?_eq_some_iff.mp hk).1
  have e1 : kindAt cs k = ck.2.1 := kindAt_some hk
  have hl : (cs ++ [c]).length = cs.length + 1 := by simp
  have hle := since_le (cs := cs) (Nat.le_of_lt hkl)
  have same : ∀ s, s ≤ cs.length → ((cs ++ [c]).drop s).filter (fun d => d.2.1 == 4 && bg d.2.2 ck.2.2) = (cs.drop s).filter (fun d => d.2.1 == 4 && bg d.2.2 ck.2.2) ++ (if (c.2.1 == 4 && bg c.2.2 ck.2.2) = true then [c] else []) := fun s hs => by
    rw [List.drop_append_of_le_length hs, List.filter_append]
    congr 1
    rw [List.filter_cons, List.filter_nil]
  have main : sinceN (cs ++ [c]) k = sinceN cs k → sinceN cs k < cs.length → stands (cs ++ [c]) k ck = (stands cs k ck && !(c.2.1 == 4 && bg c.2.2 ck.2.2)) := fun e hlt => by
    unfold stands endedN
    rw [e, same _ hle, decide_eq_true hlt, decide_eq_true (by omega : sinceN cs k < (cs ++ [c]).length), Bool.true_and, Bool.true_and]
    generalize (cs.drop (sinceN cs k)).filter (fun d => d.2.1 == 4 && bg d.2.2 ck.2.2) = l
    cases l <;> cases hq : (c.2.1 == 4 && bg c.2.2 ck.2.2) <;> simp
  have hs := since_snoc (c := c) hk
  by_cases h1 : ck.2.1 < 2
  · rw [if_pos h1] at hs
    rw [if_neg (by omega)]
    have : sinceN cs k = k := since_small (by rw [e1]; exact h1)
    exact main (by rw [hs, this]) (by omega)
  rw [if_neg h1] at hs
  by_cases h2 : ck.2.1 = 2
  · rw [if_pos h2] at hs
    by_cases h3 : sinceN cs k < cs.length
    · rw [if_pos h3] at hs
      rw [if_neg (by omega)]
      exact main hs h3
    · rw [if_neg h3] at hs
      have hsl : sinceN cs k = cs.length := by omega
      rw [if_pos ⟨h2, hsl⟩]
      by_cases h4 : c.2.1 = 3
      · rw [if_pos h4] at hs
        rw [decide_eq_true h4]
        unfold stands endedN
        rw [hs, same _ (Nat.le_refl _), List.drop_length, h4, decide_eq_true (by omega : cs.length < (cs ++ [c]).length)]
        simp
      · rw [if_neg h4] at hs
        rw [decide_eq_false h4]
        unfold stands
        rw [hs, decide_eq_false (by omega : ¬ cs.length + 1 < (cs ++ [c]).length), Bool.false_and]
  · rw [if_neg h2] at hs
    rw [if_neg (by omega)]
    unfold stands
    rw [hs, decide_eq_false (by omega : ¬ cs.length + 1 < (cs ++ [c]).length), since_big (by rw [e1]; omega), decide_eq_false (Nat.lt_irrefl _), Bool.false_and, Bool.false_and, Bool.false_and]
theorem stands_new : stands (cs ++ [c]) cs.length c = decide (c.2.1 < 2) := by
  have hg : (cs ++ [c])[cs.length]? = some c := by rw [List.getElem?_append_right (Nat.le_refl _), Nat.sub_self]; rfl
  have hl : (cs ++ [c]).length = cs.length + 1 := by simp
  have e : kindAt (cs ++ [c]) cs.length = c.2.1 := kindAt_new cs c
  unfold stands
  by_cases h : c.2.1 < 2
  · rw [decide_eq_true h]
    unfold endedN
    rw [since_small (by rw [e]; exact h), decide_eq_true (by omega : cs.length < (cs ++ [c]).length), List.drop_left]
    rw [List.filter_cons, show (c.2.1 == 4) = false from beq_eq_false_iff_ne.mpr (by omega)]
    simp
  · rw [decide_eq_false h]
    have : sinceN (cs ++ [c]) cs.length = (cs ++ [c]).length := by
      by_cases h2 : c.2.1 = 2
      · refine (since_is (by omega) (e.trans h2)).uniq ⟨by omega, Nat.le_refl _, fun j g1 g2 => ?_, fun h => absurd h (Nat.lt_irrefl _)⟩
        have : j = cs.length := by omega
        subst this; rw [e]; omega
      · exact since_big (by rw [e]; omega)
    rw [this, decide_eq_false (Nat.lt_irrefl _), Bool.false_and]
theorem since_new2 (h : c.2.1 = 2) : sinceN (cs ++ [c]) cs.length = (cs ++ [c]).length := by
  have hl : (cs ++ [c]).length = cs.length + 1 := by simp
  have e : kindAt (cs ++ [c]) cs.length = c.2.1 := kindAt_new cs c
  refine (since_is (by omega) (e.trans h)).uniq ⟨by omega, Nat.le_refl _, fun j g1 g2 => ?_, fun h => absurd h (Nat.lt_irrefl _)⟩
  have : j = cs.length := by omega
  subst this; rw [e]; omega
theorem since_end_snoc (hk : cs[k]? = some ck) (h2 : ck.2.1 = 2) : sinceN (cs ++ [c]) k = (cs ++ [c]).length ↔ sinceN cs k = cs.length ∧ c.2.1 ≠ 3 := by
  have hkl : k < cs.length := (List.getElem?_eq_some_iff.mp hk).1
  have hle := since_le (cs := cs) (Nat.le_of_lt hkl)
  have hl : (cs ++ [c]).length = cs.length + 1 := by simp
  rw [since_snoc hk, if_neg (by omega), if_pos h2, hl]
  by_cases h3 : sinceN cs k < cs.length
  · rw [if_pos h3]; constructor
    · intro h; omega
    · intro h; omega
  · rw [if_neg h3]
    by_cases h4 : c.2.1 = 3
    · rw [if_pos h4]; constructor
      · intro h; omega
      · intro h; exact absurd h4 h.2
    · rw [if_neg h4]; exact ⟨fun _ => ⟨by omega, h4⟩, fun _ => rfl⟩
theorem ex_snoc {Φ : Nat → Call → Prop} : (∃ k d, (cs ++ [c])[k]? = some d ∧ Φ k d) ↔ (∃ k d, cs[k]? = some d ∧ Φ k d) ∨ Φ cs.length c := by
  constructor
  · rintro ⟨k, d, h, p⟩
    by_cases hk : k < cs.length
    · rw [List.getElem?_append_left hk] at h; exact .inl ⟨k, d, h, p⟩
    · have hk2 : k < (cs ++ [c]).length := (List.getElem?_eq_some_iff.mp h).1
      rw [List.length_append, List.length_singleton] at hk2
      have : k = cs.length := by omega
      subst this
      rw [List.getElem?_append_right (Nat.le_refl _), Nat.sub_self] at h
      cases h; exact .inr p
  · rintro (⟨k, d, h, p⟩ | p)
    · exact ⟨k, d, by rw [List.getElem?_append_left (List.getElem?_eq_some_iff.mp h).1]; exact h, p⟩
    · exact ⟨cs.length, c, by rw [List.getElem?_append_right (Nat.le_refl _), Nat.sub_self]; rfl, p⟩
end

/-- what stands and what waits, told by the row -/
structure Told (cs : List Call) (m : Mk) : Prop where
  fl : ∀ p x, m.fl p x = true ↔ ∃ k c, cs[k]? = some c ∧ stands cs k c = true ∧ c.2.1 ≠ 1 ∧ way c.2.2 = p ∧ c.1 = x
  rc : ∀ p x, m.rc p x = true ↔ ∃ k c, cs[k]? = some c ∧ stands cs k c = true ∧ c.2.1 = 1 ∧ way c.2.2 = p ∧ c.1 = x
  ps : ∀ p x, (p, x) ∈ m.ps ↔ ∃ k c, cs[k]? = some c ∧ c.2.1 = 2 ∧ sinceN cs k = cs.length ∧ way c.2.2 = p ∧ c.1 = x
theorem told_nil : Told [] m0 := by
  constructor
  · intro p x; exact ⟨fun h => (by cases h), fun ⟨k, c, h, _⟩ => (by simp at h)⟩
  · intro p x; exact ⟨fun h => (by cases h), fun ⟨k, c, h, _⟩ => (by simp at h)⟩
  · intro p x; exact ⟨fun h => (by cases h), fun ⟨k, c, h, _⟩ => by simp at h⟩

section
variable {cs : List Call} {c ck : Call} {k : Nat}
theorem stands_wait (h2 : sinceN cs k = cs.length) : stands cs k ck = false := by
  unfold stands; rw [h2, decide_eq_false (Nat.lt_irrefl _), Bool.false_and]
theorem stands_n3 (hk : cs[k]? = some ck) (h : c.2.1 ≠ 3) : stands (cs ++ [c]) k ck = (stands cs k ck && !(c.2.1 == 4 && bg c.2.2 ck.2.2)) := by
  rw [stands_snoc hk]
  by_cases g : ck.2.1 = 2 ∧ sinceN cs k = cs.length
  · rw [if_pos g, stands_wait g.2, decide_eq_false h, Bool.false_and]
  · rw [if_neg g]
theorem stands_3 (hk : cs[k]? = some ck) (h : c.2.1 = 3) : stands (cs ++ [c]) k ck = (stands cs k ck || decide (ck.2.1 = 2 ∧ sinceN cs k = cs.length)) := by
  rw [stands_snoc hk]
  by_cases g : ck.2.1 = 2 ∧ sinceN cs k = cs.length
  · rw [if_pos g, decide_eq_true g, decide_eq_true h, Bool.or_true]
  · rw [if_neg g, decide_eq_false g, Bool.or_false, h]
    show (stands cs k ck && !((3 : Int) == 4 && bg c.2.2 ck.2.2)) = _
    rw [show ((3 : Int) == 4) = false from rfl, Bool.false_and, Bool.not_false, Bool.and_true]
theorem told_step {m : Mk} (H : Told cs m) (hk : 0 ≤ c.2.1 ∧ c.2.1 < 5) (hok : ∀ d ∈ cs, OkC d) (hc : OkC c) : Told (cs ++ [c]) (stp m c) := by
  have hl : (cs ++ [c]).length = cs.length + 1 := by simp
  have hbg : ∀ {k : Nat} {d : Call}, cs[k]? = some d → (bg c.2.2 d.2.2 = true ↔ way c.2.2 <+: way d.2.2) := fun {k d} e => by
    rw [bg_prefix _ hc.2.2.2 _ (hok d (List.mem_of_getElem? e)).2.2.2, decide_eq_true_iff]
  have F : ∀ p x, (∃ k d, (cs ++ [c])[k]? = some d ∧ stands (cs ++ [c]) k d = true ∧ d.2.1 ≠ 1 ∧ way d.2.2 = p ∧ d.1 = x) ↔
      (if c.2.1 = 3 then (m.fl p x = true ∨ (p, x) ∈ m.ps) else (m.fl p x = true ∧ ¬(c.2.1 = 4 ∧ way c.2.2 <+: p))) ∨ (c.2.1 = 0 ∧ way c.2.2 = p ∧ c.1 = x) := fun p x => by
    rw [ex_snoc, stands_new, decide_eq_true_iff]
    refine or_congr ?_ ⟨fun ⟨a1, a2, a3⟩ => ⟨by omega, a3⟩, fun ⟨a1, a2⟩ => ⟨by omega, by omega, a2⟩⟩
    by_cases h3 : c.2.1 = 3
    · rw [if_pos h3, H.fl, H.ps]
      constructor
      · rintro ⟨k, d, e, a1, a2, a3⟩
        rw [stands_3 e h3, Bool.or_eq_true, decide_eq_true_iff] at a1
        rcases a1 with a1 | a1
        · exact .inl ⟨k, d, e, a1, a2, a3⟩
        · exact .inr ⟨k, d, e, a1.1, a1.2, a3⟩
      · rintro (⟨k, d, e, a1, a2, a3⟩ | ⟨k, d, e, a1, a2, a3⟩)
        · exact ⟨k, d, e, by rw [stands_3 e h3, a1, Bool.true_or], a2, a3⟩
        · exact ⟨k, d, e, by rw [stands_3 e h3, decide_eq_true (⟨a1, a2⟩ : d.2.1 = 2 ∧ sinceN cs k = cs.length), Bool.or_true], by omega, a3⟩
    · rw [if_neg h3, H.fl]
      constructor
      · rintro ⟨k, d, e, a1, a2, a3, a4⟩
        rw [stands_n3 e h3, Bool.and_eq_true] at a1
        refine ⟨⟨k, d, e, a1.1, a2, a3, a4⟩, fun ⟨g1, g2⟩ => ?_⟩
        rw [← a3] at g2
        have := (hbg e).mpr g2
        rw [this, show (c.2.1 == 4) = true from beq_iff_eq.mpr g1] at a1
        exact Bool.noConfusion a1.2
      · rintro ⟨⟨k, d, e, a1, a2, a3, a4⟩, hn⟩
        refine ⟨k, d, e, ?_, a2, a3, a4⟩
        rw [stands_n3 e h3, a1, Bool.true_and]
        cases hq : (c.2.1 == 4 && bg c.2.2 d.2.2) with
        | false => rfl
        | true =>
          rw [Bool.and_eq_true, beq_iff_eq] at hq
          exact absurd ⟨hq.1, a3 ▸ (hbg e).mp hq.2⟩ hn
  have G : ∀ p x, (∃ k d, (cs ++ [c])[k]? = some d ∧ stands (cs ++ [c]) k d = true ∧ d.2.1 = 1 ∧ way d.2.2 = p ∧ d.1 = x) ↔
      (m.rc p x = true ∧ ¬(c.2.1 = 4 ∧ way c.2.2 <+: p)) ∨ (c.2.1 = 1 ∧ way c.2.2 = p ∧ c.1 = x) := fun p x => by
    rw [ex_snoc, stands_new, decide_eq_true_iff]
    refine or_congr ?_ ⟨fun ⟨a1, a2, a3⟩ => ⟨by omega, a3⟩, fun ⟨a1, a2⟩ => ⟨by omega, by omega, a2⟩⟩
    rw [H.rc]
    have hst : ∀ {k : Nat} {d : Call}, cs[k]? = some d → d.2.1 = 1 → stands (cs ++ [c]) k d = (stands cs k d && !(c.2.1 == 4 && bg c.2.2 d.2.2)) := fun {k d} e h1 => by
      rw [stands_snoc e, if_neg (by omega)]
    constructor
    · rintro ⟨k, d, e, a1, a2, a3, a4⟩
      rw [hst e a2, Bool.and_eq_true] at a1
      refine ⟨⟨k, d, e, a1.1, a2, a3, a4⟩, fun ⟨g1, g2⟩ => ?_⟩
      rw [← a3] at g2
      have := (hbg e).mpr g2
      rw [this, show (c.2.1 == 4) = true from beq_iff_eq.mpr g1] at a1
      exact Bool.noConfusion a1.2
    · rintro ⟨⟨k, d, e, a1, a2, a3, a4⟩, hn⟩
      refine ⟨k, d, e, ?_, a2, a3, a4⟩
      rw [hst e a2, a1, Bool.true_and]
      cases hq : (c.2.1 == 4 && bg c.2.2 d.2.2) with
      | false => rfl
      | true =>
        rw [Bool.and_eq_true, beq_iff_eq] at hq
        exact absurd ⟨hq.1, a3 ▸ (hbg e).mp hq.2⟩ hn
  have P : ∀ p x, (∃ k d, (cs ++ [c])[k]? = some d ∧ d.2.1 = 2 ∧ sinceN (cs ++ [c]) k = (cs ++ [c]).length ∧ way d.2.2 = p ∧ d.1 = x) ↔
      ((p, x) ∈ m.ps ∧ c.2.1 ≠ 3) ∨ (c.2.1 = 2 ∧ way c.2.2 = p ∧ c.1 = x) := fun p x => by
    rw [ex_snoc]
    refine or_congr ?_ ⟨fun ⟨a1, a2, a3⟩ => ⟨a1, a3⟩, fun ⟨a1, a2⟩ => ⟨a1, since_new2 a1, a2⟩⟩
    rw [H.ps]
    constructor
    · rintro ⟨k, d, e, a1, a2, a3⟩
      have := (since_end_snoc e a1).mp a2
      exact ⟨⟨k, d, e, a1, this.1, a3⟩, this.2⟩
    · rintro ⟨⟨k, d, e, a1, a2, a3⟩, hn⟩
      exact ⟨k, d, e, a1, (since_end_snoc e a1).mpr ⟨a2, hn⟩, a3⟩
  have hup : ∀ (f : MK) p x, upM f (way c.2.2) c.1 p x = true ↔ f p x = true ∨ (way c.2.2 = p ∧ c.1 = x) := fun f p x => by
    unfold upM
    by_cases h : p = way c.2.2
    · rw [if_pos h, Bool.or_eq_true, decide_eq_true_iff]
      exact or_congr Iff.rfl ⟨fun e => ⟨h.symm, e.symm⟩, fun e => e.2.symm⟩
    · rw [if_neg h]; exact ⟨.inl, fun g => g.elim id fun g => absurd g.1.symm h⟩
  have hcut : ∀ (f : MK) p x, cutM f (way c.2.2) p x = true ↔ f p x = true ∧ ¬ way c.2.2 <+: p := fun f p x => by
    unfold cutM
    by_cases h : way c.2.2 <+: p
    · rw [if_pos h]; exact ⟨fun e => (by cases e), fun e => absurd h e.2⟩
    · rw [if_neg h]; exact ⟨fun e => ⟨e, h⟩, fun e => e.1⟩
  unfold stp
  by_cases k0 : c.2.1 = 0
  · rw [if_pos k0]
    refine ⟨fun p x => ?_, fun p x => ?_, fun p x => ?_⟩
    · rw [F, if_neg (by omega), k0]; show upM m.fl _ _ p x = true ↔ _; rw [hup]
      exact or_congr ⟨fun h => ⟨h, fun g => absurd g.1 (by decide)⟩, fun h => h.1⟩ ⟨fun h => ⟨rfl, h⟩, fun h => h.2⟩
    · rw [G, k0]; exact ⟨fun h => .inl ⟨h, fun g => absurd g.1 (by decide)⟩, fun h => h.elim (·.1) fun g => absurd g.1 (by decide)⟩
    · rw [P, k0]; exact ⟨fun h => .inl ⟨h, by decide⟩, fun h => h.elim (·.1) fun g => absurd g.1 (by decide)⟩
  rw [if_neg k0]
  by_cases k1 : c.2.1 = 1
  · rw [if_pos k1]
    refine ⟨fun p x => ?_, fun p x => ?_, fun p x => ?_⟩
    · rw [F, if_neg (by omega), k1]; exact ⟨fun h => .inl ⟨h, fun g => absurd g.1 (by decide)⟩, fun h => h.elim (·.1) fun g => absurd g.1 (by decide)⟩
    · rw [G, k1]; show upM m.rc _ _ p x = true ↔ _; rw [hup]
      exact or_congr ⟨fun h => ⟨h, fun g => absurd g.1 (by decide)⟩, fun h => h.1⟩ ⟨fun h => ⟨rfl, h⟩, fun h => h.2⟩
    · rw [P, k1]; exact ⟨fun h => .inl ⟨h, by decide⟩, fun h => h.elim (·.1) fun g => absurd g.1 (by decide)⟩
  rw [if_neg k1]
  by_cases k2 : c.2.1 = 2
  · rw [if_pos k2]
    refine ⟨fun p x => ?_, fun p x => ?_, fun p x => ?_⟩
    · rw [F, if_neg (by omega), k2]; exact ⟨fun h => .inl ⟨h, fun g => absurd g.1 (by decide)⟩, fun h => h.elim (·.1) fun g => absurd g.1 (by decide)⟩
    · rw [G, k2]; exact ⟨fun h => .inl ⟨h, fun g => absurd g.1 (by decide)⟩, fun h => h.elim (·.1) fun g => absurd g.1 (by decide)⟩
    · rw [P, k2]; show (p, x) ∈ m.ps ++ [(way c.2.2, c.1)] ↔ _
      rw [List.mem_append, List.mem_singleton]
      exact or_congr ⟨fun h => ⟨h, by decide⟩, fun h => h.1⟩ ⟨fun h => (by cases h; exact ⟨rfl, rfl, rfl⟩), fun h => by rw [← h.2.1, ← h.2.2]⟩
  rw [if_neg k2]
  by_cases k3 : c.2.1 = 3
  · rw [if_pos k3]
    refine ⟨fun p x => ?_, fun p x => ?_, fun p x => ?_⟩
    · rw [F, if_pos k3, k3]; show pendM m.fl m.ps p x = true ↔ _
      unfold pendM
      rw [Bool.or_eq_true, decide_eq_true_iff]
      exact ⟨.inl, fun h => h.elim id fun g => absurd g.1 (by decide)⟩
    · rw [G, k3]; exact ⟨fun h => .inl ⟨h, fun g => absurd g.1 (by decide)⟩, fun h => h.elim (·.1) fun g => absurd g.1 (by decide)⟩
    · rw [P, k3]; exact ⟨fun h => (by cases h), fun h => h.elim (fun g => absurd rfl g.2) fun g => absurd g.1 (by decide)⟩
  rw [if_neg k3]
  have k4 : c.2.1 = 4 := by omega
  refine ⟨fun p x => ?_, fun p x => ?_, fun p x => ?_⟩
  · rw [F, if_neg k3, k4]; show cutM m.fl _ p x = true ↔ _; rw [hcut]
    exact ⟨fun h => .inl ⟨h.1, fun g => h.2 g.2⟩, fun h => h.elim (fun g => ⟨g.1, fun e => g.2 ⟨rfl, e⟩⟩) fun g => absurd g.1 (by decide)⟩
  · rw [G, k4]; show cutM m.rc _ p x = true ↔ _; rw [hcut]
    exact ⟨fun h => .inl ⟨h.1, fun g => h.2 g.2⟩, fun h => h.elim (fun g => ⟨g.1, fun e => g.2 ⟨rfl, e⟩⟩) fun g => absurd g.1 (by decide)⟩
  · rw [P, k4]; exact ⟨fun h => .inl ⟨h, by decide⟩, fun h => h.elim (·.1) fun g => absurd g.1 (by decide)⟩
end
def OkK (c : Call) : Prop := OkC c ∧ 0 ≤ c.2.1 ∧ c.2.1 < 5
theorem told_fold : ∀ (l cs : List Call) (m : Mk), (∀ c ∈ cs, OkK c) → (∀ c ∈ l, OkK c) → Told cs m → Told (cs ++ l) (l.foldl stp m)
  | [], cs, m, _, _, H => by rw [List.append_nil]; exact H
  | c :: l, cs, m, h1, h2, H => by
    have hc := h2 c (.head _)
    have := told_fold l (cs ++ [c]) (stp m c) (fun d hd => (List.mem_append.mp hd).elim (h1 d) fun e => by rw [List.mem_singleton.mp e]; exact hc) (fun d hd => h2 d (.tail _ hd)) (told_step H hc.2 (fun d hd => (h1 d hd).1) hc.1)
    rw [List.append_assoc] at this
    exact this
theorem told_all {cs : List Call} (h : ∀ c ∈ cs, OkK c) : Told cs (cs.foldl stp m0) := told_fold cs [] m0 (fun _ h => by cases h) h told_nil
end Mine

namespace Mine
/-! plain: what is read off the marks -/
theorem isG_iff {fl rc : MK} {x : Int} : ∀ (r pre : List Str) (k : Str), isG fl rc x pre (k :: r) = true ↔ fl (pre ++ k :: r) x = true ∨ ∃ t, t ≠ [] ∧ t <+: (k :: r) ∧ rc (pre ++ t) x = true
 := by
  intro r
  induction r with
  | nil =>
    intro pre k
    unfold isG
    rw [Bool.or_eq_true]
    refine or_congr Iff.rfl ⟨fun h => ⟨[k], by simp, List.prefix_refl _, h⟩, ?_⟩
    rintro ⟨t, h1, ⟨s, h2⟩, h3⟩
    cases t with
    | nil => exact absurd rfl h1
    | cons a t =>
      rw [List.cons_append] at h2
      injection h2 with e1 e2
      have : t = [] := (List.append_eq_nil_iff.mp e2).1
      subst this e1
      exact h3
  | cons k' r ih =>
    intro pre k
    unfold isG
    rw [Bool.or_eq_true, ih (pre ++ [k]) k', List.append_assoc]
    constructor
    · rintro (h | h | ⟨t, h1, ⟨s, h2⟩, h3⟩)
      · exact .inr ⟨[k], by simp, ⟨k' :: r, rfl⟩, h⟩
      · exact .inl h
      · exact .inr ⟨k :: t, by simp, ⟨s, by rw [List.cons_append, h2]⟩, by rw [List.append_assoc] at h3; exact h3⟩
    · rintro (h | ⟨t, h1, ⟨s, h2⟩, h3⟩)
      · exact .inr (.inl h)
      · cases t with
        | nil => exact absurd rfl h1
        | cons a t =>
          rw [List.cons_append] at h2
          injection h2 with e1 e2
          subst e1
          by_cases ht : t = []
          · subst ht; exact .inl h3
          · exact .inr (.inr ⟨t, ht, ⟨s, e2⟩, by rw [List.append_assoc]; exact h3⟩)
theorem way_nil {v : Nat} (hv : v < 14) (h : v ≠ 0) : way v ≠ [] := (way_ok v hv).2.2 h
theorem isG_way {fl rc : MK} {x : Int} {u : Nat} (hu : u < 14) (h0 : u ≠ 0) : isG fl rc x [] (way u) = true ↔ fl (way u) x = true ∨ ∃ t, t ≠ [] ∧ t <+: way u ∧ rc t x = true := by
  have := way_nil hu h0
  cases h : way u with
  | nil => exact absurd h this
  | cons k r => rw [isG_iff r [] k]; rfl
theorem way_zero : way 0 = [] := by decide +kernel

section
variable {cs : List Call} {m : Mk}
theorem mem_standing {d : Call} : d ∈ standing cs ↔ ∃ k, cs[k]? = some d ∧ stands cs k d = true := by
  unfold standing
  rw [List.mem_filterMap]
  constructor
  · rintro ⟨k, _, h⟩
    unfold standAt at h
    obtain ⟨c, h1, h2⟩ := Option.bind_eq_some_iff.mp h
    split at h2
    · rename_i h3; cases h2; exact ⟨k, h1, h3⟩
    · cases h2
  · rintro ⟨k, h1, h2⟩
    refine ⟨k, List.mem_range.mpr (List.getElem?_eq_some_iff.mp h1).1, ?_⟩
    unfold standAt
    rw [h1, Option.bind_some, if_pos h2]
theorem told_read (H : Told cs m) (hok : ∀ d ∈ cs, OkK d) {u : Nat} (hu : u < 14) (x : Int) : isG m.fl m.rc x [] (way u) = (toldN (standing cs) u).any (· == x) := by
  rw [Bool.eq_iff_iff, List.any_eq_true]
  have hr : (∃ y, y ∈ toldN (standing cs) u ∧ (y == x) = true) ↔ ∃ k d, cs[k]? = some d ∧ stands cs k d = true ∧ tells u d = true ∧ d.1 = x := by
    unfold toldN
    constructor
    · rintro ⟨y, h1, h2⟩
      obtain ⟨d, h3, rfl⟩ := List.mem_map.mp h1
      obtain ⟨h4, h5⟩ := List.mem_filter.mp h3
      obtain ⟨k, h6, h7⟩ := mem_standing.mp h4
      exact ⟨k, d, h6, h7, h5, beq_iff_eq.mp h2⟩
    · rintro ⟨k, d, h1, h2, h3, h4⟩
      exact ⟨d.1, List.mem_map.mpr ⟨d, List.mem_filter.mpr ⟨mem_standing.mpr ⟨k, h1, h2⟩, h3⟩, rfl⟩, beq_iff_eq.mpr h4⟩
  rw [hr]
  by_cases h0 : u = 0
  · subst h0
    rw [way_zero]
    refine ⟨fun h => (by cases h), ?_⟩
    rintro ⟨k, d, h1, h2, h3, h4⟩
    have hd := (hok d (List.mem_of_getElem? h1)).1
    unfold tells at h3
    rw [Bool.or_eq_true, Bool.and_eq_true, beq_iff_eq, bg_prefix _ hd.2.2.2 _ (by decide), way_zero, decide_eq_true_iff] at h3
    rcases h3 with h3 | h3
    · exact absurd h3 hd.2.2.1
    · exact absurd (List.prefix_nil.mp h3.2) (way_nil hd.2.2.2 hd.2.2.1)
  rw [isG_way hu h0, H.fl]
  constructor
  · rintro (⟨k, d, e, a1, a2, a3, a4⟩ | ⟨t, h1, h2, h3⟩)
    · have hd := (hok d (List.mem_of_getElem? e)).1
      refine ⟨k, d, e, a1, ?_, a4⟩
      unfold tells
      rw [way_inj _ hd.2.2.2 _ hu a3, beq_self_eq_true, Bool.true_or]
    · obtain ⟨k, d, e, a1, a2, a3, a4⟩ := (H.rc t x).mp h3
      have hd := (hok d (List.mem_of_getElem? e)).1
      refine ⟨k, d, e, a1, ?_, a4⟩
      unfold tells
      rw [bg_prefix _ hd.2.2.2 _ hu, a3, decide_eq_true h2, a2]
      simp
  · rintro ⟨k, d, e, a1, a2, a3⟩
    have hd := (hok d (List.mem_of_getElem? e)).1
    unfold tells at a2
    rw [Bool.or_eq_true, Bool.and_eq_true, beq_iff_eq, beq_iff_eq, bg_prefix _ hd.2.2.2 _ hu, decide_eq_true_iff] at a2
    by_cases hk : d.2.1 = 1
    · refine .inr ⟨way d.2.2, way_nil hd.2.2.2 hd.2.2.1, ?_, (H.rc _ _).mpr ⟨k, d, e, a1, hk, rfl, a3⟩⟩
      rcases a2 with a2 | a2
      · rw [a2]; exact List.prefix_refl _
      · exact a2.2
    · rcases a2 with a2 | a2
      · exact .inl ⟨k, d, e, a1, hk, by rw [a2], a3⟩
      · exact absurd a2.1 hk
theorem told_readN (H : Told cs m) (hok : ∀ d ∈ cs, OkK d) (count : Nat) : readN m.fl m.rc count = dueN cs count := by
  unfold readN dueN
  refine List.map_congr_left fun u hu => ?_
  unfold readRow dueRow
  exact List.map_congr_left fun place _ => told_read H hok (List.mem_range.mp hu) _
end
theorem lcN_K {i : Nat} (hi : i < 64) (x : Int) : OkK (lcN i x) :=
  ⟨lcN_ok hi x, Int.fmod_nonneg_of_pos x (show (0 : Int) < 5 by decide), Int.fmod_lt_of_pos x (show (0 : Int) < 5 by decide)⟩
theorem lawCalls_K {row : List Int} (h : row.length ≤ 60) : ∀ c ∈ lawCalls row, OkK c := fun c hc => by
  unfold lawCalls at hc
  obtain ⟨i, hi, rfl⟩ := List.mem_map.mp hc
  exact lcN_K (by have := List.mem_range.mp hi; omega) _
theorem fact1 {cs : List Call} (h : ∀ c ∈ cs, OkK c) (count : Nat) : readN (cs.foldl stp m0).fl (cs.foldl stp m0).rc count = dueN cs count := told_readN (told_all h) h count
theorem fact2 {cs : List Call} (h : ∀ c ∈ cs, OkK c) (count : Nat) : readN (cs.reverse.foldl stp (cs.foldl stp m0)).fl (cs.reverse.foldl stp (cs.foldl stp m0)).rc count = dueN (cs ++ cs.reverse) count := by
  have h2 : ∀ c ∈ cs ++ cs.reverse, OkK c := fun c hc => (List.mem_append.mp hc).elim (h c) fun e => h c (List.mem_reverse.mp e)
  have := fact1 h2 count
  rw [List.foldl_append] at this
  exact this
end Mine

namespace Mine
/-! plain: the object made from the answers reads as the one that gave them, whatever follows -/
theorem up_iff (f : MK) (q p : List Str) (y x : Int) : upM f q y p x = true ↔ f p x = true ∨ (q = p ∧ y = x) := by
  unfold upM
  by_cases h : p = q
  · rw [if_pos h, Bool.or_eq_true, decide_eq_true_iff]
    exact or_congr Iff.rfl ⟨fun e => ⟨h.symm, e.symm⟩, fun e => e.2.symm⟩
  · rw [if_neg h]; exact ⟨.inl, fun g => g.elim id fun g => absurd g.1.symm h⟩
theorem cut_iff (f : MK) (q p : List Str) (x : Int) : cutM f q p x = true ↔ f p x = true ∧ ¬ q <+: p := by
  unfold cutM
  by_cases h : q <+: p
  · rw [if_pos h]; exact ⟨fun e => (by cases e), fun e => absurd h e.2⟩
  · rw [if_neg h]; exact ⟨fun e => ⟨e, h⟩, fun e => e.1⟩
theorem pend_iff (f : MK) (ps : List (List Str × Int)) (p : List Str) (x : Int) : pendM f ps p x = true ↔ f p x = true ∨ (p, x) ∈ ps := by
  unfold pendM
  rw [Bool.or_eq_true, decide_eq_true_iff]

/-- the mark that tells at v alone, and the mark that tells below v -/
def oneM (m : Mk) (v : Nat) (x : Int) : Prop := m.fl (way v) x = true ∨ (v % 2 = 1 ∧ m.rc (way v) x = true)
def belM (m : Mk) (v : Nat) (x : Int) : Prop := v % 2 = 0 ∧ m.rc (way v) x = true
structure Alike (m m' : Mk) : Prop where
  one : ∀ v, v < 14 → v ≠ 0 → ∀ x, oneM m v x ↔ oneM m' v x
  bel : ∀ v, v < 14 → v ≠ 0 → ∀ x, belM m v x ↔ belM m' v x
  ps : ∀ v, v < 14 → v ≠ 0 → ∀ x, (way v, x) ∈ m.ps ↔ (way v, x) ∈ m'.ps
def Kept (m : Mk) : Prop := ∀ p x, m.rc p x = true → ∃ v, v < 14 ∧ v ≠ 0 ∧ p = way v
theorem kept_stp {m : Mk} {c : Call} (hc : OkC c) (h : Kept m) : Kept (stp m c) := by
  unfold stp
  split
  · exact h
  split
  · intro p x hx
    rcases (up_iff ..).mp hx with hx | ⟨rfl, _⟩
    · exact h p x hx
    · exact ⟨_, hc.2.2.2, hc.2.2.1, rfl⟩
  split
  · exact h
  split
  · exact h
  · intro p x hx
    exact h p x ((cut_iff ..).mp hx).1
theorem alike_stp {m m' : Mk} {c : Call} (hc : OkC c) (h : Alike m m') : Alike (stp m c) (stp m' c) := by
  have inj : ∀ {v : Nat}, v < 14 → (way c.2.2 = way v ↔ c.2.2 = v) := fun hv => ⟨way_inj _ hc.2.2.2 _ hv, fun e => by rw [e]⟩
  unfold stp
  by_cases k0 : c.2.1 = 0
  · rw [if_pos k0, if_pos k0]
    refine ⟨fun v hv h0 x => ?_, h.bel, h.ps⟩
    have := h.one v hv h0 x
    unfold oneM at this ⊢
    show (upM m.fl _ _ _ _ = true ∨ _) ↔ (upM m'.fl _ _ _ _ = true ∨ _)
    rw [up_iff, up_iff, or_right_comm, this, or_right_comm]
  rw [if_neg k0, if_neg k0]
  by_cases k1 : c.2.1 = 1
  · rw [if_pos k1, if_pos k1]
    refine ⟨fun v hv h0 x => ?_, fun v hv h0 x => ?_, h.ps⟩
    · have := h.one v hv h0 x
      unfold oneM at this ⊢
      show (_ ∨ _ ∧ upM m.rc _ _ _ _ = true) ↔ (_ ∨ _ ∧ upM m'.rc _ _ _ _ = true)
      rw [up_iff, up_iff, and_or_left, and_or_left, ← or_assoc, ← or_assoc, this]
    · have := h.bel v hv h0 x
      unfold belM at this ⊢
      show (_ ∧ upM m.rc _ _ _ _ = true) ↔ (_ ∧ upM m'.rc _ _ _ _ = true)
      rw [up_iff, up_iff, and_or_left, and_or_left, this]
  rw [if_neg k1, if_neg k1]
  by_cases k2 : c.2.1 = 2
  · rw [if_pos k2, if_pos k2]
    refine ⟨h.one, h.bel, fun v hv h0 x => ?_⟩
    show (_ ∈ m.ps ++ _) ↔ (_ ∈ m'.ps ++ _)
    rw [List.mem_append, List.mem_append, h.ps v hv h0 x]
  rw [if_neg k2, if_neg k2]
  by_cases k3 : c.2.1 = 3
  · rw [if_pos k3, if_pos k3]
    refine ⟨fun v hv h0 x => ?_, h.bel, fun v hv h0 x => Iff.rfl⟩
    have := h.one v hv h0 x
    unfold oneM at this ⊢
    show (pendM m.fl _ _ _ = true ∨ _) ↔ (pendM m'.fl _ _ _ = true ∨ _)
    rw [pend_iff, pend_iff, or_right_comm, this, or_right_comm, h.ps v hv h0 x]
  rw [if_neg k3, if_neg k3]
  refine ⟨fun v hv h0 x => ?_, fun v hv h0 x => ?_, h.ps⟩
  · have := h.one v hv h0 x
    unfold oneM at this ⊢
    show (cutM m.fl _ _ _ = true ∨ _ ∧ cutM m.rc _ _ _ = true) ↔ (cutM m'.fl _ _ _ = true ∨ _ ∧ cutM m'.rc _ _ _ = true)
    rw [cut_iff, cut_iff, cut_iff, cut_iff, ← and_assoc, ← or_and_right, this, ← and_assoc, ← or_and_right]
  · have := h.bel v hv h0 x
    unfold belM at this ⊢
    show (_ ∧ cutM m.rc _ _ _ = true) ↔ (_ ∧ cutM m'.rc _ _ _ = true)
    rw [cut_iff, cut_iff, ← and_assoc, this, ← and_assoc]
theorem odd_below : ∀ v < 14, ∀ u < 14, v % 2 = 1 → bg v u = true → v = u := by decide +kernel
theorem read_by {m : Mk} (hk : Kept m) {u : Nat} (hu : u < 14) (h0 : u ≠ 0) (x : Int) : isG m.fl m.rc x [] (way u) = true ↔ oneM m u x ∨ ∃ v, v < 14 ∧ v ≠ 0 ∧ bg v u = true ∧ belM m v x := by
  rw [isG_way hu h0]
  unfold oneM belM
  constructor
  · rintro (h | ⟨t, h1, h2, h3⟩)
    · exact .inl (.inl h)
    · obtain ⟨v, hv, hv0, rfl⟩ := hk t x h3
      have hb : bg v u = true := by rw [bg_prefix v hv u hu]; exact decide_eq_true h2
      rcases Nat.mod_two_eq_zero_or_one v with e | e
      · exact .inr ⟨v, hv, hv0, hb, e, h3⟩
      · have := odd_below v hv u hu e hb
        subst this
        exact .inl (.inr ⟨e, h3⟩)
  · rintro ((h | ⟨e, h⟩) | ⟨v, hv, hv0, hb, e, h⟩)
    · exact .inl h
    · exact .inr ⟨way u, way_nil hu h0, List.prefix_refl _, h⟩
    · rw [bg_prefix v hv u hu, decide_eq_true_iff] at hb
      exact .inr ⟨way v, way_nil hv hv0, hb, h⟩
theorem alike_read {m m' : Mk} (h : Alike m m') (hk : Kept m) (hk' : Kept m') (count : Nat) : readN m.fl m.rc count = readN m'.fl m'.rc count := by
  unfold readN
  refine List.map_congr_left fun u hu => ?_
  unfold readRow
  refine List.map_congr_left fun place _ => ?_
  have hu := List.mem_range.mp hu
  by_cases h0 : u = 0
  · subst h0; rw [way_zero]; rfl
  rw [Bool.eq_iff_iff, read_by hk hu h0, read_by hk' hu h0, h.one u hu h0]
  refine or_congr Iff.rfl ⟨?_, ?_⟩
  · rintro ⟨v, hv, hv0, hb, g⟩; exact ⟨v, hv, hv0, hb, (h.bel v hv hv0 _).mp g⟩
  · rintro ⟨v, hv, hv0, hb, g⟩; exact ⟨v, hv, hv0, hb, (h.bel v hv hv0 _).mpr g⟩
theorem alike_fold : ∀ (l : List Call) {m m' : Mk}, (∀ c ∈ l, OkC c) → Alike m m' → Kept m → Kept m' → Alike (l.foldl stp m) (l.foldl stp m') ∧ Kept (l.foldl stp m) ∧ Kept (l.foldl stp m')
  | [], m, m', _, h, h1, h2 => ⟨h, h1, h2⟩
  | c :: l, m, m', hc, h, h1, h2 => alike_fold l (fun d hd => hc d (.tail _ hd)) (alike_stp (hc c (.head _)) h) (kept_stp (hc c (.head _)) h1) (kept_stp (hc c (.head _)) h2)

section
variable {cs : List Call}
theorem at2_due {count u place : Nat} (hu : u < 14) (hp : place < count) : at2 (dueN cs count) u place = (toldN (standing cs) u).any (· == (place : Int)) := by
  unfold at2 dueN
  rw [List.getElem?_map, List.getElem?_range hu]
  show ((dueRow (standing cs) count u)[place]?).getD false = _
  unfold dueRow
  rw [List.getElem?_map, List.getElem?_range hp]
  rfl
/-- each call bears the number of its place -/
def Placed (cs : List Call) : Prop := ∀ (k : Nat) (c : Call), cs[k]? = some c → c.1 = (k : Int)
theorem any_placed (hpl : Placed cs) {k : Nat} {c : Call} (hk : cs[k]? = some c) (u : Nat) : (toldN (standing cs) u).any (· == (k : Int)) = (stands cs k c && tells u c) := by
  rw [Bool.eq_iff_iff, List.any_eq_true, Bool.and_eq_true]
  unfold toldN
  constructor
  · rintro ⟨y, h1, h2⟩
    obtain ⟨d, h3, rfl⟩ := List.mem_map.mp h1
    obtain ⟨h4, h5⟩ := List.mem_filter.mp h3
    obtain ⟨j, h6, h7⟩ := mem_standing.mp h4
    have := hpl j d h6
    rw [beq_iff_eq, this] at h2
    have : j = k := by omega
    subst this
    rw [hk] at h6
    cases h6
    exact ⟨h7, h5⟩
  · rintro ⟨h1, h2⟩
    exact ⟨c.1, List.mem_map.mpr ⟨c, List.mem_filter.mpr ⟨mem_standing.mpr ⟨k, hk, h1⟩, h2⟩, rfl⟩, beq_iff_eq.mpr (hpl k c hk)⟩
def isTop (c : Call) : Bool := c.2.1 == 1 && c.2.2 % 2 == 0
theorem ways_one : ∀ v < 14, (List.range 14).filter (fun u => v == u || ((0 : Int) == 1 && bg v u)) = [v] := by decide +kernel
theorem ways_top : ∀ v < 14, v ≠ 0 → v % 2 = 0 → (List.range 14).filter (fun u => v == u || bg v u) = v :: (v + 1) :: ((List.range 14).filter (fun u => v == u || bg v u)).drop 2 := by decide +kernel
theorem ways_odd : ∀ v < 14, v % 2 = 1 → (List.range 14).filter (fun u => v == u || bg v u) = [v] := by decide +kernel
theorem mstep_is (hpl : Placed cs) (hok : ∀ c ∈ cs, OkC c) {k : Nat} {c : Call} (hk : cs[k]? = some c) {count : Nat} (hkc : k < count) (m : MK × MK) :
    mstep (dueN cs count) m k = if stands cs k c = true then (if isTop c = true then (m.1, upM m.2 (way c.2.2) (k : Int)) else (upM m.1 (way c.2.2) (k : Int), m.2)) else m := by
  have hc := hok c (List.mem_of_getElem? hk)
  have hw : waysN (dueN cs count) k = (List.range 14).filter fun u => stands cs k c && tells u c := by
    unfold waysN
    refine List.filter_congr fun u hu => ?_
    rw [at2_due (List.mem_range.mp hu) hkc, any_placed hpl hk]
  by_cases hs : stands cs k c = true
  · rw [if_pos hs]
    rw [hs] at hw
    simp only [Bool.true_and] at hw
    have one : ∀ (b : Bool), waysN (dueN cs count) k = [c.2.2] → isTop c = false → mstep (dueN cs count) m k = (upM m.1 (way c.2.2) (k : Int), m.2) := fun b e _ => by
      unfold mstep
      rw [e]
      show (if (c.2.2 % 2 == 0 && (((c.2.2 : Int) == (c.2.2 : Int) + 1) || false)) = true then _ else _) = _
      rw [show ((c.2.2 : Int) == (c.2.2 : Int) + 1) = false from beq_eq_false_iff_ne.mpr (by omega), Bool.or_false, Bool.and_false, if_neg Bool.false_ne_true]
    by_cases ht : isTop c = true
    · rw [if_pos ht]
      unfold isTop at ht
      rw [Bool.and_eq_true, beq_iff_eq, beq_iff_eq] at ht
      have e : waysN (dueN cs count) k = c.2.2 :: (c.2.2 + 1) :: ((List.range 14).filter (fun u => c.2.2 == u || bg c.2.2 u)).drop 2 := by
        rw [hw, ← ways_top _ hc.2.2.2 hc.2.2.1 ht.2]
        refine List.filter_congr fun u _ => ?_
        unfold tells
        rw [ht.1]; rfl
      unfold mstep
      rw [e]
      dsimp only
      rw [if_pos]
      rw [Bool.and_eq_true, beq_iff_eq]
      refine ⟨ht.2, ?_⟩
      rw [List.any_eq_true]
      exact ⟨((c.2.2 + 1 : Nat) : Int), by simp, beq_iff_eq.mpr (by omega)⟩
    · rw [if_neg ht]
      refine one true ?_ (Bool.eq_false_iff.mpr ht)
      rw [hw]
      unfold isTop at ht
      by_cases h1 : c.2.1 = 1
      · rw [h1] at ht
        have : c.2.2 % 2 = 1 := by
          rcases Nat.mod_two_eq_zero_or_one c.2.2 with e | e
          · exact absurd (by rw [e]; rfl) ht
          · exact e
        rw [← ways_odd _ hc.2.2.2 this]
        refine List.filter_congr fun u _ => ?_
        unfold tells
        rw [h1]; rfl
      · rw [← ways_one _ hc.2.2.2]
        refine List.filter_congr fun u _ => ?_
        unfold tells
        rw [beq_eq_false_iff_ne.mpr h1]; rfl
  · rw [if_neg hs]
    have : waysN (dueN cs count) k = [] := by
      rw [hw, Bool.eq_false_iff.mpr hs]
      simp
    unfold mstep
    rw [this]
/-- what the remaking marks -/
def Marked (cs : List Call) (t : Bool) (k : Nat) (p : List Str) (x : Int) : Prop := ∃ c, cs[k]? = some c ∧ stands cs k c = true ∧ isTop c = t ∧ way c.2.2 = p ∧ (k : Int) = x
theorem mfold (hpl : Placed cs) (hok : ∀ c ∈ cs, OkC c) : ∀ (l : List Nat) (m : MK × MK), (∀ k ∈ l, k < cs.length) → ∀ p x,
    ((l.foldl (mstep (dueN cs cs.length)) m).1 p x = true ↔ m.1 p x = true ∨ ∃ k ∈ l, Marked cs false k p x) ∧
    ((l.foldl (mstep (dueN cs cs.length)) m).2 p x = true ↔ m.2 p x = true ∨ ∃ k ∈ l, Marked cs true k p x)
 := by
  intro l
  induction l with
  | nil => exact fun m _ p x => ⟨⟨.inl, fun h => h.elim id fun ⟨k, h, _⟩ => (by cases h)⟩, ⟨.inl, fun h => h.elim id fun ⟨k, h, _⟩ => (by cases h)⟩⟩
  | cons k l ih0 =>
    intro m hl p x
    have hk := hl k (.head _)
    have hg : cs[k]? = some cs[k] := List.getElem?_eq_getElem hk
    have ih := ih0 (mstep (dueN cs cs.length) m k) (fun j hj => hl j (.tail _ hj)) p x
    rw [List.foldl_cons]
    have hst := mstep_is hpl hok hg hk m
    have key : ((mstep (dueN cs cs.length) m k).1 p x = true ↔ m.1 p x = true ∨ Marked cs false k p x) ∧ ((mstep (dueN cs cs.length) m k).2 p x = true ↔ m.2 p x = true ∨ Marked cs true k p x) := by
      rw [hst]
      by_cases hs : stands cs k cs[k] = true
      · rw [if_pos hs]
        by_cases ht : isTop cs[k] = true
        · rw [if_pos ht]
          refine ⟨⟨.inl, fun h => h.elim id ?_⟩, ?_⟩
          · rintro ⟨c, g1, g2, g3, g4, g5⟩
            rw [hg] at g1; cases g1
            rw [ht] at g3; cases g3
          · show upM m.2 _ _ p x = true ↔ _
            rw [up_iff]
            refine or_congr Iff.rfl ⟨fun h => ⟨_, hg, hs, ht, h.1, h.2⟩, ?_⟩
            rintro ⟨c, g1, g2, g3, g4, g5⟩
            rw [hg] at g1; cases g1
            exact ⟨g4, g5⟩
        · rw [if_neg ht]
          refine ⟨?_, ⟨.inl, fun h => h.elim id ?_⟩⟩
          · show upM m.1 _ _ p x = true ↔ _
            rw [up_iff]
            refine or_congr Iff.rfl ⟨fun h => ⟨_, hg, hs, Bool.eq_false_iff.mpr ht, h.1, h.2⟩, ?_⟩
            rintro ⟨c, g1, g2, g3, g4, g5⟩
            rw [hg] at g1; cases g1
            exact ⟨g4, g5⟩
          · rintro ⟨c, g1, g2, g3, g4, g5⟩
            rw [hg] at g1; cases g1
            exact absurd g3 ht
      · rw [if_neg hs]
        have no : ∀ t, ¬ Marked cs t k p x := by
          rintro t ⟨c, g1, g2, g3, g4, g5⟩
          rw [hg] at g1; cases g1
          exact hs g2
        exact ⟨⟨.inl, fun h => h.elim id fun g => absurd g (no _)⟩, ⟨.inl, fun h => h.elim id fun g => absurd g (no _)⟩⟩
    have cons : ∀ t, (∃ j ∈ k :: l, Marked cs t j p x) ↔ Marked cs t k p x ∨ ∃ j ∈ l, Marked cs t j p x := fun t => by
      constructor
      · rintro ⟨j, hj, h⟩
        rcases List.mem_cons.mp hj with rfl | hj
        · exact .inl h
        · exact .inr ⟨j, hj, h⟩
      · rintro (h | ⟨j, hj, h⟩)
        · exact ⟨k, .head _, h⟩
        · exact ⟨j, .tail _ hj, h⟩
    rw [ih.1, ih.2, key.1, key.2, cons, cons, or_assoc, or_assoc]
    exact ⟨Iff.rfl, Iff.rfl⟩
theorem made_is (hpl : Placed cs) (hok : ∀ c ∈ cs, OkC c) (p : List Str) (x : Int) :
    ((made (dueN cs cs.length) cs.length).1 p x = true ↔ ∃ k, Marked cs false k p x) ∧ ((made (dueN cs cs.length) cs.length).2 p x = true ↔ ∃ k, Marked cs true k p x) := by
  obtain ⟨h1, h2⟩ := mfold hpl hok (List.range cs.length).reverse (fun _ _ => false, fun _ _ => false) (fun k hk => List.mem_range.mp (List.mem_reverse.mp hk)) p x
  have mem : ∀ t, (∃ k ∈ (List.range cs.length).reverse, Marked cs t k p x) ↔ ∃ k, Marked cs t k p x := fun t =>
    ⟨fun ⟨k, _, h⟩ => ⟨k, h⟩, fun ⟨k, c, g, h⟩ => ⟨k, List.mem_reverse.mpr (List.mem_range.mpr (List.getElem?_eq_some_iff.mp g).1), c, g, h⟩⟩
  rw [mem] at h1 h2
  exact ⟨h1.trans ⟨fun h => h.elim (fun g => (by cases g)) id, .inr⟩, h2.trans ⟨fun h => h.elim (fun g => (by cases g)) id, .inr⟩⟩
theorem pend2_is (p : List Str) (x : Int) : (p, x) ∈ pend2 cs cs.length ↔ ∃ k c, cs[k]? = some c ∧ c.2.1 = 2 ∧ sinceN cs k = cs.length ∧ way c.2.2 = p ∧ c.1 = x := by
  unfold pend2
  rw [List.mem_filterMap]
  constructor
  · rintro ⟨k, _, h⟩
    unfold waits2 at h
    obtain ⟨c, h1, h2⟩ := Option.bind_eq_some_iff.mp h
    split at h2
    · rename_i h3; cases h2; exact ⟨k, c, h1, h3.1, h3.2, rfl, rfl⟩
    · cases h2
  · rintro ⟨k, c, h1, h2, h3, rfl, rfl⟩
    refine ⟨k, List.mem_range.mpr (List.getElem?_eq_some_iff.mp h1).1, ?_⟩
    unfold waits2
    rw [h1, Option.bind_some, if_pos ⟨h2, h3⟩]
theorem made_alike (hpl : Placed cs) (hok : ∀ c ∈ cs, OkK c) :
    Alike ⟨(made (dueN cs cs.length) cs.length).1, (made (dueN cs cs.length) cs.length).2, pend2 cs cs.length⟩ (cs.foldl stp m0) ∧ Kept ⟨(made (dueN cs cs.length) cs.length).1, (made (dueN cs cs.length) cs.length).2, pend2 cs cs.length⟩ ∧ Kept (cs.foldl stp m0) := by
  have hc : ∀ c ∈ cs, OkC c := fun c h => (hok c h).1
  have H := told_all hok
  have hx : ∀ {k : Nat} {c : Call}, cs[k]? = some c → OkC c := fun h => hc _ (List.mem_of_getElem? h)
  have hm := made_is hpl hc
  refine ⟨⟨fun v hv h0 x => ?_, fun v hv h0 x => ?_, fun v hv h0 x => ?_⟩, fun p x h => ?_, fun p x h => ?_⟩
  · unfold oneM
    show ((made _ _).1 _ _ = true ∨ v % 2 = 1 ∧ (made _ _).2 _ _ = true) ↔ _
    rw [(hm _ _).1, (hm _ _).2, H.fl, H.rc]
    constructor
    · rintro (⟨k, c, g1, g2, g3, g4, g5⟩ | ⟨e, k, c, g1, g2, g3, g4, g5⟩)
      · have hp := hpl k c g1
        have hv' := way_inj _ (hx g1).2.2.2 _ hv g4
        by_cases h1 : c.2.1 = 1
        · refine .inr ⟨?_, k, c, g1, g2, h1, g4, by omega⟩
          unfold isTop at g3
          rw [h1, hv'] at g3
          rcases Nat.mod_two_eq_zero_or_one v with e | e
          · rw [e] at g3; cases g3
          · exact e
        · exact .inl ⟨k, c, g1, g2, h1, g4, by omega⟩
      · have hv' := way_inj _ (hx g1).2.2.2 _ hv g4
        unfold isTop at g3
        rw [hv', e, Bool.and_eq_true] at g3
        exact absurd g3.2 (by decide)
    · rintro (⟨k, c, g1, g2, g3, g4, g5⟩ | ⟨e, k, c, g1, g2, g3, g4, g5⟩)
      · have hp := hpl k c g1
        exact .inl ⟨k, c, g1, g2, by unfold isTop; rw [beq_eq_false_iff_ne.mpr g3, Bool.false_and], g4, by omega⟩
      · have hp := hpl k c g1
        have hv' := way_inj _ (hx g1).2.2.2 _ hv g4
        exact .inl ⟨k, c, g1, g2, by unfold isTop; rw [hv', e]; exact Bool.and_false _, g4, by omega⟩
  · unfold belM
    show (v % 2 = 0 ∧ (made _ _).2 _ _ = true) ↔ _
    rw [(hm _ _).2, H.rc]
    refine and_congr_right fun e => ?_
    constructor
    · rintro ⟨k, c, g1, g2, g3, g4, g5⟩
      have hp := hpl k c g1
      unfold isTop at g3
      rw [Bool.and_eq_true, beq_iff_eq] at g3
      exact ⟨k, c, g1, g2, g3.1, g4, by omega⟩
    · rintro ⟨k, c, g1, g2, g3, g4, g5⟩
      have hp := hpl k c g1
      have hv' := way_inj _ (hx g1).2.2.2 _ hv g4
      exact ⟨k, c, g1, g2, by unfold isTop; rw [hv', e, g3]; rfl, g4, by omega⟩
  · show _ ∈ pend2 cs cs.length ↔ _
    rw [pend2_is, H.ps]
  · obtain ⟨k, c, g1, g2, g3, g4, g5⟩ := (hm p x).2.mp h
    exact ⟨c.2.2, (hx g1).2.2.2, (hx g1).2.2.1, g4.symm⟩
  · obtain ⟨k, c, g1, g2, g3, g4, g5⟩ := (H.rc p x).mp h
    exact ⟨c.2.2, (hx g1).2.2.2, (hx g1).2.2.1, g4.symm⟩
theorem fact3 (hpl : Placed cs) (hok : ∀ c ∈ cs, OkK c) {A : List (List Bool)} (hA : A = dueN cs cs.length) :
    readN (cs.reverse.foldl stp ⟨(made A cs.length).1, (made A cs.length).2, pend2 cs cs.length⟩).fl (cs.reverse.foldl stp ⟨(made A cs.length).1, (made A cs.length).2, pend2 cs cs.length⟩).rc cs.length = dueN (cs ++ cs.reverse) cs.length := by
  subst hA
  obtain ⟨h1, h2, h3⟩ := made_alike hpl hok
  obtain ⟨g1, g2, g3⟩ := alike_fold cs.reverse (fun c h => (hok c (List.mem_reverse.mp h)).1) h1 h2 h3
  rw [alike_read g1 g2 g3]
  exact fact2 hok _
end
theorem lawCalls_placed (row : List Int) : Placed (lawCalls row) := fun k c h => by
  unfold lawCalls at h
  rw [List.getElem?_map] at h
  by_cases hk : k < row.length
  · rw [List.getElem?_range hk] at h; cases h; rfl
  · rw [List.getElem?_eq_none (by simp; omega)] at h; cases h
end Mine

open PySem PySem.W PyProof.Rows
set_option maxHeartbeats 8000000
namespace Mine
open_top hd for PySem.Challenge.rw_ij0147_01
end Mine

namespace Mine

/-- what may differ from run to run -/
structure Pm where
  w : World
  b : Heap
  mg : Str → Option Value
  mb : Str → Option Value
  mean : ExcName → Option Value
  os : OsState
/-- what is fixed for this run -/
noncomputable abbrev XX (p : Pm) : Fix :=
  { prog := PySem.Challenge.rw_ij0147_01.row.prog, w := p.w, K := hd.heap_39 p.w.params, pv := hd.view_39, loose := looseW hd.view_39 [Str.ofString "Flags"], mean := p.mean, mg := p.mg, mb := p.mb, gens := #[], os := p.os, base := p.b, C := 66,
    names := [Str.ofString "a", Str.ofString "nested", Str.ofString "c"] }

theorem cls_ok (p : Pm) : ClsOk (XX p) 28 := ⟨by rfl, by rfl, by rfl, by rfl, by rfl, by rfl, by rfl⟩

set_option maxHeartbeats 8000000
set_option pp.deepTerms false
set_option pp.deepTerms.threshold 6
theorem is_spec (p : Pm) {st : Sto} {j d0 q : Nat} {N : NT} {who : Nat → Who} {fl rc : MK} {pa : AO} (H : FlgN st j d0 q N who fl rc pa) (ks : List Str) (x : Int) (hlen : ks.length ≤ 900) :
    ACall (XX p) 1 63 [.inst j, .tup (ks.map .str), .int x] [] st fun v st' => v = .bool (isG fl rc x [] ks) ∧ st' = st := by
  refine call_fnK (lo₀ := [(Str.ofString "self", .inst j), (Str.ofString "key", .tup (ks.map .str)), (Str.ofString "flag", .int x)]) ⟨⟨_, _, _, _, _, _, _, rfl⟩, by rfl, rfl, rfl, rfl, by decide +kernel⟩ ?_ ?_
    (by show ([Str.ofString "self", Str.ofString "key", Str.ofString "flag"] : List Str).Nodup; decide +kernel) ?_
  · intro I R vs ks hv hk
    obtain rfl := RKs.inv hk
    replace hv := RVs.inv hv; obtain ⟨_, _, rfl, h1, hv⟩ := hv; replace hv := RVs.inv hv; obtain ⟨_, _, rfl, h2, hv⟩ := hv; replace hv := RVs.inv hv; obtain ⟨_, _, rfl, h3, hv⟩ := hv
    replace hv := RVs.inv hv; obtain rfl := hv
    exact ⟨_, fun s doc pm an ct => BindsTo.of_eq rfl, .cons h1 (.cons h2 (.cons h3 .nil))⟩
  · intro n x hx
    simp only [List.map_cons, List.map_nil, List.mem_cons, List.not_mem_nil, or_false] at hx
    rcases hx with rfl | rfl | rfl <;> exact .inl rfl
  · intro K A' L' kk hr
    have hl : (ks.map AV.str).length ≤ 1000 := by rw [List.length_map]; omega
    refine s_cons (s_if (i_not (i_plain (e_name rfl (t_tup hl ?_)))))
    by_cases hks : ks = []
    · subst hks
      exact s_one (s_ret (e_bool (kk _ _ ⟨rfl, rfl⟩)))
    · have hemp : (!!(ks.map AV.str).isEmpty) = false := by cases ks with | nil => exact absurd rfl hks | cons _ _ => rfl
      rw [hemp, if_neg Bool.false_ne_true]
      refine s_nil ?_
      refine s_cons (s_assign (e_attr (e_name rfl (at_get (cls_ok p) H.inst.1 rfl (by rfl) (u_loc ?_)))))
      obtain ⟨ini, last, hlast⟩ : ∃ ini last, ks = ini ++ [last] := ⟨ks.dropLast, ks.getLast hks, (List.dropLast_concat_getLast hks).symm⟩
      refine s_cons (s_forK (fun rest lo st' => st' = st ∧ ∃ pre r c, ks = pre ++ r ++ [last] ∧ rest = r.map AV.str ∧ dn d0 N pre = some c ∧ lo.lookup (Str.ofString "cont") = some (.ref c) ∧ lo.lookup (Str.ofString "key") = some (.tup (ks.map .str)) ∧
          lo.lookup (Str.ofString "flag") = some (.int x) ∧ isG fl rc x [] ks = isG fl rc x pre (r ++ [last])) ?_ ?_ ?_)
      · intro K₁ k₁
        refine e_sub (e_name rfl (e_upto (e_un (e_int (n_neg ⟨_, rfl, sub_init (by rw [List.length_map]; exact List.length_pos_iff.mpr hks) hl (it_tup (k₁ _ _ ⟨rfl, [], ini, d0, hlast, ?_, rfl, rfl, rfl, rfl, by rw [hlast]⟩))⟩)))))
        rw [hlast, List.map_append, List.map_singleton, List.dropLast_concat]
      · rintro K₁ y rest lo st' kn kr ⟨rfl, pre, r, c, h1, h2, h3, h4, h5, h6, h7⟩
        cases r with
        | nil => cases h2
        | cons k r =>
        rw [List.map_cons] at h2
        cases h2
        have hd := (H.dict h3).1
        refine u_nm (s_cons (s_if (i_cmp (e_name (put_self ..) (e_name (put_get rfl h4) (d_notin hd ⟨_, rfl, ?_⟩))))))
        cases hN : N (pre ++ [k]) with
        | none =>
          simp only [Option.map_none, Option.isSome_none, Bool.not_false, if_true]
          refine s_one (s_ret (e_bool (kr _ _ _ (kk _ _ ⟨?_, rfl⟩))))
          rw [h7, List.cons_append, isG_gone H _ _ _ hN]
        | some t =>
          simp only [Option.map_some, Option.isSome_some, Bool.not_true, Bool.false_eq_true, if_false]
          obtain ⟨f, r0, d⟩ := t
          obtain ⟨hf, hr0, hdd⟩ := H.node _ _ _ _ hN
          refine s_nil (s_cons (s_assign (e_sub (e_name (put_get rfl h4) (e_name (put_self ..) (d_get hd (z := .node f r0 d) (by rw [hN]; rfl) (u_loc ?_)))))))
          refine s_cons (s_if (i_cmp (e_name (put_get rfl (put_get rfl h6)) (e_sub (e_name (put_self ..) (e_str (n_get (.inr (.inl ⟨rfl, rfl⟩)) (i_in hr0.2 ⟨_, rfl, ?_⟩))))))))
          have hstep : isG fl rc x pre (k :: r ++ [last]) = (rc (pre ++ [k]) x || isG fl rc x (pre ++ [k]) (r ++ [last])) := by cases r <;> rfl
          cases hx : rc (pre ++ [k]) x with
          | true =>
            rw [if_pos rfl]
            refine s_one (s_ret (e_bool (kr _ _ _ (kk _ _ ⟨?_, rfl⟩))))
            rw [h7, hstep, hx]; rfl
          | false =>
            rw [if_neg Bool.false_ne_true]
            refine s_nil (s_one (s_assign (e_sub (e_name (put_self ..) (e_str (n_get (.inr (.inr ⟨rfl, rfl⟩)) (u_loc ?_)))))))
            refine kn _ _ ⟨rfl, pre ++ [k], r, d, by rw [h1]; simp, rfl, ?_, put_self .., put_get rfl (put_get rfl (put_get rfl h5)), put_get rfl (put_get rfl (put_get rfl h6)), ?_⟩
            · unfold dn; rw [if_neg (by simp), hN]; rfl
            · rw [h7, hstep, hx, Bool.false_or]
      · rintro lo st' ⟨rfl, pre, r, c, h1, h2, h3, h4, h5, h6, h7⟩
        have hr : r = [] := by cases r with | nil => rfl | cons _ _ => cases h2
        subst hr
        rw [List.append_nil] at h1
        rw [List.nil_append] at h7
        have hd := (H.dict h3).1
        have hkl : ks.length = pre.length + 1 := by rw [h1, List.length_append, List.length_singleton]
        have hlastv : (ks.map AV.str)[pre.length]? = some (.str last) := by rw [h1]; simp
        refine s_cons (s_assign (e_sub (e_name h5 (e_un (e_int (n_neg (sub_tup (j := pre.length) (by decide) (by decide) ?_ hlastv (u_loc ?_))))))))
        · rw [List.length_map, hkl]
          exact seq_last _
        · refine s_cons (s_if (i_cmp (e_name (put_self ..) (e_name (put_get rfl h4) (d_in hd ⟨_, rfl, ?_⟩)))))
          rw [h7] at kk
          cases hN : N (pre ++ [last]) with
          | none =>
            simp only [Option.map_none, Option.isSome_none, Bool.false_eq_true, if_false]
            refine s_nil (s_one (s_ret (e_bool (kk _ _ ⟨?_, rfl⟩))))
            rw [isG_gone H [] pre last hN]
          | some t =>
            simp only [Option.map_some, Option.isSome_some, if_true]
            obtain ⟨f, r0, d⟩ := t
            obtain ⟨hf, hr0, hdd⟩ := H.node _ _ _ _ hN
            refine s_cons (s_assign (e_sub (e_name (put_get rfl h4) (e_name (put_self ..) (d_get hd (z := .node f r0 d) (by rw [hN]; rfl) (u_loc ?_))))))
            refine s_one (s_ret (e_or (e_cmp (e_name (put_get rfl (put_get rfl h6)) (e_sub (e_name (put_self ..) (e_str (n_get (.inl ⟨rfl, rfl⟩) (i_in hf.2 (t_bool ?_))))))))))
            cases hx : fl (pre ++ [last]) x with
            | true =>
              rw [if_pos rfl]
              refine kk _ _ ⟨?_, rfl⟩
              unfold isG; rw [hx]; rfl
            | false =>
              rw [if_neg Bool.false_ne_true]
              refine e_cmp (e_name (put_get rfl (put_get rfl h6)) (e_sub (e_name (put_self ..) (e_str (n_get (.inr (.inl ⟨rfl, rfl⟩)) (i_in hr0.2 (kk _ _ ⟨?_, rfl⟩)))))))
              unfold isG; rw [hx, Bool.false_or]

/-- a node's three, made one after the other -/
theorem set_spec (p : Pm) {st : Sto} {j d0 q : Nat} {N : NT} {who : Nat → Who} {fl rc : MK} {pa : AO} (H : FlgN st j d0 q N who fl rc pa) (ks : List Str) (x : Int) (b : Bool) (hlen : ks.length ≤ 900) (hks : ks ≠ []) (hnm : ∀ k ∈ ks, k ∈ (XX p).names) (h0 : 0 ≤ x) (h1 : x < 64) :
    ACall (XX p) 1 56 [.inst j, .tup (ks.map .str), .int x] [(Str.ofString "recursive", .bool b)] st fun v st' => v = .none ∧ ∃ N' who', FlgN st' j d0 q N' who' (if b then fl else upM fl ks x) (if b then upM rc ks x else rc) pa ∧ Ext st who st' who' := by
  refine call_fnK (lo₀ := [(Str.ofString "self", .inst j), (Str.ofString "key", .tup (ks.map .str)), (Str.ofString "flag", .int x), (Str.ofString "recursive", .bool b)]) ⟨⟨_, _, _, _, _, _, _, rfl⟩, by rfl, rfl, rfl, rfl, by decide +kernel⟩ ?_ ?_
    (by show ([Str.ofString "self", Str.ofString "key", Str.ofString "flag", Str.ofString "recursive"] : List Str).Nodup; decide +kernel) ?_
  · intro I R vs ks hv hk
    replace hk := RKs.inv hk; obtain ⟨_, _, rfl, h4, hk⟩ := hk
    obtain rfl := RKs.inv hk
    replace hv := RVs.inv hv; obtain ⟨_, _, rfl, h1, hv⟩ := hv; replace hv := RVs.inv hv; obtain ⟨_, _, rfl, h2, hv⟩ := hv; replace hv := RVs.inv hv; obtain ⟨_, _, rfl, h3, hv⟩ := hv
    replace hv := RVs.inv hv; obtain rfl := hv
    exact ⟨_, fun s doc pm an ct => BindsTo.of_eq rfl, .cons h1 (.cons h2 (.cons h3 (.cons h4 .nil)))⟩
  · intro n x hx
    simp only [List.map_cons, List.map_nil, List.mem_cons, List.not_mem_nil, or_false] at hx
    rcases hx with rfl | rfl | rfl | rfl <;> exact .inl rfl
  · intro K A' L' kk hr
    have hl : (ks.map AV.str).length ≤ 1000 := by rw [List.length_map]; omega
    obtain ⟨ini, last, hlast⟩ : ∃ ini last, ks = ini ++ [last] := ⟨ks.dropLast, ks.getLast hks, (List.dropLast_concat_getLast hks).symm⟩
    have hkl : ks.length = ini.length + 1 := by rw [hlast, List.length_append, List.length_singleton]
    have hlastv : (ks.map AV.str)[ini.length]? = some (.str last) := by rw [hlast]; simp
    have hinit : (ks.map AV.str).dropLast = ini.map AV.str := by rw [hlast, List.map_append, List.map_singleton, List.dropLast_concat]
    refine s_cons (s_assign (e_attr (e_name rfl (at_get (cls_ok p) H.inst.1 rfl (by rfl) (u_loc ?_)))))
    refine s_cons (s_swap2 (e_tuple (a_cons (e_sub (e_name rfl (e_upto (e_un (e_int (n_neg ⟨_, rfl, sub_init (by rw [List.length_map]; exact List.length_pos_iff.mpr hks) hl ?_⟩)))))) ) ))
    refine a_cons (e_sub (e_name rfl (e_un (e_int (n_neg (sub_tup (j := ini.length) (by decide) (by decide) ?_ hlastv ?_))))))
    · rw [List.length_map, hkl]; exact seq_last _
    refine a_nil ⟨by simp, _, _, rfl, u_loc (u_loc ?_)⟩
    rw [hinit]
    refine s_cons (s_forK (fun rest lo st' => ∃ pre r c N' who', ini = pre ++ r ∧ rest = r.map AV.str ∧ dn d0 N' pre = some c ∧ lo.lookup (Str.ofString "cont") = some (.ref c) ∧ lo.lookup (Str.ofString "key_stem") = some (.str last) ∧
        lo.lookup (Str.ofString "flag") = some (.int x) ∧ lo.lookup (Str.ofString "recursive") = some (.bool b) ∧ FlgN st' j d0 q N' who' fl rc pa ∧ Ext st who st' who') ?_ ?_ ?_)
    · exact fun K₁ k₁ => e_name rfl (it_tup (k₁ _ _ ⟨[], ini, d0, N, who, rfl, rfl, rfl, rfl, rfl, rfl, rfl, H, Ext.refl _ _⟩))
    · rintro K₁ y rest lo st' kn kr ⟨pre, r, c, N', who', h2, h3, h4, h5, h6, h7, h8, H', E'⟩
      cases r with
      | nil => cases h3
      | cons k r =>
      rw [List.map_cons] at h3
      cases h3
      have hd := (H'.dict h4).1
      have hkn : k ∈ (XX p).names := hnm k (by rw [hlast, h2]; simp)
      refine u_nm (s_cons (s_if (i_cmp (e_name (put_self ..) (e_name (put_get rfl h5) (d_notin hd ⟨_, rfl, ?_⟩))))))
      cases hN : N' (pre ++ [k]) with
      | none =>
        simp only [Option.map_none, Option.isSome_none, Bool.not_false, if_true]
        refine s_one (s_assignI (e_newNode rfl rfl hr fun f r0 d hf hr0 hd' g1 g2 g3 => e_name (put_get rfl h5) (e_name (put_self ..) (d_set (d := fun x => (N' (pre ++ [x])).map nd) ?_ hkn (show 3 ≤ 900 by decide) ?_))))
        · have hcw := (H'.dict h4).2
          have cn : ∀ i, st' i = .dead → c ≠ i := fun i hi e => by rw [e, hi] at hd; cases hd
          rw [Sto.set_ne _ _ (cn d hd'), Sto.set_ne _ _ (cn r0 hr0), Sto.set_ne _ _ (cn f hf)]; exact hd
        · obtain ⟨who2, H2, E2⟩ := H'.grow h4 hN hf hr0 hd' g1 g2 g3
          have hN2 : upN N' (pre ++ [k]) (some (f, r0, d)) (pre ++ [k]) = some (f, r0, d) := by unfold upN; rw [if_pos rfl]
          have hdc : dn d0 (upN N' (pre ++ [k]) (some (f, r0, d))) pre = some c := by
            unfold dn at h4 ⊢
            unfold upN
            rw [if_neg (show ¬ pre = pre ++ [k] by intro e; simpa using congrArg List.length e)]; exact h4
          refine s_one (s_assign (e_sub (e_sub (e_name (put_get rfl h5) (e_name (put_self ..) (d_get (H2.dict hdc).1 (z := .node f r0 d) (by rw [hN2]; rfl) ?_)))) ))
          refine e_str (n_get (.inr (.inr ⟨rfl, rfl⟩)) (u_loc ?_))
          refine kn _ _ ⟨pre ++ [k], r, d, _, who2, by rw [h2]; simp, rfl, ?_, put_self .., put_get rfl (put_get rfl h6), put_get rfl (put_get rfl h7), put_get rfl (put_get rfl h8), H2, E'.trans E2⟩
          unfold dn; rw [if_neg (by simp), hN2]; rfl
      | some t =>
        simp only [Option.map_some, Option.isSome_some, Bool.not_true, Bool.false_eq_true, if_false]
        obtain ⟨f, r0, d⟩ := t
        refine s_nil (s_one (s_assign (e_sub (e_sub (e_name (put_get rfl h5) (e_name (put_self ..) (d_get hd (z := .node f r0 d) (by rw [hN]; rfl) ?_)))))))
        refine e_str (n_get (.inr (.inr ⟨rfl, rfl⟩)) (u_loc ?_))
        refine kn _ _ ⟨pre ++ [k], r, d, N', who', by rw [h2]; simp, rfl, ?_, put_self .., put_get rfl (put_get rfl h6), put_get rfl (put_get rfl h7), put_get rfl (put_get rfl h8), H', E'⟩
        unfold dn; rw [if_neg (by simp), hN]; rfl
    · rintro lo st' ⟨pre, r, c, N', who', h2, h3, h4, h5, h6, h7, h8, H', E'⟩
      have hr0 : r = [] := by cases r with | nil => rfl | cons _ _ => cases h3
      subst hr0
      rw [List.append_nil] at h2
      subst h2
      have hd := (H'.dict h4).1
      have hkn : last ∈ (XX p).names := hnm last (by rw [hlast]; simp)
      refine s_cons (AS.mono (P := fun fl' lo₁ st₁ => fl' = .next ∧ lo₁ = lo ∧ ∃ N₂ who₂ f r0 d, FlgN st₁ j d0 q N₂ who₂ fl rc pa ∧ Ext st who st₁ who₂ ∧ N₂ (ini ++ [last]) = some (f, r0, d) ∧ dn d0 N₂ ini = some c)
        (s_if (i_cmp (e_name h6 (e_name h5 (d_notin hd ⟨_, rfl, ?_⟩))))) ?_)
      · cases hN : N' (ini ++ [last]) with
        | none =>
          simp only [Option.map_none, Option.isSome_none, Bool.not_false, if_true]
          refine s_one (s_assignI (e_newNode rfl rfl hr fun f r0 d hf hr0 hd' g1 g2 g3 => e_name h5 (e_name h6 (d_set (d := fun x => (N' (ini ++ [x])).map nd) ?_ hkn (show 3 ≤ 900 by decide) ?_))))
          · have cn : ∀ i, st' i = .dead → c ≠ i := fun i hi e => by rw [e, hi] at hd; cases hd
            rw [Sto.set_ne _ _ (cn d hd'), Sto.set_ne _ _ (cn r0 hr0), Sto.set_ne _ _ (cn f hf)]; exact hd
          · obtain ⟨who2, H2, E2⟩ := H'.grow h4 hN hf hr0 hd' g1 g2 g3
            refine ⟨rfl, rfl, _, who2, f, r0, d, H2, E'.trans E2, by unfold upN; rw [if_pos rfl], ?_⟩
            unfold dn at h4 ⊢
            unfold upN
            rw [if_neg (show ¬ ini = ini ++ [last] by intro e; simpa using congrArg List.length e)]; exact h4
        | some t =>
          simp only [Option.map_some, Option.isSome_some, Bool.not_true, Bool.false_eq_true, if_false]
          obtain ⟨f, r0, d⟩ := t
          exact s_nil ⟨rfl, rfl, N', who', f, r0, d, H', E', hN, h4⟩
      · rintro _ _ st₁ ⟨rfl, rfl, N₂, who₂, f, r0, d, H₂, E₂, hN₂, hc₂⟩
        obtain ⟨hf, hr0, hdd⟩ := H₂.node _ _ _ _ hN₂
        refine s_one (s_expr (e_meth (hr := hr) (h := e_sub (e_sub (e_name h5 (e_name h6 (d_get (H₂.dict hc₂).1 (z := .node f r0 d) (by rw [hN₂]; rfl) (e_ifexp (i_plain (e_name h8 (t_bool ?_)))))))))))
        cases b with
        | true =>
          rw [if_pos rfl]
          refine e_str (n_get (.inr (.inl ⟨rfl, rfl⟩)) ⟨_, am_set hr0.2 F.slot_set_add F.type_set_add, keep_b _, a_cons (e_name h7 (a_nil (i_add hr0.2 h0 h1 ?_)))⟩)
          obtain ⟨H3, E3⟩ := H₂.markR hN₂ x
          refine kk _ _ ⟨rfl, N₂, who₂, ?_, E₂.trans E3⟩
          rw [hlast]; exact H3
        | false =>
          rw [if_neg Bool.false_ne_true]
          refine e_str (n_get (.inl ⟨rfl, rfl⟩) ⟨_, am_set hf.2 F.slot_set_add F.type_set_add, keep_b _, a_cons (e_name h7 (a_nil (i_add hf.2 h0 h1 ?_)))⟩)
          obtain ⟨H3, E3⟩ := H₂.markF hN₂ x
          refine kk _ _ ⟨rfl, N₂, who₂, ?_, E₂.trans E3⟩
          rw [hlast]; exact H3
end Mine

set_option maxHeartbeats 8000000
namespace Mine

theorem unset_spec (p : Pm) {st : Sto} {j d0 q : Nat} {N : NT} {who : Nat → Who} {fl rc : MK} {pa : AO} (H : FlgN st j d0 q N who fl rc pa) (ks : List Str) (hlen : ks.length ≤ 900) (hks : ks ≠ []) :
    ACall (XX p) 1 49 [.inst j, .tup (ks.map .str)] [] st fun v st' => v = .none ∧ ∃ N', FlgN st' j d0 q N' who (cutM fl ks) (cutM rc ks) pa ∧ Ext st who st' who := by
  refine call_fnK (lo₀ := [(Str.ofString "self", .inst j), (Str.ofString "key", .tup (ks.map .str))]) ⟨⟨_, _, _, _, _, _, _, rfl⟩, by rfl, rfl, rfl, rfl, by decide +kernel⟩ ?_ ?_
    (by show ([Str.ofString "self", Str.ofString "key"] : List Str).Nodup; decide +kernel) ?_
  · intro I R vs ks hv hk
    obtain rfl := RKs.inv hk
    replace hv := RVs.inv hv; obtain ⟨_, _, rfl, h1, hv⟩ := hv; replace hv := RVs.inv hv; obtain ⟨_, _, rfl, h2, hv⟩ := hv
    replace hv := RVs.inv hv; obtain rfl := hv
    exact ⟨_, fun s doc pm an ct => BindsTo.of_eq rfl, .cons h1 (.cons h2 .nil)⟩
  · intro n x hx
    simp only [List.map_cons, List.map_nil, List.mem_cons, List.not_mem_nil, or_false] at hx
    rcases hx with rfl | rfl <;> exact .inl rfl
  · intro K A' L' kk hr
    have hl : (ks.map AV.str).length ≤ 1000 := by rw [List.length_map]; omega
    obtain ⟨ini, last, hlast⟩ : ∃ ini last, ks = ini ++ [last] := ⟨ks.dropLast, ks.getLast hks, (List.dropLast_concat_getLast hks).symm⟩
    have hkl : ks.length = ini.length + 1 := by rw [hlast, List.length_append, List.length_singleton]
    have hlastv : (ks.map AV.str)[ini.length]? = some (.str last) := by rw [hlast]; simp
    have hinit : (ks.map AV.str).dropLast = ini.map AV.str := by rw [hlast, List.map_append, List.map_singleton, List.dropLast_concat]
    refine s_cons (s_assign (e_attr (e_name rfl (at_get (cls_ok p) H.inst.1 rfl (by rfl) (u_loc ?_)))))
    refine s_cons (s_forK (fun rest lo st' => st' = st ∧ ∃ pre r c, ini = pre ++ r ∧ rest = r.map AV.str ∧ dn d0 N pre = some c ∧ lo.lookup (Str.ofString "cont") = some (.ref c) ∧ lo.lookup (Str.ofString "key") = some (.tup (ks.map .str))) ?_ ?_ ?_)
    · exact fun K₁ k₁ => e_sub (e_name rfl (e_upto (e_un (e_int (n_neg ⟨_, rfl, sub_init (by rw [List.length_map]; exact List.length_pos_iff.mpr hks) hl (it_tup (k₁ _ _ ⟨rfl, [], ini, d0, rfl, hinit, rfl, rfl, rfl⟩))⟩)))))
    · rintro K₁ y rest lo st' kn kr ⟨rfl, pre, r, c, h2, h3, h4, h5, h6⟩
      cases r with
      | nil => cases h3
      | cons k r =>
      rw [List.map_cons] at h3
      cases h3
      have hd := (H.dict h4).1
      refine u_nm (s_cons (s_if (i_cmp (e_name (put_self ..) (e_name (put_get rfl h5) (d_notin hd ⟨_, rfl, ?_⟩))))))
      cases hN : N (pre ++ [k]) with
      | none =>
        simp only [Option.map_none, Option.isSome_none, Bool.not_false, if_true]
        refine s_one (s_ret0 (kr _ _ _ (kk _ _ ⟨rfl, N, ?_, Ext.refl _ _⟩)))
        have hgone : N ks = none := by
          have := H.gone (by simp) hN (r ++ [last])
          rw [hlast, h2]; simpa using this
        obtain ⟨e1, e2, e3⟩ := H.cutM_no hks hgone
        rw [e2, e3]; exact H
      | some t =>
        simp only [Option.map_some, Option.isSome_some, Bool.not_true, Bool.false_eq_true, if_false]
        obtain ⟨f, r0, d⟩ := t
        refine s_nil (s_one (s_assign (e_sub (e_sub (e_name (put_get rfl h5) (e_name (put_self ..) (d_get hd (z := .node f r0 d) (by rw [hN]; rfl) ?_)))))))
        refine e_str (n_get (.inr (.inr ⟨rfl, rfl⟩)) (u_loc ?_))
        refine kn _ _ ⟨rfl, pre ++ [k], r, d, by rw [h2]; simp, rfl, ?_, put_self .., put_get rfl (put_get rfl h6)⟩
        unfold dn; rw [if_neg (by simp), hN]; rfl
    · rintro lo st' ⟨rfl, pre, r, c, h2, h3, h4, h5, h6⟩
      have hr0 : r = [] := by cases r with | nil => rfl | cons _ _ => cases h3
      subst hr0
      rw [List.append_nil] at h2
      subst h2
      have hd := (H.dict h4).1
      refine s_one (s_expr (e_meth (hr := hr) (h := e_name h5 ⟨_, am_dict hd F.slot_dict_pop F.type_dict_pop, keep_b _, a_cons (e_sub (e_name h6 (e_un (e_int (n_neg (sub_tup (j := ini.length) (by decide) (by decide) ?_ hlastv (a_cons (e_none (a_nil (d_pop hd (show 3 ≤ 900 by decide) (fun hn => ?_) fun z hz => ?_))))))))))⟩)))
      · rw [List.length_map, hkl]; exact seq_last _
      · refine kk _ _ ⟨rfl, N, ?_, Ext.refl _ _⟩
        have hgone : N ks = none := by
          rw [hlast]
          cases hq : N (ini ++ [last]) with
          | none => rfl
          | some t => rw [hq] at hn; cases hn
        obtain ⟨e1, e2, e3⟩ := H.cutM_no hks hgone
        rw [e2, e3]; exact H
      · obtain ⟨H2, E2⟩ := H.cut (k := last) h4
        refine kk _ _ ⟨rfl, cutN N (ini ++ [last]), ?_, E2⟩
        rw [hlast]; exact H2

theorem pend_spec (p : Pm) {st : Sto} {j d0 q : Nat} {N : NT} {who : Nat → Who} {fl rc : MK} {ps : List (List Str × Int)} (H : FlgN st j d0 q N who fl rc (.tset ps)) (ks : List Str) (x : Int) (hok : okP (ks, x)) (hps : ∀ r ∈ ps, okP r) (hlen : ps.length ≤ 17) :
    ACall (XX p) 1 35 [.inst j, .tup (ks.map .str), .int x] [] st fun v st' => v = .none ∧ FlgN st' j d0 q N who fl rc (.tset (ps ++ [(ks, x)])) ∧ Ext st who st' who := by
  refine call_fnK (lo₀ := [(Str.ofString "self", .inst j), (Str.ofString "key", .tup (ks.map .str)), (Str.ofString "flag", .int x)]) ⟨⟨_, _, _, _, _, _, _, rfl⟩, by rfl, rfl, rfl, rfl, by decide +kernel⟩ ?_ ?_
    (by show ([Str.ofString "self", Str.ofString "key", Str.ofString "flag"] : List Str).Nodup; decide +kernel) ?_
  · intro I R vs ks hv hk
    obtain rfl := RKs.inv hk
    replace hv := RVs.inv hv; obtain ⟨_, _, rfl, h1, hv⟩ := hv; replace hv := RVs.inv hv; obtain ⟨_, _, rfl, h2, hv⟩ := hv; replace hv := RVs.inv hv; obtain ⟨_, _, rfl, h3, hv⟩ := hv
    replace hv := RVs.inv hv; obtain rfl := hv
    exact ⟨_, fun s doc pm an ct => BindsTo.of_eq rfl, .cons h1 (.cons h2 (.cons h3 .nil))⟩
  · intro n x hx
    simp only [List.map_cons, List.map_nil, List.mem_cons, List.not_mem_nil, or_false] at hx
    rcases hx with rfl | rfl | rfl <;> exact .inl rfl
  · intro K A' L' kk hr
    obtain ⟨H2, E2⟩ := H.pendTo (pa' := .tset (ps ++ [(ks, x)])) (by intro e; cases e)
    exact s_one (s_expr (e_meth (hr := hr) (h := e_attr (e_name rfl (at_get (cls_ok p) H.inst.1 rfl (by rfl) ⟨_, am_tset H.pend.1 F.slot_set_add F.type_set_add, keep_b _,
      a_cons (e_tuple (a_cons (e_name rfl (a_cons (e_name rfl (a_nil ⟨by simp, a_nil (t_add (p := (ks, x)) H.pend.1 hok hps hlen (kk _ _ ⟨rfl, H2, E2⟩))⟩))))))⟩)))))


theorem fin_spec (p : Pm) {st : Sto} {j d0 q : Nat} {N : NT} {who : Nat → Who} {fl rc : MK} {ps : List (List Str × Int)} (H : FlgN st j d0 q N who fl rc (.tset ps)) (hlen : ps.length ≤ 1000)
    (hps : ∀ r ∈ ps, r.1 ≠ [] ∧ r.1.length ≤ 900 ∧ (∀ k ∈ r.1, k ∈ (XX p).names) ∧ 0 ≤ r.2 ∧ r.2 < 64) :
    ACall (XX p) 2 42 [.inst j] [] st fun v st' => v = .none ∧ ∃ N' who', FlgN st' j d0 q N' who' (pendM fl ps) rc (.tset []) ∧ Ext st who st' who' := by
  refine call_fnK (lo₀ := [(Str.ofString "self", .inst j)]) ⟨⟨_, _, _, _, _, _, _, rfl⟩, by rfl, rfl, rfl, rfl, by decide +kernel⟩ ?_ ?_
    (by show ([Str.ofString "self"] : List Str).Nodup; decide +kernel) ?_
  · intro I R vs ks hv hk
    obtain rfl := RKs.inv hk
    replace hv := RVs.inv hv; obtain ⟨_, _, rfl, h1, hv⟩ := hv
    replace hv := RVs.inv hv; obtain rfl := hv
    exact ⟨_, fun s doc pm an ct => BindsTo.of_eq rfl, .cons h1 .nil⟩
  · intro n x hx
    simp only [List.map_cons, List.map_nil, List.mem_cons, List.not_mem_nil, or_false] at hx
    rcases hx with rfl; exact .inl rfl
  · intro K A' L' kk hr
    obtain ⟨H1, E1⟩ := H.pendTo (pa' := .lent) (by intro e; cases e)
    refine s_cons (s_forTK (i := q) (ps := ps) (fun xs lo st' => lo.lookup (Str.ofString "self") = some (.inst j) ∧ (∀ r ∈ xs, r ∈ ps) ∧ ∃ N' who' fl', FlgN st' j d0 q N' who' fl' rc .lent ∧ Ext st who st' who' ∧
      ∀ p y, (fl' p y || decide ((p, y) ∈ xs)) = pendM fl ps p y) hlen ?_ ?_ ?_)
    · intro K₁ k₁
      refine e_attr (e_name rfl (at_get (cls_ok p) H.inst.1 rfl (by rfl) ⟨rfl, H.pend.1, fun xs h1 h2 => k₁ _ _ _ ⟨rfl, h2, N, who, fl, H1, E1, fun p y => ?_⟩⟩))
      unfold pendM
      congr 1
      exact decide_eq_decide.mpr ⟨h2 _, h1 _⟩
    · rintro K₁ x r lo st' kn ⟨hl, hsub, N', who', fl', H', E', hm⟩
      obtain ⟨g1, g2, g3, g4, g5⟩ := hps x (hsub x (.head _))
      refine u_tuple (h := u_nm (u_nm ?_)) rfl
      refine s_one (s_expr (e_meth (hr := hr) (h := e_name (put_get rfl (put_get rfl hl)) ⟨.ref 56, am_inst (cls_ok p) H'.inst.1 rfl (by rfl) (by rfl), keep_K (by rfl),
        a_cons (e_name (put_get rfl (put_self ..)) (a_cons (e_name (put_self ..) (a_nil (e_bool (ACallV.mono (set_spec p H' x.1 x.2 false g2 g1 g3 g4 g5) fun v st'' ⟨_, N2, who2, H2, E2⟩ => ?_))))))⟩)))
      refine kn _ _ ⟨put_get rfl (put_get rfl hl), fun r hr => hsub r (.tail _ hr), N2, who2, _, H2, E'.trans E2, fun p' y => ?_⟩
      rw [← hm p' y]
      simp only [Bool.false_eq_true, if_false]
      unfold upM
      obtain ⟨x1, x2⟩ := x
      by_cases hp : p' = x1
      · subst hp
        rw [if_pos rfl]
        simp only [List.mem_cons, Prod.mk.injEq, true_and]
        by_cases hy : y = x2
        · subst hy; simp
        · simp [hy]
      · rw [if_neg hp]
        congr 1
        simp [hp]
    · rintro lo st' ⟨hl, hsub, N', who', fl', H', E', hm⟩
      have hfl : fl' = pendM fl ps := by funext p y; rw [← hm p y]; simp
      subst hfl
      obtain ⟨H2, E2⟩ := H'.pendTo (pa' := .tset ps) (by intro e; cases e)
      obtain ⟨H3, E3⟩ := H2.pendTo (pa' := .tset []) (by intro e; cases e)
      exact s_one (s_expr (e_meth (hr := hr) (h := e_attr (e_name hl (at_get (cls_ok p) H2.inst.1 rfl (by rfl) ⟨_, am_tset H2.pend.1 F.slot_set_clear F.type_set_clear, keep_b _, a_nil (t_clear H2.pend.1 (kk _ _ ⟨rfl, N', who', H3, (E'.trans E2).trans E3⟩))⟩)))))

theorem make_spec (p : Pm) {st : Sto} {P : AV → Sto → Prop} (h : ∀ j d0 q who st', FlgN st' j d0 q (fun _ => none) who (fun _ _ => false) (fun _ _ => false) (.tset []) → (∀ i, st i ≠ .dead → st' i = st i ∧ who i = .free) → P (.inst j) st') :
    ACallV (XX p) 2 (.ref 66) [] [] st P := by
  refine c_make (cls_ok p) fun j hj => ?_
  refine call_fnCK (lo₀ := [(Str.ofString "self", .inst j)]) ⟨⟨_, _, _, _, _, _, _, rfl⟩, by rfl, rfl, rfl, rfl, by decide +kernel⟩ ?_ ?_
    (by show ([Str.ofString "self"] : List Str).Nodup; decide +kernel) ?_
  · intro I R vs ks hv hk
    obtain rfl := RKs.inv hk
    replace hv := RVs.inv hv; obtain ⟨_, _, rfl, h1, hv⟩ := hv
    replace hv := RVs.inv hv; obtain rfl := hv
    exact ⟨_, fun s doc pm an ct => BindsTo.of_eq rfl, .cons h1 .nil⟩
  · intro n x hx
    simp only [List.map_cons, List.map_nil, List.mem_cons, List.not_mem_nil, or_false] at hx
    rcases hx with rfl; exact .inl rfl
  · intro K A' L' kk hr
    refine s_cons (s_assignA (e_dict0 fun d0 hd0 => e_name rfl ⟨j, [], rfl, ?_, by decide, ?_⟩) (cls_ok p) (by rfl))
    · have : j ≠ d0 := fun e => by rw [← e, Sto.set_self] at hd0; cases hd0
      rw [Sto.set_ne _ _ this, Sto.set_self]
    refine s_one (s_assignA (e_call (an_bi (by rfl) rfl rfl) (keep_t _) hr (h := a_nil (c_tset0 fun q hq => e_name rfl ⟨j, [(Str.ofString "_flags", .ref d0)], rfl, ?_, ?_, ?_⟩))) (cls_ok p) (by rfl))
    · have : j ≠ q := fun e => by rw [← e, Sto.set_self] at hq; cases hq
      rw [Sto.set_ne _ _ this, Sto.set_self]; rfl
    · show 1 ≤ 100; decide
    · have jd : d0 ≠ j := fun e => by rw [e, Sto.set_self] at hd0; cases hd0
      have jq : q ≠ j := fun e => by rw [e, Sto.set_self] at hq; cases hq
      have dq : q ≠ d0 := fun e => by rw [e, Sto.set_ne _ _ jd, Sto.set_self] at hq; cases hq
      rw [Sto.set_ne _ _ jd] at hd0
      rw [Sto.set_ne _ _ jq, Sto.set_ne _ _ dq, Sto.set_ne _ _ jq] at hq
      refine kk _ _ ⟨rfl, h j d0 q (fun i => if i = j then .inst else if i = d0 then .root else if i = q then .pend else .free) _ ⟨fun i hi => ?_, ⟨?_, ?_⟩, ⟨?_, ?_⟩, ⟨?_, ?_⟩, fun p f r d e => (nomatch e), fun p _ => ⟨fun _ => rfl, fun _ => rfl⟩, fun p k _ e => absurd rfl e, rfl⟩ fun i hi => ⟨?_, ?_⟩⟩
      · by_cases e1 : i = j
        · rw [e1, Sto.set_self]; intro e; cases e
        · rw [Sto.set_ne _ _ e1]
          by_cases e2 : i = q
          · rw [e2, Sto.set_self]; intro e; cases e
          · rw [Sto.set_ne _ _ e2, Sto.set_ne _ _ e1]
            by_cases e3 : i = d0
            · rw [e3, Sto.set_self]; intro e; cases e
            · rw [if_neg e1, if_neg e3, if_neg e2] at hi
              exact absurd rfl hi
      · rw [Sto.set_self]; rfl
      · rw [if_pos rfl]
      · rw [Sto.set_ne _ _ jd, Sto.set_ne _ _ (Ne.symm dq), Sto.set_ne _ _ jd, Sto.set_self]; rfl
      · rw [if_neg jd, if_pos rfl]
      · rw [Sto.set_ne _ _ jq, Sto.set_self]
      · rw [if_neg jq, if_neg dq, if_pos rfl]
      · have e1 : i ≠ j := fun e => hi (by rw [e]; exact hj)
        have e2 : i ≠ d0 := fun e => hi (by rw [e]; exact hd0)
        have e3 : i ≠ q := fun e => hi (by rw [e]; exact hq)
        rw [Sto.set_ne _ _ e1, Sto.set_ne _ _ e3, Sto.set_ne _ _ e1, Sto.set_ne _ _ e2, Sto.set_ne _ _ e1]
      · have e1 : i ≠ j := fun e => hi (by rw [e]; exact hj)
        have e2 : i ≠ d0 := fun e => hi (by rw [e]; exact hd0)
        have e3 : i ≠ q := fun e => hi (by rw [e]; exact hq)
        rw [if_neg e1, if_neg e2, if_neg e3]
end Mine

set_option maxHeartbeats 8000000
namespace Mine

theorem call_spec (p : Pm) {st : Sto} (place x : Int) : ACall (XX p) 1 77 [.int place, .int x] [] st fun v st' => v = .tup [.int place, .int (x.fmod 5), .int ((x.fdiv 5).fmod 13 + 1)] ∧ st' = st := by
  refine call_fnK (lo₀ := [(Str.ofString "place", .int place), (Str.ofString "x", .int x)]) ⟨⟨_, _, _, _, _, _, _, rfl⟩, by rfl, rfl, rfl, rfl, by decide +kernel⟩ ?_ ?_
    (by show ([Str.ofString "place", Str.ofString "x"] : List Str).Nodup; decide +kernel) ?_
  · intro I R vs ks hv hk
    obtain rfl := RKs.inv hk
    replace hv := RVs.inv hv; obtain ⟨_, _, rfl, h1, hv⟩ := hv; replace hv := RVs.inv hv; obtain ⟨_, _, rfl, h2, hv⟩ := hv
    replace hv := RVs.inv hv; obtain rfl := hv
    exact ⟨_, fun s doc pm an ct => BindsTo.of_eq rfl, .cons h1 (.cons h2 .nil)⟩
  · intro n x hx
    simp only [List.map_cons, List.map_nil, List.mem_cons, List.not_mem_nil, or_false] at hx
    rcases hx with rfl | rfl <;> exact .inl rfl
  · intro K A' L' kk hr
    refine s_one (s_ret (e_tuple (a_cons (e_name rfl (a_cons (e_bin (e_name rfl (e_int (b_mod (by decide) ?_)))))))))
    refine a_cons (e_bin (e_bin (e_bin (e_name rfl (e_int (b_div (by decide) (PyProof.noPylong_small (by decide)) (e_int (b_mod (by decide) (e_int (b_add (a_nil ?_)))))))))))
    exact ⟨by simp, kk _ _ ⟨rfl, rfl⟩⟩

theorem way_spec (p : Pm) {st : Sto} (v : Nat) (hv : v < 14) : ACall (XX p) 1 84 [.int (v : Int)] [] st fun r st' => r = .tup ((way v).map .str) ∧ st' = st := by
  refine call_fnK (lo₀ := [(Str.ofString "v", .int (v : Int))]) ⟨⟨_, _, _, _, _, _, _, rfl⟩, by rfl, rfl, rfl, rfl, by decide +kernel⟩ ?_ ?_
    (by show ([Str.ofString "v"] : List Str).Nodup; decide +kernel) ?_
  · intro I R vs ks hv hk
    obtain rfl := RKs.inv hk
    replace hv := RVs.inv hv; obtain ⟨_, _, rfl, h1, hv⟩ := hv
    replace hv := RVs.inv hv; obtain rfl := hv
    exact ⟨_, fun s doc pm an ct => BindsTo.of_eq rfl, .cons h1 .nil⟩
  · intro n x hx
    simp only [List.map_cons, List.map_nil, List.mem_cons, List.not_mem_nil, or_false] at hx
    rcases hx with rfl; exact .inl rfl
  · intro K A' L' kk hr
    refine s_cons (s_assign (e_bin (e_tuple (a_cons (e_str (a_nil ⟨by simp, e_bin (e_name rfl (e_int (b_modN (b := 2) (by decide) (b_mulT (k := ((v % 2 : Nat) : Int)) (mod2i v) (by simp) (u_loc ?_)))))⟩))))))
    have e1 : (if ((v % 2 : Nat) : Int) = 1 then [AV.str (Str.ofString "c")] else []) = (if v % 2 = 1 then [Str.ofString "c"] else []).map AV.str := by
      by_cases h : v % 2 = 1
      · rw [if_pos h, if_pos (mod2e h)]; rfl
      · rw [if_neg h, if_neg (mod2n h)]; rfl
    rw [e1]
    refine s_cons (s_assign (e_bin (e_bin (e_name rfl (e_int (b_divN (b := 2) (by decide) (by decide) (e_int (b_add (a := ((v / 2 : Nat) : Int)) (b := 1) (u_loc ?_)))))))))
    refine s_cons (s_whileK (fun n lo st' => st' = st ∧ ∃ (w f : Nat) (acc : List Str), w = n ∧ w ≤ f ∧ wy f w acc = way v ∧ acc.length + w ≤ 100 ∧ lo.lookup (Str.ofString "w") = some (.int (w : Int)) ∧ lo.lookup (Str.ofString "names") = some (.tup (acc.map .str))) (v / 2 + 1) ?_ ?_)
    · exact ⟨rfl, v / 2 + 1, 10, (if v % 2 = 1 then [Str.ofString "c"] else []), rfl, by omega, rfl, by split <;> simp <;> omega, rfl, rfl⟩
    · rintro K₁ D n lo st' kn kr kd ⟨rfl, w, f, acc, rfl, hf, hw, hlen, h1, h2⟩
      refine i_cmp (e_name h1 (e_int (c_gt ⟨_, rfl, ?_⟩)))
      by_cases hw1 : 1 < w
      · rw [decide_eq_true (nlt1 hw1), if_pos rfl]
        cases f with
        | zero => omega
        | succ f =>
        have hstep : wy f (w / 2) (nmA (w % 2) :: acc) = way v := by
          rw [← hw]
          conv => rhs; unfold wy
          rw [if_neg (Nat.not_le_of_lt hw1)]
        refine s_cons (s_assign (e_bin (e_tuple (a_cons (e_sub (e_tuple (a_cons (e_str (a_cons (e_str (a_nil ⟨by simp, ?_⟩)))))))))))
        refine e_bin (e_name h1 (e_int (b_modN (b := 2) (by decide) (sub_tup (j := w % 2) (z := .str (nmA (w % 2))) (mod2lo w) (mod2hi w) ?_ ?_ (a_nil ⟨by simp, e_name h2 (b_addT (xs := [.str (nmA (w % 2))]) ?_ (u_loc ?_))⟩)))))
        · rcases mod2 w with e | e <;> rw [e] <;> decide
        · rcases mod2 w with e | e <;> rw [e] <;> rfl
        · simp only [List.length_cons, List.length_nil, List.length_map]; omega
        · refine s_cons (s_assign (e_bin (e_name (put_get rfl h1) (e_int (b_divN (b := 2) (by decide) (by decide) (u_loc (s_nil ?_)))))))
          refine kn (w / 2) _ _ (half_lt hw1) ⟨rfl, w / 2, f, nmA (w % 2) :: acc, rfl, half_le hw1 hf, hstep, ?_, put_self .., put_get rfl (put_self ..)⟩
          rw [List.length_cons]; omega
      · rw [decide_eq_false (nnlt1 hw1), if_neg Bool.false_ne_true]
        refine kd _ _ (s_one (s_ret (e_name h2 (kk _ _ ⟨?_, rfl⟩))))
        rw [← hw]
        cases f with
        | zero => rfl
        | succ f => unfold wy; rw [if_pos (Nat.le_of_not_lt hw1)]

theorem begins_spec (p : Pm) {st : Sto} (v u : Nat) (hv : v < 14) (hu : u < 14) : ACall (XX p) 1 91 [.int (v : Int), .int (u : Int)] [] st fun r st' => r = .bool (bg v u) ∧ st' = st := by
  refine call_fnK (lo₀ := [(Str.ofString "v", .int (v : Int)), (Str.ofString "u", .int (u : Int))]) ⟨⟨_, _, _, _, _, _, _, rfl⟩, by rfl, rfl, rfl, rfl, by decide +kernel⟩ ?_ ?_
    (by show ([Str.ofString "v", Str.ofString "u"] : List Str).Nodup; decide +kernel) ?_
  · intro I R vs ks hv hk
    obtain rfl := RKs.inv hk
    replace hv := RVs.inv hv; obtain ⟨_, _, rfl, h1, hv⟩ := hv; replace hv := RVs.inv hv; obtain ⟨_, _, rfl, h2, hv⟩ := hv
    replace hv := RVs.inv hv; obtain rfl := hv
    exact ⟨_, fun s doc pm an ct => BindsTo.of_eq rfl, .cons h1 (.cons h2 .nil)⟩
  · intro n x hx
    simp only [List.map_cons, List.map_nil, List.mem_cons, List.not_mem_nil, or_false] at hx
    rcases hx with rfl | rfl <;> exact .inl rfl
  · intro K A' L' kk hr
    refine s_cons (s_if (i_cmp (e_bin (e_name rfl (e_int (b_modN (b := 2) (by decide) (e_int (c_eq ⟨_, rfl, ?_⟩))))))))
    by_cases h2 : v % 2 = 1
    · rw [show (((v % 2 : Nat) : Int) == 1) = true by rw [h2]; rfl, if_pos rfl]
      refine s_one (s_ret (e_cmp (e_name rfl (e_name rfl (c_eq (kk _ _ ⟨?_, rfl⟩))))))
      unfold bg; rw [if_pos h2]
      congr 1
      by_cases e : v = u
      · subst e; simp
      · rw [beq_eq_false_iff_ne.mpr (nne e), beq_eq_false_iff_ne.mpr e]
    · rw [beq_eq_false_iff_ne.mpr (mod2n h2), if_neg Bool.false_ne_true]
      refine s_nil (s_cons (s_assign (e_bin (e_bin (e_name rfl (e_int (b_divN (b := 2) (by decide) (by decide) (e_int (b_add (a := ((v / 2 : Nat) : Int)) (b := 1) (u_loc ?_))))))))))
      refine s_cons (s_assign (e_bin (e_bin (e_name rfl (e_int (b_divN (b := 2) (by decide) (by decide) (e_int (b_add (a := ((u / 2 : Nat) : Int)) (b := 1) (u_loc ?_)))))))))
      refine s_cons (s_whileK (fun n lo st' => st' = st ∧ ∃ (w f : Nat), w = n ∧ w ≤ f ∧ gw f w (v / 2 + 1) = gw 10 (u / 2 + 1) (v / 2 + 1) ∧ lo.lookup (Str.ofString "w") = some (.int (w : Int)) ∧ lo.lookup (Str.ofString "m") = some (.int ((v / 2 + 1 : Nat) : Int))) (u / 2 + 1) ?_ ?_)
      · exact ⟨rfl, u / 2 + 1, 10, rfl, by omega, rfl, rfl, rfl⟩
      · rintro K₁ D n lo st' kn kr kd ⟨rfl, w, f, rfl, hf, hw, h1, h3⟩
        refine i_cmp (e_name h1 (e_name h3 (c_gt ⟨_, rfl, ?_⟩)))
        by_cases hw1 : v / 2 + 1 < w
        · rw [decide_eq_true (nlt hw1), if_pos rfl]
          cases f with
          | zero => omega
          | succ f =>
          refine s_one (s_assign (e_bin (e_name h1 (e_int (b_divN (b := 2) (by decide) (by decide) (u_loc ?_))))))
          have hw2 : 1 < w := Nat.lt_of_le_of_lt (Nat.succ_le_succ (Nat.zero_le _)) hw1
          refine kn (w / 2) _ _ (half_lt hw2) ⟨rfl, w / 2, f, rfl, half_le hw2 hf, ?_, put_self .., put_get rfl h3⟩
          rw [← hw]
          conv => rhs; unfold gw
          rw [if_pos hw1]
        · rw [decide_eq_false (nnlt hw1), if_neg Bool.false_ne_true]
          refine kd _ _ (s_one (s_ret (e_cmp (e_name h1 (e_name h3 (c_eq (kk _ _ ⟨?_, rfl⟩)))))))
          have e : gw f w (v / 2 + 1) = w := by
            cases f with
            | zero => rfl
            | succ f => unfold gw; rw [if_neg hw1]
          unfold bg
          rw [if_neg h2, ← hw, e]
          congr 1
          by_cases q : w = v / 2 + 1
          · rw [q]; simp
          · rw [beq_eq_false_iff_ne.mpr (nne q), beq_eq_false_iff_ne.mpr q]
end Mine

set_option maxHeartbeats 8000000
namespace Mine

theorem do_spec (p : Pm) {st : Sto} {j d0 q : Nat} {N : NT} {who : Nat → Who} {m : Mk} (H : FlgN st j d0 q N who m.fl m.rc (.tset m.ps)) (calls : List Call) (hcs : ∀ c ∈ calls, OkC c) (hps : ∀ r ∈ m.ps, OkR r) (hlen : m.ps.length + calls.length ≤ 17) :
    ACall (XX p) 3 98 [.inst j, .list (calls.map cav)] [] st fun v st' => v = .none ∧ ∃ N' who', FlgN st' j d0 q N' who' (calls.foldl stp m).fl (calls.foldl stp m).rc (.tset (calls.foldl stp m).ps) ∧ Ext st who st' who' ∧
      (∀ r ∈ (calls.foldl stp m).ps, OkR r) ∧ (calls.foldl stp m).ps.length ≤ m.ps.length + calls.length := by
  refine call_fnK (lo₀ := [(Str.ofString "flags", .inst j), (Str.ofString "calls", .list (calls.map cav))]) ⟨⟨_, _, _, _, _, _, _, rfl⟩, by rfl, rfl, rfl, rfl, by decide +kernel⟩ ?_ ?_
    (by show ([Str.ofString "flags", Str.ofString "calls"] : List Str).Nodup; decide +kernel) ?_
  · intro I R vs ks hv hk
    obtain rfl := RKs.inv hk
    replace hv := RVs.inv hv; obtain ⟨_, _, rfl, h1, hv⟩ := hv; replace hv := RVs.inv hv; obtain ⟨_, _, rfl, h2, hv⟩ := hv
    replace hv := RVs.inv hv; obtain rfl := hv
    exact ⟨_, fun s doc pm an ct => BindsTo.of_eq rfl, .cons h1 (.cons h2 .nil)⟩
  · intro n x hx
    simp only [List.map_cons, List.map_nil, List.mem_cons, List.not_mem_nil, or_false] at hx
    rcases hx with rfl | rfl <;> exact .inl rfl
  · intro K A' L' kk hr
    refine s_cons (s_forK (fun rest lo st' => lo.lookup (Str.ofString "flags") = some (.inst j) ∧ ∃ (cs : List Call) (N' : NT) (who' : Nat → Who) (m' : Mk), rest = cs.map cav ∧ FlgN st' j d0 q N' who' m'.fl m'.rc (.tset m'.ps) ∧ Ext st who st' who' ∧ (∀ r ∈ m'.ps, OkR r) ∧ (∀ c ∈ cs, OkC c) ∧
      m'.ps.length + cs.length ≤ m.ps.length + calls.length ∧ cs.foldl stp m' = calls.foldl stp m) ?_ ?_ ?_)
    · exact fun K₁ k₁ => e_name rfl (it_list (k₁ _ _ ⟨rfl, calls, N, who, m, rfl, H, Ext.refl _ _, hps, hcs, Nat.le_refl _, rfl⟩))
    · rintro K₁ y rest lo st' kn kr ⟨hl, cs, N', who', m', h1, H', E', hps', hcs', hlen', hfold⟩
      cases cs with
      | nil => cases h1
      | cons c cs =>
      rw [List.map_cons] at h1
      cases h1
      have hc := hcs' c (.head _)
      obtain ⟨okr, hr2⟩ := stp_ps hc hps'
      have hcs2 : ∀ c ∈ cs, OkC c := fun c h => hcs' c (.tail _ h)
      have hlen2 : (stp m' c).ps.length + cs.length ≤ m.ps.length + calls.length := by rw [List.length_cons] at hlen'; omega
      rw [List.foldl_cons] at hfold
      have again : ∀ (lo₂ : Lo) (st₂ : Sto) (N₂ : NT) (who₂ : Nat → Who), lo₂.lookup (Str.ofString "flags") = some (.inst j) → FlgN st₂ j d0 q N₂ who₂ (stp m' c).fl (stp m' c).rc (.tset (stp m' c).ps) → Ext st' who' st₂ who₂ →
          K₁ .next lo₂ st₂ :=
        fun lo₂ st₂ N₂ who₂ hl₂ H₂ E₂ => kn _ _ ⟨hl₂, cs, N₂, who₂, stp m' c, rfl, H₂, E'.trans E₂, okr, hcs2, hlen2, hfold⟩
      clear hfold kn kr kk
      obtain ⟨place, kind, v⟩ := c
      obtain ⟨c1, c2, c3, c4⟩ := hc
      have hwk := (way_ok v c4)
      have hrow : OkR (way v, place) := OkC.row (c := (place, kind, v)) ⟨c1, c2, c3, c4⟩
      refine u_tuple (h := u_nm (u_nm (u_nm ?_))) rfl
      have hlf : (put (put (put lo (Str.ofString "place") (.int place)) (Str.ofString "kind") (.int kind)) (Str.ofString "v") (.int (v : Int))).lookup (Str.ofString "flags") = some (.inst j) := put_get rfl (put_get rfl (put_get rfl hl))
      have hlp : (put (put (put lo (Str.ofString "place") (.int place)) (Str.ofString "kind") (.int kind)) (Str.ofString "v") (.int (v : Int))).lookup (Str.ofString "place") = some (.int place) := put_get rfl (put_get rfl (put_self ..))
      have hlk : (put (put (put lo (Str.ofString "place") (.int place)) (Str.ofString "kind") (.int kind)) (Str.ofString "v") (.int (v : Int))).lookup (Str.ofString "kind") = some (.int kind) := put_get rfl (put_self ..)
      have hlv : (put (put (put lo (Str.ofString "place") (.int place)) (Str.ofString "kind") (.int kind)) (Str.ofString "v") (.int (v : Int))).lookup (Str.ofString "v") = some (.int (v : Int)) := put_self ..
      refine s_one (s_if (i_cmp (e_name hlk (e_int (c_eq ⟨_, rfl, ?_⟩)))))
      by_cases k0 : kind = 0
      · subst k0
        rw [show ((0 : Int) == 0) = true from rfl, if_pos rfl]
        refine s_one (s_expr (e_meth (hr := hr) (h := e_name hlf ⟨.ref 56, am_inst (cls_ok p) H'.inst.1 rfl (by rfl) (by rfl), keep_K (by rfl),
          a_cons (e_call (an_glob (by rfl) rfl) (keep_K (by rfl)) hr (h := a_cons (e_name hlv (a_nil (ACallV.mono ((way_spec p v c4).room (by decide)) fun r st₁ e1 => ?_)))))⟩)))
        obtain ⟨rfl, rfl⟩ := e1
        refine a_cons (e_name hlp (a_nil (e_bool (ACallV.mono ((set_spec p H' (way v) place false hwk.1 (hwk.2.2 c3) (way_names c4) c1 c2).room (by decide)) fun r st₁ e1 => ?_))))
        obtain ⟨_, N₂, who₂, H₂, E₂⟩ := e1
        exact again _ _ N₂ who₂ hlf H₂ E₂
      rw [beq_eq_false_iff_ne.mpr k0, if_neg Bool.false_ne_true]
      refine s_one (s_if (i_cmp (e_name hlk (e_int (c_eq ⟨_, rfl, ?_⟩)))))
      by_cases k1 : kind = 1
      · subst k1
        rw [show ((1 : Int) == 1) = true from rfl, if_pos rfl]
        refine s_one (s_expr (e_meth (hr := hr) (h := e_name hlf ⟨.ref 56, am_inst (cls_ok p) H'.inst.1 rfl (by rfl) (by rfl), keep_K (by rfl),
          a_cons (e_call (an_glob (by rfl) rfl) (keep_K (by rfl)) hr (h := a_cons (e_name hlv (a_nil (ACallV.mono ((way_spec p v c4).room (by decide)) fun r st₁ e1 => ?_)))))⟩)))
        obtain ⟨rfl, rfl⟩ := e1
        refine a_cons (e_name hlp (a_nil (e_bool (ACallV.mono ((set_spec p H' (way v) place true hwk.1 (hwk.2.2 c3) (way_names c4) c1 c2).room (by decide)) fun r st₁ e1 => ?_))))
        obtain ⟨_, N₂, who₂, H₂, E₂⟩ := e1
        exact again _ _ N₂ who₂ hlf H₂ E₂
      rw [beq_eq_false_iff_ne.mpr k1, if_neg Bool.false_ne_true]
      refine s_one (s_if (i_cmp (e_name hlk (e_int (c_eq ⟨_, rfl, ?_⟩)))))
      by_cases k2 : kind = 2
      · subst k2
        rw [show ((2 : Int) == 2) = true from rfl, if_pos rfl]
        refine s_one (s_expr (e_meth (hr := hr) (h := e_name hlf ⟨.ref 35, am_inst (cls_ok p) H'.inst.1 rfl (by rfl) (by rfl), keep_K (by rfl),
          a_cons (e_call (an_glob (by rfl) rfl) (keep_K (by rfl)) hr (h := a_cons (e_name hlv (a_nil (ACallV.mono ((way_spec p v c4).room (by decide)) fun r st₁ e1 => ?_)))))⟩)))
        obtain ⟨rfl, rfl⟩ := e1
        refine a_cons (e_name hlp (a_nil (ACallV.mono ((pend_spec p H' (way v) place hrow.1 (fun r hr => (hps' r hr).1) (by rw [List.length_cons] at hlen'; omega)).room (by decide)) fun r st₁ e1 => ?_)))
        obtain ⟨_, H₂, E₂⟩ := e1
        exact again _ _ N' who' hlf H₂ E₂
      rw [beq_eq_false_iff_ne.mpr k2, if_neg Bool.false_ne_true]
      refine s_one (s_if (i_cmp (e_name hlk (e_int (c_eq ⟨_, rfl, ?_⟩)))))
      by_cases k3 : kind = 3
      · subst k3
        rw [show ((3 : Int) == 3) = true from rfl, if_pos rfl]
        refine s_one (s_expr (e_meth (hr := hr) (h := e_name hlf ⟨.ref 42, am_inst (cls_ok p) H'.inst.1 rfl (by rfl) (by rfl), keep_K (by rfl),
          a_nil (ACallV.mono (fin_spec p H' (by rw [List.length_cons] at hlen'; omega) fun r hr => ⟨(hps' r hr).1.1, (hps' r hr).2⟩) fun r st₁ e1 => ?_)⟩)))
        obtain ⟨_, N₂, who₂, H₂, E₂⟩ := e1
        exact again _ _ N₂ who₂ hlf H₂ E₂
      rw [beq_eq_false_iff_ne.mpr k3, if_neg Bool.false_ne_true]
      refine s_one (s_expr (e_meth (hr := hr) (h := e_name hlf ⟨.ref 49, am_inst (cls_ok p) H'.inst.1 rfl (by rfl) (by rfl), keep_K (by rfl),
        a_cons (e_call (an_glob (by rfl) rfl) (keep_K (by rfl)) hr (h := a_cons (e_name hlv (a_nil (ACallV.mono ((way_spec p v c4).room (by decide)) fun r st₁ e1 => ?_)))))⟩)))
      obtain ⟨rfl, rfl⟩ := e1
      refine a_nil (ACallV.mono ((unset_spec p H' (way v) hwk.1 (hwk.2.2 c3)).room (by decide)) fun r st₁ e1 => ?_)
      obtain ⟨_, N₂, H₂, E₂⟩ := e1
      refine again _ _ N₂ who' hlf ?_ E₂
      unfold stp
      simp only [k0, k1, k2, k3, if_false]
      exact H₂
    · rintro lo st' ⟨hl, cs, N', who', m', h1, H', E', hps', hcs', hlen', hfold⟩
      cases cs with
      | cons c cs => cases h1
      | nil =>
      rw [List.foldl_nil] at hfold
      subst hfold
      exact s_nil (kk _ _ ⟨rfl, N', who', H', E', hps', by simpa using hlen'⟩)
end Mine

set_option maxHeartbeats 8000000
namespace Mine

theorem calls_get {cs : List Call} {k : Nat} (hk : k < cs.length) : (cs.map cav)[k]? = some (.tup [.int (cs[k]).1, .int (kindAt cs k), .int ((cs[k]).2.2 : Int)]) := by
  rw [List.getElem?_map, List.getElem?_eq_getElem hk]
  unfold kindAt
  rw [List.getElem?_eq_getElem hk]; rfl

theorem since_spec (p : Pm) {st : Sto} (cs : List Call) (k : Nat) (hk : k < cs.length) (hlen : cs.length ≤ 200) : ACall (XX p) 1 103 [.list (cs.map cav), .int (k : Int)] [] st fun r st' => r = .int (sinceN cs k : Int) ∧ st' = st := by
  refine call_fnK (lo₀ := [(Str.ofString "calls", .list (cs.map cav)), (Str.ofString "k", .int (k : Int))]) ⟨⟨_, _, _, _, _, _, _, rfl⟩, by rfl, rfl, rfl, rfl, by decide +kernel⟩ ?_ ?_
    (by show ([Str.ofString "calls", Str.ofString "k"] : List Str).Nodup; decide +kernel) ?_
  · intro I R vs ks hv hk
    obtain rfl := RKs.inv hk
    replace hv := RVs.inv hv; obtain ⟨_, _, rfl, h1, hv⟩ := hv; replace hv := RVs.inv hv; obtain ⟨_, _, rfl, h2, hv⟩ := hv
    replace hv := RVs.inv hv; obtain rfl := hv
    exact ⟨_, fun s doc pm an ct => BindsTo.of_eq rfl, .cons h1 (.cons h2 .nil)⟩
  · intro n x hx
    simp only [List.map_cons, List.map_nil, List.mem_cons, List.not_mem_nil, or_false] at hx
    rcases hx with rfl | rfl <;> first | exact .inl rfl | exact .inr ⟨rfl, rfl⟩
  · intro K A' L' kk hr
    have hl : (cs.map cav).length ≤ 1000 := lenL hlen (by decide)
    have hkm : k < 1000000 := ltl hk (Nat.le_trans hlen (by decide))
    have hlL : (cs.map cav).length = cs.length := List.length_map ..
    refine s_cons (s_if (i_cmp (e_sub (e_sub (e_name rfl (e_name rfl (sub_listN hkm (calls_get hk) (e_int (sub_tup (j := 1) (by decide) (by decide) rfl rfl (e_int (c_lt ⟨_, rfl, ?_⟩))))))))))) 
    by_cases hk2 : kindAt cs k < 2
    · rw [decide_eq_true hk2, if_pos rfl]
      refine s_one (s_ret (e_name rfl (kk _ _ ⟨?_, rfl⟩)))
      unfold sinceN; rw [if_pos hk2]
    rw [decide_eq_false hk2, if_neg Bool.false_ne_true]
    refine s_nil (s_cons (s_if (i_cmp (e_sub (e_sub (e_name rfl (e_name rfl (sub_listN hkm (calls_get hk) (e_int (sub_tup (j := 1) (by decide) (by decide) rfl rfl (e_int (c_eq ⟨_, rfl, ?_⟩)))))))))))) 
    by_cases hk3 : kindAt cs k = 2
    · rw [hk3, show ((2 : Int) == 2) = true from rfl, if_pos rfl]
      refine s_one (s_ret (e_call (an_bi (by rfl) rfl rfl) (keep_b _) hr (h := a_cons (e_bin (e_compK (cl := [(Str.ofString "calls", L' + 1)]) (lc := [(Str.ofString "calls", .list (cs.map cav))])
        (Inv := fun rest acc st' => st' = st ∧ ∃ a n, a + n = cs.length ∧ rest = (List.range' a n).map (fun (i : Nat) => AV.int (i : Int)) ∧ acc = ((List.range' k (a - k)).filter fun j => kindAt cs j == 3).map (fun (i : Nat) => AV.int (i : Int)) ∧ k ≤ a)
        (hclos := by rfl) (hblock := fun C => block_of rfl (cells_cons rfl cells_nil) (caps_cons ⟨rfl, fun e => absurd (show (some NameKind.cell : Option NameKind) = some .local from e) (by decide), .inl rfl, rfl⟩ caps_nil))
        (hcell := by decide) (hkind := rfl) (hnames := by decide +kernel) (hx := rfl) (h := ?_) (turn := ?_) (done := ?_))))))
      · intro K₁ k₁
        obtain ⟨q1, q2⟩ := range_fit (a := k) (b := cs.length) (lel hlen (by decide)) (Nat.le_of_lt hk)
        refine e_call (an_bi (by rfl) rfl rfl) (keep_t _) hr (h := a_cons (e_name rfl (a_cons (e_call (an_bi (by rfl) rfl rfl) (keep_b _) hr (h := a_cons (e_name rfl (a_nil (c_len hl ?_))))) ))) 
        refine a_nil (c_range2 (it_range (by rw [hlL]; exact q1) (by rw [hlL]; exact q2) (k₁ _ _ (by rw [rangeL_len]; exact Nat.le_trans (Nat.sub_le _ _) (Nat.le_trans hlen (by decide))) ⟨rfl, k, cs.length - k, Nat.add_sub_of_le (Nat.le_of_lt hk), rangeL_nat .., by simp, Nat.le_refl _⟩)))
      · rintro Kt Kf C y r acc st' kt kf ⟨rfl, a, n, h1, h2, h4, h5⟩
        cases n with
        | zero => cases h2
        | succ n =>
        rw [List.range'_succ, List.map_cons] at h2
        cases h2
        refine tests_one (i_cmp (e_sub (e_sub (e_name rfl (e_name rfl (sub_listN (ltl (sl h1) (Nat.le_trans hlen (by decide))) (calls_get (sl h1)) (e_int (sub_tup (j := 1) (by decide) (by decide) rfl rfl (e_int (c_eq ⟨_, rfl, ?_⟩))))))))))
        have hr' : List.range' k (a + 1 - k) = List.range' k (a - k) ++ [a] := by
          rw [Nat.succ_sub h5, List.range'_concat, Nat.one_mul, Nat.add_sub_of_le h5]
        by_cases q : kindAt cs a = 3
        · rw [q, show ((3 : Int) == 3) = true from rfl, if_pos rfl]
          refine e_name rfl (kt _ _ ⟨rfl, a + 1, n, sh h1, rfl, ?_, Nat.le_succ_of_le h5⟩)
          rw [hr', List.filter_append, List.map_append, h4]
          simp [q]
        · rw [beq_eq_false_iff_ne.mpr q, if_neg Bool.false_ne_true]
          refine kf _ ⟨rfl, a + 1, n, sh h1, rfl, ?_, Nat.le_succ_of_le h5⟩
          rw [hr', List.filter_append, List.map_append, h4]
          simp [q]
      · rintro acc st' ⟨rfl, a, n, h1, h2, h4, h5⟩
        have hn : n = 0 := by cases n with | zero => rfl | succ n => cases h2
        subst hn
        have ha : a = cs.length := h1
        subst ha
        rw [h4]
        refine e_list (a_cons (e_call (an_bi (by rfl) rfl rfl) (keep_b _) hr (h := a_cons (e_name rfl (a_nil (c_len hl (a_nil ⟨by simp, b_addL ?_ ?_⟩))))))) 
        · have := List.length_filter_le (fun j => kindAt cs j == 3) (List.range' k (cs.length - k))
          rw [List.length_range'] at this
          simp only [List.length_map, List.length_cons, List.length_nil]; omega
        · rw [hlL, show (((List.range' k (cs.length - k)).filter fun j => kindAt cs j == 3).map (fun (i : Nat) => AV.int (i : Int))) ++ [AV.int (cs.length : Int)] = (((List.range' k (cs.length - k)).filter fun j => kindAt cs j == 3) ++ [cs.length]).map (fun (i : Nat) => AV.int (i : Int)) by simp]
          rw [show ((((List.range' k (cs.length - k)).filter fun j => kindAt cs j == 3) ++ [cs.length]).map (fun (i : Nat) => AV.int (i : Int))) = ((((List.range' k (cs.length - k)).filter fun j => kindAt cs j == 3) ++ [cs.length]).map (fun (i : Nat) => (i : Int))).map AV.int by rw [List.map_map]; rfl]
          refine a_nil (c_min (by simp) fun M hM hmin => kk _ _ ⟨?_, rfl⟩)
          congr 1
          unfold sinceN
          rw [if_neg hk2, if_pos hk3]
          generalize (List.range' k (cs.length - k)).filter (fun j => kindAt cs j == 3) = fs at *
          obtain ⟨g1, g2⟩ := minL_le fs cs.length
          obtain ⟨i, hi, e⟩ := List.mem_map.mp hM
          have a1 : M ≤ (minL fs cs.length : Int) := by
            rcases minL_mem fs cs.length with e | e
            · rw [e]; exact hmin _ (List.mem_map.mpr ⟨_, List.mem_append_right _ (.head _), rfl⟩)
            · exact hmin _ (List.mem_map.mpr ⟨_, List.mem_append_left _ e, rfl⟩)
          have a2 : minL fs cs.length ≤ i := by
            rcases List.mem_append.mp hi with h | h
            · exact g2 i h
            · rw [List.mem_singleton.mp h]; exact g1
          omega
    rw [beq_eq_false_iff_ne.mpr hk3, if_neg Bool.false_ne_true]
    refine s_nil (s_one (s_ret (e_call (an_bi (by rfl) rfl rfl) (keep_b _) hr (h := a_cons (e_name rfl (a_nil (c_len hl (kk _ _ ⟨?_, rfl⟩))))))))
    unfold sinceN
    rw [if_neg hk2, if_neg hk3, hlL]
end Mine

set_option maxHeartbeats 8000000
namespace Mine

theorem standing_spec (p : Pm) {st : Sto} (cs : List Call) (hcs : ∀ c ∈ cs, OkC c) (hlen : cs.length ≤ 200) : ACall (XX p) 2 108 [.list (cs.map cav)] [] st fun r st' => r = .list ((standing cs).map cav) ∧ st' = st := by
  refine call_fnK (lo₀ := [(Str.ofString "calls", .list (cs.map cav))]) ⟨⟨_, _, _, _, _, _, _, rfl⟩, by rfl, rfl, rfl, rfl, by decide +kernel⟩ ?_ ?_
    (by show ([Str.ofString "calls"] : List Str).Nodup; decide +kernel) ?_
  · intro I R vs ks hv hk
    obtain rfl := RKs.inv hk
    replace hv := RVs.inv hv; obtain ⟨_, _, rfl, h1, hv⟩ := hv
    replace hv := RVs.inv hv; obtain rfl := hv
    exact ⟨_, fun s doc pm an ct => BindsTo.of_eq rfl, .cons h1 .nil⟩
  · intro n x hx
    simp only [List.map_cons, List.map_nil, List.mem_cons, List.not_mem_nil, or_false] at hx
    rcases hx with rfl
    first | exact .inl rfl | exact .inr ⟨rfl, rfl⟩
  · intro K A' L' kk hr
    have hl : (cs.map cav).length ≤ 1000 := lenL hlen (by decide)
    have hlL : (cs.map cav).length = cs.length := List.length_map ..
    have hu : A'.units + 64 < cLine := hr.u64
    refine s_cons (s_assign (e_listM (a_nil ⟨by simp, fun i hi => u_loc ?_⟩)))
    refine s_cons (s_forK (fun rest lo st' => ∃ a n, a + n = cs.length ∧ rest = (List.range' a n).map (fun (i : Nat) => AV.int (i : Int)) ∧ st' = st.set i (.list (((List.range a).filterMap (standAt cs)).map cav)) ∧
      lo.lookup (Str.ofString "standing") = some (.ref i) ∧ lo.lookup (Str.ofString "calls") = some (.list (cs.map cav))) ?_ ?_ ?_)
    · intro K₁ k₁
      obtain ⟨q1, q2⟩ := range_fit (a := 0) (b := cs.length) (lel hlen (by decide)) (Nat.zero_le _)
      refine e_call (an_bi (by rfl) rfl rfl) (keep_t _) hr (h := a_cons (e_call (an_bi (by rfl) rfl rfl) (keep_b _) hr (h := a_cons (e_name rfl (a_nil (c_len hl ?_))))))
      exact a_nil (c_range1 (it_range (by rw [hlL]; exact q1) (by rw [hlL]; exact q2) (k₁ _ _ ⟨0, cs.length, Nat.zero_add _, rangeL_nat .., rfl, rfl, rfl⟩)))
    · rintro K₁ y r lo st' kn kr ⟨a, n, h1, h2, rfl, h4, h5⟩
      cases n with
      | zero => cases h2
      | succ n =>
      rw [List.range'_succ, List.map_cons] at h2
      cases h2
      have ha : a < cs.length := sl h1
      have ham : a < 1000000 := ltl ha (Nat.le_trans hlen (by decide))
      refine u_nmc (c := L' + 2) ?_ 
      refine s_cons (s_assign (e_call (an_glob (by rfl) rfl) (keep_K (by rfl)) hr (h := a_cons (e_name (put_get rfl h5) (a_cons (e_name (put_self ..) (a_nil (ACallV.mono (since_spec p cs a ha hlen) fun r st₁ e => ?_))))))))
      obtain ⟨rfl, rfl⟩ := e
      refine u_loc ?_
      have hval : (cs.map cav)[a]? = some (cav cs[a]) := by rw [List.getElem?_map, List.getElem?_eq_getElem ha]; rfl
      have hva : OkC cs[a] := hcs _ (List.getElem_mem ha)
      have hsl : ((cs.drop (sinceN cs a)).map cav) = (cs.map cav).drop (sinceN cs a) := by rw [List.map_drop]
      generalize hS : st.set i (.list (((List.range a).filterMap (standAt cs)).map cav)) = st₀
      have hl0 : (put (put lo (Str.ofString "k") (.int (a : Int))) (Str.ofString "since") (.int (sinceN cs a : Int))).lookup (Str.ofString "calls") = some (.list (cs.map cav)) := put_get rfl (put_get rfl h5)
      have hl1 : (put (put lo (Str.ofString "k") (.int (a : Int))) (Str.ofString "since") (.int (sinceN cs a : Int))).lookup (Str.ofString "k") = some (.int (a : Int)) := put_get rfl (put_self ..)
      have hl2 : (put (put lo (Str.ofString "k") (.int (a : Int))) (Str.ofString "since") (.int (sinceN cs a : Int))).lookup (Str.ofString "since") = some (.int (sinceN cs a : Int)) := put_self ..
      have hl3 : (put (put lo (Str.ofString "k") (.int (a : Int))) (Str.ofString "since") (.int (sinceN cs a : Int))).lookup (Str.ofString "standing") = some (.ref i) := put_get rfl (put_get rfl h4)
      generalize put (put lo (Str.ofString "k") (.int (a : Int))) (Str.ofString "since") (.int (sinceN cs a : Int)) = lo₁ at *
      refine s_cons (s_compK (cl := [(Str.ofString "k", L' + 2), (Str.ofString "calls", L' + 1)]) (lc := [(Str.ofString "calls", .list (cs.map cav)), (Str.ofString "k", .int (a : Int))])
        (Inv := fun rest acc st' => st' = st₀ ∧ ∃ ds es, cs.drop (sinceN cs a) = ds ++ es ∧ rest = es.map cav ∧ acc = (ds.filter fun c => c.2.1 == 4 && bg c.2.2 (cs[a]).2.2).map cav)
        (hsw := by rfl) (hclos := by rfl) (hblock := fun C => block_of rfl (cells_cons rfl (cells_cons rfl cells_nil)) (caps_cons ⟨hl0, fun e => absurd (show (some NameKind.cell : Option NameKind) = some .local from e) (by decide), .inl rfl, rfl⟩
          (caps_cons ⟨hl1, fun e => absurd (show (some NameKind.cell : Option NameKind) = some .local from e) (by decide), .inl rfl, rfl⟩ caps_nil)))
        (hcell := by decide) (hkind := rfl) (hnames := by decide +kernel) (hx := rfl) (hy := rfl) (hf := rfl) (h := ?_) (turn := ?_) (done := ?_))
      · intro K₂ k₂
        refine e_sub (e_name hl0 (e_from (e_name hl2 ⟨_, rfl, sub_from (i := sinceN cs a) hl (it_list (k₂ _ _ ?_ ⟨rfl, [], cs.drop (sinceN cs a), rfl, hsl.symm, rfl⟩))⟩)))
        rw [List.length_drop]; exact Nat.le_trans (Nat.sub_le _ _) hl
      · rintro Kt Kf C y r acc st' kt kf ⟨rfl, ds, es, g1, g2, g3⟩
        cases es with
        | nil => cases g2
        | cons c es =>
        rw [List.map_cons] at g2
        cases g2
        have hc : OkC c := hcs c (List.mem_of_mem_drop (by rw [g1]; simp : c ∈ cs.drop (sinceN cs a)))
        have again : ∀ (env' : Env) (pos : Pos) (b : Bool), (c.2.1 == 4 && bg c.2.2 (cs[a]).2.2) = b → (if b = true then AE (XX p) A' env' ((Str.ofString "c", cav c) :: [(Str.ofString "calls", .list (cs.map cav)), (Str.ofString "k", .int (a : Int))]) (.Name (Str.ofString "c") pos) st' Kt else Kf st') := by
          intro env' pos b hb
          cases b with
          | true =>
            rw [if_pos rfl]
            refine e_name rfl (kt _ _ ⟨rfl, ds ++ [c], es, by rw [g1]; simp, rfl, ?_⟩)
            rw [List.filter_append, List.map_append, g3]
            simp [hb]
          | false =>
            rw [if_neg Bool.false_ne_true]
            refine kf _ ⟨rfl, ds ++ [c], es, by rw [g1]; simp, rfl, ?_⟩
            rw [List.filter_append, List.map_append, g3]
            simp [hb]
        refine tests_one (i_and (i_cmp (e_sub (e_name rfl (e_int (sub_tup (j := 1) (z := .int c.2.1) (by decide) (by decide) rfl rfl (e_int (c_eq ⟨_, rfl, ?_⟩))))))))
        by_cases q : c.2.1 = 4
        · rw [q, show ((4 : Int) == 4) = true from rfl, if_pos rfl]
          refine i_plain (e_call (an_glob (by rfl) rfl) (keep_K (by rfl)) hr (h := a_cons (e_sub (e_name rfl (e_int (sub_tup (j := 2) (z := .int (c.2.2 : Int)) (by decide) (by decide) rfl rfl ?_))))))
          refine a_cons (e_sub (e_sub (e_name rfl (e_name rfl (sub_listN ham hval (e_int (sub_tup (j := 2) (z := .int ((cs[a]).2.2 : Int)) (by decide) (by decide) rfl rfl ?_)))))))
          refine a_nil (ACallV.mono (begins_spec p c.2.2 (cs[a]).2.2 hc.2.2.2 hva.2.2.2) fun r st₁ e => ?_)
          obtain ⟨rfl, rfl⟩ := e
          refine t_bool ?_
          exact again _ _ (bg c.2.2 (cs[a]).2.2) (by rw [q]; rfl)
        · rw [beq_eq_false_iff_ne.mpr q, if_neg Bool.false_ne_true]
          exact again _ _ false (by rw [beq_eq_false_iff_ne.mpr q]; rfl)
      · rintro acc st' ⟨rfl, ds, es, g1, g2, g3⟩
        have hes : es = [] := by cases es with | nil => rfl | cons _ _ => cases g2
        subst hes
        rw [List.append_nil] at g1
        have hacc : acc = (endedN cs a (cs[a]).2.2).map cav := by rw [g3]; unfold endedN; rw [g1]
        rw [hacc]
        have fin : ∀ (lo₂ : Lo) (b : Bool), stands cs a cs[a] = b → lo₂.lookup (Str.ofString "standing") = some (.ref i) → lo₂.lookup (Str.ofString "calls") = some (.list (cs.map cav)) →
            K₁ .next lo₂ (if b = true then st'.set i (.list ((((List.range a).filterMap (standAt cs)).map cav) ++ [cav cs[a]])) else st') := by
          intro lo₂ b hb e1 e2
          refine kn _ _ ⟨a + 1, n, sh h1, rfl, ?_, e1, e2⟩
          have hsa : standAt cs a = if b = true then some cs[a] else none := by unfold standAt; rw [List.getElem?_eq_getElem ha, Option.bind_some, hb]
          rw [List.range_succ, List.filterMap_append, List.filterMap_cons, List.filterMap_nil, hsa, ← hS]
          cases b with
          | true =>
            rw [if_pos rfl]
            funext j
            by_cases hj : j = i
            · subst hj; rw [Sto.set_self, Sto.set_self]; simp
            · rw [Sto.set_ne _ _ hj, Sto.set_ne _ _ hj, Sto.set_ne _ _ hj]
          | false => simp
        have hl0' := put_get (x := Str.ofString "ended") (v := .list ((endedN cs a (cs[a]).2.2).map cav)) rfl hl0
        have hl1' := put_get (x := Str.ofString "ended") (v := .list ((endedN cs a (cs[a]).2.2).map cav)) rfl hl1
        have hl2' := put_get (x := Str.ofString "ended") (v := .list ((endedN cs a (cs[a]).2.2).map cav)) rfl hl2
        have hl3' := put_get (x := Str.ofString "ended") (v := .list ((endedN cs a (cs[a]).2.2).map cav)) rfl hl3
        have hl4' := put_self (Str.ofString "ended") (.list ((endedN cs a (cs[a]).2.2).map cav)) lo₁
        generalize put lo₁ (Str.ofString "ended") (.list ((endedN cs a (cs[a]).2.2).map cav)) = lo₂ at *
        refine s_one (s_if (i_and (i_cmp (e_name hl2' (e_call (an_bi (by rfl) rfl rfl) (keep_b _) hr (h := a_cons (e_name hl0' (a_nil (c_len hl (c_lt ⟨_, rfl, ?_⟩)))))))))) 
        rw [hlL]
        by_cases q : sinceN cs a < cs.length
        · rw [decide_eq_true (nlt q), if_pos rfl]
          refine i_cmp (e_name hl4' (e_list (a_nil ⟨by simp, c_eqNil hu (dats_cav _) (depth_cav _) ⟨_, rfl, ?_⟩⟩)))
          have hst : stands cs a cs[a] = (endedN cs a (cs[a]).2.2).isEmpty := by unfold stands; rw [decide_eq_true q, Bool.true_and]
          rw [show ((endedN cs a (cs[a]).2.2).map cav).isEmpty = (endedN cs a (cs[a]).2.2).isEmpty by cases endedN cs a (cs[a]).2.2 <;> rfl]
          cases hb : (endedN cs a (cs[a]).2.2).isEmpty with
          | true =>
            rw [if_pos rfl]
            have hi' : st' i = .list (((List.range a).filterMap (standAt cs)).map cav) := by rw [← hS, Sto.set_self]
            refine s_one (s_expr (e_meth (hr := hr) (h := e_name hl3' ⟨_, am_list hi' F.slot_list_append F.type_list_append, keep_b _, a_cons (e_sub (e_name hl0' (e_name hl1' (sub_listN ham hval (a_nil (l_append hi' ?_ ?_))))))⟩)))
            · rw [List.length_map]
              have := List.length_filterMap_le (standAt cs) (List.range a)
              rw [List.length_range] at this; exact Nat.le_trans this (Nat.le_trans (Nat.le_of_lt ha) (Nat.le_trans hlen (by decide)))
            · exact fin lo₂ true (hst.trans hb) hl3' hl0'
          | false =>
            rw [if_neg Bool.false_ne_true]
            exact s_nil (fin lo₂ false (hst.trans hb) hl3' hl0')
        · rw [decide_eq_false (nnlt q), if_neg Bool.false_ne_true, if_neg Bool.false_ne_true]
          exact s_nil (fin lo₂ false (by unfold stands; rw [decide_eq_false q, Bool.false_and]) hl3' hl0')
    · rintro lo st' ⟨a, n, h1, h2, rfl, h4, h5⟩
      have hn : n = 0 := by cases n with | zero => rfl | succ n => cases h2
      subst hn
      have ha : a = cs.length := h1
      subst ha
      refine s_one (s_ret (e_freeze (e_name h4 ⟨i, _, rfl, Sto.set_self .., ?_⟩)))
      exact kk _ _ ⟨rfl, Sto.set_back hi⟩
end Mine

set_option maxHeartbeats 8000000
namespace Mine

theorem due_spec (p : Pm) {st : Sto} (cs : List Call) (count : Nat) (hcs : ∀ c ∈ cs, OkC c) (hlen : cs.length ≤ 200) (hcount : count ≤ 200) : ACall (XX p) 3 113 [.list (cs.map cav), .int (count : Int)] [] st fun r st' => r = llb (dueN cs count) ∧ st' = st := by
  refine call_fnK (lo₀ := [(Str.ofString "calls", .list (cs.map cav)), (Str.ofString "count", .int (count : Int))]) ⟨⟨_, _, _, _, _, _, _, rfl⟩, by rfl, rfl, rfl, rfl, by decide +kernel⟩ ?_ ?_
    (by show ([Str.ofString "calls", Str.ofString "count"] : List Str).Nodup; decide +kernel) ?_
  · intro I R vs ks hv hk
    obtain rfl := RKs.inv hk
    replace hv := RVs.inv hv; obtain ⟨_, _, rfl, h1, hv⟩ := hv; replace hv := RVs.inv hv; obtain ⟨_, _, rfl, h2, hv⟩ := hv
    replace hv := RVs.inv hv; obtain rfl := hv
    exact ⟨_, fun s doc pm an ct => BindsTo.of_eq rfl, .cons h1 (.cons h2 .nil)⟩
  · intro n x hx
    simp only [List.map_cons, List.map_nil, List.mem_cons, List.not_mem_nil, or_false] at hx
    rcases hx with rfl | rfl <;> first | exact .inl rfl | exact .inr ⟨rfl, rfl⟩
  · intro K A' L' kk hr
    have hsl : (standing cs).length ≤ 200 := Nat.le_trans (standing_len cs) hlen
    have hss : ∀ c ∈ standing cs, OkC c := fun c h => hcs c (standing_sub h)
    refine s_cons (s_assign (e_call (an_glob (by rfl) rfl) (keep_K (by rfl)) hr (h := a_cons (e_name rfl (a_nil (ACallV.mono (standing_spec p cs hcs hlen) fun r st₁ e => ?_))))))
    obtain ⟨rfl, rfl⟩ := e
    refine u_loc ?_
    refine s_cons (s_assign (e_listM (a_nil ⟨by simp, fun i hi => u_loc ?_⟩)))
    refine s_cons (s_forK (fun rest lo st' => ∃ a n, a + n = 14 ∧ rest = (List.range' a n).map (fun (i : Nat) => AV.int (i : Int)) ∧ st' = st₁.set i (.list (((List.range a).map (dueRow (standing cs) count)).map lb)) ∧
      lo.lookup (Str.ofString "standing") = some (.list ((standing cs).map cav)) ∧ lo.lookup (Str.ofString "due") = some (.ref i) ∧ lo.lookup (Str.ofString "count") = some (.int (count : Int))) ?_ ?_ ?_)
    · intro K₁ k₁
      obtain ⟨q1, q2⟩ := range_fit (a := 0) (b := 14) (by decide) (by decide)
      exact e_call (an_bi (by rfl) rfl rfl) (keep_t _) hr (h := a_cons (e_int (a_nil (c_range1 (it_range q1 q2 (k₁ _ _ ⟨0, 14, rfl, rangeL_nat .., rfl, rfl, rfl, rfl⟩))))))
    · rintro K₁ y r lo st' kn kr ⟨a, n, h1, h2, rfl, h4, h5, h6⟩
      cases n with
      | zero => cases h2
      | succ n =>
      rw [List.range'_succ, List.map_cons] at h2
      cases h2
      refine u_nmc ?_
      generalize hS : st₁.set i (.list (((List.range a).map (dueRow (standing cs) count)).map lb)) = st₀
      have hlu := put_self (Str.ofString "u") (.int (a : Int)) lo
      have h4' := put_get (x := Str.ofString "u") (v := .int (a : Int)) rfl h4
      have h5' := put_get (x := Str.ofString "u") (v := .int (a : Int)) rfl h5
      have h6' := put_get (x := Str.ofString "u") (v := .int (a : Int)) rfl h6
      generalize put lo (Str.ofString "u") (.int (a : Int)) = lo₁ at *
      refine s_cons (s_assign (e_compK (cl := [(Str.ofString "u", L' + 1)]) (lc := [(Str.ofString "u", .int (a : Int))])
        (Inv := fun rest acc st' => st' = st₀ ∧ ∃ ds es, standing cs = ds ++ es ∧ rest = es.map cav ∧ acc = ((ds.filter (tells a)).map (·.1)).map AV.int)
        (hclos := by rfl) (hblock := fun C => block_of rfl (cells_cons rfl cells_nil) (caps_cons ⟨hlu, fun e => absurd (show (some NameKind.cell : Option NameKind) = some .local from e) (by decide), .inl rfl, rfl⟩ caps_nil))
        (hcell := by decide) (hkind := rfl) (hnames := by decide +kernel) (hx := rfl) (h := ?_) (turn := ?_) (done := ?_)))
      · exact fun K₂ k₂ => e_name h4' (it_list (k₂ _ _ (lenL hsl (by decide)) ⟨rfl, [], standing cs, rfl, rfl, rfl⟩))
      · rintro Kt Kf C y r acc st' kt kf ⟨rfl, ds, es, g1, g2, g3⟩
        cases es with
        | nil => cases g2
        | cons c es =>
        rw [List.map_cons] at g2
        cases g2
        have hc : OkC c := hss c (by rw [g1]; simp)
        have again : ∀ (env' : Env) (p1 p2 p3 : Pos) (k : Nat) (b : Bool), tells a c = b → (if b = true then AE (XX p) A' env' ((Str.ofString "c", cav c) :: [(Str.ofString "u", .int (a : Int))]) (.Subscript (.Name (Str.ofString "c") p1) (.Constant (.int 0) k p2) p3) st' Kt else Kf st') := by
          intro env' p1 p2 p3 k b hb
          cases b with
          | true =>
            rw [if_pos rfl]
            refine e_sub (e_name rfl (e_int (sub_tup (j := 0) (z := .int c.1) (by decide) (by decide) rfl rfl (kt _ _ ⟨rfl, ds ++ [c], es, by rw [g1]; simp, rfl, ?_⟩))))
            rw [List.filter_append, List.map_append, List.map_append, g3]
            simp [hb]
          | false =>
            rw [if_neg Bool.false_ne_true]
            refine kf _ ⟨rfl, ds ++ [c], es, by rw [g1]; simp, rfl, ?_⟩
            rw [List.filter_append, List.map_append, List.map_append, g3]
            simp [hb]
        refine tests_one (i_or (i_cmp (e_sub (e_name rfl (e_int (sub_tup (j := 2) (z := .int (c.2.2 : Int)) (by decide) (by decide) rfl rfl (e_name rfl (c_eq ⟨_, rfl, ?_⟩))))))))
        by_cases q : c.2.2 = a
        · rw [show ((c.2.2 : Int) == (a : Int)) = true by rw [q]; exact beq_self_eq_true _, if_pos rfl]
          exact again _ _ _ _ _ true (by unfold tells; rw [q, beq_self_eq_true]; rfl)
        · rw [beq_eq_false_iff_ne.mpr (nne q), if_neg Bool.false_ne_true]
          refine i_and (i_cmp (e_sub (e_name rfl (e_int (sub_tup (j := 1) (z := .int c.2.1) (by decide) (by decide) rfl rfl (e_int (c_eq ⟨_, rfl, ?_⟩)))))))
          by_cases q1 : c.2.1 = 1
          · rw [q1, show ((1 : Int) == 1) = true from rfl, if_pos rfl]
            refine i_plain (e_call (an_glob (by rfl) rfl) (keep_K (by rfl)) hr (h := a_cons (e_sub (e_name rfl (e_int (sub_tup (j := 2) (z := .int (c.2.2 : Int)) (by decide) (by decide) rfl rfl ?_))))))
            refine a_cons (e_name rfl (a_nil (ACallV.mono ((begins_spec p c.2.2 a hc.2.2.2 (sl h1)).room (by decide)) fun r st₁ e => ?_)))
            obtain ⟨rfl, rfl⟩ := e
            refine t_bool ?_
            exact again _ _ _ _ _ (bg c.2.2 a) (by unfold tells; rw [q1, beq_eq_false_iff_ne.mpr q]; rfl)
          · rw [beq_eq_false_iff_ne.mpr q1, if_neg Bool.false_ne_true]
            have hb : tells a c = false := by unfold tells; rw [beq_eq_false_iff_ne.mpr q1, beq_eq_false_iff_ne.mpr q]; rfl
            refine kf _ ⟨rfl, ds ++ [c], es, by rw [g1]; simp, rfl, ?_⟩
            rw [List.filter_append, List.map_append, List.map_append, g3]
            simp [hb]
      · rintro acc st' ⟨rfl, ds, es, g1, g2, g3⟩
        have hes : es = [] := by cases es with | nil => rfl | cons _ _ => cases g2
        subst hes
        rw [List.append_nil] at g1
        rw [g3, ← g1]
        change AU _ _ _ _ (.list ((toldN (standing cs) a).map AV.int)) _ _ _
        refine u_cell ?_
        have hlt := put_self (Str.ofString "told") (.list ((toldN (standing cs) a).map AV.int)) lo₁
        have h4'' := put_get (x := Str.ofString "told") (v := .list ((toldN (standing cs) a).map AV.int)) rfl h4'
        have h5'' := put_get (x := Str.ofString "told") (v := .list ((toldN (standing cs) a).map AV.int)) rfl h5'
        have h6'' := put_get (x := Str.ofString "told") (v := .list ((toldN (standing cs) a).map AV.int)) rfl h6'
        generalize put lo₁ (Str.ofString "told") (.list ((toldN (standing cs) a).map AV.int)) = lo₂ at *
        have hi' : st' i = .list (((List.range a).map (dueRow (standing cs) count)).map lb) := by rw [← hS, Sto.set_self]
        refine s_one (s_expr (e_meth (hr := hr) (h := e_name h5'' ⟨_, am_list hi' F.slot_list_append F.type_list_append, keep_b _, a_cons (e_compK (cl := [(Str.ofString "told", L' + 2)]) (lc := [(Str.ofString "told", .list ((toldN (standing cs) a).map AV.int))])
          (Inv := fun rest acc st'' => st'' = st' ∧ ∃ b n, b + n = count ∧ rest = (List.range' b n).map (fun (i : Nat) => AV.int (i : Int)) ∧ acc = ((List.range b).map fun (place : Nat) => (toldN (standing cs) a).any (· == (place : Int))).map AV.bool)
          (hclos := by rfl) (hblock := fun C => block_of rfl (cells_cons rfl cells_nil) (caps_cons ⟨hlt, fun e => absurd (show (some NameKind.cell : Option NameKind) = some .local from e) (by decide), .inl rfl, rfl⟩ caps_nil))
          (hcell := by decide) (hkind := rfl) (hnames := by decide +kernel) (hx := rfl) (h := ?_) (turn := ?_) (done := ?_))⟩)))
        · intro K₂ k₂
          obtain ⟨q1, q2⟩ := range_fit (a := 0) (b := count) (lel hcount (by decide)) (Nat.zero_le _)
          exact e_call (an_bi (by rfl) rfl rfl) (keep_t _) hr (h := a_cons (e_name h6'' (a_nil (c_range1 (it_range q1 q2 (k₂ _ _ (by rw [rangeL_len]; exact Nat.le_trans hcount (by decide)) ⟨rfl, 0, count, Nat.zero_add _, rangeL_nat .., rfl⟩))))))
        · rintro Kt Kf C y r acc st'' kt kf ⟨rfl, b, n', k1, k2, k3⟩
          cases n' with
          | zero => cases k2
          | succ n' =>
          rw [List.range'_succ, List.map_cons] at k2
          cases k2
          refine tests_nil ?_
          rw [if_pos rfl]
          refine e_cmp (e_name rfl (e_name rfl (l_in (kt _ _ ⟨rfl, b + 1, n', sh k1, rfl, ?_⟩))))
          rw [List.range_succ, List.map_append, List.map_append, k3]; rfl
        · rintro acc st'' ⟨rfl, b, n', k1, k2, k3⟩
          have hn : n' = 0 := by cases n' with | zero => rfl | succ n => cases k2
          subst hn
          have hb : b = count := k1
          subst hb
          rw [k3]
          refine a_nil (l_append hi' (by rw [List.length_map, List.length_map, List.length_range]; exact Nat.le_trans (Nat.le_of_lt (sl h1)) (by decide)) (kn _ _ ⟨a + 1, n, sh h1, rfl, ?_, h4'', h5'', h6''⟩))
          rw [← hS]
          funext j
          by_cases hj : j = i
          · subst hj; rw [Sto.set_self, Sto.set_self, List.range_succ]; simp [lb, dueRow]
          · rw [Sto.set_ne _ _ hj, Sto.set_ne _ _ hj, Sto.set_ne _ _ hj]
    · rintro lo st' ⟨a, n, h1, h2, rfl, h4, h5, h6⟩
      have hn : n = 0 := by cases n with | zero => rfl | succ n => cases h2
      subst hn
      have ha : a = 14 := h1
      subst ha
      exact s_one (s_ret (e_freeze (e_name h5 ⟨i, _, rfl, Sto.set_self .., kk _ _ ⟨rfl, Sto.set_back hi⟩⟩)))
end Mine

set_option maxHeartbeats 8000000
namespace Mine

theorem read_spec (p : Pm) {st : Sto} {j d0 q : Nat} {N : NT} {who : Nat → Who} {fl rc : MK} {pa : AO} (H : FlgN st j d0 q N who fl rc pa) (count : Nat) (hcount : count ≤ 200) : ACall (XX p) 2 118 [.inst j, .int (count : Int)] [] st fun r st' => r = llb (readN fl rc count) ∧ st' = st := by
  refine call_fnK (lo₀ := [(Str.ofString "flags", .inst j), (Str.ofString "count", .int (count : Int))]) ⟨⟨_, _, _, _, _, _, _, rfl⟩, by rfl, rfl, rfl, rfl, by decide +kernel⟩ ?_ ?_
    (by show ([Str.ofString "flags", Str.ofString "count"] : List Str).Nodup; decide +kernel) ?_
  · intro I R vs ks hv hk
    obtain rfl := RKs.inv hk
    replace hv := RVs.inv hv; obtain ⟨_, _, rfl, h1, hv⟩ := hv; replace hv := RVs.inv hv; obtain ⟨_, _, rfl, h2, hv⟩ := hv
    replace hv := RVs.inv hv; obtain rfl := hv
    exact ⟨_, fun s doc pm an ct => BindsTo.of_eq rfl, .cons h1 (.cons h2 .nil)⟩
  · intro n x hx
    simp only [List.map_cons, List.map_nil, List.mem_cons, List.not_mem_nil, or_false] at hx
    rcases hx with rfl | rfl <;> first | exact .inl rfl | exact .inr ⟨rfl, rfl⟩
  · intro K A' L' kk hr
    refine s_cons (s_assign (e_listM (a_nil ⟨by simp, fun i hi => u_loc ?_⟩)))
    refine s_cons (s_forK (fun rest lo st' => ∃ a n, a + n = 14 ∧ rest = (List.range' a n).map (fun (i : Nat) => AV.int (i : Int)) ∧ st' = st.set i (.list (((List.range a).map (readRow fl rc count)).map lb)) ∧
      lo.lookup (Str.ofString "flags") = some (.inst j) ∧ lo.lookup (Str.ofString "answers") = some (.ref i) ∧ lo.lookup (Str.ofString "count") = some (.int (count : Int))) ?_ ?_ ?_)
    · intro K₁ k₁
      obtain ⟨q1, q2⟩ := range_fit (a := 0) (b := 14) (by decide) (by decide)
      exact e_call (an_bi (by rfl) rfl rfl) (keep_t _) hr (h := a_cons (e_int (a_nil (c_range1 (it_range q1 q2 (k₁ _ _ ⟨0, 14, rfl, rangeL_nat .., rfl, rfl, rfl, rfl⟩))))))
    · rintro K₁ y r lo st' kn kr ⟨a, n, h1, h2, rfl, h4, h5, h6⟩
      cases n with
      | zero => cases h2
      | succ n =>
      rw [List.range'_succ, List.map_cons] at h2
      cases h2
      have H' := H.put (ao := .list (((List.range a).map (readRow fl rc count)).map lb)) hi
      generalize hS : st.set i (.list (((List.range a).map (readRow fl rc count)).map lb)) = st₀ at *
      have hi' : st₀ i = .list (((List.range a).map (readRow fl rc count)).map lb) := by rw [← hS, Sto.set_self]
      refine u_nm (s_cons (s_assign (e_call (an_glob (by rfl) rfl) (keep_K (by rfl)) hr (h := a_cons (e_name (put_self ..) (a_nil (ACallV.mono (way_spec p a (sl h1)) fun r st₁ e => ?_)))))))
      obtain ⟨rfl, rfl⟩ := e
      refine u_cell ?_
      have hlw := put_self (Str.ofString "way") (.tup ((way a).map AV.str)) (put lo (Str.ofString "u") (.int (a : Int)))
      have h4' := put_get (x := Str.ofString "way") (v := .tup ((way a).map AV.str)) rfl (put_get (x := Str.ofString "u") (v := .int (a : Int)) rfl h4)
      have h5' := put_get (x := Str.ofString "way") (v := .tup ((way a).map AV.str)) rfl (put_get (x := Str.ofString "u") (v := .int (a : Int)) rfl h5)
      have h6' := put_get (x := Str.ofString "way") (v := .tup ((way a).map AV.str)) rfl (put_get (x := Str.ofString "u") (v := .int (a : Int)) rfl h6)
      generalize put (put lo (Str.ofString "u") (.int (a : Int))) (Str.ofString "way") (.tup ((way a).map AV.str)) = lo₁ at *
      refine s_cons (s_compK (cl := [(Str.ofString "way", L' + 2), (Str.ofString "flags", L' + 1)]) (lc := [(Str.ofString "flags", .inst j), (Str.ofString "way", .tup ((way a).map AV.str))])
        (Inv := fun rest acc st'' => st'' = st₁ ∧ ∃ b n, b + n = count ∧ rest = (List.range' b n).map (fun (i : Nat) => AV.int (i : Int)) ∧ acc = (readRow fl rc b a).map AV.bool)
        (hsw := by rfl) (hclos := by rfl) (hblock := fun C => block_of rfl (cells_cons rfl (cells_cons rfl cells_nil)) (caps_cons ⟨h4', fun e => absurd (show (some NameKind.cell : Option NameKind) = some .local from e) (by decide), .inl rfl, rfl⟩
          (caps_cons ⟨hlw, fun e => absurd (show (some NameKind.cell : Option NameKind) = some .local from e) (by decide), .inl rfl, rfl⟩ caps_nil)))
        (hcell := by decide) (hkind := rfl) (hnames := by decide +kernel) (hx := rfl) (hy := rfl) (hf := rfl) (h := ?_) (turn := ?_) (done := ?_))
      · intro K₂ k₂
        obtain ⟨q1, q2⟩ := range_fit (a := 0) (b := count) (lel hcount (by decide)) (Nat.zero_le _)
        exact e_call (an_bi (by rfl) rfl rfl) (keep_t _) hr (h := a_cons (e_name h6' (a_nil (c_range1 (it_range q1 q2 (k₂ _ _ (by rw [rangeL_len]; exact Nat.le_trans hcount (by decide)) ⟨rfl, 0, count, Nat.zero_add _, rangeL_nat .., rfl⟩))))))
      · rintro Kt Kf C y r acc st'' kt kf ⟨rfl, b, n', k1, k2, k3⟩
        cases n' with
        | zero => cases k2
        | succ n' =>
        rw [List.range'_succ, List.map_cons] at k2
        cases k2
        refine tests_nil ?_
        rw [if_pos rfl]
        refine e_meth (hr := hr) (h := e_name rfl ⟨.ref 63, am_inst (cls_ok p) H'.inst.1 rfl (by rfl) (by rfl), keep_K (by rfl), a_cons (e_name rfl (a_cons (e_name rfl (a_nil (ACallV.mono (is_spec p H' (way a) (b : Int) (way_ok a (sl h1)).1) fun r st₂ e => ?_)))))⟩)
        obtain ⟨rfl, rfl⟩ := e
        refine kt _ _ ⟨rfl, b + 1, n', sh k1, rfl, ?_⟩
        unfold readRow
        rw [List.range_succ, List.map_append, List.map_append, k3]; rfl
      · rintro acc st'' ⟨rfl, b, n', k1, k2, k3⟩
        have hn : n' = 0 := by cases n' with | zero => rfl | succ n => cases k2
        subst hn
        have hb : b = count := k1
        subst hb
        rw [k3]
        have h5'' := put_get (x := Str.ofString "said") (v := .list ((readRow fl rc b a).map AV.bool)) rfl h5'
        have h4'' := put_get (x := Str.ofString "said") (v := .list ((readRow fl rc b a).map AV.bool)) rfl h4'
        have h6'' := put_get (x := Str.ofString "said") (v := .list ((readRow fl rc b a).map AV.bool)) rfl h6'
        have hls := put_self (Str.ofString "said") (.list ((readRow fl rc b a).map AV.bool)) lo₁
        generalize put lo₁ (Str.ofString "said") (.list ((readRow fl rc b a).map AV.bool)) = lo₂ at *
        have hlr : (readRow fl rc b a).length = b := by unfold readRow; simp
        refine s_one (s_expr (e_meth (hr := hr) (h := e_name h5'' ⟨_, am_list hi' F.slot_list_append F.type_list_append, keep_b _, a_cons (e_compK (cl := []) (lc := [])
          (Inv := fun rest acc s2 => s2 = st'' ∧ ∃ ds es, readRow fl rc b a = ds ++ es ∧ rest = es.map AV.bool ∧ acc = ds.map AV.bool)
          (hclos := by rfl) (hblock := fun C => block_of rfl cells_nil caps_nil)
          (hcell := by decide) (hkind := rfl) (hnames := by decide +kernel) (hx := rfl) (h := ?_) (turn := ?_) (done := ?_))⟩)))
        · exact fun K₂ k₂ => e_name hls (it_list (k₂ _ _ (by rw [List.length_map, hlr]; exact Nat.le_trans hcount (by decide)) ⟨rfl, [], _, rfl, rfl, rfl⟩))
        · rintro Kt Kf C y r acc s2 kt kf ⟨rfl, ds, es, g1, g2, g3⟩
          cases es with
          | nil => cases g2
          | cons x es =>
          rw [List.map_cons] at g2
          cases g2
          refine tests_nil ?_
          rw [if_pos rfl]
          refine e_ifexp (i_plain (e_call (an_bi (by rfl) rfl rfl) (keep_b _) hr (h := a_cons (e_name rfl (a_cons (e_type (by rfl) rfl rfl (a_nil (c_isb (t_bool ?_)))))))))
          rw [if_pos rfl]
          refine e_name rfl (kt _ _ ⟨rfl, ds ++ [x], es, by rw [g1]; simp, rfl, ?_⟩)
          rw [g3, List.map_append]; rfl
        · rintro acc s2 ⟨rfl, ds, es, g1, g2, g3⟩
          have hes : es = [] := by cases es with | nil => rfl | cons _ _ => cases g2
          subst hes
          rw [List.append_nil] at g1
          rw [g3, ← g1]
          refine a_nil (l_append hi' (by rw [List.length_map, List.length_map, List.length_range]; exact Nat.le_trans (Nat.le_of_lt (sl h1)) (by decide)) (kn _ _ ⟨a + 1, n, sh h1, rfl, ?_, h4'', h5'', h6''⟩))
          rw [← hS]
          funext k
          by_cases hk : k = i
          · subst hk; rw [Sto.set_self, Sto.set_self, List.range_succ]; simp [lb]
          · rw [Sto.set_ne _ _ hk, Sto.set_ne _ _ hk, Sto.set_ne _ _ hk]
    · rintro lo st' ⟨a, n, h1, h2, rfl, h4, h5, h6⟩
      have hn : n = 0 := by cases n with | zero => rfl | succ n => cases h2
      subst hn
      have ha : a = 14 := h1
      subst ha
      exact s_one (s_ret (e_freeze (e_name h5 ⟨i, _, rfl, Sto.set_self .., kk _ _ ⟨rfl, Sto.set_back hi⟩⟩)))
end Mine

set_option maxHeartbeats 8000000
namespace Mine

theorem made_spec (p : Pm) {st : Sto} (A : List (List Bool)) (count : Nat) (hcount : count ≤ 60) (hA : A.length = 14) (hrow : ∀ r ∈ A, r.length = count) (h0 : ∀ place, at2 A 0 place = false) :
    ACall (XX p) 3 123 [llb A, .int (count : Int)] [] st fun r st' => ∃ j d0 q N who, r = .inst j ∧ FlgN st' j d0 q N who (made A count).1 (made A count).2 (.tset []) ∧ ∀ i, st i ≠ .dead → st' i = st i ∧ who i = .free := by
  refine call_fnK (lo₀ := [(Str.ofString "answers", llb A), (Str.ofString "count", .int (count : Int))]) ⟨⟨_, _, _, _, _, _, _, rfl⟩, by rfl, rfl, rfl, rfl, by decide +kernel⟩ ?_ ?_
    (by show ([Str.ofString "answers", Str.ofString "count"] : List Str).Nodup; decide +kernel) ?_
  · intro I R vs ks hv hk
    obtain rfl := RKs.inv hk
    replace hv := RVs.inv hv; obtain ⟨_, _, rfl, h1, hv⟩ := hv; replace hv := RVs.inv hv; obtain ⟨_, _, rfl, h2, hv⟩ := hv
    replace hv := RVs.inv hv; obtain rfl := hv
    exact ⟨_, fun s doc pm an ct => BindsTo.of_eq rfl, .cons h1 (.cons h2 .nil)⟩
  · intro n x hx
    simp only [List.map_cons, List.map_nil, List.mem_cons, List.not_mem_nil, or_false] at hx
    rcases hx with rfl | rfl <;> first | exact .inl rfl | exact .inr ⟨rfl, rfl⟩
  · intro K A' L' kk hr
    have hu : A'.units + 64 < cLine := hr.u64
    refine s_cons (s_assign (e_call (an_glob (by rfl) rfl) (keep_K (by rfl)) hr (h := a_nil (make_spec p fun j d0 q who st₁ H hst => u_loc ?_))))
    refine s_cons (s_forK (fun rest lo st' => ∃ (ps : List Nat) (m : MK × MK) (N : NT) (who' : Nat → Who), (∀ k ∈ ps, k < count) ∧ rest = ps.map (fun (i : Nat) => AV.int (i : Int)) ∧ ps.foldl (mstep A) m = made A count ∧
      FlgN st' j d0 q N who' m.1 m.2 (.tset []) ∧ (∀ i, st i ≠ .dead → st' i = st i ∧ who' i = .free) ∧
      lo.lookup (Str.ofString "flags") = some (.inst j) ∧ lo.lookup (Str.ofString "answers") = some (llb A)) ?_ ?_ ?_)
    · intro K₁ k₁
      obtain ⟨q1, q2⟩ := range_down (a := count) (lel hcount (by decide))
      refine e_call (an_bi (by rfl) rfl rfl) (keep_t _) hr (h := a_cons (e_bin (e_name rfl (e_int (b_sub ?_)))))
      refine a_cons (e_un (e_int (n_neg ?_)))
      refine a_cons (e_un (e_int (n_neg ?_)))
      refine a_nil (c_range3 (by decide) (by decide) (it_range q1 q2 (k₁ _ _ ⟨(List.range count).reverse, _, _, who, fun k hk => by simpa using hk, rangeL_down _, rfl, H, hst, rfl, rfl⟩)))
    · rintro K₁ y rest lo st' kn kr ⟨ps, m, N, who', g1, g2, g3, H', hst', h4, h5⟩
      cases ps with
      | nil => cases g2
      | cons pl ps =>
      rw [List.map_cons] at g2
      cases g2
      rw [List.foldl_cons] at g3
      have hpl : pl < count := g1 pl (.head _)
      refine u_nmc (c := L' + 2) ?_
      have h4' := put_get (x := Str.ofString "place") (v := .int (pl : Int)) rfl h4
      have h5' := put_get (x := Str.ofString "place") (v := .int (pl : Int)) rfl h5
      have hlp := put_self (Str.ofString "place") (.int (pl : Int)) lo
      generalize put lo (Str.ofString "place") (.int (pl : Int)) = lo₁ at *
      refine s_cons (s_compK (cl := [(Str.ofString "place", L' + 2), (Str.ofString "answers", L' + 1)]) (lc := [(Str.ofString "answers", llb A), (Str.ofString "place", .int (pl : Int))])
        (Inv := fun rest acc st'' => st'' = st' ∧ ∃ b n, b + n = 14 ∧ rest = (List.range' b n).map (fun (i : Nat) => AV.int (i : Int)) ∧ acc = ((List.range b).filter fun u => at2 A u pl).map (fun (i : Nat) => AV.int (i : Int)))
        (hsw := by rfl) (hclos := by rfl) (hblock := fun C => block_of rfl (cells_cons rfl (cells_cons rfl cells_nil)) (caps_cons ⟨h5', fun e => absurd (show (some NameKind.cell : Option NameKind) = some .local from e) (by decide), .inl rfl, rfl⟩
          (caps_cons ⟨hlp, fun e => absurd (show (some NameKind.cell : Option NameKind) = some .local from e) (by decide), .inl rfl, rfl⟩ caps_nil)))
        (hcell := by decide) (hkind := rfl) (hnames := by decide +kernel) (hx := rfl) (hy := rfl) (hf := rfl) (h := ?_) (turn := ?_) (done := ?_))
      · intro K₂ k₂
        obtain ⟨q1, q2⟩ := range_fit (a := 0) (b := 14) (by decide) (by decide)
        exact e_call (an_bi (by rfl) rfl rfl) (keep_t _) hr (h := a_cons (e_int (a_nil (c_range1 (it_range q1 q2 (k₂ _ _ (by simp [rangeL]) ⟨rfl, 0, 14, rfl, rangeL_nat .., rfl⟩))))))
      · rintro Kt Kf C y r acc st'' kt kf ⟨rfl, b, n', k1, k2, k3⟩
        cases n' with
        | zero => cases k2
        | succ n' =>
        rw [List.range'_succ, List.map_cons] at k2
        cases k2
        have hb14 : b < 14 := sl k1
        have hb : b < A.length := Nat.lt_of_lt_of_eq hb14 hA.symm
        have hbl : (A[b]).length = count := hrow _ (List.getElem_mem hb)
        have hpb : pl < (A[b]).length := Nat.lt_of_lt_of_eq hpl hbl.symm
        have hat : at2 A b pl = (A[b])[pl] := by unfold at2; rw [List.getElem?_eq_getElem hb, Option.bind_some, List.getElem?_eq_getElem hpb]; rfl
        refine tests_one (i_plain (e_sub (e_sub (e_name rfl (e_name rfl (sub_listN (ltl hb14 (by decide)) (llb_get hb) (e_name rfl (sub_listN (ltl hpl (Nat.le_trans hcount (by decide))) (lb_get hpb) (t_bool ?_)))))))))
        rw [← hat]
        cases hx : at2 A b pl with
        | true =>
          rw [if_pos rfl]
          refine e_name rfl (kt _ _ ⟨rfl, b + 1, n', sh k1, rfl, ?_⟩)
          rw [List.range_succ, List.filter_append, List.map_append, k3]; simp [hx]
        | false =>
          rw [if_neg Bool.false_ne_true]
          refine kf _ ⟨rfl, b + 1, n', sh k1, rfl, ?_⟩
          rw [List.range_succ, List.filter_append, List.map_append, k3]; simp [hx]
      · rintro acc st'' ⟨rfl, b, n', k1, k2, k3⟩
        have hn : n' = 0 := by cases n' with | zero => rfl | succ n => cases k2
        subst hn
        have hb : b = 14 := k1
        subst hb
        have hw : acc = ((waysN A pl).map fun (i : Nat) => (i : Int)).map AV.int := by rw [k3, List.map_map]; rfl
        rw [hw]
        have hmem : ∀ u ∈ waysN A pl, u < 14 ∧ u ≠ 0 := fun u hu => by
          unfold waysN at hu
          obtain ⟨e1, e2⟩ := List.mem_filter.mp hu
          exact ⟨List.mem_range.mp e1, fun e => by rw [e, h0] at e2; cases e2⟩
        have hms : mstep A m pl = mstep A m pl := rfl
        conv at hms => rhs; unfold mstep
        have h4'' := put_get (x := Str.ofString "ways") (v := .list (((waysN A pl).map fun (i : Nat) => (i : Int)).map AV.int)) rfl h4'
        have h5'' := put_get (x := Str.ofString "ways") (v := .list (((waysN A pl).map fun (i : Nat) => (i : Int)).map AV.int)) rfl h5'
        have hlp' := put_get (x := Str.ofString "ways") (v := .list (((waysN A pl).map fun (i : Nat) => (i : Int)).map AV.int)) rfl hlp
        have hlw := put_self (Str.ofString "ways") (.list (((waysN A pl).map fun (i : Nat) => (i : Int)).map AV.int)) lo₁
        generalize put lo₁ (Str.ofString "ways") (.list (((waysN A pl).map fun (i : Nat) => (i : Int)).map AV.int)) = lo₂ at *
        refine s_one (s_if (i_cmp (e_name hlw (e_list (a_nil ⟨by simp, c_neNil hu (dats_int _) (depth_int _) ⟨_, rfl, ?_⟩⟩)))))
        cases hwn : waysN A pl with
        | nil =>
          rw [hwn] at hms
          simp only [List.map_nil, List.isEmpty_nil, Bool.not_true, Bool.false_eq_true, if_false]
          rw [hms] at g3
          exact s_nil (kn _ _ ⟨ps, m, N, who', fun k hk => g1 k (.tail _ hk), rfl, g3, H', hst', h4'', h5''⟩)
        | cons u us =>
          rw [hwn] at hms hlw hmem
          simp only [List.map_cons, List.isEmpty_cons, Bool.not_false, if_true]
          obtain ⟨hu14, hu0⟩ := hmem u (.head _)
          have hg0 : (((u :: us).map fun (i : Nat) => (i : Int)).map AV.int)[(0 : Nat)]? = some (.int (u : Int)) := rfl
          have fin : ∀ (below : Bool), (u % 2 == 0 && ((u :: us).map fun (i : Nat) => (i : Int)).any (· == (u : Int) + 1)) = below →
              ∀ (lo₃ : Lo) (r : AV) (st₃ : Sto), (r = AV.none ∧ ∃ N' who2, FlgN st₃ j d0 q N' who2 (if below then m.1 else upM m.1 (way u) (pl : Int)) (if below then upM m.2 (way u) (pl : Int) else m.2) (.tset []) ∧ Ext st'' who' st₃ who2) →
              lo₃.lookup (Str.ofString "flags") = some (.inst j) → lo₃.lookup (Str.ofString "answers") = some (llb A) →
              K₁ .next lo₃ st₃ := by
            intro below hb lo₃ r st₃ ⟨_, N2, who2, H2, E2⟩ e1 e2
            refine kn _ _ ⟨ps, mstep A m pl, N2, who2, fun k hk => g1 k (.tail _ hk), rfl, g3, ?_, fun i hi => ?_, e1, e2⟩
            · rw [hms]
              dsimp only
              rw [hb]
              cases below <;> exact H2
            · obtain ⟨a1, a2⟩ := hst' i hi
              obtain ⟨b1, b2⟩ := E2 i a2 (by rw [a1]; exact hi)
              exact ⟨b1.trans a1, b2⟩
          have rest : ∀ (below : Bool), (u % 2 == 0 && ((u :: us).map fun (i : Nat) => (i : Int)).any (· == (u : Int) + 1)) = below →
              ∀ (lo₃ : Lo), lo₃.lookup (Str.ofString "flags") = some (.inst j) → lo₃.lookup (Str.ofString "answers") = some (llb A) → lo₃.lookup (Str.ofString "below") = some (.bool below) → lo₃.lookup (Str.ofString "place") = some (.int (pl : Int)) → lo₃.lookup (Str.ofString "ways") = some (.list (((u :: us).map fun (i : Nat) => (i : Int)).map AV.int)) →
              ACallV (XX p) 2 (.ref 56) [.inst j, .tup ((way u).map .str), .int (pl : Int)] [(Str.ofString "recursive", .bool below)] st'' fun r st₃ =>
                K₁ .next lo₃ st₃ :=
            fun below hb lo₃ e1 e2 _ _ _ => ACallV.mono ((set_spec p H' (way u) (pl : Int) below (way_ok u hu14).1 ((way_ok u hu14).2.2 hu0) (way_names hu14) (Int.natCast_nonneg _) (nlt (ltl hpl (Nat.le_trans hcount (by decide))))).room (by decide)) fun r st₃ h => fin below hb lo₃ r st₃ h e1 e2
          refine s_cons (AS.mono (P := fun fl' lo₃ st₃ => fl' = .next ∧ st₃ = st'' ∧ ∃ below, (u % 2 == 0 && ((u :: us).map fun (i : Nat) => (i : Int)).any (· == (u : Int) + 1)) = below ∧ lo₃.lookup (Str.ofString "flags") = some (.inst j) ∧ lo₃.lookup (Str.ofString "answers") = some (llb A) ∧
              lo₃.lookup (Str.ofString "below") = some (.bool below) ∧ lo₃.lookup (Str.ofString "place") = some (.int (pl : Int)) ∧ lo₃.lookup (Str.ofString "ways") = some (.list (((u :: us).map fun (i : Nat) => (i : Int)).map AV.int)))
            (s_assign (e_and (e_cmp (e_bin (e_sub (e_name hlw (e_int (sub_listN (k := 0) (by decide) hg0 (e_int (b_modN (b := 2) (by decide) (e_int (c_eq (t_bool ?_))))))))))))) ?_)
          · by_cases hev : u % 2 = 0
            · rw [show (((u % 2 : Nat) : Int) == 0) = true by rw [hev]; rfl, if_pos rfl]
              refine e_cmp (e_bin (e_sub (e_name hlw (e_int (sub_listN (k := 0) (by decide) hg0 (e_int (b_add (e_name hlw (l_in (u_loc ?_)))))))))) 
              refine ⟨rfl, rfl, _, by rw [hev]; rfl, put_get rfl h4'', put_get rfl h5'', put_self .., put_get rfl hlp', put_get rfl hlw⟩
            · rw [beq_eq_false_iff_ne.mpr (mod2z hev), if_neg Bool.false_ne_true]
              refine u_loc ⟨rfl, rfl, false, by rw [beq_eq_false_iff_ne.mpr hev]; rfl, put_get rfl h4'', put_get rfl h5'', put_self .., put_get rfl hlp', put_get rfl hlw⟩
          · rintro _ lo₃ _ ⟨rfl, rfl, below, hb, e1, e2, e3, e4, e5⟩
            refine s_one (s_expr (e_meth (hr := hr) (h := e_name e1 ⟨.ref 56, am_inst (cls_ok p) H'.inst.1 rfl (by rfl) (by rfl), keep_K (by rfl),
              a_cons (e_call (an_glob (by rfl) rfl) (keep_K (by rfl)) hr (h := a_cons (e_sub (e_name e5 (e_int (sub_listN (k := 0) (by decide) hg0 (a_nil (ACallV.mono ((way_spec p u hu14).room (by decide)) fun r st₁ e => ?_))))))))⟩)))
            obtain ⟨rfl, rfl⟩ := e
            exact a_cons (e_name e4 (a_nil (e_name e3 (ACallV.mono (rest below hb lo₃ e1 e2 e3 e4 e5) fun r st₃ h => h))))
    · rintro lo st' ⟨ps, m, N, who', g1, g2, g3, H', hst', h4, h5⟩
      have hps : ps = [] := by cases ps with | nil => rfl | cons _ _ => cases g2
      subst hps
      rw [List.foldl_nil] at g3
      subst g3
      exact s_one (s_ret (e_name h4 (kk _ _ ⟨j, d0, q, N, who', rfl, H', hst'⟩)))
end Mine

set_option maxHeartbeats 8000000
namespace Mine
def bodyOf : Option Obj → List Stmt
  | some ⟨_, _, .func fd, _⟩ => (match fd.body with | .stmts b => b | _ => [])
  | _ => []
def scopeOf : Option Obj → Scope
  | some ⟨_, _, .func fd, _⟩ => fd.scope
  | _ => { kind := .function, names := [], isGenerator := false, isCoroutine := false }

theorem law_walk (p : Pm) (ns : List Int) (hns : ns.length ≤ 63) (row : List Int) (hrow : lawRow ns = row) (cs : List Call) (hcs : lawCalls row = cs) (count : Nat) (hcount : row.length = count)
    (A : List (List Bool)) (hA : readN (cs.foldl stp m0).fl (cs.foldl stp m0).rc count = A) (fact1 : A = dueN cs count)
    (fact2 : readN (cs.reverse.foldl stp (cs.foldl stp m0)).fl (cs.reverse.foldl stp (cs.foldl stp m0)).rc count = dueN (cs ++ cs.reverse) count)
    (fact3 : readN (cs.reverse.foldl stp ⟨(made A count).1, (made A count).2, pend2 cs count⟩).fl (cs.reverse.foldl stp ⟨(made A count).1, (made A count).2, pend2 cs count⟩).rc count = dueN (cs ++ cs.reverse) count)
    (A' : Around) (L' fa : Addr) (cd : Value) (hr : Room 4 A') :
    ASs (XX p) A' (envOfC (Str.ofString "law") (scopeOf ((XX p).K.lookup 128)) L' fa cd) (bodyOf ((XX p).K.lookup 128)) [(Str.ofString "script", .script ns)] (fun _ => .dead) (AsRet fun v st' => v = .bool true) := by
  rw [show (XX p).K.lookup 128 = some _ from rfl]
  dsimp only [bodyOf, scopeOf]
  have hc7 : count ≤ 7 := by rw [← hcount, ← hrow]; exact lawRow_len ns
  have hcl : cs.length = count := by rw [← hcs, lawCalls_len]; exact hcount
  have hok : ∀ c ∈ cs, OkC c := by rw [← hcs]; exact lawCalls_ok (by rw [hcount]; exact Nat.le_trans hc7 (by decide))
  have hcs7 : cs.length ≤ 7 := Nat.le_trans (Nat.le_of_eq hcl) hc7
  have hl : (cs.map cav).length ≤ 1000 := lenL hcs7 (by decide)
  have hrev : (cs.map cav).reverse = cs.reverse.map cav := by rw [List.map_reverse]
  have hokr : ∀ c ∈ cs.reverse, OkC c := fun c h => hok c (by simpa using h)
  have hu : A'.units + 64 < cLine := hr.u64
  refine s_cons (s_assign (e_sub (e_name rfl (e_upto (e_int ⟨_, rfl, sub_uptoS (i := 4) (Nat.le_trans hns (by decide)) (u_loc ?_)⟩)))))
  have htk : (ns.take 4).length ≤ 4 := List.length_take_le 4 ns
  refine s_cons (s_assign (e_bin (e_bin (e_list (a_cons (e_int (a_cons (e_int (a_nil ⟨by simp, e_name rfl (b_addL (by rw [List.length_map]; exact Nat.le_trans (Nat.add_le_add_left htk 2) (by decide)) ?_)⟩)))))))))
  refine e_bin (e_list (a_cons (e_int (a_nil ⟨by simp, ?_⟩))))
  refine e_bin (e_call (an_bi (by rfl) rfl rfl) (keep_b _) hr (h := a_cons (e_name rfl (a_nil (c_lenS (Nat.le_trans hns (by decide)) ?_)))))
  refine e_int (b_modN (b := 2) (by decide) (b_mulL (mod2i _) (by simp) ?_))
  have erow : ([AV.int 27, .int 6] ++ (ns.take 4).map AV.int) ++ (if ((ns.length % 2 : Nat) : Int) = 1 then [AV.int 3] else []) = row.map AV.int := by
    rw [← hrow]
    unfold lawRow
    rw [List.map_append, List.map_append]
    congr 1
    by_cases h : ns.length % 2 = 1
    · rw [if_pos h, if_pos (mod2e h)]; rfl
    · rw [if_neg h, if_neg (mod2n h)]; rfl
  have hrl : (row.map AV.int).length = count := by rw [List.length_map]; exact hcount
  have hrl7 : (row.map AV.int).length ≤ 1000 := Nat.le_trans (Nat.le_of_eq hrl) (Nat.le_trans hc7 (by decide))
  refine b_addL (by rw [← List.length_append, erow]; exact hrl7) ?_
  rw [erow]
  refine u_cell ?_
  refine s_cons (s_assign (e_call (an_bi (by rfl) rfl rfl) (keep_b _) hr (h := a_cons (e_name rfl (a_nil (c_len hrl7 ?_))))))
  rw [hrl]
  refine u_loc ?_
  refine s_cons (s_compK (cl := [(Str.ofString "row", L' + 1)]) (lc := [(Str.ofString "row", .list (row.map AV.int))])
    (Inv := fun rest acc st' => st' = (fun _ => .dead) ∧ ∃ b n, b + n = count ∧ rest = (List.range' b n).map (fun (i : Nat) => AV.int (i : Int)) ∧ acc = ((List.range b).map fun i => lcN i (row.getD i 0)).map cav)
    (hsw := by rfl) (hclos := by rfl) (hblock := fun C => block_of rfl (cells_cons rfl cells_nil) (caps_cons ⟨rfl, fun e => absurd (show (some NameKind.cell : Option NameKind) = some .local from e) (by decide), .inl rfl, rfl⟩ caps_nil))
    (hcell := by decide) (hkind := rfl) (hnames := by decide +kernel) (hx := rfl) (hy := rfl) (hf := rfl) (h := ?_) (turn := ?_) (done := ?_))
  · intro K₁ k₁
    obtain ⟨q1, q2⟩ := range_fit (a := 0) (b := count) (lel hc7 (by decide)) (Nat.zero_le _)
    exact e_call (an_bi (by rfl) rfl rfl) (keep_t _) hr (h := a_cons (e_name rfl (a_nil (c_range1 (it_range q1 q2 (k₁ _ _ (by rw [rangeL_len]; exact Nat.le_trans hc7 (by decide)) ⟨rfl, 0, count, Nat.zero_add _, rangeL_nat .., rfl⟩))))))
  · rintro Kt Kf C y r acc st' kt kf ⟨rfl, b, n', k1, k2, k3⟩
    cases n' with
    | zero => cases k2
    | succ n' =>
    rw [List.range'_succ, List.map_cons] at k2
    cases k2
    have hb' : b < count := sl k1
    have hb : b < row.length := Nat.lt_of_lt_of_eq hb' hcount.symm
    have hg : (row.map AV.int)[b]? = some (.int (row.getD b 0)) := by rw [List.getElem?_map, List.getElem?_eq_getElem hb, List.getD_eq_getElem?_getD, List.getElem?_eq_getElem hb]; rfl
    refine tests_nil ?_
    rw [if_pos rfl]
    refine e_call (an_glob (by rfl) rfl) (keep_K (by rfl)) hr (h := a_cons (e_name rfl (a_cons (e_sub (e_name rfl (e_name rfl (sub_listN (ltl hb' (Nat.le_trans hc7 (by decide))) hg ?_)))))))
    refine a_nil (ACallV.mono ((call_spec p (b : Int) (row.getD b 0)).room (by decide)) fun r st₁ e => ?_)
    obtain ⟨rfl, rfl⟩ := e
    refine kt _ _ ⟨rfl, b + 1, n', sh k1, rfl, ?_⟩
    rw [List.range_succ, List.map_append, List.map_append, k3, ← lcN_av]; rfl
  rintro acc st' ⟨rfl, b, n', k1, k2, k3⟩
  have hn : n' = 0 := by cases n' with | zero => rfl | succ n => cases k2
  subst hn
  have hb : b = count := k1
  subst hb
  have hacc : acc = cs.map cav := by rw [k3, ← hcs]; unfold lawCalls; rw [hcount]
  rw [hacc]
  clear k1 k2 k3 hacc
  refine s_cons (s_assign (e_call (an_glob (by rfl) rfl) (keep_K (by rfl)) hr (h := a_nil ((make_spec p fun j1 d1 q1 w1 st₁ H1 _ => u_loc ?_).room (by decide)))))
  refine s_cons (s_expr (e_call (an_glob (by rfl) rfl) (keep_K (by rfl)) hr (h := a_cons (e_name rfl (a_cons (e_name rfl (a_nil (ACallV.mono ((do_spec p (m := m0) H1 cs hok (fun r hr => (nomatch hr)) (by show 0 + cs.length ≤ 17; rw [Nat.zero_add]; exact Nat.le_trans hcs7 (by decide))).room (by decide)) fun r st₂ h => ?_))))))))
  obtain ⟨_, N1, w1, H1, _, hps1, hpl1⟩ := h
  have hpl1 : (cs.foldl stp m0).ps.length ≤ cs.length := by have : (m0.ps.length) = 0 := rfl; rw [this, Nat.zero_add] at hpl1; exact hpl1
  generalize hM1 : cs.foldl stp m0 = M1 at *
  refine s_cons (s_assign (e_call (an_glob (by rfl) rfl) (keep_K (by rfl)) hr (h := a_cons (e_name rfl (a_cons (e_name rfl (a_nil (ACallV.mono ((read_spec p H1 b (Nat.le_trans hc7 (by decide))).room (by decide)) fun r st₃ h => ?_))))))))
  obtain ⟨rfl, rfl⟩ := h
  rw [hA]
  refine u_loc ?_
  refine s_cons (s_if (i_cmp (e_name rfl (e_call (an_glob (by rfl) rfl) (keep_K (by rfl)) hr (h := a_cons (e_name rfl (a_cons (e_name rfl (a_nil (ACallV.mono ((due_spec p cs b hok (Nat.le_trans hcs7 (by decide)) (Nat.le_trans hc7 (by decide))).room (by decide)) fun r st₃' h => ?_))))))))))
  obtain ⟨rfl, rfl⟩ := h
  refine c_neL hu ⟨_, rfl, ?_⟩
  rw [fact1, bne_self_eq_false, if_neg Bool.false_ne_true, ← fact1]
  refine s_nil ?_
  have hA14 : A.length = 14 := by rw [← hA]; unfold readN; simp
  have hArow : ∀ r ∈ A, r.length = b := fun r hr => by
    rw [← hA] at hr; unfold readN at hr
    obtain ⟨u, _, rfl⟩ := List.mem_map.mp hr
    unfold readRow; simp
  have hA0 : ∀ place, at2 A 0 place = false := fun place => by rw [← hA]; exact at2_read _ _ _ _
  refine s_cons (s_assign (e_call (an_glob (by rfl) rfl) (keep_K (by rfl)) hr (h := a_cons (e_name rfl (a_cons (e_name rfl (a_nil (ACallV.mono ((made_spec p A b (Nat.le_trans hc7 (by decide)) hA14 hArow hA0).room (by decide)) fun r st₄ h => ?_))))))))
  obtain ⟨j2, d2, q2, N2, w2, rfl, H2, hst4⟩ := h
  have H1' : FlgN st₄ j1 d1 q1 N1 w1 M1.fl M1.rc (.tset M1.ps) := H1.of fun i hi => (hst4 i (H1.live i hi)).1
  have hap : Apart w1 w2 := fun i hi => (hst4 i (H1.live i hi)).2
  refine u_loc ?_
  clear hst4
  have hbl : ∀ {k : Nat}, k < b → ∃ c : Call, cs[k]? = some c ∧ OkC c ∧ (cs.map cav)[k]? = some (.tup [.int c.1, .int c.2.1, .int (c.2.2 : Int)]) ∧ kindAt cs k = c.2.1 := fun {k} hk => by
    have hk' : k < cs.length := Nat.lt_of_lt_of_eq hk hcl.symm
    refine ⟨cs[k], List.getElem?_eq_getElem hk', hok _ (List.getElem_mem hk'), ?_, ?_⟩
    · rw [List.getElem?_map, List.getElem?_eq_getElem hk']; rfl
    · unfold kindAt; rw [List.getElem?_eq_getElem hk']; rfl
  refine s_cons (s_forK (fun rest lo st' => ∃ a n, a + n = b ∧ rest = (List.range' a n).map (fun (i : Nat) => AV.int (i : Int)) ∧ lo.lookup (Str.ofString "calls") = some (.list (cs.map cav)) ∧ lo.lookup (Str.ofString "count") = some (.int (b : Int)) ∧
      lo.lookup (Str.ofString "first") = some (.inst j1) ∧ lo.lookup (Str.ofString "second") = some (.inst j2) ∧ FlgN st' j1 d1 q1 N1 w1 M1.fl M1.rc (.tset M1.ps) ∧
      FlgN st' j2 d2 q2 N2 w2 (made A b).1 (made A b).2 (.tset ((List.range a).filterMap (waits2 cs b)))) ?_ ?_ ?_)
  · intro K₁ k₁
    obtain ⟨q1, q2⟩ := range_fit (a := 0) (b := b) (lel hc7 (by decide)) (Nat.zero_le _)
    exact e_call (an_bi (by rfl) rfl rfl) (keep_t _) hr (h := a_cons (e_name rfl (a_nil (c_range1 (it_range q1 q2 (k₁ _ _ ⟨0, b, Nat.zero_add _, rangeL_nat .., rfl, rfl, rfl, rfl, H1', H2⟩))))))
  · rintro K₁ y r lo st' kn kr ⟨a, n, g1, g2, l1, l2, l3, l4, K1, K2⟩
    cases n with
    | zero => cases g2
    | succ n =>
    rw [List.range'_succ, List.map_cons] at g2
    cases g2
    have ha : a < b := sl g1
    have hac : a < cs.length := Nat.lt_of_lt_of_eq ha hcl.symm
    have ham : a < 1000000 := ltl ha (Nat.le_trans hc7 (by decide))
    obtain ⟨c, c1, c2, c3, c4⟩ := hbl ha
    refine u_nm ?_
    have l1' := put_get (x := Str.ofString "k") (v := .int (a : Int)) rfl l1
    have l2' := put_get (x := Str.ofString "k") (v := .int (a : Int)) rfl l2
    have l3' := put_get (x := Str.ofString "k") (v := .int (a : Int)) rfl l3
    have l4' := put_get (x := Str.ofString "k") (v := .int (a : Int)) rfl l4
    have l5' := put_self (Str.ofString "k") (.int (a : Int)) lo
    generalize put lo (Str.ofString "k") (.int (a : Int)) = lo₁ at *
    have skip : waits2 cs b a = none → K₁ .next lo₁ st' := fun hw =>
      kn _ _ ⟨a + 1, n, sh g1, rfl, l1', l2', l3', l4', K1, by rw [List.range_succ, List.filterMap_append, List.filterMap_cons, hw, List.filterMap_nil, List.append_nil]; exact K2⟩
    refine s_one (s_if (i_and (i_cmp (e_sub (e_sub (e_name l1' (e_name l5' (sub_listN ham c3 ?_))))))))
    refine e_int (sub_tup (j := 1) (z := .int c.2.1) (by decide) (by decide) rfl rfl (e_int (c_eq ⟨_, rfl, ?_⟩)))
    by_cases k2 : c.2.1 = 2
    · rw [k2, show ((2 : Int) == 2) = true from rfl, if_pos rfl]
      refine i_cmp (e_call (an_glob (by rfl) rfl) (keep_K (by rfl)) hr (h := a_cons (e_name l1' (a_cons (e_name l5' (a_nil (ACallV.mono ((since_spec p cs a hac (Nat.le_trans hcs7 (by decide))).room (by decide)) fun r st₅ h => ?_)))))))
      obtain ⟨rfl, rfl⟩ := h
      refine e_name l2' (c_eq ⟨_, rfl, ?_⟩)
      by_cases hs : sinceN cs a = b
      · rw [show ((sinceN cs a : Int) == (b : Int)) = true by rw [hs]; exact beq_self_eq_true _, if_pos rfl]
        have hw : waits2 cs b a = some (way c.2.2, c.1) := by unfold waits2; rw [c1, Option.bind_some, if_pos ⟨k2, hs⟩]
        have hrow := c2.row
        refine s_one (s_expr (e_meth (hr := hr) (h := e_name l4' ⟨.ref 35, am_inst (cls_ok p) K2.inst.1 rfl (by rfl) (by rfl), keep_K (by rfl), a_cons ?_⟩)))
        refine e_call (an_glob (by rfl) rfl) (keep_K (by rfl)) hr (h := a_cons (e_sub (e_sub (e_name l1' (e_name l5' (sub_listN ham c3 ?_))))))
        refine e_int (sub_tup (j := 2) (z := .int (c.2.2 : Int)) (by decide) (by decide) rfl rfl (a_nil (ACallV.mono ((way_spec p c.2.2 c2.2.2.2).room (by decide)) fun r st₆ h => ?_)))
        obtain ⟨rfl, rfl⟩ := h
        refine a_cons (e_sub (e_sub (e_name l1' (e_name l5' (sub_listN ham c3 ?_)))))
        refine e_int (sub_tup (j := 0) (z := .int c.1) (by decide) (by decide) rfl rfl ?_)
        refine a_nil (ACallV.mono ((pend_spec p K2 (way c.2.2) c.1 hrow.1 (fun r hr => (waits2_ok hok r hr).1) (Nat.le_trans (waits2_len cs b a) (Nat.le_trans (Nat.le_of_lt ha) (Nat.le_trans hc7 (by decide))))).room (by decide)) fun r st₇ h => ?_)
        obtain ⟨_, K3, E3⟩ := h
        obtain ⟨K4, _⟩ := K1.beside hap.symm E3
        refine kn _ _ ⟨a + 1, n, sh g1, rfl, l1', l2', l3', l4', K4, ?_⟩
        rw [List.range_succ, List.filterMap_append, List.filterMap_cons, hw, List.filterMap_nil]; exact K3
      · rw [beq_eq_false_iff_ne.mpr (nne hs), if_neg Bool.false_ne_true]
        exact s_nil (skip (by unfold waits2; rw [c1, Option.bind_some, if_neg (fun h => hs h.2)]))
    · rw [beq_eq_false_iff_ne.mpr k2, if_neg Bool.false_ne_true, if_neg Bool.false_ne_true]
      exact s_nil (skip (by unfold waits2; rw [c1, Option.bind_some, if_neg (fun h => k2 h.1)]))
  rintro lo st' ⟨a, n, g1, g2, l1, l2, l3, l4, K1, K2⟩
  have hn : n = 0 := by cases n with | zero => rfl | succ n => cases g2
  subst hn
  have ha : a = b := g1
  subst ha
  change FlgN st' j2 d2 q2 N2 w2 _ _ (.tset (pend2 cs a)) at K2
  have hp2l : (pend2 cs a).length ≤ a := waits2_len cs a a
  have hp2o : ∀ r ∈ pend2 cs a, OkR r := waits2_ok hok
  generalize hM2 : (⟨(made A a).1, (made A a).2, pend2 cs a⟩ : Mk) = M2 at *
  have K2' : FlgN st' j2 d2 q2 N2 w2 M2.fl M2.rc (.tset M2.ps) := by rw [← hM2]; exact K2
  have hm2 : M2.ps = pend2 cs a := by rw [← hM2]
  refine s_cons (s_assign (e_sub (e_name l1 (e_step (e_un (e_int (n_neg ⟨_, rfl, sub_rev hl (u_loc ?_)⟩)))))))
  rw [hrev]
  have hrl2 : cs.reverse.length = cs.length := List.length_reverse ..
  have l1' := put_get (x := Str.ofString "back") (v := .list (cs.reverse.map cav)) rfl l1
  have l2' := put_get (x := Str.ofString "back") (v := .list (cs.reverse.map cav)) rfl l2
  have l3' := put_get (x := Str.ofString "back") (v := .list (cs.reverse.map cav)) rfl l3
  have l4' := put_get (x := Str.ofString "back") (v := .list (cs.reverse.map cav)) rfl l4
  have l5' := put_self (Str.ofString "back") (.list (cs.reverse.map cav)) lo
  generalize put lo (Str.ofString "back") (.list (cs.reverse.map cav)) = lo₁ at *
  refine s_cons (s_expr (e_call (an_glob (by rfl) rfl) (keep_K (by rfl)) hr (h := a_cons (e_name l3' (a_cons (e_name l5' (a_nil (ACallV.mono ((do_spec p K1 cs.reverse hokr hps1 (by rw [hrl2]; exact Nat.le_trans (Nat.add_le_add (Nat.le_trans hpl1 hcs7) hcs7) (by decide))).room (by decide)) fun r st₅ h => ?_))))))))
  obtain ⟨_, N1', w1', K1', E5, _⟩ := h
  obtain ⟨K2'', hap'⟩ := K2'.beside hap E5
  refine s_cons (s_expr (e_call (an_glob (by rfl) rfl) (keep_K (by rfl)) hr (h := a_cons (e_name l4' (a_cons (e_name l5' (a_nil (ACallV.mono ((do_spec p K2'' cs.reverse hokr (by rw [hm2]; exact hp2o) (by rw [hm2, hrl2]; exact Nat.le_trans (Nat.add_le_add (Nat.le_trans hp2l hc7) hcs7) (by decide))).room (by decide)) fun r st₆ h => ?_))))))))
  obtain ⟨_, N2', w2', K2f, E6, _⟩ := h
  obtain ⟨K1f, _⟩ := K1'.beside hap'.symm E6
  refine s_cons (s_assign (e_call (an_glob (by rfl) rfl) (keep_K (by rfl)) hr (h := a_cons (e_bin (e_name l1' (e_name l5' (b_addL (by rw [List.length_map, List.length_map, hrl2]; exact Nat.le_trans (Nat.add_le_add hcs7 hcs7) (by decide)) ?_)))))))
  rw [← List.map_append]
  refine a_cons (e_name l2' (a_nil (ACallV.mono ((due_spec p (cs ++ cs.reverse) a (fun c hc => (List.mem_append.mp hc).elim (hok c) (hokr c)) (by rw [List.length_append, hrl2]; exact Nat.le_trans (Nat.add_le_add hcs7 hcs7) (by decide)) (Nat.le_trans hc7 (by decide))).room (by decide)) fun r st₇ h => ?_)))
  obtain ⟨rfl, rfl⟩ := h
  refine u_loc ?_
  refine s_one (s_ret (e_and (e_cmp (e_call (an_glob (by rfl) rfl) (keep_K (by rfl)) hr (h := a_cons (e_name (put_get rfl l3') (a_cons (e_name (put_get rfl l2') (a_nil (ACallV.mono ((read_spec p K1f a (Nat.le_trans hc7 (by decide))).room (by decide)) fun r st₈ h => ?_))))))))))
  obtain ⟨rfl, rfl⟩ := h
  refine e_name (put_self ..) (c_eqL hu (t_bool ?_))
  rw [fact2, beq_self_eq_true, if_pos rfl]
  refine e_cmp (e_call (an_glob (by rfl) rfl) (keep_K (by rfl)) hr (h := a_cons (e_name (put_get rfl l4') (a_cons (e_name (put_get rfl l2') (a_nil (ACallV.mono ((read_spec p K2f a (Nat.le_trans hc7 (by decide))).room (by decide)) fun r st₉ h => ?_)))))))
  obtain ⟨rfl, rfl⟩ := h
  refine e_name (put_self ..) (c_eqL hu ?_)
  show AV.bool _ = _
  rw [fact3, beq_self_eq_true]
end Mine

namespace Mine
set_option maxHeartbeats 8000000
set_option pp.deepTerms false
set_option pp.deepTerms.threshold 6
theorem law_top {w : World} {s₀ s₁ : Shared} {mg mb : Str → Option Value} (T : Top hd.view_39 (looseW hd.view_39 [Str.ofString "Flags"]) (ExcName.means s₀.heap) mg mb s₁.heap)
    (KX : (hd.heap_39 w.params).In s₁.heap) (K0 : Below callerA s₁.heap [] s₁.heap) (hg : s₁.gens = #[]) (fa : Addr) (cd : Value) {w3 : Addr} {vs : List Value} {ns : List Int}
    (hL : s₁.heap.IsList w3 vs.toArray) (hI : IntsAre vs ns) (hlen : ns.length ≤ 63) {h₁ : Heap} {tk : Nat} {m : Str → Option Value} {ob : Obj} {v₀ : Option Value}
    (F : Fr s₁.heap s₁.heap.objs.size h₁ m) (hob : ob.data = .cell v₀) (N0 : News s₁.heap s₁.heap.objs.size h₁ [(s₁.heap.objs.size + 1, ob)]) (hm : m (Str.ofString "script") = some (.ref w3)) {E : Value → Shared → Prop} :
    wpAny (model PySem.Challenge.rw_ij0147_01.row.prog w) (callerA.deeper (envOfC (Str.ofString "law") (scopeOf ((hd.heap_39 w.params).lookup 128)) s₁.heap.objs.size fa cd))
      (execs (bodyOf ((hd.heap_39 w.params).lookup 128)) (envOfC (Str.ofString "law") (scopeOf ((hd.heap_39 w.params).lookup 128)) s₁.heap.objs.size fa cd))
      (fun f s' => f = .ret (.bool true) ∧ (∀ b o, s₁.heap.get? b = some o → s'.heap.get? b = some o) ∧ s'.os = s₁.os ∧ s'.gens = #[]) E
      { heap := h₁, gens := s₁.gens, drawn := s₁.drawn, toks := tk, os := s₁.os } := by
  have hrow : (lawRow ns).length ≤ 60 := by have := lawRow_len ns; omega
  have hK := lawCalls_K hrow
  have hcl : (lawRow ns).length = (lawCalls (lawRow ns)).length := (lawCalls_len _).symm
  have hA := fact1 hK (lawCalls (lawRow ns)).length
  have R : Rep (XX ⟨w, s₁.heap, mg, mb, ExcName.means s₀.heap, s₁.os⟩) (callerA.deeper (envOfC (Str.ofString "law") (scopeOf ((hd.heap_39 w.params).lookup 128)) s₁.heap.objs.size fa cd))
      (envOfC (Str.ofString "law") (scopeOf ((hd.heap_39 w.params).lookup 128)) s₁.heap.objs.size fa cd)
      ⟨s₁.heap, s₁.heap.objs.size, callerA, [], envOfC (Str.ofString "law") (scopeOf ((hd.heap_39 w.params).lookup 128)) s₁.heap.objs.size fa cd, [], fun _ => False⟩ m [(s₁.heap.objs.size + 1, ob)]
      { heap := h₁, gens := s₁.gens, drawn := s₁.drawn, toks := tk, os := s₁.os } ⟨[], [], []⟩ [(Str.ofString "script", .script ns)] (fun _ => .dead) := by
    refine ⟨⟨K0, KX, T, by rfl, by rfl, by rfl, by rfl⟩, by rfl, by rfl, by rfl, fun _ => by rfl, hg, rfl, F, N0, ?_, ?_, ?_, List.nodup_nil, fun _ h => (by cases h), fun _ h => False.elim h, fun i => ⟨fun h => absurd rfl h, fun h => (by cases h)⟩⟩
    · simp
    · intro x av e
      rw [List.lookup_cons] at e
      split at e
      · rename_i q
        cases e
        have := eq_of_beq q
        subst this
        exact ⟨.ref w3, .inl ⟨by rfl, rfl, hm⟩, .script hL hI⟩
      · cases e
    · intro x c e
      have hc : (envOfC (Str.ofString "law") (scopeOf ((hd.heap_39 w.params).lookup 128)) s₁.heap.objs.size fa cd).cells = [(Str.ofString "row", s₁.heap.objs.size + 1)] := by rfl
      rw [hc] at e ⊢
      rw [List.lookup_cons] at e
      split at e
      · rename_i q
        cases e
        refine ⟨⟨ob, v₀, .head _, hob, fun _ => .head _⟩, ?_, ?_⟩
        · show s₁.heap.objs.size + 1 ≠ s₁.heap.objs.size
          omega
        · intro y hy
          rw [List.lookup_cons] at hy
          split at hy
          · rename_i q'
            rw [eq_of_beq q, eq_of_beq q']
          · cases hy
      · cases e
  refine wpAny_mono (law_walk ⟨w, s₁.heap, mg, mb, ExcName.means s₀.heap, s₁.os⟩ ns hlen _ rfl _ rfl _ hcl _ rfl hA (fact2 hK _) (fact3 (lawCalls_placed _) hK hA) _ _ fa cd ?_ _ _ _ _ _ R _ (fun _ _ => False) fun fl s' g' m' Xc' af lo' st' l R' r p => ?_) (fun _ _ x => x) (fun _ _ x => x.elim)
  · have hc : Room 5 callerA := by constructor <;> decide +kernel
    exact hc.deeper _
  · have hh : ∀ b o, s₁.heap.get? b = some o → s'.heap.get? b = some o := fun b o h => R'.F.keep _ _ h
    cases r with
    | ret hv => change _ = AV.bool true at p; subst p; replace hv := RV.inv hv; obtain rfl := hv; exact ⟨rfl, hh, R'.os, R'.gens⟩
    | next => cases p
    | brk => exact p.elim
    | cont => exact p.elim
end Mine

set_option pp.deepTerms false
set_option pp.deepTerms.threshold 4
set_option maxHeartbeats 8000000
theorem PySem.Challenge.cw_ij0147_01_holds : PySem.Challenge.rw_ij0147_01.Holds := by
  refine Mine.hd (by
    k_go0
    all_goals (try k_fold)
    refine wpAny_mono (Mine.law_top (E := fun _ _ => False) (by assumption) (by assumption) (by assumption) (by assumption) _ _ (by assumption) (by assumption) (by omega) (by assumption) (by assumption) (by assumption) (by rfl)) ?_ ?_
    · rintro _ s' ⟨rfl, h1, h2, h3⟩
      exact ⟨.inl ⟨_, _, [], rfl, fun _ => rfl, ReadsW.bool true, (by first | rfl | wrow_post), fun _ => ⟨List.nodup_nil, fun _ hm => (nomatch hm)⟩⟩, h1, h2, h3⟩
    · exact fun _ _ h => h.elim)
