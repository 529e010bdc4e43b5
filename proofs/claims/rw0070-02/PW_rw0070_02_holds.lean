import PyProof.Rows.All
import Wide.All
import OpenK.AllK
import Wide.FinOn
import PySem.Challenge.RW_rw0070_02
set_option Elab.async false

-- part M1
section
open PySem PySem.Calls PyProof.Rows
set_option linter.unusedVariables false
set_option genSizeOf false
set_option genSizeOfSpec false
namespace Mine

/-! values without a heap -/
inductive V where
  | none
  | bool (b : Bool)
  | int (i : Int)
  | str (s : List Nat)
  | list (xs : List V)
  | tup (xs : List V)
  | dS (ks : List (List Nat)) (vs : List V)
  | dI (ks : List Int) (vs : List V)
  | rng (a b c : Int)
  | any
  deriving Inhabited

abbrev stOf (l : List Nat) : Str := ⟨l.toArray⟩

noncomputable def DObj {prog : Program} {w : World} {K : Type} [DecidableEq K] (knd : KeyKind prog w K) (o : Obj) (kvs : List (K × Value)) : Prop :=
  o.ExactDict ∧ ∃ es ep, o.data = .dict es ep ∧ KeysOf knd es ∧ Pairs knd es.toList kvs ∧ (kvs.map (·.1)).Nodup

/-- a plain list -/
noncomputable def LCls (o : Obj) : Prop := o.cls = .type "list" ∧ o.dict = none
mutual
inductive Rep (p : Program) (w : World) (G : Addr → Obj → Prop) : Value → V → Prop where
  | none : Rep p w G .none .none
  | bool (b) : Rep p w G (.bool b) (.bool b)
  | int (i t) : Rep p w G (.int i t) (.int i)
  | str (s t) : s.length ≤ sizeLine → Rep p w G (.str (stOf s) t) (.str s)
  | list {a o vs n xs} : G a o → LCls o → o.data = .seq (List.toArray vs) n → vs.length ≤ sizeLine → Reps p w G vs xs → Rep p w G (.ref a) (.list xs)
  | tup {a o vs n xs} : G a o → o.cls = .type "tuple" → o.data = .seq (List.toArray vs) n → vs.length ≤ sizeLine → Reps p w G vs xs → Rep p w G (.ref a) (.tup xs)
  | dS {a o ks vals vs} : G a o → ks.length = vals.length ∧ vals.length ≤ sizeLine ∧ (a == sysModules) = false → DObj (PySem.strKind p w) o ((ks.map stOf).zip vals) → Reps p w G vals vs → Rep p w G (.ref a) (.dS ks vs)
  | dI {a o ks vals vs} : G a o → ks.length = vals.length ∧ vals.length ≤ sizeLine ∧ (a == sysModules) = false → DObj (PySem.intKind p w) o (ks.zip vals) → Reps p w G vals vs → Rep p w G (.ref a) (.dI ks vs)
  | rng {ad a b c t u v} : G ad { cls := .type "range", data := .fields #[.int a t, .int b u, .int c v] } → Rep p w G (.ref ad) (.rng a b c)
  | any {v} : Rep p w G v .any
inductive Reps (p : Program) (w : World) (G : Addr → Obj → Prop) : List Value → List V → Prop where
  | nil : Reps p w G [] []
  | cons {v t vs ts} : Rep p w G v t → Reps p w G vs ts → Reps p w G (v :: vs) (t :: ts)
end

section
variable {p : Program} {w : World}
theorem Rep.mono {G G' : Addr → Obj → Prop} (h : ∀ a o, G a o → G' a o) {v t} (r : Rep p w G v t) : Rep p w G' v t :=
  Rep.rec (motive_1 := fun v t _ => Rep p w G' v t) (motive_2 := fun vs ts _ => Reps p w G' vs ts) .none .bool .int .str (fun g c d z _ ih => .list (h _ _ g) c d z ih) (fun g c d z _ ih => .tup (h _ _ g) c d z ih)
    (fun g l d _ ih => .dS (h _ _ g) l d ih) (fun g l d _ ih => .dI (h _ _ g) l d ih) (fun g => .rng (h _ _ g)) .any .nil (fun _ _ a b => .cons a b) r
theorem Reps.mono {G G' : Addr → Obj → Prop} (h : ∀ a o, G a o → G' a o) {vs ts} (r : Reps p w G vs ts) : Reps p w G' vs ts := by
  induction vs generalizing ts with
  | nil => cases r; exact .nil
  | cons v vs ih => cases r with | cons a b => exact .cons (Rep.mono h a) (ih b)
variable {G G' : Addr → Obj → Prop}

theorem Reps.length {vs ts} (h : Reps p w G vs ts) : vs.length = ts.length := by
  induction vs generalizing ts with
  | nil => cases h; rfl
  | cons v vs ih => cases h with | cons a b => simp [ih b]
theorem Reps.get {vs ts} (h : Reps p w G vs ts) : ∀ {i : Nat} {t}, ts[i]? = some t → ∃ v, vs[i]? = some v ∧ Rep p w G v t := by
  induction vs generalizing ts with
  | nil => cases h; intro i t e; simp at e
  | cons v vs ih =>
    cases h with
    | cons a b =>
      intro i t e
      cases i with
      | zero => simp at e; subst e; exact ⟨v, by simp, a⟩
      | succ i => simp at e; obtain ⟨w, q, r⟩ := ih b e; exact ⟨w, by simpa using q, r⟩
theorem Reps.get' {vs ts} (h : Reps p w G vs ts) : ∀ {i : Nat} {v}, vs[i]? = some v → ∃ t, ts[i]? = some t ∧ Rep p w G v t := by
  induction vs generalizing ts with
  | nil => cases h; intro i t e; simp at e
  | cons v vs ih =>
    cases h with
    | cons a b =>
      intro i t e
      cases i with
      | zero => simp at e; subst e; exact ⟨_, by simp, a⟩
      | succ i => simp at e; obtain ⟨w, q, r⟩ := ih b e; exact ⟨w, by simpa using q, r⟩
theorem Reps.take {vs ts} (n : Nat) (h : Reps p w G vs ts) : Reps p w G (vs.take n) (ts.take n) := by
  induction vs generalizing ts n with
  | nil => cases h; rw [List.take_nil, List.take_nil]; exact .nil
  | cons v vs ih => cases h with
    | cons a b => cases n with
      | zero => exact .nil
      | succ n => exact .cons a (ih n b)
theorem Reps.drop {vs ts} (n : Nat) (h : Reps p w G vs ts) : Reps p w G (vs.drop n) (ts.drop n) := by
  induction n generalizing vs ts with
  | zero => exact h
  | succ n ih => cases h with
    | nil => exact .nil
    | cons a b => exact ih b
theorem Reps.set {vs ts v t} (n : Nat) (h : Reps p w G vs ts) (hv : Rep p w G v t) : Reps p w G (vs.set n v) (ts.set n t) := by
  induction vs generalizing ts n with
  | nil => cases h; exact .nil
  | cons v vs ih => cases h with
    | cons a b => cases n with
      | zero => exact .cons hv b
      | succ n => exact .cons a (ih n b)
theorem Reps.of_get {vs : List Value} {ts : List V} (hl : vs.length = ts.length) (h : ∀ (i : Nat) v t, vs[i]? = some v → ts[i]? = some t → Rep p w G v t) : Reps p w G vs ts := by
  induction vs generalizing ts with
  | nil => cases ts with
    | nil => exact .nil
    | cons => cases hl
  | cons v vs ih => cases ts with
    | nil => cases hl
    | cons t ts => exact .cons (h 0 v t rfl rfl) (ih (Nat.succ.inj hl) fun i v' t' e e' => h (i + 1) v' t' e e')

noncomputable def V.flat : V → Bool
  | .none | .bool _ | .int _ | .str _ => true
  | _ => false
theorem Rep.flat {v t} (h : Rep p w G v t) (f : t.flat = true) : Rep p w G' v t := by
  cases h with
  | none => exact .none
  | bool => exact .bool _
  | int => exact .int _ _
  | str _ _ z => exact .str _ _ z
  | list => cases f
  | tup => cases f
  | dS => cases f
  | dI => cases f
  | rng => cases f
  | any => cases f
end

inductive All2 {α β : Type} (R : α → β → Prop) : List α → List β → Prop where
  | nil : All2 R [] []
  | cons {a b as bs} : R a b → All2 R as bs → All2 R (a :: as) (b :: bs)
namespace All2
variable {α β : Type} {R R' : α → β → Prop}
theorem mono (h : ∀ a b, R a b → R' a b) {as bs} (x : All2 R as bs) : All2 R' as bs := by
  induction x with
  | nil => exact .nil
  | cons a _ ih => exact .cons (h _ _ a) ih
theorem length {as bs} (x : All2 R as bs) : as.length = bs.length := by
  induction x with
  | nil => rfl
  | cons _ _ ih => exact congrArg (· + 1) ih
theorem get {as : List α} {bs : List β} (x : All2 R as bs) : ∀ {i : Nat} {b}, bs[i]? = some b → ∃ a, as[i]? = some a ∧ R a b := by
  induction x with
  | nil => intro i b e; cases e
  | cons a _ ih =>
    intro i b e
    cases i with
    | zero => cases e; exact ⟨_, rfl, a⟩
    | succ i => exact ih e
theorem of_get {as : List α} {bs : List β} (hl : as.length = bs.length) (h : ∀ (i : Nat) a b, as[i]? = some a → bs[i]? = some b → R a b) : All2 R as bs := by
  induction as generalizing bs with
  | nil => cases bs with
    | nil => exact .nil
    | cons => cases hl
  | cons v vs ih => cases bs with
    | nil => cases hl
    | cons t ts => exact .cons (h 0 v t rfl rfl) (ih (Nat.succ.inj hl) fun i v' t' e e' => h (i + 1) v' t' e e')
theorem cons_inv {as : List α} {b : β} {bs : List β} (x : All2 R as (b :: bs)) : ∃ a as', as = a :: as' ∧ R a b ∧ All2 R as' bs := by
  cases x with | cons h t => exact ⟨_, _, rfl, h, t⟩
theorem nil_inv {as : List α} (x : All2 R as []) : as = [] := by cases x; rfl
end All2
theorem Reps.all2 {p w G} {vs ts} (h : Reps p w G vs ts) : All2 (Rep p w G) vs ts := by
  induction vs generalizing ts with
  | nil => cases h; exact .nil
  | cons v vs ih => cases h with | cons a b => exact .cons a (ih b)
theorem Reps.of_all2 {p w G} {vs ts} (h : All2 (Rep p w G) vs ts) : Reps p w G vs ts := by
  induction h with
  | nil => exact .nil
  | cons a _ ih => exact .cons a ih

/-- what a value is, by what it means -/
inductive RL (p : Program) (w : World) (G : Addr → Obj → Prop) (cl : Obj → Prop) (v : Value) (xs : List V) : Prop where
  | mk (a : Addr) (o : Obj) (vs : List Value) (n : Nat) (e : v = .ref a) (g : G a o) (c : cl o) (dt : o.data = .seq (List.toArray vs) n) (z : vs.length ≤ sizeLine) (r : Reps p w G vs xs)
inductive RDct {K : Type} [DecidableEq K] (p : Program) (w : World) (G : Addr → Obj → Prop) (knd : KeyKind p w K) (v : Value) (ks : List K) (n : Nat) (vs : List V) : Prop where
  | mk (a : Addr) (o : Obj) (vals : List Value) (e : v = .ref a) (g : G a o) (hz : n = vals.length ∧ vals.length ≤ sizeLine ∧ (a == sysModules) = false) (d : DObj knd o (ks.zip vals)) (r : Reps p w G vals vs)
noncomputable def RepInv (p : Program) (w : World) (G : Addr → Obj → Prop) (v : Value) : V → Prop
  | .none => v = .none
  | .bool b => v = .bool b
  | .int i => ∃ t, v = .int i t
  | .str s => ∃ t, v = .str (stOf s) t ∧ s.length ≤ sizeLine
  | .list xs => RL p w G LCls v xs
  | .tup xs => RL p w G (fun o => o.cls = .type "tuple") v xs
  | .dS ks vs => RDct p w G (PySem.strKind p w) v (ks.map stOf) ks.length vs
  | .dI ks vs => RDct p w G (PySem.intKind p w) v ks ks.length vs
  | .rng a b c => ∃ ad t u x, v = .ref ad ∧ G ad { cls := .type "range", data := .fields #[.int a t, .int b u, .int c x] }
  | .any => True
theorem Rep.inv {p w G v t} (h : Rep p w G v t) : RepInv p w G v t := by
  cases h with
  | none => rfl
  | bool => rfl
  | int _ u => exact ⟨u, rfl⟩
  | str _ u z => exact ⟨u, rfl, z⟩
  | list g c d z r => exact ⟨_, _, _, _, rfl, g, c, d, z, r⟩
  | tup g c d z r => exact ⟨_, _, _, _, rfl, g, c, d, z, r⟩
  | dS g z d r => exact ⟨_, _, _, rfl, g, z, d, r⟩
  | dI g z d r => exact ⟨_, _, _, rfl, g, z, d, r⟩
  | rng g => exact ⟨_, _, _, _, rfl, g⟩
  | any => trivial

/-! d levels from the top are lists that may still be changed -/
noncomputable def RepD (p : Program) (w : World) (G0 G1 : Addr → Obj → Prop) : Nat → Value → V → Prop
  | 0 => Rep p w G0
  | d + 1 => fun v t => ∃ a o vs n xs, v = .ref a ∧ t = .list xs ∧ G1 a o ∧ LCls o ∧ o.data = .seq (List.toArray vs) n ∧ vs.length ≤ sizeLine ∧ All2 (RepD p w G0 G1 d) vs xs

section
variable {p : Program} {w : World} {G0 G1 G0' G1' : Addr → Obj → Prop}
theorem RepD.mono (h0 : ∀ a o, G0 a o → G0' a o) (h1 : ∀ a o, G1 a o → G1' a o) {d v t} (h : RepD p w G0 G1 d v t) : RepD p w G0' G1' d v t := by
  induction d generalizing v t with
  | zero => exact Rep.mono h0 h
  | succ d ih =>
    obtain ⟨a, o, vs, n, xs, e1, e2, g, r⟩ := h
    exact ⟨a, o, vs, n, xs, e1, e2, h1 _ _ g, r.1, r.2.1, r.2.2.1, r.2.2.2.mono fun _ _ q => ih q⟩
theorem RepD.rep {G : Addr → Obj → Prop} (h0 : ∀ a o, G0 a o → G a o) (h1 : ∀ a o, G1 a o → G a o) {d v t} (h : RepD p w G0 G1 d v t) : Rep p w G v t := by
  induction d generalizing v t with
  | zero => exact Rep.mono h0 h
  | succ d ih =>
    obtain ⟨a, o, vs, n, xs, rfl, rfl, g, r⟩ := h
    exact .list (h1 _ _ g) r.1 r.2.1 r.2.2.1 (Reps.of_all2 (r.2.2.2.mono fun _ _ q => ih q))
noncomputable def V.isL : V → Bool
  | .list _ => true
  | _ => false
theorem RepD.inv {d v t} (h : RepD p w G0 G1 d v t) (f : t.isL = false) : RepInv p w G0 v t := by
  cases d with
  | zero => exact Rep.inv h
  | succ d => obtain ⟨a, o, vs, n, xs, e1, e2, _⟩ := h; subst e2; cases f
end

/-! heaps -/
noncomputable def Keeps (h h' : Heap) : Prop := ∀ b o, h.get? b = some o → h'.get? b = some o
theorem Keeps.refl (h : Heap) : Keeps h h := fun _ _ e => e
theorem Keeps.trans {a b c : Heap} (x : Keeps a b) (y : Keeps b c) : Keeps a c := fun p o e => y p o (x p o e)
inductive Ext (s s' : Shared) : Prop where
  | mk (h' : Heap) (tk : Nat) (e : s' = { s with heap := h', toks := tk }) (k : Keeps s.heap h')
theorem Ext.refl (s : Shared) : Ext s s := ⟨s.heap, s.toks, rfl, Keeps.refl _⟩
theorem Ext.trans {a b c : Shared} (x : Ext a b) (y : Ext b c) : Ext a c := by
  obtain ⟨h1, t1, rfl, k1⟩ := x
  obtain ⟨h2, t2, rfl, k2⟩ := y
  exact ⟨h2, t2, rfl, k1.trans k2⟩
theorem Ext.tok (s : Shared) (t : Nat) : Ext s { s with toks := t } := ⟨s.heap, t, rfl, Keeps.refl _⟩
theorem Ext.keeps {s s' : Shared} (x : Ext s s') : Keeps s.heap s'.heap := by obtain ⟨h1, t1, rfl, k1⟩ := x; exact k1
theorem Ext.of {s : Shared} {h' : Heap} {tk : Nat} (k : Keeps s.heap h') : Ext s { s with heap := h', toks := tk } := ⟨_, _, rfl, k⟩
theorem Keeps.push (h : Heap) (o : Obj) : Keeps h (h.push o) := fun _ _ e => Heap.get?_push_of_some _ e
theorem Ext.push (s : Shared) (o : Obj) (t : Nat) : Ext s { s with heap := s.heap.push o, toks := t } := ⟨_, _, rfl, Keeps.push _ _⟩

noncomputable def Alive (h : Heap) (a : Addr) : Prop := ∃ o, h.get? a = some o
theorem Alive.keeps {h h' : Heap} {a} (x : Alive h a) (k : Keeps h h') : Alive h' a := let ⟨o, e⟩ := x; ⟨o, k _ _ e⟩
theorem Alive.lt {h : Heap} {a} (x : Alive h a) : a < h.objs.size := let ⟨_, e⟩ := x; Heap.lt_size e
theorem not_alive_size (h : Heap) : ¬ Alive h h.objs.size := fun x => Nat.lt_irrefl _ x.lt
theorem none_of_ge {h : Heap} {a} (x : h.objs.size ≤ a) : h.get? a = none := by
  cases e : h.get? a with
  | none => rfl
  | some o => exact absurd (Heap.lt_size e) (Nat.not_lt.mpr x)

noncomputable def Gb (h : Heap) (bad : Addr → Prop) (a : Addr) (o : Obj) : Prop := h.get? a = some o ∧ ¬ bad a
theorem Gb.keeps {h h' : Heap} {bad : Addr → Prop} (k : Keeps h h') : ∀ a o, Gb h bad a o → Gb h' bad a o := fun a o g => ⟨k a o g.1, g.2⟩
theorem Gb.weak {h : Heap} {bad bad' : Addr → Prop} (k : ∀ a, bad' a → bad a) : ∀ a o, Gb h bad a o → Gb h bad' a o := fun a o g => ⟨g.1, fun x => g.2 (k a x)⟩

/-! the theory of the globals -/
structure GT where
  prog : Program
  w : World
  mg : Str → Option Value
  mb : Str → Option Value
  h0 : Heap
  g : h0.Ns mainGlobals mg
  b : h0.Ns builtinsNs mb
  lim : h0.NoLimit

noncomputable def AOk (k : Nat) (A : Around) : Prop := A.handled = none ∧ A.depth + k < recursionLimit ∧ A.units + 100 * k + 100 < cLine
theorem AOk.deeper {k : Nat} {A : Around} {env : Env} (h : AOk (k + 1) A) : AOk k (A.deeper env) := by
  obtain ⟨a, b, c⟩ := h
  refine ⟨a, ?_, ?_⟩
  · show A.depth + 1 + k < _; lia
  · show A.units + 3 + 100 * k + 100 < _; lia
theorem AOk.down {k j : Nat} {A : Around} (h : AOk k A) (hj : j ≤ k) : AOk j A := by
  obtain ⟨a, b, c⟩ := h
  exact ⟨a, by lia, by lia⟩

structure Frm (env : Env) (h : Heap) (m cm : Str → Option Value) : Prop where
  ns : h.Ns env.locals m
  cell : ∀ n c, env.cells.lookup n = some c → h.IsCell c (cm n)
theorem Frm.keeps {env : Env} {h h' : Heap} {m cm} (x : Frm env h m cm) (k : Keeps h h') : Frm env h' m cm := ⟨x.ns.keeps k, fun n c e => (x.cell n c e).keeps k⟩

noncomputable def varKind : Option NameKind → Bool
  | some .local | some .cell | some .free => true
  | _ => false
noncomputable def valAt (env : Env) (m cm : Str → Option Value) (x : Str) : Option Value :=
  match env.kindOf x with
  | some .local => m x
  | some .cell => if (env.cells.lookup x).isSome then cm x else none
  | some .free => if (env.cells.lookup x).isSome then cm x else none
  | _ => none

abbrev Rv := List (Nat × V × Nat)

inductive Ex2 {α β : Type} (P Q : α → β → Prop) : Prop where
  | mk (a : α) (b : β) (p : P a b) (q : Q a b)
structure Rd (T : GT) (env : Env) (sc : Scope) (names : List Str) (r : Rv) (bad bc : Addr → Prop) (s : Shared) : Prop where
  base : Keeps T.h0 s.heap
  kind : env.scope.kind = .function
  glo : env.globals = mainGlobals
  blt : env.builtins = builtinsNs
  scq : env.scope = sc
  cel : ∀ x, sc.names.lookup x = some .cell → (env.cells.lookup x).isSome = true
  badok : ∀ a, bad a → Alive s.heap a ∧ T.h0.get? a = none
  sub : ∀ a, bc a → bad a
  vals : Ex2 (fun m cm => Frm env s.heap m cm) fun m cm => ∀ i t d x, r.lookup i = some (t, d) → names[i]? = some x → varKind (sc.names.lookup x) = true →
    ∃ v, valAt env m cm x = some v ∧ RepD T.prog T.w (Gb s.heap bad) (Gb s.heap bc) d v t

theorem Rd.scg {T env sc names r bad bc s} (R : Rd T env sc names r bad bc s) {x : Str} (h : sc.names.lookup x = some .globalImplicit) : env.kindOf x = some .globalImplicit := by
  unfold Env.kindOf; rw [R.scq]; exact h
theorem Rd.keep {T env sc names r bad bc s s'} (R : Rd T env sc names r bad bc s) (x : Ext s s') : Rd T env sc names r bad bc s' := by
  have k := x.keeps
  obtain ⟨m, cm, F, v⟩ := R.vals
  exact ⟨R.base.trans k, R.kind, R.glo, R.blt, R.scq, R.cel, fun a h => ⟨(R.badok a h).1.keeps k, (R.badok a h).2⟩, R.sub, m, cm, F.keeps k, fun i t d x e1 e2 e3 =>
    let ⟨u, h1, h2⟩ := v i t d x e1 e2 e3; ⟨u, h1, h2.mono (Gb.keeps k) (Gb.keeps k)⟩⟩

/-! the judgement of expressions: whatever the frame, the expression ends in a value that Q takes -/
inductive Is (T : GT) (bad bc : Addr → Prop) (s : Shared) (Q : V → Nat → Prop) (v : Value) (s' : Shared) : Prop where
  | of (x : Ext s s') (t : V) (d : Nat) (q : Q t d) (r : RepD T.prog T.w (Gb s'.heap bad) (Gb s'.heap bc) d v t)
noncomputable def No (_ : Value) (_ : Shared) : Prop := False

noncomputable def EVW (T : GT) (k : Nat) (sc : Scope) (names : List Str) (r : Rv) (e : Expr) (Q : V → Nat → Prop) : Prop :=
  ∀ A env bad bc s, AOk k A → Rd T env sc names r bad bc s → wpAny (model T.prog T.w) A (eval e env) (Is T bad bc s Q) No s
noncomputable def TVW (T : GT) (k : Nat) (sc : Scope) (names : List Str) (r : Rv) (e : Expr) (Q : Bool → Prop) : Prop :=
  ∀ A env bad bc s, AOk k A → Rd T env sc names r bad bc s → wpAny (model T.prog T.w) A (isTrue e env (eval e env)) (fun b s' => Ext s s' ∧ Q b) No s

theorem wp_no {α : Type} {M : Model} {A : Around} {t : Sem α} {Q Q' : α → Shared → Prop} {E : Value → Shared → Prop} {s : Shared}
    (h : wpAny M A t Q No s) (q : ∀ a s, Q a s → Q' a s) : wpAny M A t Q' E s := wpAny_mono h q fun _ _ x => x.elim

theorem Is.trans {T bad bc s s1 Q v s'} (x : Ext s s1) (h : Is T bad bc s1 Q v s') : Is T bad bc s Q v s' := let ⟨y, t, d, q, r⟩ := h; ⟨x.trans y, t, d, q, r⟩

end Mine
end

-- part M2
section
open PySem PySem.Calls PyProof.Rows
set_option linter.unusedVariables false
set_option genSizeOf false
set_option genSizeOfSpec false
set_option genInjectivity false
namespace Mine

theorem sl_eq : sizeLine = 16777216 := by rw [sizeLine_eq]

section
variable {T : GT} {bad bc : Addr → Prop} {s : Shared} {Q : V → Nat → Prop}
theorem Is.mk {v t d s'} (x : Ext s s') (q : Q t d) (h : RepD T.prog T.w (Gb s'.heap bad) (Gb s'.heap bc) d v t) : Is T bad bc s Q v s' := ⟨x, t, d, q, h⟩
theorem Is.int {i : Int} {tk n} (q : Q (.int i) 0) : Is T bad bc s Q (.int i tk) { s with toks := n } := .mk (Ext.tok _ _) q (.int _ _)
theorem Is.bool {b : Bool} (q : Q (.bool b) 0) : Is T bad bc s Q (.bool b) s := .mk (Ext.refl _) q (.bool _)
theorem Is.str {l : List Nat} {x : Str} {tk n} (q : Q (.str l) 0) (e : x = stOf l) (h : l.length ≤ sizeLine) : Is T bad bc s Q (.str x tk) { s with toks := n } := .mk (Ext.tok _ _) q (by subst e; exact .str _ _ h)
theorem Is.int' {i : Int} {tk n h'} (k : Keeps s.heap h') (q : Q (.int i) 0) : Is T bad bc s Q (.int i tk) { s with heap := h', toks := n } := .mk (Ext.of k) q (.int _ _)
end

/-! binary operators -/
noncomputable def asInt (v : V) (f : Int → Prop) : Prop := match v with
  | .int i => f i
  | _ => False
noncomputable def asStr (v : V) (f : List Nat → Prop) : Prop := match v with
  | .str i => f i
  | _ => False
theorem asInt_inv {v : V} {f : Int → Prop} (h : asInt v f) : ∃ i, v = .int i ∧ f i := by
  cases v with
  | int i => exact ⟨i, rfl, h⟩
  | _ => exact h.elim
theorem asStr_inv {v : V} {f : List Nat → Prop} (h : asStr v f) : ∃ i, v = .str i ∧ f i := by
  cases v with
  | str i => exact ⟨i, rfl, h⟩
  | _ => exact h.elim
theorem asInt2 {a b : V} {f : Int → Int → Prop} (h : asInt a fun x => asInt b fun y => f x y) : ∃ x y, a = .int x ∧ b = .int y ∧ f x y := by
  obtain ⟨x, hx, h1⟩ := asInt_inv h
  obtain ⟨y, hy, h2⟩ := asInt_inv h1
  exact ⟨x, y, hx, hy, h2⟩
noncomputable def asList (v : V) (f : List V → Prop) : Prop := match v with
  | .list i => f i
  | _ => False
theorem asList_inv {v : V} {f : List V → Prop} (h : asList v f) : ∃ i, v = .list i ∧ f i := by
  cases v with
  | list i => exact ⟨i, rfl, h⟩
  | _ => exact (show False from h).elim
noncomputable def addW (a : V) (da : Nat) (b : V) (db : Nat) (Q : V → Nat → Prop) : Prop := match a with
  | .int x => asInt b fun y => Q (.int (x + y)) 0
  | .str x => asStr b fun y => x.length + y.length ≤ 1000000 ∧ Q (.str (x ++ y)) 0
  | .list x => asList b fun y => da ≤ 1 ∧ db ≤ 1 ∧ x.length + y.length ≤ 10000 ∧ Q (.list (x ++ y)) 0
  | _ => False
noncomputable def mulW (a b : V) (Q : V → Nat → Prop) : Prop := match a with
  | .int x => asInt b fun y => x.natAbs < 2 ^ 60 ∧ Q (.int (x * y)) 0
  | _ => False
noncomputable def binW (op : Operator) (a : V) (da : Nat) (b : V) (db : Nat) (Q : V → Nat → Prop) : Prop := match op with
  | .Add => addW a da b db Q
  | .Sub => asInt a fun x => asInt b fun y => Q (.int (x - y)) 0
  | .Mult => mulW a b Q
  | .FloorDiv => asInt a fun x => asInt b fun y => 0 < y ∧ y < 1000000000 ∧ Q (.int (x / y)) 0
  | .Mod => asInt a fun x => asInt b fun y => 0 < y ∧ Q (.int (x % y)) 0
  | .Pow => asInt a fun x => asInt b fun y => 0 ≤ y ∧ y ≤ 1000 ∧ x.natAbs < 2 ^ 60 ∧ Q (.int (x ^ y.toNat)) 0
  | _ => False

theorem fdiv_pos (x : Int) {y : Int} (h : 0 < y) : x.fdiv y = x / y := Int.fdiv_eq_ediv_of_nonneg x (Int.le_of_lt h)
theorem fmod_pos (x : Int) {y : Int} (h : 0 < y) : x.fmod y = x % y := Int.fmod_eq_emod_of_nonneg x (Int.le_of_lt h)

theorem bits60 {x : Int} (h : x.natAbs < 2 ^ 60) : Builtin.Int.intBits x ≤ 64 := by
  unfold Builtin.Int.intBits
  split
  · lia
  · have := (Nat.log2_lt (n := x.natAbs) (k := 60) (by intro e; simp_all [Int.natAbs_eq_zero])).mpr h
    lia

theorem stOf_length (l : List Nat) : (stOf l).length = l.length := by simp [Str.length]
theorem stOf_append (a b : List Nat) : stOf a ++ stOf b = stOf (a ++ b) := by
  show Str.append _ _ = _
  simp [Str.append, stOf]
theorem foldl_arr (x : List Nat) : ∀ (n : Nat) (acc : List Nat), (List.replicate n x.toArray).foldl (· ++ ·) acc.toArray = (acc ++ (List.replicate n x).flatten).toArray
  | 0, acc => by simp
  | n + 1, acc => by
    rw [List.replicate_succ, List.foldl_cons]
    have : acc.toArray ++ x.toArray = (acc ++ x).toArray := by simp
    rw [this, foldl_arr x n (acc ++ x), List.replicate_succ, List.flatten_cons, List.append_assoc]
theorem flat_len (x : List Nat) (n : Nat) : (List.replicate n x).flatten.length = n * x.length := by simp

section
variable {T : GT} {bad bc : Addr → Prop} {s : Shared} {Q : V → Nat → Prop} {A : Around} {k : Nat} {E : Value → Shared → Prop}

theorem RepD.int_inv {p w G G' d v i} (h : RepD p w G G' d v (.int i)) : ∃ t, v = .int i t := h.inv rfl
theorem RepD.str_inv {p w G G' d v l} (h : RepD p w G G' d v (.str l)) : ∃ t, v = .str (stOf l) t ∧ l.length ≤ sizeLine := h.inv rfl
theorem RepD.bool_inv {p w G G' d v b} (h : RepD p w G G' d v (.bool b)) : v = .bool b := h.inv rfl
theorem RepD.none_inv {p w G G' d v} (h : RepD p w G G' d v .none) : v = .none := h.inv rfl
@[elab_as_elim] theorem RepD.int_k {p w G G' d v i} {P : Value → Prop} (h : RepD p w G G' d v (.int i)) (k : ∀ t, P (.int i t)) : P v := let ⟨t, e⟩ := h.int_inv; e ▸ k t
@[elab_as_elim] theorem RepD.str_k {p w G G' d v l} {P : Value → Prop} (h : RepD p w G G' d v (.str l)) (k : ∀ t, l.length ≤ sizeLine → P (.str (stOf l) t)) : P v := let ⟨t, e, z⟩ := h.str_inv; e ▸ k t z
/-- two integers -/
@[elab_as_elim] theorem intsK {p w G0 G1 G0' G1' d e va vb a b} {f : Int → Int → Prop} {P : Value → Value → Prop} (ha : RepD p w G0 G1 d va a) (hb : RepD p w G0' G1' e vb b) (h : asInt a fun x => asInt b fun y => f x y) (k : ∀ x y t u, f x y → P (.int x t) (.int y u)) : P va vb := by
  obtain ⟨x, y, rfl, rfl, h⟩ := asInt2 h
  obtain ⟨t, rfl⟩ := ha.int_inv
  obtain ⟨u, rfl⟩ := hb.int_inv
  exact k x y t u h
@[elab_as_elim] theorem int1 {p w G0 G1 d va a} {f : Int → Prop} {P : Value → Prop} (ha : RepD p w G0 G1 d va a) (h : asInt a f) (k : ∀ x t, f x → P (.int x t)) : P va := by
  obtain ⟨x, rfl, h⟩ := asInt_inv h
  obtain ⟨t, rfl⟩ := ha.int_inv
  exact k x t h
@[elab_as_elim] theorem str1 {p w G0 G1 d va a} {f : List Nat → Prop} {P : Value → Prop} (ha : RepD p w G0 G1 d va a) (h : asStr a f) (k : ∀ x t, x.length ≤ sizeLine → f x → P (.str (stOf x) t)) : P va := by
  obtain ⟨x, rfl, h⟩ := asStr_inv h
  obtain ⟨t, rfl, z⟩ := ha.str_inv
  exact k x t z h

theorem bin_add_str {l m : List Nat} {t u : Tok} (h1 : l.length ≤ sizeLine) (h2 : m.length ≤ sizeLine) (h : l.length + m.length ≤ 1000000) (q : Q (.str (l ++ m)) 0) :
    (if (stOf l).length == 0 then Made.val (.str (stOf m) u) else if (stOf m).length == 0 then Made.val (.str (stOf l) t) else Made.str (stOf l ++ stOf m)).post (Is T bad bc s Q) s := by
  rw [stOf_length, stOf_length]
  split
  · rename_i e
    have : l = [] := List.length_eq_zero_iff.mp (by simpa using e)
    subst this
    exact .mk (Ext.refl _) q (.str _ _ h2)
  · split
    · rename_i e
      have : m = [] := List.length_eq_zero_iff.mp (by simpa using e)
      subst this
      rw [List.append_nil] at q; exact .mk (Ext.refl _) q (.str _ _ h1)
    · have hz : (l ++ m).length ≤ sizeLine := by rw [sl_eq, List.length_append]; lia
      exact ⟨by rw [stOf_append, stOf_length]; exact hz, Is.str q (stOf_append _ _) hz⟩

inductive LInv (p : Program) (w : World) (G0 G1 : Addr → Obj → Prop) (d : Nat) (v : Value) (xs : List V) : Prop where
  | mk (a : Addr) (o : Obj) (vs : List Value) (n : Nat) (e : v = .ref a) (g : G0 a o ∨ G1 a o) (c : LCls o) (dt : o.data = .seq (List.toArray vs) n) (z : vs.length ≤ sizeLine) (r : All2 (RepD p w G0 G1 (d - 1)) vs xs)
theorem RepD.list_inv {p : Program} {w : World} {G0 G1 : Addr → Obj → Prop} {d v xs} (h : RepD p w G0 G1 d v (.list xs)) : LInv p w G0 G1 d v xs := by
  cases d with
  | zero =>
    obtain ⟨a, o, vs, n, e, g, c, dt, z, r⟩ := Rep.inv h
    exact ⟨a, o, vs, n, e, .inl g, c, dt, z, r.all2⟩
  | succ d =>
    obtain ⟨a, o, vs, n, ys, e1, e2, g, c, dt, z, r⟩ := h
    cases e2
    exact ⟨a, o, vs, n, e1, .inr g, c, dt, z, r⟩
theorem isList_of {h : Heap} {a o vs n} (e : h.get? a = some o) (c : LCls o) (d : o.data = .seq (List.toArray vs) n) : h.IsList a vs.toArray := ⟨o, e, c.1, n, d⟩
theorem isTuple_of {h : Heap} {a o vs n} (e : h.get? a = some o) (c : o.cls = .type "tuple") (d : o.data = .seq (List.toArray vs) n) : h.IsTuple a vs.toArray := ⟨o, e, c, n, d⟩
theorem Reps.append {p w G} {vs ts vs' ts'} (h : Reps p w G vs ts) (h' : Reps p w G vs' ts') : Reps p w G (vs ++ vs') (ts ++ ts') := by
  induction vs generalizing ts with
  | nil => cases h; exact h'
  | cons v vs ih => cases h with | cons a b => exact .cons a (ih b)

theorem add_list {a b : Addr} {vs us : List Value} {QQ : Value → Shared → Prop} (hl : s.heap.IsList a vs.toArray) (hb : s.heap.IsList b us.toArray) (hz : vs.length + us.length ≤ sizeLine)
    (h : QQ (.ref s.heap.objs.size) { s with heap := s.heap.push { cls := .type "list", data := .seq (vs ++ us).toArray } }) : wpAny (model T.prog T.w) A (binaryOp .Add (.ref a) (.ref b)) QQ E s := by
  obtain ⟨⟨cls, dd, data, sl⟩, ho, hc, n, hd⟩ := id hl
  obtain ⟨⟨cls2, dd2, data2, sl2⟩, ho2, hc2, n2, hd2⟩ := id hb
  simp only at hc hd hc2 hd2
  subst hc hd hc2 hd2
  have e : vs.toArray ++ us.toArray = (vs ++ us).toArray := by simp
  refine concat_meets ⟨_, ho, rfl⟩ ⟨_, ho2, rfl⟩ noFill_list_add seq_list_add PySem.F.slot_list_add PySem.F.entry_list_add (PySem.F.args_list_add_2 _ _) (list_addW a b vs.toArray us.toArray n n2 dd dd2 sl sl2 (by simpa using hz)) ⟨ho, ho2, ?_⟩
  rw [e]
  exact h

@[elab_as_elim] theorem list1 {p w G0 G1 d va a} {f : List V → Prop} {P : Value → Prop} (ha : RepD p w G0 G1 d va a) (h : asList a f) (k : ∀ x, LInv p w G0 G1 d va x → f x → P va) : P va := by
  obtain ⟨x, rfl, h⟩ := asList_inv h
  exact k x ha.list_inv h
@[elab_as_elim] theorem LInv.open {p w G0 G1 d v xs} {P : Value → Prop} (h : LInv p w G0 G1 d v xs) (k : ∀ a o vs n, (G0 a o ∨ G1 a o) → LCls o → o.data = .seq (List.toArray vs) n → vs.length ≤ sizeLine → vs.length = xs.length → All2 (RepD p w G0 G1 (d - 1)) vs xs → P (.ref a)) : P v := by
  obtain ⟨a, o, vs, n, rfl, g, c, dt, z, r⟩ := h
  exact k a o vs n g c dt z r.length r
@[elab_as_elim] theorem LInv.isk {h : Heap} {bad bc : Addr → Prop} {p w d v xs} {P : Value → Prop} (r : LInv p w (Gb h bad) (Gb h bc) d v xs) (k : ∀ a vs, h.IsList a vs.toArray → vs.length ≤ sizeLine → vs.length = xs.length → All2 (RepD p w (Gb h bad) (Gb h bc) (d - 1)) vs xs → P (.ref a)) : P v :=
  LInv.open r fun a o vs n g c dt z l r => k a vs (isList_of (g.elim (·.1) (·.1)) c dt) z l r
theorem add_lists {da db va vb x y} (hbad : ∀ a, bad a → Alive s.heap a) (ha : LInv T.prog T.w (Gb s.heap bad) (Gb s.heap bc) da va x) (hb : LInv T.prog T.w (Gb s.heap bad) (Gb s.heap bc) db vb y) (hda : da ≤ 1) (hdb : db ≤ 1)
    (hn : x.length + y.length ≤ 10000) (h : Q (.list (x ++ y)) 0) : wpAny (model T.prog T.w) A (binaryOp .Add va vb) (Is T bad bc s Q) E s := by
  have e1 : da - 1 = 0 := by lia
  have e2 : db - 1 = 0 := by lia
  refine ha.isk fun a1 vs g1 z1 l1 r1 => hb.isk fun a2 us g2 z2 l2 r2 => ?_
  rw [e1] at r1; rw [e2] at r2
  have hz : vs.length + us.length ≤ sizeLine := by rw [sl_eq]; lia
  refine add_list g1 g2 hz ?_
  exact .mk (Ext.push _ _ _) h (.list (n := 0) (vs := vs ++ us) ⟨Heap.get?_push_size _ rfl, fun hb => not_alive_size _ (hbad _ hb)⟩ ⟨rfl, rfl⟩ rfl (by rw [List.length_append]; exact hz) (((Reps.of_all2 r1).append (Reps.of_all2 r2)).mono (Gb.keeps (Keeps.push _ _))))
theorem fdiv_ok {x y : Int} {t u : Tok} {QQ : Value → Shared → Prop} (h1 : 0 < y) (h2 : y < 1000000000) (h : ∀ t n, QQ (.int (x / y) t) { s with toks := n }) : wpAny (model T.prog T.w) A (binaryOp .FloorDiv (.int x t) (.int y u)) QQ E s :=
  floordiv_int (Int.ne_of_gt h1) (by rw [fdiv_pos _ h1]; exact h _ _) (Or.inl (PyProof.noPylong_small (by lia)))
theorem bin_ok {op a da b db va vb} (hbad : ∀ a, bad a → Alive s.heap a) (ha : RepD T.prog T.w (Gb s.heap bad) (Gb s.heap bc) da va a) (hb : RepD T.prog T.w (Gb s.heap bad) (Gb s.heap bc) db vb b) (h : binW op a da b db Q) :
    wpAny (model T.prog T.w) A (binaryOp op va vb) (Is T bad bc s Q) E s := by
  cases op with
  | Add => cases a with
    | int x => exact ha.int_k fun t => int1 hb (f := fun y => Q (.int (x + y)) 0) h fun y u h => P.add_int (Is.int h)
    | str x => exact ha.str_k fun t h1 => str1 hb (f := fun y => x.length + y.length ≤ 1000000 ∧ Q (.str (x ++ y)) 0) h fun y u h2 h => P.add_str (bin_add_str h1 h2 h.1 h.2)
    | list x =>
      refine list1 hb (f := fun y => da ≤ 1 ∧ db ≤ 1 ∧ x.length + y.length ≤ 10000 ∧ Q (.list (x ++ y)) 0) h fun y r2 h => ?_
      exact add_lists hbad ha.list_inv r2 h.1 h.2.1 h.2.2.1 h.2.2.2
    | _ => exact h.elim
  | Sub => exact intsK ha hb h fun x y t u h => P.sub_int (Is.int h)
  | Mult => cases a with
    | int x => exact ha.int_k fun t => int1 hb (f := fun y => x.natAbs < 2 ^ 60 ∧ Q (.int (x * y)) 0) h fun y u h => P.mul_int (Is.int h.2) (IntMulOk.of_left (bits60 h.1))
    | _ => exact h.elim
  | FloorDiv => exact intsK ha hb h fun x y t u h => fdiv_ok h.1 h.2.1 fun _ n => Is.int h.2.2
  | Mod => exact intsK ha hb h fun x y t u h => mod_int' (Int.ne_of_gt h.1) (by rw [fmod_pos _ h.1]; exact Is.int h.2)
  | Pow => exact intsK ha hb h fun x y t u h => pow_int_small h.1 (by have := h.2.1; lia) (by have := h.2.2.1; lia) (Is.int h.2.2.2)
  | _ => exact h.elim

theorem iadd_ok {a da b db va vb} (ha : RepD T.prog T.w (Gb s.heap bad) (Gb s.heap bc) da va a) (hb : RepD T.prog T.w (Gb s.heap bad) (Gb s.heap bc) db vb b)
    (hf : a.flat = true) (h : binW .Add a da b db Q) : wpAny (model T.prog T.w) A (inplaceOp .Add va vb) (Is T bad bc s Q) E s := by
  cases a with
  | int x => exact ha.int_k fun t => int1 hb (f := fun y => Q (.int (x + y)) 0) h fun y u h => P.iadd_int (Is.int h)
  | str x => exact ha.str_k fun t h1 => str1 hb (f := fun y => x.length + y.length ≤ 1000000 ∧ Q (.str (x ++ y)) 0) h fun y u h2 h => P.iadd_str (bin_add_str h1 h2 h.1 h.2)
  | list _ => cases hf
  | _ => exact h.elim
theorem isub_ok {a da b db va vb} (ha : RepD T.prog T.w (Gb s.heap bad) (Gb s.heap bc) da va a) (hb : RepD T.prog T.w (Gb s.heap bad) (Gb s.heap bc) db vb b)
    (h : binW .Sub a da b db Q) : wpAny (model T.prog T.w) A (inplaceOp .Sub va vb) (Is T bad bc s Q) E s := intsK ha hb h fun x y t u h => P.isub_int (Is.int h)
theorem ifloordiv_ok {a da b db va vb} (ha : RepD T.prog T.w (Gb s.heap bad) (Gb s.heap bc) da va a) (hb : RepD T.prog T.w (Gb s.heap bad) (Gb s.heap bc) db vb b)
    (h : binW .FloorDiv a da b db Q) : wpAny (model T.prog T.w) A (inplaceOp .FloorDiv va vb) (Is T bad bc s Q) E s :=
  intsK ha hb h fun x y t u h => ifloordiv_int (Int.ne_of_gt h.1) (by rw [fdiv_pos _ h.1]; exact Is.int h.2.2) (Or.inl (PyProof.noPylong_small (by have := h.1; have := h.2.1; lia)))
end

/-! comparisons -/
noncomputable def intOf : V → Option Int
  | .int i => some i
  | _ => none
noncomputable def strOf : V → Option (List Nat)
  | .str i => some i
  | _ => none
noncomputable def boolOf : V → Option Bool
  | .bool i => some i
  | _ => none
noncomputable def eqV (a b : V) : Option Bool := match a with
  | .int x => (intOf b).map fun y => decide (x = y)
  | .str x => (strOf b).map fun y => decide (x = y)
  | .bool x => (boolOf b).map fun y => decide (x = y)
  | _ => none
noncomputable def isVB (x : Bool) : V → Option Bool
  | .bool y => some (x == y)
  | .none => some false
  | .int _ => some false
  | _ => none
noncomputable def isVN : V → Option Bool
  | .bool _ => some false
  | .none => some true
  | _ => none
noncomputable def isVI : V → Option Bool
  | .bool _ => some false
  | _ => none
noncomputable def isV (a b : V) : Option Bool := match a with
  | .bool x => isVB x b
  | .none => isVN b
  | .int _ => isVI b
  | _ => none
noncomputable def eqT (a b : V) : Option Bool := eqV a b
noncomputable def anyEq (v : V) : List V → Option Bool
  | [] => some false
  | y :: ys => (eqV y v).bind fun b => (anyEq v ys).map fun c => b || c
noncomputable def inS (x : List Nat) : V → Option Bool
  | .tup ys => anyEq (.str x) ys
  | _ => none
noncomputable def inV (a b : V) : Option Bool := match a with
  | .str x => inS x b
  | _ => none
noncomputable def oW (o : Option Bool) (Q : V → Nat → Prop) : Prop := match o with
  | some b => Q (.bool b) 0
  | none => False
noncomputable def oWn (o : Option Bool) (Q : V → Nat → Prop) : Prop := match o with
  | some b => Q (.bool (!b)) 0
  | none => False
theorem oW_inv {o : Option Bool} {Q : V → Nat → Prop} (h : oW o Q) : ∃ b, o = some b ∧ Q (.bool b) 0 := by
  cases o with
  | none => exact h.elim
  | some b => exact ⟨b, rfl, h⟩
theorem oWn_inv {o : Option Bool} {Q : V → Nat → Prop} (h : oWn o Q) : ∃ b, o = some b ∧ Q (.bool (!b)) 0 := by
  cases o with
  | none => exact h.elim
  | some b => exact ⟨b, rfl, h⟩

noncomputable def cmpW (op : CmpOp) (a b : V) (Q : V → Nat → Prop) : Prop := match op with
  | .Lt => asInt a fun x => asInt b fun y => Q (.bool (decide (x < y))) 0
  | .LtE => asInt a fun x => asInt b fun y => Q (.bool (decide (x ≤ y))) 0
  | .Gt => asInt a fun x => asInt b fun y => Q (.bool (decide (y < x))) 0
  | .GtE => asInt a fun x => asInt b fun y => Q (.bool (decide (y ≤ x))) 0
  | .Eq => oW (eqT a b) Q
  | .NotEq => oWn (eqT a b) Q
  | .Is => oW (isV a b) Q
  | .IsNot => oWn (isV a b) Q
  | .In => oW (inV a b) Q
  | .NotIn => oWn (inV a b) Q

theorem cps_eq (a b : List Nat) : ((stOf a).cps.toList == (stOf b).cps.toList) = decide (a = b) := by
  show (a == b) = _
  by_cases h : a = b
  · subst h; simp
  · simp [h]
theorem stOf_inj {a b : List Nat} (h : stOf a = stOf b) : a = b := by simpa [stOf] using h
theorem stOf_eq {a b : List Nat} : stOf a = stOf b ↔ a = b := ⟨stOf_inj, fun h => h ▸ rfl⟩

section
variable {T : GT} {bad bc : Addr → Prop} {s : Shared} {Q : V → Nat → Prop} {A : Around} {k : Nat} {E : Value → Shared → Prop}

theorem nos {α : Type} {r : α} {P : Prop} (h : (none : Option α) = some r) : P := nomatch h
/-- plain `is` -/
noncomputable def isP (r : Bool) (va vb : Value) : Prop := plainIs va vb = true ∧ (va == vb) = r
theorem isP_bb (x y : Bool) : isP (x == y) (.bool x) (.bool y) := ⟨rfl, by cases x <;> cases y <;> rfl⟩
theorem isP_bn (x : Bool) : isP false (.bool x) .none := ⟨rfl, rfl⟩
theorem isP_bi (x : Bool) (y : Int) (t : Tok) : isP false (.bool x) (.int y t) := ⟨rfl, rfl⟩
theorem isP_nb (x : Bool) : isP false .none (.bool x) := ⟨rfl, rfl⟩
theorem isP_nn : isP true .none .none := ⟨rfl, rfl⟩
theorem isP_ib (x : Bool) (y : Int) (t : Tok) : isP false (.int y t) (.bool x) := ⟨rfl, rfl⟩
theorem isVB_ok {p w G e vb b x r} (hb : RepD p w G G e vb b) (h : isVB x b = some r) : isP r (.bool x) vb := by
  cases b with
  | bool y => exact Option.some.inj h ▸ hb.bool_inv ▸ isP_bb x y
  | none => exact Option.some.inj h ▸ hb.none_inv ▸ isP_bn x
  | int y => exact hb.int_k fun t => Option.some.inj h ▸ isP_bi x y t
  | _ => exact nos h
theorem isVN_ok {p w G e vb b r} (hb : RepD p w G G e vb b) (h : isVN b = some r) : isP r .none vb := by
  cases b with
  | bool y => exact Option.some.inj h ▸ hb.bool_inv ▸ isP_nb y
  | none => exact Option.some.inj h ▸ hb.none_inv ▸ isP_nn
  | _ => exact nos h
theorem isVI_ok {p w G e vb b x t r} (hb : RepD p w G G e vb b) (h : isVI b = some r) : isP r (.int x t) vb := by
  cases b with
  | bool y => exact Option.some.inj h ▸ hb.bool_inv ▸ isP_ib y x t
  | _ => exact nos h
theorem is_rep {p w G d e va vb a b r} (ha : RepD p w G G d va a) (hb : RepD p w G G e vb b) (h : isV a b = some r) : isP r va vb := by
  cases a with
  | bool x => exact ha.bool_inv ▸ isVB_ok hb h
  | none => exact ha.none_inv ▸ isVN_ok hb h
  | int x => exact ha.int_k fun t => isVI_ok hb h
  | _ => exact nos h
theorem map_inv {α β : Type} {o : Option α} {f : α → β} {b : β} (h : o.map f = some b) : ∃ a, o = some a ∧ b = f a := by
  cases o with
  | none => cases h
  | some a => cases h; exact ⟨a, rfl, rfl⟩
theorem intOf_eq {v : V} {i : Int} (h : intOf v = some i) : v = .int i := by
  cases v with
  | int x => exact congrArg V.int (Option.some.inj h)
  | _ => exact nos h
theorem strOf_eq {v : V} {i : List Nat} (h : strOf v = some i) : v = .str i := by
  cases v with
  | str x => exact congrArg V.str (Option.some.inj h)
  | _ => exact nos h
theorem boolOf_eq {v : V} {i : Bool} (h : boolOf v = some i) : v = .bool i := by
  cases v with
  | bool x => exact congrArg V.bool (Option.some.inj h)
  | _ => exact nos h
inductive EqC : V → V → Bool → Prop
  | int (x y : Int) : EqC (.int x) (.int y) (decide (x = y))
  | str (x y : List Nat) : EqC (.str x) (.str y) (decide (x = y))
  | bool (x y : Bool) : EqC (.bool x) (.bool y) (decide (x = y))
theorem eqV_inv {a b : V} {r : Bool} (h : eqV a b = some r) : EqC a b r := by
  cases a with
  | int x => obtain ⟨y, h1, h2⟩ := map_inv h; exact h2 ▸ intOf_eq h1 ▸ .int _ _
  | str x => obtain ⟨y, h1, h2⟩ := map_inv h; exact h2 ▸ strOf_eq h1 ▸ .str _ _
  | bool x => obtain ⟨y, h1, h2⟩ := map_inv h; exact h2 ▸ boolOf_eq h1 ▸ .bool _ _
  | _ => exact nos h
inductive InC : V → V → Bool → Prop
  | tup {v ys r} : anyEq v ys = some r → InC v (.tup ys) r
theorem inS_inv {x : List Nat} {b : V} {r : Bool} (h : inS x b = some r) : InC (.str x) b r := by
  cases b with
  | tup ys => exact .tup h
  | _ => exact nos h
theorem inV_inv {a b : V} {r : Bool} (h : inV a b = some r) : InC a b r := by
  cases a with
  | str x => exact inS_inv h
  | _ => exact nos h
theorem obind_inv {α β : Type} {o : Option α} {f : α → Option β} {b : β} (h : o.bind f = some b) : ∃ a, o = some a ∧ f a = some b := by
  cases o with
  | none => cases h
  | some a => exact ⟨a, rfl, h⟩
open PySem.SeqAt PySem.MeetsSeq in
theorem eqAt_ok {p w G0 G1 G0' G1'} {d e va vb a b r} (ha : RepD p w G0 G1 d va a) (hb : RepD p w G0' G1' e vb b) (h : eqV a b = some r) (A : Around) (s : Shared) : EqAt A s va vb r := by
  cases eqV_inv h with
  | int x y =>
    obtain ⟨t, rfl⟩ := ha.int_inv; obtain ⟨u, rfl⟩ := hb.int_inv
    have := EqAt.int_int (A := A) (s := s) x t y u
    exact this
  | str x y =>
    obtain ⟨t, rfl, _⟩ := ha.str_inv; obtain ⟨u, rfl, _⟩ := hb.str_inv
    have := EqAt.str_str (A := A) (s := s) (stOf x) t (stOf y) u
    have e : (stOf x == stOf y) = decide (x = y) := by
      by_cases h : x = y
      · subst h; simp
      · have : ¬ stOf x = stOf y := fun q => h (by simpa [stOf] using q)
        simp [h]
    rw [e] at this; exact this
  | bool x y =>
    cases ha.bool_inv; cases hb.bool_inv
    have := EqAt.bool_bool (A := A) (s := s) x y
    have e : (x == y) = decide (x = y) := by cases x <;> cases y <;> rfl
    rw [e] at this; exact this
noncomputable def hitV (v : V) (u : Value) : Bool := match v with
  | .int x => match u with
    | .int i _ => decide (i = x)
    | _ => false
  | .str x => match u with
    | .str s _ => decide (s = stOf x)
    | _ => false
  | .bool x => match u with
    | .bool b => decide (b = x)
    | _ => false
  | _ => false
theorem hit_ok {p w G0 G1} {d u y v r} (h : RepD p w G0 G1 d u y) (e : eqV y v = some r) : hitV v u = r := by
  cases eqV_inv e with
  | int x y => obtain ⟨t, rfl⟩ := h.int_inv; rfl
  | str x y =>
    obtain ⟨t, rfl, _⟩ := h.str_inv
    by_cases q : x = y
    · subst q; simp [hitV]
    · have : ¬ stOf x = stOf y := fun q' => q (by simpa [stOf] using q')
      simp only [hitV, decide_eq_decide]; exact ⟨fun z => absurd z this, fun z => absurd z q⟩
  | bool x y => cases h.bool_inv; rfl
open PySem.SeqAt in
theorem hits_ok {p w G0 G1 G0' G1'} {d e} {va : Value} {v : V} (hv : RepD p w G0' G1' e va v) (A : Around) (s : Shared) {u : Value} {us : List Value} {y : V} {b : Bool} (k : RepD p w G0 G1 d u y) (h : eqV y v = some b) (hs : ∀ u, u ∈ us → EqAt A s u va (hitV v u)) :
    ∀ z, z ∈ u :: us → EqAt A s z va (hitV v z) := fun z hz => by
  cases hz with
  | head => exact hit_ok k h ▸ eqAt_ok k hv h A s
  | tail _ hz => exact hs z hz
open PySem.SeqAt in
theorem anyEq_ok {p w G0 G1 G0' G1'} {d e} {va : Value} {v : V} (hv : RepD p w G0' G1' e va v) (A : Around) (s : Shared) {us : List Value} {ys : List V} (k : All2 (RepD p w G0 G1 d) us ys) : ∀ {r : Bool}, anyEq v ys = some r →
    (∀ u, u ∈ us → EqAt A s u va (hitV v u)) ∧ us.any (hitV v) = r := by
  induction k with
  | nil => exact fun h => ⟨fun u h => (nomatch h), Option.some.inj h⟩
  | @cons u y us ys k ks ih =>
    intro r h
    obtain ⟨b, h1, h2⟩ := obind_inv (o := eqV y v) (f := fun b => (anyEq v ys).map fun c => b || c) h
    obtain ⟨c, h3, h4⟩ := map_inv h2
    obtain ⟨i1, i2⟩ := ih h3
    exact ⟨hits_ok hv A s k h1 i1, by rw [List.any_cons, hit_ok k h1, i2, h4]⟩
open PySem.SeqAt in
theorem isS (p w) (x : Str) (t : Tok) : (PySem.strKind p w).is x (.str x t) = true := by simp [PySem.strKind, Value.isStrOf]
theorem isI (p w) (x : Int) (t : Tok) : (PySem.intKind p w).is x (.int x t) = true := by simp [PySem.intKind, Value.isInt]
theorem mapOf_dS {p w} {h : Heap} {a o} {ks : List (List Nat)} {vals : List Value} (g : h.get? a = some o) (d : DObj (PySem.strKind p w) o ((ks.map stOf).zip vals)) :
    h.DictOf (PySem.strKind p w) a ((ks.map stOf).zip vals) := let ⟨x, es, ep, r⟩ := d; ⟨o, es, ep, g, x, r⟩
theorem eq_ok {a da b db va vb r} (hu : A.units < cLine) (ha : RepD T.prog T.w (Gb s.heap bad) (Gb s.heap bc) da va a) (hb : RepD T.prog T.w (Gb s.heap bad) (Gb s.heap bc) db vb b) (e : eqT a b = some r) :
    (Q (.bool r) 0 → wpAny (model T.prog T.w) A (compareOp .Eq va vb) (Is T bad bc s Q) E s) ∧ (Q (.bool (!r)) 0 → wpAny (model T.prog T.w) A (compareOp .NotEq va vb) (Is T bad bc s Q) E s) := by
  cases eqV_inv e with
    | int x y => exact ha.int_k fun t => hb.int_k fun u => ⟨fun q => P.eq_int (Is.bool q), fun q => P.ne_int (Is.bool q)⟩
    | str x y => exact ha.str_k fun t _ => hb.str_k fun u _ => ⟨fun q => P.eq_str (Is.bool (by rw [cps_eq]; exact q)), fun q => P.ne_str (Is.bool (by rw [bne, cps_eq]; exact q))⟩
    | bool x y =>
      cases ha.bool_inv; cases hb.bool_inv
      exact ⟨fun q => eq_bool (Is.bool q), fun q => ne_bool (Is.bool q)⟩
theorem in_ok {a da b db va vb r} (ha : RepD T.prog T.w (Gb s.heap bad) (Gb s.heap bc) da va a) (hb : RepD T.prog T.w (Gb s.heap bad) (Gb s.heap bc) db vb b) (e : inV a b = some r) :
    (Q (.bool r) 0 → wpAny (model T.prog T.w) A (compareOp .In va vb) (Is T bad bc s Q) E s) ∧ (Q (.bool (!r)) 0 → wpAny (model T.prog T.w) A (compareOp .NotIn va vb) (Is T bad bc s Q) E s) := by
  cases inV_inv e with
  | tup e =>
    obtain ⟨b, o, vs, n, eb, g, c, d, z, r1⟩ := hb.inv rfl
    obtain ⟨h1, h2⟩ := anyEq_ok (d := 0) (G1 := fun _ _ => False) ha A.in1 s r1.all2 e
    clear hb ha
    subst eb
    rw [← List.any_toArray] at h2
    subst h2
    have h1 : ∀ y ∈ List.toArray _, _ := fun y hy => h1 y (List.mem_toArray.mp hy)
    have I := isTuple_of g.1 c d
    exact ⟨fun q => SeqAt.in_tupleAt (hitV a) I h1 (Is.bool q), fun q => SeqAt.notIn_tupleAt (hitV a) I h1 (Is.bool q)⟩
theorem cmp_ok {op a da b db va vb} (hu : A.units < cLine) (ha : RepD T.prog T.w (Gb s.heap bad) (Gb s.heap bc) da va a) (hb : RepD T.prog T.w (Gb s.heap bad) (Gb s.heap bc) db vb b) (h : cmpW op a b Q) :
    wpAny (model T.prog T.w) A (compareOp op va vb) (Is T bad bc s Q) E s := by
  have is : ∀ {r}, isV a b = some r → isP r va vb := fun e => is_rep (G := Gb s.heap fun _ => False) (ha.mono (Gb.weak fun _ x => x.elim) (Gb.weak fun _ x => x.elim)) (hb.mono (Gb.weak fun _ x => x.elim) (Gb.weak fun _ x => x.elim)) e
  cases op with
  | Lt => exact intsK ha hb h fun x y t u h => P.lt_int (Is.bool h)
  | LtE => exact intsK ha hb h fun x y t u h => P.le_int (Is.bool h)
  | Gt => exact intsK ha hb h fun x y t u h => P.gt_int (Is.bool h)
  | GtE => exact intsK ha hb h fun x y t u h => P.ge_int (Is.bool h)
  | Eq =>
    obtain ⟨r, e, q⟩ := oW_inv (o := eqT a b) h
    exact (eq_ok hu ha hb e).1 q
  | NotEq =>
    obtain ⟨r, e, q⟩ := oWn_inv (o := eqT a b) h
    exact (eq_ok hu ha hb e).2 q
  | Is =>
    obtain ⟨r, e, h⟩ := oW_inv (o := isV a b) h
    exact wpAny_is_plain (is e).1 (by rw [(is e).2]; exact Is.bool h)
  | IsNot =>
    obtain ⟨r, e, h⟩ := oWn_inv (o := isV a b) h
    exact wpAny_isNot_plain (is e).1 (by rw [(is e).2]; exact Is.bool h)
  | In =>
    obtain ⟨r, e, q⟩ := oW_inv (o := inV a b) h
    exact (in_ok ha hb e).1 q
  | NotIn =>
    obtain ⟨r, e, q⟩ := oWn_inv (o := inV a b) h
    exact (in_ok ha hb e).2 q
end

end Mine
end

-- part M3
section
open PySem PySem.Calls PyProof.Rows
set_option linter.unusedVariables false
namespace Mine

noncomputable def pix (i : Int) (n : Nat) : Nat := (if i < 0 then i + n else i).toNat
theorem pix_pos {i : Int} {n : Nat} (h : 0 ≤ i) : pix i n = i.toNat := by unfold pix; rw [if_neg (by lia)]
theorem pix_lt {i : Int} {n : Nat} (h : -(n : Int) ≤ i) (h' : i < n) : pix i n < n := by unfold pix; split <;> lia

noncomputable def lkK {K : Type} [DecidableEq K] : List K → List V → K → Option V
  | [], _, _ => none
  | k :: ks, vs, x => match vs with
    | [] => none
    | v :: vs => if k = x then some v else lkK ks vs x
noncomputable abbrev lkS : List (List Nat) → List V → List Nat → Option V := lkK
noncomputable abbrev lkI : List Int → List V → Int → Option V := lkK
noncomputable def atW (o : Option V) (Q : V → Nat → Prop) : Prop := match o with
  | some v => Q v 0
  | none => False
theorem atW_inv {o : Option V} {Q : V → Nat → Prop} (h : atW o Q) : ∃ v, o = some v ∧ Q v 0 := by
  cases o with
  | none => exact h.elim
  | some v => exact ⟨v, rfl, h⟩
noncomputable def idxW (a : V) (da : Nat) (i : V) (Q : V → Nat → Prop) : Prop :=
  match a with
  | .str s => asInt i fun i => -(s.length : Int) ≤ i ∧ i < s.length ∧ Q (.str [s.getD (pix i s.length) 0]) 0
  | .list xs => asInt i fun i => -(xs.length : Int) ≤ i ∧ i < xs.length ∧ Q (xs.getD (pix i xs.length) .none) (da - 1)
  | .dS ks vs => asStr i fun x => atW (lkS ks vs x) Q
  | .dI ks vs => asInt i fun x => atW (lkI ks vs x) Q
  | _ => False

section
variable {T : GT} {bad bc : Addr → Prop} {s : Shared} {Q : V → Nat → Prop} {A : Around} {k : Nat} {E : Value → Shared → Prop}

theorem mapOf_dI {p w} {h : Heap} {a o} {ks : List Int} {vals : List Value} (g : h.get? a = some o) (d : DObj (PySem.intKind p w) o (ks.zip vals)) :
    h.DictOf (PySem.intKind p w) a (ks.zip vals) := let ⟨x, es, ep, r⟩ := d; ⟨o, es, ep, g, x, r⟩
noncomputable def LkOk (p : Program) (w : World) (G : Addr → Obj → Prop) (o : Option Value) : Option V → Prop
  | some t => ∃ v, o = some v ∧ Rep p w G v t
  | none => o = none
theorem valueAt_lk {K : Type} [DecidableEq K] {p w G} (x : K) : ∀ {ks : List K} {vals : List Value} {vs : List V}, ks.length = vals.length → Reps p w G vals vs → LkOk p w G (valueAt (ks.zip vals) x) (lkK ks vs x) := by
  intro ks
  induction ks with
  | nil => intro vals vs _ _; exact rfl
  | cons k ks ih =>
    intro vals vs h r
    cases r with
    | nil => exact absurd h (Nat.succ_ne_zero _)
    | @cons v t vals ts r rs =>
      have ih := ih (Nat.succ.inj h) rs
      show LkOk p w G (valueAt ((k, v) :: ks.zip vals) x) (if k = x then some t else lkK ks ts x)
      unfold valueAt at ih ⊢
      rw [List.find?_cons]
      by_cases e : k = x
      · rw [decide_eq_true e, if_pos e]; exact ⟨v, rfl, r⟩
      · rw [decide_eq_false e, if_neg e]; exact ih
theorem lkK_map {ks : List (List Nat)} {x : List Nat} : ∀ {vs : List V}, lkK (ks.map stOf) vs (stOf x) = lkS ks vs x := by
  induction ks with
  | nil => intro vs; rfl
  | cons k ks ih =>
    intro vs
    cases vs with
    | nil => rfl
    | cons v vs =>
      show (if stOf k = stOf x then some v else lkK (ks.map stOf) vs (stOf x)) = if k = x then some v else lkS ks vs x
      rw [ih]
      exact ite_congr (propext stOf_eq) (fun _ => rfl) fun _ => rfl
theorem valueAt_lkS {G} {p w} (x : List Nat) {ks : List (List Nat)} {vals : List Value} {vs : List V} (h : ks.length = vals.length) (r : Reps p w G vals vs) : LkOk p w G (valueAt ((ks.map stOf).zip vals) (stOf x)) (lkS ks vs x) :=
  lkK_map (ks := ks) ▸ valueAt_lk (stOf x) (by rw [List.length_map]; exact h) r
theorem LkOk.some {p w G o t o'} (h : LkOk p w G o o') (e : o' = some t) : ∃ v, o = .some v ∧ Rep p w G v t := by subst e; exact h

theorem getD_some {α : Type} {xs : List α} {j : Nat} (d : α) (h : j < xs.length) : xs[j]? = some (xs.getD j d) := by
  rw [List.getD_eq_getElem?_getD, List.getElem?_eq_getElem h]; rfl

/-- the place that an index means, in a list -/
theorem list_at {a : Addr} {vs : List Value} {i : Int} {t : Tok} {x : Value} {Q : Value → Shared → Prop} (hl : s.heap.IsList a vs.toArray) (hs : vs.length ≤ sizeLine)
    (h0 : -(vs.length : Int) ≤ i) (h1 : i < vs.length) (hx : vs[pix i vs.length]? = some x) (h : Q x s) : wpAny (model T.prog T.w) A (getItem (.ref a) (.int i t)) Q E s := by
  rw [sl_eq] at hs
  by_cases hi : i < 0
  · refine wpAny_getItem_list_neg hl hi (by simpa using h0) (by lia) (x := x) ?_ h
    have : pix i vs.length = (i + vs.length).toNat := by unfold pix; rw [if_pos hi]
    rw [this] at hx; simpa using hx
  · refine wpAny_getItem_list hl (by lia) (by lia) (x := x) ?_ h
    rw [pix_pos (by lia)] at hx; simpa using hx


theorem seqIndex_pix {i : Int} {n : Nat} (h0 : -(n : Int) ≤ i) (h1 : i < n) : seqIndex? i n = some (pix i n) := by
  unfold seqIndex? pix
  split
  · rw [if_pos (by simp; lia)]
  · rw [if_pos (by simp; lia)]

theorem str_at {l : List Nat} {i : Int} {t u : Tok} {Q : Value → Shared → Prop} (hs : l.length ≤ sizeLine)
    (h0 : -(l.length : Int) ≤ i) (h1 : i < l.length) (h : Q (.str (stOf [l.getD (pix i l.length) 0]) s.toks) { s with toks := s.toks + 1 }) :
    wpAny (model T.prog T.w) A (getItem (.str (stOf l) t) (.int i u)) Q E s := by
  rw [sl_eq] at hs
  refine P.getItem_str (c := l.getD (pix i l.length) 0) (by simp; lia) ?_ h
  rw [stOf_length, seqIndex_pix h0 h1]
  show (stOf l).cps[pix i l.length]? = _
  simpa [stOf] using getD_some 0 (pix_lt h0 h1)

theorem idx_ok {a da i di va vi} (ha : RepD T.prog T.w (Gb s.heap bad) (Gb s.heap bc) da va a) (hi : RepD T.prog T.w (Gb s.heap bad) (Gb s.heap bc) di vi i) (h : idxW a da i Q) :
    wpAny (model T.prog T.w) A (getItem va vi) (Is T bad bc s Q) E s := by
  cases a with
  | str l => exact ha.str_k fun t hl => int1 hi (f := fun i => -(l.length : Int) ≤ i ∧ i < l.length ∧ Q (.str [l.getD (pix i l.length) 0]) 0) h fun i u h => str_at hl h.1 h.2.1 (Is.str h.2.2 rfl (by rw [sl_eq]; exact Nat.le_of_ble_eq_true rfl))
  | list xs =>
    refine ha.list_inv.isk fun a vs g z hlen r => int1 hi (f := fun i => -(xs.length : Int) ≤ i ∧ i < xs.length ∧ Q (xs.getD (pix i xs.length) .none) (da - 1)) h fun i u h => ?_
    obtain ⟨h0, h1, h2⟩ := h
    obtain ⟨v, hv, hr⟩ := r.get (getD_some .none (pix_lt h0 h1))
    rw [← hlen] at h0 h1 hv
    exact list_at g z h0 h1 hv (.mk (Ext.refl _) h2 hr)
  | dS ks vs =>
    obtain ⟨b, o, vals, e, g, hz, d, r⟩ := ha.inv rfl
    rw [e]
    refine str1 hi (f := fun x => atW (lkS ks vs x) Q) h fun x t _ h => ?_
    obtain ⟨w, e, h⟩ := atW_inv h
    obtain ⟨v, hv, hr⟩ := (valueAt_lkS x hz.1 r).some e
    exact wpAny_getItem_of (knd := PySem.strKind T.prog T.w) (k := stOf x) (isS _ _ _ _) (mapOf_dS g.1 d).mapOf hv (.mk (d := 0) (Ext.tok _ _) h hr)
  | dI ks vs =>
    obtain ⟨b, o, vals, e, g, hz, d, r⟩ := ha.inv rfl
    rw [e]
    refine int1 hi (f := fun x => atW (lkI ks vs x) Q) h fun x t h => ?_
    obtain ⟨w, e, h⟩ := atW_inv h
    obtain ⟨v, hv, hr⟩ := (valueAt_lk x hz.1 r).some e
    exact wpAny_getItem_of (knd := PySem.intKind T.prog T.w) (k := x) (isI _ _ _ _) (mapOf_dI g.1 d).mapOf hv (.mk (d := 0) (Ext.tok _ _) h hr)
  | _ => exact (show False from h).elim

/-! truth -/
noncomputable def truthW (a : V) (Q : Bool → Prop) : Prop :=
  match a with
  | .bool b => Q b
  | .int i => Q (decide (i ≠ 0))
  | .str s => Q (decide (s ≠ []))
  | .none => Q false
  | .list xs => Q (decide (xs.length ≠ 0))
  | _ => False
theorem ne_nil_len {α : Type} (l : List α) : decide (l.length ≠ 0) = decide (l ≠ []) := by cases l <;> rfl
theorem truth_ok {a da va} {Q : Bool → Prop} (ha : RepD T.prog T.w (Gb s.heap bad) (Gb s.heap bc) da va a) (h : truthW a Q) :
    wpAny (model T.prog T.w) A (truthy va) (fun b s' => Ext s s' ∧ Q b) E s := by
  cases a with
  | bool b => rw [ha.bool_inv]; exact wpAny_truthy_bool ⟨Ext.refl _, h⟩
  | int i => exact ha.int_k fun t => P.truthy_int ⟨Ext.refl _, by rw [show (i != 0) = decide (i ≠ 0) by simp [bne]; rfl]; exact h⟩
  | str l =>
    refine ha.str_k fun t hl => ?_
    refine P.truthy_str (by rw [stOf_length]; rw [sl_eq] at hl; lia) ⟨Ext.tok _ _, ?_⟩
    rw [stOf_length]
    have : (((l.length : Nat) : Int) != 0) = decide (l ≠ []) := by rw [← ne_nil_len]; cases l.length <;> rfl
    rw [this]; exact h
  | none => rw [ha.none_inv]; exact truthy_none ⟨Ext.refl _, h⟩
  | list xs =>
    refine ha.list_inv.isk fun a vs g z hlen r => ?_
    rw [sl_eq] at z
    refine wpAny_truthy_list g (by rw [List.size_toArray]; lia) ⟨Ext.tok _ _, ?_⟩
    have : (!vs.toArray.isEmpty) = decide (xs.length ≠ 0) := by rw [← hlen]; cases vs <;> rfl
    rw [this]; exact h
  | _ => exact (show False from h).elim

/-! slices by ones -/
noncomputable def cut {α : Type} (xs : List α) (lo hi : Option Int) : List α :=
  (xs.drop (lo.elim 0 (clipAt xs.length))).take (hi.elim xs.length (clipAt xs.length) - lo.elim 0 (clipAt xs.length))
theorem cut_len {α : Type} (xs : List α) (lo hi : Option Int) : (cut xs lo hi).length ≤ xs.length := by
  unfold cut; simp only [List.length_take, List.length_drop]; lia

theorem pick_runL {α : Type} (xs : List α) (a : Nat) (k : Nat) : ((List.range k).map (a + ·)).filterMap (xs[·]?) = (xs.drop a).take k := by
  simpa using pick_run xs.toArray a k

noncomputable def optW (v : V) (f : Option Int → Prop) : Prop := match v with
  | .none => f none
  | .int i => f (some i)
  | _ => False
noncomputable def slW (a : V) (da : Nat) (lo hi : V) (Q : V → Nat → Prop) : Prop :=
  match a with
  | .str s => optW lo fun l => optW hi fun u => Q (.str (cut s l u)) 0
  | .list xs => optW lo fun l => optW hi fun u => da ≤ 1 ∧ Q (.list (cut xs l u)) 0
  | _ => False

theorem optW_rep {d v t} {f : Option Int → Prop} (h : RepD T.prog T.w (Gb s.heap bad) (Gb s.heap bc) d v t) (e : optW t f) : ∃ q : Option (Int × Tok), v = partValue q ∧ f (q.map (·.1)) := by
  cases t with
  | none => exact ⟨none, h.none_inv, e⟩
  | int i => obtain ⟨t, r⟩ := h.int_inv; exact ⟨some (i, t), r, e⟩
  | _ => exact (show False from e).elim
theorem isPart (q : Option (Int × Tok)) : IsPart (partValue q) (q.map (·.1)) := by
  cases q with
  | none => exact .none
  | some q => exact .int _ _

theorem picked_eq (l : List Nat) (lo hi : Option (Int × Tok)) : (slicePicked (stOf l) lo hi none).filterMap ((stOf l).cps[·]?) = cut l (lo.map (·.1)) (hi.map (·.1)) := by
  have e : slicePicked (stOf l) lo hi none = sliceRange (sliceBounds (lo.map (·.1)) (hi.map (·.1)) none l.length).1 (sliceBounds (lo.map (·.1)) (hi.map (·.1)) none l.length).2.1 1 := by
    unfold slicePicked Builtin.Str.strSliceIndices sliceBounds
    rw [stOf_length]; rfl
  rw [e, sliceBounds_plain, sliceRange_one]
  unfold cut
  have := pick_runL l ((lo.map (·.1)).elim 0 (clipAt l.length)) ((hi.map (·.1)).elim l.length (clipAt l.length) - (lo.map (·.1)).elim 0 (clipAt l.length))
  simpa [stOf] using this
theorem picked_len (l : List Nat) (lo hi : Option (Int × Tok)) : (slicePicked (stOf l) lo hi none).length = (cut l (lo.map (·.1)) (hi.map (·.1))).length := by
  have e : slicePicked (stOf l) lo hi none = sliceRange (sliceBounds (lo.map (·.1)) (hi.map (·.1)) none l.length).1 (sliceBounds (lo.map (·.1)) (hi.map (·.1)) none l.length).2.1 1 := by
    unfold slicePicked Builtin.Str.strSliceIndices sliceBounds
    rw [stOf_length]; rfl
  have hb : ∀ i, clipAt l.length i ≤ l.length := fun i => by
    have := clipAt_cast l.length i
    lia
  rw [e, sliceBounds_plain, sliceRange_one]
  unfold cut
  simp only [List.length_map, List.length_range, List.length_take, List.length_drop]
  have h2 : (hi.map (·.1)).elim l.length (clipAt l.length) ≤ l.length := by
    cases hi.map (·.1) with
    | none => exact Nat.le_refl _
    | some i => exact hb i
  lia
theorem cut_whole (l : List Nat) (lo hi : Option Int) (h : (cut l lo hi).length = l.length) : cut l lo hi = l := by
  unfold cut at h ⊢
  simp only [List.length_take, List.length_drop] at h
  by_cases h0 : l = []
  · subst h0; simp
  have hp : 0 < l.length := List.length_pos_iff.mpr h0
  have h1 : lo.elim 0 (clipAt l.length) = 0 := by lia
  rw [h1]; rw [h1] at h
  simp only [List.drop_zero]
  rw [List.take_of_length_le (by lia)]

theorem sl_ok {a da lo dl hi dh va vl vh sa} (ha : RepD T.prog T.w (Gb s.heap bad) (Gb s.heap bc) da va a) (hl : RepD T.prog T.w (Gb s.heap bad) (Gb s.heap bc) dl vl lo)
    (hh : RepD T.prog T.w (Gb s.heap bad) (Gb s.heap bc) dh vh hi) (hsl : s.heap.get? sa = some { cls := .type "slice", data := .fields #[vl, vh, .none] })
    (hbad : ∀ a, bad a → Alive s.heap a) (h : slW a da lo hi Q) : wpAny (model T.prog T.w) A (getItem va (.ref sa)) (Is T bad bc s Q) E s := by
  cases a with
  | str l =>
    obtain ⟨q1, e1, h⟩ := optW_rep hl (f := fun l' => optW hi fun u => Q (.str (cut l l' u)) 0) h
    obtain ⟨q2, e2, h⟩ := optW_rep hh h
    refine ha.str_k fun t hz => ?_
    clear ha hl hh
    subst e1 e2
    refine wpAny_getItem_str_slice (l := q1) (u := q2) (st := none) ⟨_, hsl, rfl, rfl⟩ rfl ?_
    have hc := cut_len l (q1.map (·.1)) (q2.map (·.1))
    unfold sliceMade
    rw [picked_eq, picked_len, stOf_length]
    split
    · rename_i e
      have : (cut l (q1.map (·.1)) (q2.map (·.1))).length = l.length := eq_of_beq e
      rw [cut_whole _ _ _ this] at h
      exact .mk (Ext.refl _) h (.str _ _ hz)
    · refine ⟨by show (stOf _).length ≤ _; rw [stOf_length]; exact Nat.le_trans hc hz, Is.str h rfl (Nat.le_trans hc hz)⟩
  | list xs =>
    obtain ⟨q1, e1, h⟩ := optW_rep hl (f := fun l' => optW hi fun u => da ≤ 1 ∧ Q (.list (cut xs l' u)) 0) h
    obtain ⟨q2, e2, hd, h⟩ := optW_rep hh h
    refine ha.list_inv.isk fun a vs g z hlen r => ?_
    clear ha hl hh
    subst e1 e2
    refine wpAny_getItem_list_slice g (st := none) ⟨_, hsl, rfl, rfl⟩ (isPart q1) (isPart q2) IsPart.none (by simp) ?_ z
    rw [slicePick_plain]
    rw [show da - 1 = 0 by lia] at r
    have rc : Reps T.prog T.w (Gb s.heap bad) (cut vs (q1.map (·.1)) (q2.map (·.1))) (cut xs (q1.map (·.1)) (q2.map (·.1))) := by
      unfold cut; rw [hlen]; exact ((Reps.of_all2 r).drop _).take _
    exact .mk (Ext.push _ _ _) h (.list (n := 0) (vs := cut vs (q1.map (·.1)) (q2.map (·.1))) ⟨Heap.get?_push_size _ rfl, fun hb => not_alive_size _ (hbad _ hb)⟩ ⟨rfl, rfl⟩ (by simp [cut]) (Nat.le_trans (cut_len _ _ _) z) (rc.mono (Gb.keeps (Keeps.push _ _))))
  | _ => exact (show False from h).elim
/-- x[::-1] -/
noncomputable def revW (a : V) (da : Nat) (Q : V → Nat → Prop) : Prop :=
  match a with
  | .str s => Q (.str s.reverse) 0
  | .list xs => da ≤ 1 ∧ Q (.list xs.reverse) 0
  | _ => False
theorem pick_rev_n {α : Type} (xs : List α) : ∀ n, n ≤ xs.length → ((List.range n).map fun k => n - 1 - k).filterMap (xs[·]?) = (xs.take n).reverse
  | 0, _ => rfl
  | n + 1, h => by
    have ih := pick_rev_n xs n (Nat.le_of_succ_le h)
    have e : ((List.range n).map (fun x => Nat.succ x)).map (fun k => n + 1 - 1 - k) = (List.range n).map fun k => n - 1 - k := by
      rw [List.map_map]
      exact List.map_congr_left fun k _ => by show n + 1 - 1 - (k + 1) = n - 1 - k; lia
    have h' : n < xs.length := h
    rw [List.range_succ_eq_map, List.map_cons, e, show n + 1 - 1 - 0 = n from rfl, List.filterMap_cons, List.getElem?_eq_getElem h', ih, List.take_add_one, List.getElem?_eq_getElem h', List.reverse_append]
    rfl
theorem pick_rev {α : Type} (xs : List α) : ((List.range xs.length).map fun k => xs.length - 1 - k).filterMap (xs[·]?) = xs.reverse := by
  rw [pick_rev_n xs _ (Nat.le_refl _), List.take_length]
theorem slicePick_rev (vs : List Value) : slicePick vs.toArray none none (some (-1)) = vs.reverse.toArray := by
  have h := picked_rev vs.length
  have e : slicePick vs.toArray none none (some (-1)) = ((Builtin.Str.strSliceIndices none none (-1) vs.length).filterMap (vs.toArray[·]?)).toArray := rfl
  rw [e, h]
  have : (fun i : Nat => vs.toArray[i]?) = fun i : Nat => vs[i]? := by funext i; exact List.getElem?_toArray ..
  rw [this, pick_rev]
theorem Reps.reverse {p w G} {vs ts} (h : Reps p w G vs ts) : Reps p w G vs.reverse ts.reverse := by
  have hl := h.length
  refine Reps.of_get (by simp [hl]) fun i v t h1 h2 => ?_
  have hi : i < vs.length := by have := (List.getElem?_eq_some_iff.mp h1).1; simpa using this
  rw [List.getElem?_reverse hi] at h1
  rw [List.getElem?_reverse (by lia), ← hl] at h2
  obtain ⟨v', e, r⟩ := h.get h2
  rw [h1] at e; cases e; exact r
theorem rev_ok {a da va sa tk} (ha : RepD T.prog T.w (Gb s.heap bad) (Gb s.heap bc) da va a) (hsl : s.heap.get? sa = some { cls := .type "slice", data := .fields #[.none, .none, .int (-1) tk] })
    (hbad : ∀ a, bad a → Alive s.heap a) (h : revW a da Q) : wpAny (model T.prog T.w) A (getItem va (.ref sa)) (Is T bad bc s Q) E s := by
  cases a with
  | str l =>
    refine ha.str_k fun t hz => ?_
    clear ha
    refine wpAny_getItem_str_slice (l := none) (u := none) (st := some (-1, tk)) ⟨_, hsl, rfl, rfl⟩ rfl ?_
    have e : ((slicePicked (stOf l) none none (some (-1, tk))).filterMap ((stOf l).cps[·]?)) = l.reverse := by
      have h := picked_rev (stOf l).length
      rw [stOf_length] at h
      show ((Builtin.Str.strSliceIndices none none (-1) (stOf l).length).filterMap _) = _
      rw [stOf_length, h]
      have : (fun i : Nat => (stOf l).cps[i]?) = fun i : Nat => l[i]? := by funext i; exact List.getElem?_toArray ..
      rw [this, pick_rev]
    have : sliceMade (stOf l) t none none (some (-1, tk)) = .str (stOf l.reverse) := by
      unfold sliceMade
      rw [if_neg (by rw [show ((some ((-1 : Int), tk)).map (·.1)).getD 1 = -1 from rfl]; simp), e]
    rw [this]
    exact ⟨by show (stOf _).length ≤ _; rw [stOf_length, List.length_reverse]; exact hz, Is.str h rfl (by rw [List.length_reverse]; exact hz)⟩
  | list xs =>
    obtain ⟨hd, h⟩ := h
    refine ha.list_inv.isk fun a vs g z hlen r => ?_
    clear ha
    refine wpAny_getItem_list_slice g (lo := none) (hi := none) (st := some (-1)) ⟨_, hsl, rfl, rfl⟩ .none .none (.int _ _) (by simp) ?_ z
    rw [slicePick_rev]
    rw [show da - 1 = 0 by lia] at r
    exact .mk (Ext.push _ _ _) h (.list (n := 0) (vs := vs.reverse) ⟨Heap.get?_push_size _ rfl, fun hb => not_alive_size _ (hbad _ hb)⟩ ⟨rfl, rfl⟩ rfl (by rw [List.length_reverse]; exact z) ((Reps.of_all2 r).reverse.mono (Gb.keeps (Keeps.push _ _))))
  | _ => exact (show False from h).elim
end
end Mine
end

-- part M4
section
open PySem PySem.Calls PyProof.Rows
set_option linter.unusedVariables false
set_option genSizeOf false
set_option genSizeOfSpec false
set_option genInjectivity false
namespace Mine

inductive Bi where
  | len | range | list | min | chr | abs | isinstance | int | bool
  deriving DecidableEq

noncomputable def Bi.val : Bi → Value
  | .len => .builtin "len" | .range => .type "range" | .list => .type "list" | .min => .builtin "min" | .chr => .builtin "chr" | .abs => .builtin "abs" | .isinstance => .builtin "isinstance" | .int => .type "int" | .bool => .type "bool"
noncomputable def Bi.name : Bi → Str
  | .len => "len" | .range => "range" | .list => "list" | .min => "min" | .chr => "chr" | .abs => "abs" | .isinstance => "isinstance" | .int => "int" | .bool => "bool"

noncomputable def rsize (a b c : Int) : Nat := (Builtin.Range.rangeSize a b c).toNat
noncomputable def rngL (a b c : Int) : List Int := (List.range (rsize a b c)).map fun (k : Nat) => a + k * c
noncomputable def rOk (a b c : Int) : Prop := a.natAbs ≤ 1000000 ∧ b.natAbs ≤ 1000000 ∧ c.natAbs ≤ 1000 ∧ c ≠ 0

noncomputable def w1 (as : List (V × Nat)) (f : V → Prop) : Prop := match as with
  | [] => False
  | p :: l => match l with
    | [] => f p.1
    | _ :: _ => False
noncomputable def lenW (v : V) (Q : V → Nat → Prop) : Prop := match v with
  | .str s => Q (.int s.length) 0
  | .list xs => Q (.int xs.length) 0
  | _ => False
noncomputable def rngW (v : V) (Q : V → Nat → Prop) : Prop := match v with
  | .rng a b c => rOk a b c ∧ Q (.list ((rngL a b c).map .int)) 0
  | _ => False
noncomputable def rangeW (as : List (V × Nat)) (Q : V → Nat → Prop) : Prop := match as with
  | [] => False
  | p :: l => asInt p.1 fun a => match l with
    | [] => Q (.rng 0 a 1) 0
    | p :: l => asInt p.1 fun b => match l with
      | [] => Q (.rng a b 1) 0
      | p :: l => asInt p.1 fun c => match l with
        | [] => c ≠ 0 ∧ c.natAbs ≤ 1000 ∧ Q (.rng a b c) 0
        | _ :: _ => False
noncomputable def intsOf : List V → Option (List Int)
  | [] => some []
  | x :: xs => (intOf x).bind fun i => (intsOf xs).map fun l => i :: l
noncomputable def minL : List Int → Option Int
  | [] => none
  | n :: ns => some (ns.foldl min n)
noncomputable def minLW (o : Option (List Int)) (Q : V → Nat → Prop) : Prop := match o.bind minL with
  | some i => Q (.int i) 0
  | none => False
noncomputable def minW (as : List (V × Nat)) (Q : V → Nat → Prop) : Prop := match as with
  | [] => False
  | p :: l => match l with
    | [] => asList p.1 fun xs => minLW (intsOf xs) Q
    | q :: l => match l with
      | [] => asInt p.1 fun a => asInt q.1 fun b => Q (.int (min a b)) 0
      | r :: l => match l with
        | [] => asInt p.1 fun a => asInt q.1 fun b => asInt r.1 fun c => Q (.int (min (min a b) c)) 0
        | _ :: _ => False
noncomputable def biW (b : Bi) (as : List (V × Nat)) (Q : V → Nat → Prop) : Prop := match b with
  | .len => w1 as fun v => lenW v Q
  | .range => rangeW as Q
  | .list => w1 as fun v => rngW v Q
  | .min => minW as Q
  | .chr => w1 as fun v => asInt v fun i => 0 ≤ i ∧ i < 1114112 ∧ Q (.str [i.toNat]) 0
  | .abs => w1 as fun v => asInt v fun i => Q (.int (if i < 0 then -i else i)) 0
  | .isinstance => False
  | .int => False
  | .bool => False
theorem nab {x : Int} {n : Nat} (h : x.natAbs ≤ n) : -(n : Int) ≤ x ∧ x ≤ n := by lia
theorem quot_le {x c : Int} (hx : 0 ≤ x) (hc : 0 < c) (h : x ≤ 2000000) : 0 ≤ x / c + 1 ∧ (x / c + 1).toNat ≤ 2000001 := by
  have e1 : 0 ≤ x / c := Int.ediv_nonneg hx (Int.le_of_lt hc)
  have e2 : x / c ≤ x := Int.ediv_le_self _ hx
  generalize x / c = q at e1 e2
  clear hc
  lia
theorem rsize_le {a b c : Int} (h : rOk a b c) : Builtin.Range.rangeSize a b c = rsize a b c ∧ rsize a b c ≤ 2000001 := by
  have h1 := nab h.1
  have h2 := nab h.2.1
  have h4 := h.2.2.2
  have key : 0 ≤ Builtin.Range.rangeSize a b c ∧ (Builtin.Range.rangeSize a b c).toNat ≤ 2000001 := by
    clear h
    unfold Builtin.Range.rangeSize
    split
    · split
      · exact quot_le (by lia) (by assumption) (by lia)
      · exact ⟨Int.le_refl _, Nat.zero_le _⟩
    · split
      · exact quot_le (by lia) (by lia) (by lia)
      · exact ⟨Int.le_refl _, Nat.zero_le _⟩
  exact ⟨(Int.toNat_of_nonneg key.1).symm, key.2⟩
theorem small_ok {a b c : Int} (h : rOk a b c) : Builtin.Range.small a b c = true := by
  obtain ⟨e1, e2⟩ := rsize_le h
  have h1 := nab h.1
  have h2 := nab h.2.1
  have h3 := nab h.2.2.1
  clear h
  unfold Builtin.Range.small
  rw [e1]
  simp only [Builtin.Range.rangeFitsLong, Bool.and_eq_true, decide_eq_true_eq, Bool.or_eq_true]
  clear e1
  refine ⟨⟨⟨⟨by lia, by lia⟩, by lia⟩, by lia⟩, .inr ?_⟩
  clear e2
  split <;> simp <;> lia

theorem rngL_length (a b c : Int) : (rngL a b c).length = rsize a b c := by simp [rngL]

section
variable {T : GT} {bad bc : Addr → Prop} {s : Shared} {Q : V → Nat → Prop} {A : Around} {k : Nat} {E : Value → Shared → Prop}
abbrev Arg (T : GT) (bad bc : Addr → Prop) (s : Shared) (v : Value) (td : V × Nat) : Prop := RepD T.prog T.w (Gb s.heap bad) (Gb s.heap bc) td.2 v td.1

theorem RepD.rng_inv {p w G G' d v a b c} (h : RepD p w G G' d v (.rng a b c)) : ∃ ad t u x, v = .ref ad ∧ G ad { cls := .type "range", data := .fields #[.int a t, .int b u, .int c x] } := h.inv rfl
@[elab_as_elim] theorem argC {s : Shared} {vs p l} {P : List Value → Prop} (h : All2 (Arg T bad bc s) vs (p :: l)) (k : ∀ v vs, Arg T bad bc s v p → All2 (Arg T bad bc s) vs l → P (v :: vs)) : P vs := by
  obtain ⟨v, vs, rfl, h1, h2⟩ := h.cons_inv
  exact k v vs h1 h2
@[elab_as_elim] theorem argN {s : Shared} {vs} {P : List Value → Prop} (h : All2 (Arg T bad bc s) vs []) (k : P []) : P vs := h.nil_inv ▸ k
@[elab_as_elim] theorem arg1 {s : Shared} {vs as} {f : V → Prop} {P : List Value → Prop} (h : All2 (Arg T bad bc s) vs as) (q : w1 as f) (k : ∀ v x d, RepD T.prog T.w (Gb s.heap bad) (Gb s.heap bc) d v x → f x → P [v]) : P vs := by
  cases as with
  | nil => exact (show False from q).elim
  | cons p l => cases l with
    | nil => exact argC h fun v vs r h => argN h (k v p.1 p.2 r q)
    | cons _ _ => exact (show False from q).elim
/-- a new range -/
theorem Is.rng {a b c : Int} {t u x tk} (fresh : ¬ bad s.heap.objs.size) (q : Q (.rng a b c) 0) : Is T bad bc s Q (.ref s.heap.objs.size) { s with heap := s.heap.push { cls := .type "range", data := .fields #[.int a t, .int b u, .int c x] }, toks := tk } :=
  .mk (Ext.push _ _ _) q (d := 0) (.rng ⟨Heap.get?_push_size _ rfl, fresh⟩)
theorem range_ok {as vs} (fresh : ¬ bad s.heap.objs.size) (h : All2 (Arg T bad bc s) vs as) (q : rangeW as Q) : wpAny (model T.prog T.w) A (call (.type "range") vs) (Is T bad bc s Q) E s := by
  cases as with
  | nil => exact (show False from q).elim
  | cons p l =>
    refine argC h fun v vs r h => int1 r q fun i t q => ?_
    cases l with
    | nil => exact argN h (call_range_1 (Is.rng fresh q))
    | cons p l =>
      refine argC h fun v vs r h => int1 r q fun j u q => ?_
      cases l with
      | nil => exact argN h (call_range_2 (Is.rng fresh q))
      | cons p l =>
        refine argC h fun v vs r h => int1 r q fun k x q => ?_
        cases l with
        | nil => exact argN h (call_range_3 q.1 (Is.rng fresh q.2.2) (.inl (PyProof.noPylong_small (by have := q.2.1; clear q; lia))))
        | cons p l => exact (show False from q).elim
theorem range_reps {G : Addr → Obj → Prop} {acc : Array Value} {l : List Int} (h1 : acc.size = l.length) (h2 : ∀ (i : Nat) (v : Value), acc[i]? = some v → ∃ tk, v = .int (l.getD i 0) tk) : Reps T.prog T.w G acc.toList (l.map V.int) := by
  refine Reps.of_get (by rw [List.length_map]; exact h1) fun i v t hv ht => ?_
  obtain ⟨tk, e⟩ := h2 i v (by rw [← Array.getElem?_toList]; exact hv)
  rw [List.getElem?_map, Option.map_eq_some_iff] at ht
  obtain ⟨x, hx, e2⟩ := ht
  rw [List.getD_eq_getElem?_getD, hx] at e
  exact e ▸ e2 ▸ Rep.int _ _
theorem rngL_at {a b c : Int} {i : Nat} (h : i < rsize a b c) : (rngL a b c).getD i 0 = a + i * c := by
  rw [List.getD_eq_getElem?_getD, rngL, List.getElem?_map, List.getElem?_range h]; rfl
theorem listR_ok {d v x} (hA : A.handled = none) (fresh : ¬ bad s.heap.objs.size) (r : RepD T.prog T.w (Gb s.heap bad) (Gb s.heap bc) d v x) (q : rngW x Q) : wpAny (model T.prog T.w) A (call (.type "list") [v]) (Is T bad bc s Q) E s := by
  cases x with
  | rng a b c =>
    obtain ⟨ad, t, u, x, e, g⟩ := RepD.rng_inv r
    clear r; subst e
    obtain ⟨q1, q⟩ := q
    obtain ⟨e1, e2⟩ := rsize_le q1
    refine call_list_range hA g.1 (small_ok q1) e1 (by lia) fun h' tk acc' c' hk hD hI => .mk (Ext.of hk) q ?_
    refine .list (vs := acc'.toList) (n := c') ⟨hD, fresh⟩ ⟨rfl, rfl⟩ (by simp) (by rw [Array.length_toList, hI.1, sl_eq]; lia) (range_reps (by rw [rngL_length]; exact hI.1) fun i v hv => ?_)
    rw [rngL_at (by have := (Array.getElem?_eq_some_iff.mp hv).1; rwa [hI.1] at this)]
    exact hI.2 i v hv
  | _ => exact (show False from q).elim
theorem min_eq (a b : Int) : min a b = if b < a then b else a := by
  rw [Int.min_def]
  by_cases h : b < a
  · rw [if_pos h, if_neg (Int.not_le.mpr h)]
  · rw [if_neg h, if_pos (Int.not_lt.mp h)]
theorem foldl_min_of : ∀ (ns : List Int) (n M : Int), (M = n ∨ M ∈ ns) → M ≤ n → (∀ a ∈ ns, M ≤ a) → ns.foldl min n = M
  | [], n, M, h, _, _ => by
    rcases h with h | h
    · exact h.symm
    · cases h
  | a :: ns, n, M, h, h1, h2 => by
    have ha := h2 a List.mem_cons_self
    refine foldl_min_of ns (min n a) M ?_ (by lia) fun b hb => h2 b (List.mem_cons_of_mem _ hb)
    rcases h with h | h
    · exact .inl (by lia)
    · cases h with
      | head => exact .inl (by lia)
      | tail _ h => exact .inr h
theorem ints_inv {p w G d} {vs : List Value} {xs : List V} (r : All2 (RepD p w (G : Addr → Obj → Prop) G d) vs xs) : ∀ {ns : List Int}, intsOf xs = some ns → IntsAre vs ns := by
  induction r with
  | nil => intro ns e; cases e; exact .nil
  | @cons v x vs xs h _ ih =>
    intro ns e
    obtain ⟨i, e1, e3⟩ := obind_inv e
    obtain ⟨l, e2, e4⟩ := map_inv e3
    obtain rfl := intOf_eq e1
    obtain ⟨t, rfl⟩ := h.int_inv
    rw [e4]
    exact .cons i t (ih e2)
theorem min_list_ok {l : Addr} {vs : List Value} {ns : List Int} {M : Int} (hA : A.handled = none) (hl : s.heap.IsList l vs.toArray) (hi : IntsAre vs ns) (hM : minL ns = some M) (q : Q (.int M) 0) :
    wpAny (model T.prog T.w) A (call (.builtin "min") [.ref l]) (Is T bad bc s Q) E s := by
  obtain ⟨xs, e⟩ := hi.allInts.items
  have hns : ns = xs.toList.map (·.1) := by
    rw [← hi.numsOf, ← nums_intItems, ← e]
  have hne : 0 < ns.length := by
    cases ns with
    | nil => exact nos hM
    | cons n ns => exact Nat.succ_pos _
  have hsz : 0 < xs.size := by
    rw [hns, List.length_map, Array.length_toList] at hne; exact hne
  rw [e] at hl
  refine min_intList hA hl hsz fun v h' tk hv hk => ?_
  obtain ⟨t, rfl⟩ := intItems_at hv
  obtain ⟨h1, h2⟩ := argBest_lt (numAt xs) (xs.size - 1)
  have m1 : numAt xs (argBest (fun i j => decide (numAt xs i < numAt xs j)) (xs.size - 1)) ∈ ns := by
    rw [hns, numAt_eq]; exact PySem.getD_mem (by rw [List.length_map, Array.length_toList]; lia)
  have m2 : ∀ a ∈ ns, numAt xs (argBest (fun i j => decide (numAt xs i < numAt xs j)) (xs.size - 1)) ≤ a := fun a ha => by
    rw [hns] at ha
    obtain ⟨j, hj, rfl⟩ := PySem.mem_getD ha
    rw [List.length_map, Array.length_toList] at hj
    rw [← numAt_eq]; exact h2 j (by lia)
  refine Is.int' hk ?_
  generalize numAt xs (argBest (fun i j => decide (numAt xs i < numAt xs j)) (xs.size - 1)) = N at m1 m2
  cases ns with
  | nil => exact nos hM
  | cons n ns =>
    have := foldl_min_of ns n N (List.mem_cons.mp m1) (m2 n List.mem_cons_self) fun a ha => m2 a (List.mem_cons_of_mem _ ha)
    have hM : some (ns.foldl min n) = some M := hM
    rw [this] at hM
    cases hM; exact q
theorem min_ok {as vs} (hA : A.handled = none) (h : All2 (Arg T bad bc s) vs as) (q : minW as Q) : wpAny (model T.prog T.w) A (call (.builtin "min") vs) (Is T bad bc s Q) E s := by
  match as, h, q with
  | [p], h, q =>
    refine argC h fun v vs r h => argN h ?_
    obtain ⟨xs, e, q⟩ := asList_inv q
    have r : RepD T.prog T.w (Gb s.heap bad) (Gb s.heap bc) p.2 v p.1 := r
    rw [e] at r
    cases e2 : (intsOf xs).bind minL with
    | none => unfold minLW at q; rw [e2] at q; exact q.elim
    | some M =>
      unfold minLW at q; rw [e2] at q
      obtain ⟨ns, e3, e4⟩ := obind_inv e2
      refine r.list_inv.isk fun a vs g z hlen r => min_list_ok hA g (ints_inv (G := fun _ _ => True) (d := p.2 - 1) (r.mono fun _ _ h => h.mono (fun _ _ _ => trivial) fun _ _ _ => trivial) e3) e4 q
  | [p, p2], h, q =>
    refine argC h fun v vs r h => argC h fun v' vs r' h => argN h (intsK r r' q fun a b t u q => ?_)
    refine min_two_ints hA fun h' tk hk => ?_
    rw [min_eq] at q
    split <;> rename_i hh
    · rw [if_pos hh] at q; exact Is.int' hk q
    · rw [if_neg hh] at q; exact Is.int' hk q
  | [p, p2, p3], h, q =>
    refine argC h fun v vs r h => argC h fun v' vs r' h => argC h fun v3 vs r3 h => argN h (intsK r r' (f := fun a b => asInt p3.1 fun c => Q (.int (min (min a b) c)) 0) q fun a b t u q => int1 r3 q fun c x q => ?_)
    refine min_three_ints hA fun h' tk hk => ?_
    rw [min_eq, min_eq] at q
    by_cases h1 : b < a
    · rw [if_pos h1] at q ⊢
      by_cases h2 : c < b
      · rw [if_pos h2] at q ⊢; exact Is.int' hk q
      · rw [if_neg h2] at q ⊢; exact Is.int' hk q
    · rw [if_neg h1] at q ⊢
      by_cases h2 : c < a
      · rw [if_pos h2] at q ⊢; exact Is.int' hk q
      · rw [if_neg h2] at q ⊢; exact Is.int' hk q
theorem bi_ok {b : Bi} {as vs} (hA : A.handled = none) (hbad : ∀ a, bad a → Alive s.heap a) (h : All2 (Arg T bad bc s) vs as) (q : biW b as Q) :
    wpAny (model T.prog T.w) A (call b.val vs) (Is T bad bc s Q) E s := by
  have fresh : ¬ bad s.heap.objs.size := fun hb => not_alive_size _ (hbad _ hb)
  cases b with
  | len =>
    refine arg1 h (f := fun v => lenW v Q) q fun v x d r q => ?_
    cases x with
    | str x => exact r.str_k fun t hl => P.len_str (by rw [stOf_length]; rw [sl_eq] at hl; lia) (by rw [stOf_length]; exact Is.int q)
    | list x => exact r.list_inv.isk fun a vs g z hlen r => call_len_list g (by rw [List.size_toArray]; rw [sl_eq] at z; lia) (by rw [List.size_toArray, hlen]; exact Is.int q)
    | _ => exact (show False from q).elim
  | range => exact range_ok fresh h q
  | list => exact arg1 h (f := fun v => rngW v Q) q fun v x d r q => listR_ok hA fresh r q
  | min => exact min_ok hA h q
  | chr => exact arg1 h (f := fun v => asInt v fun i => 0 ≤ i ∧ i < 1114112 ∧ Q (.str [i.toNat]) 0) q fun v x d r q => int1 r q fun i t q => P.chr_of_int (by simp; have := q.1; have := q.2.1; lia) (Is.str q.2.2 rfl (by rw [sl_eq]; exact Nat.le_of_ble_eq_true rfl))
  | abs => exact arg1 h (f := fun v => asInt v fun i => Q (.int (if i < 0 then -i else i)) 0) q fun v x d r q => int1 r q fun i t q => call_abs_int fun u tk => Is.int q
  | _ => exact (show False from q).elim
end
end Mine
end

-- part M5
section
open PySem PySem.Calls PyProof.Rows
set_option linter.unusedVariables false
set_option genSizeOf false
set_option genSizeOfSpec false
set_option genInjectivity false
namespace Mine

inductive Me where
  | lower | split | join | get
  deriving DecidableEq
noncomputable def Me.name : Me → Str
  | .lower => "lower" | .split => "split" | .join => "join" | .get => "get"

noncomputable def lowL (l : List Nat) : List Nat := (Txt.lower (stOf l)).cps.toList
noncomputable def splitL (l m : List Nat) : List (List Nat) := (Txt.split (stOf l) (stOf m)).map (·.cps.toList)

noncomputable def meOk (m : Me) (v : V) : Bool := match m with
  | .split => (strOf v).isSome
  | .join => (strOf v).isSome
  | _ => false
noncomputable def lowW (v : V) (f : List Nat → List Nat) (Q : V → Nat → Prop) : Prop := asStr v fun s => s.length ≤ 1000000 ∧ Q (.str (f s)) 0
noncomputable def me0W (m : Me) (o : V) (d : Nat) (Q : V → Nat → Prop) : Prop :=
  match m with
  | .lower => lowW o lowL Q
  | _ => False
noncomputable def strsOf : List V → Option (List (List Nat))
  | [] => some []
  | x :: xs => (strOf x).bind fun s => (strsOf xs).map fun l => s :: l
noncomputable def joinL (sp : List Nat) : List (List Nat) → List Nat
  | [] => []
  | x :: l => x ++ l.flatMap fun y => sp ++ y
noncomputable def joinW (sp : List Nat) (o : Option (List (List Nat))) (Q : V → Nat → Prop) : Prop := match o with
  | some l => l.flatten.length + l.length * sp.length ≤ 1000000 ∧ Q (.str (joinL sp l)) 0
  | none => False
noncomputable def getW (o : Option V) (dv : V) (Q : V → Nat → Prop) : Prop := match o with
  | some v => Q v 0
  | none => Q dv 0
noncomputable def getD2 (o a : V) (b : V) (db : Nat) (Q : V → Nat → Prop) : Prop := match o with
  | .dI ks vs => asInt a fun x => db = 0 ∧ getW (lkI ks vs x) b Q
  | _ => False
noncomputable def me2W (m : Me) (o a : V) (b : V) (db : Nat) (Q : V → Nat → Prop) : Prop := match m with
  | .get => getD2 o a b db Q
  | _ => False
noncomputable def isDI : V → Bool
  | .dI _ _ => true
  | _ => false
noncomputable def me2Ok (m : Me) (v : V) : Bool := match m with
  | .get => isDI v
  | _ => false
noncomputable def splW (s c : List Nat) (Q : V → Nat → Prop) : Prop := c ≠ [] ∧ (splitL s c).length ≤ 10000 ∧ (∀ p ∈ splitL s c, p.length ≤ 1000000) ∧ Q (.list ((splitL s c).map .str)) 0
noncomputable def me1W (m : Me) (o : V) (d : Nat) (a : V) (da : Nat) (Q : V → Nat → Prop) : Prop :=
  match m with
  | .split => asStr o fun s => asStr a fun c => splW s c Q
  | .join => asStr o fun s => asList a fun xs => joinW s (strsOf xs) Q
  | _ => False

end Mine
namespace Mine.Rx
open PySem.Builtin.Re PySem.Builtin.Str
noncomputable def textL (l : List (Str × Tok)) : List (List Nat) := l.map fun p => p.1.cps.toList
theorem glued_textL (e : Str) (l : List (Str × Tok)) : (glued e (l.map (·.1))).cps.toList = joinL e.cps.toList (textL l) := by
  unfold glued textL
  have key : ∀ (l : List Str) (acc : Array Nat), (l.foldl (fun acc p => acc ++ e.cps ++ p.cps) acc).toList = acc.toList ++ l.flatMap fun p => e.cps.toList ++ p.cps.toList := by
    intro l
    induction l with
    | nil => intro acc; simp
    | cons x l ih => intro acc; rw [List.foldl_cons, ih]; simp
  cases l with
  | nil => rfl
  | cons x l =>
    simp only [List.map_cons, List.drop_succ_cons, List.drop_zero, List.headD_cons]
    rw [key]
    unfold joinL
    simp [List.flatMap_map]
theorem join_foldL (e : Str) (l : List (Str × Tok)) : ((l.map (·.1)).toArray.foldl (· + ·.length + e.length) 0) = (textL l).flatten.length + (textL l).length * e.length := by
  rw [List.foldl_toArray']
  · have key : ∀ (l : List (Str × Tok)) (n : Nat), (l.map (·.1)).foldl (fun (a : Nat) (b : Str) => a + b.length + e.length) n = n + ((textL l).flatten.length + (textL l).length * e.length) := by
      intro l
      induction l with
      | nil => intro n; simp [textL]
      | cons x l ih =>
        intro n
        rw [List.map_cons, List.foldl_cons, ih]
        have : textL (x :: l) = x.1.cps.toList :: textL l := rfl
        rw [this, List.flatten_cons, List.length_append, List.length_cons, Nat.succ_mul]
        have : x.1.cps.toList.length = x.1.length := by simp [Str.length]
        lia
    rw [key]; lia
  · simp

noncomputable def texts (l : List (Str × Tok)) : List Nat := (textL l).flatten
theorem texts_append (l l' : List (Str × Tok)) : texts (l ++ l') = texts l ++ texts l' := by simp [texts, textL]
theorem joinL_nil : ∀ l : List (List Nat), joinL [] l = l.flatten
  | [] => rfl
  | x :: l => by simp [joinL]
theorem glued_texts (e : Str) (he : e.cps = #[]) (l : List (Str × Tok)) : (glued e (l.map (·.1))).cps.toList = texts l := by
  rw [glued_textL, he]; exact joinL_nil _
theorem join_fold (e : Str) (he : e.cps = #[]) (l : List (Str × Tok)) : ((l.map (·.1)).toArray.foldl (· + ·.length + e.length) 0) = (texts l).length := by
  rw [join_foldL, show e.length = 0 by unfold Str.length; rw [he]; rfl]; rfl
end Mine.Rx
namespace Mine
theorem stOf_cps (x : Str) : stOf x.cps.toList = x := by cases x; simp [stOf]

section
variable {T : GT} {bad bc : Addr → Prop} {s : Shared} {Q : V → Nat → Prop} {A : Around} {k : Nat} {E : Value → Shared → Prop}

theorem toks_len {l : List Nat} (h : l.length ≤ 1000000) : Builtin.Str.tooLong (Txt.lower (stOf l)).length = false := by
  have := len_lower (stOf l)
  have h2 := stOf_length l
  simp only [Str.length] at this h2
  rw [h2] at this
  unfold Builtin.Str.tooLong; rw [sl_eq]; simp only [Str.length]; exact decide_eq_false (by lia)
theorem me0_ok {m : Me} {o : V} {d : Nat} {ov : Value} {pos : Pos} (r : RepD T.prog T.w (Gb s.heap bad) (Gb s.heap bc) d ov o) (q : me0W m o d Q) :
    MethodOnS T.prog T.w A E m.name ov pos [] (Is T bad bc s Q) s := by
  cases m with
  | lower =>
    refine str1 r (f := fun s => s.length ≤ 1000000 ∧ Q (.str (lowL s)) 0) q fun l t hl q => ?_
    have h := toks_len q.1
    refine SB.lower h (Is.str q.2 (stOf_cps _).symm ?_)
    unfold Builtin.Str.tooLong at h; simpa [lowL, Str.length] using h
  | _ => exact (show False from q).elim

theorem reps_strs {G : Addr → Obj → Prop} : ∀ (tk : Nat) (xs : List Str), (∀ x ∈ xs, x.length ≤ sizeLine) → Reps T.prog T.w G (strsFrom tk xs) ((xs.map (·.cps.toList)).map V.str)
  | _, [], _ => .nil
  | tk, x :: xs, h => by
    have e := stOf_cps x
    refine .cons (t := .str x.cps.toList) ?_ (reps_strs (tk + 1) xs fun y hy => h y (List.mem_cons_of_mem _ hy))
    have : Rep T.prog T.w G (.str (stOf x.cps.toList) tk) (.str x.cps.toList) := .str _ _ (by have := h x List.mem_cons_self; simpa [Str.length] using this)
    rwa [e] at this

theorem strs_ok {G0 G1 : Addr → Obj → Prop} {d : Nat} {vs : List Value} {xs : List V} (g : All2 (RepD T.prog T.w G0 G1 d) vs xs) : ∀ {ls : List (List Nat)}, strsOf xs = some ls →
    ∃ l : List (Str × Tok), vs = strValues l ∧ Rx.textL l = ls ∧ ∀ p ∈ l, p.1.length ≤ sizeLine := by
  induction g with
  | nil => exact fun h => ⟨[], rfl, Option.some.inj h ▸ rfl, fun p h => (nomatch h)⟩
  | @cons v x vs xs g gs ih =>
    intro ls h
    obtain ⟨s, h1, h2⟩ := obind_inv (o := strOf x) (f := fun s => (strsOf xs).map fun l => s :: l) h
    obtain ⟨l', h3, h4⟩ := map_inv h2
    obtain ⟨l, e1, e, hl⟩ := ih h3
    obtain ⟨t, e2, hz⟩ := (strOf_eq h1 ▸ g).str_inv
    refine ⟨(stOf s, t) :: l, e1 ▸ e2 ▸ rfl, ?_, fun p hp => ?_⟩
    · rw [h4, ← e]; rfl
    · cases hp with
      | head => rw [stOf_length]; exact hz
      | tail _ hp => exact hl p hp

theorem me2_ok {m : Me} {o : V} {d : Nat} {ov : Value} {pos : Pos} {a b : Sem Value} (hm : me2Ok m o = true) (r : RepD T.prog T.w (Gb s.heap bad) (Gb s.heap bc) d ov o)
    (h : wpAny (model T.prog T.w) A a (fun va s1 => wpAny (model T.prog T.w) A b (fun vb s2 => Ext s s2 ∧ ∃ ta da tb db, me2W m o ta tb db Q ∧ RepD T.prog T.w (Gb s2.heap bad) (Gb s2.heap bc) da va ta ∧ RepD T.prog T.w (Gb s2.heap bad) (Gb s2.heap bc) db vb tb) No s1) No s) :
    MethodOnS T.prog T.w A No m.name ov pos [(false, a), (false, b)] (Is T bad bc s Q) s := by
  cases m with
  | get =>
    cases o with
    | dI ks vs =>
      obtain ⟨ad, o, vals, eo, g, hz, dd, rr⟩ := r.inv rfl
      clear r hm
      rw [eo]
      have M0 := mapOf_dI g.1 dd
      refine ⟨"dict", "dict.get", PySem.F.plainAttrs_dict, PySem.F.slot_dict_get, PySem.F.type_dict_get, M0.typeIs, M0.mapOf.noDict, ?_⟩
      refine wpAny_dict_get2 (knd := PySem.intKind T.prog T.w) hz.2.2 (wpAny_mono h (fun va s1 h1 => wpAny_mono h1 (fun vb s2 ⟨x, ta, da, tb, db, q, ra, rb⟩ => ?_) fun _ _ e => e) fun _ _ e => e)
      refine int1 ra (f := fun x => db = 0 ∧ getW (lkI ks vs x) tb Q) q fun y u q2 => ?_
      obtain ⟨hdb, q2⟩ := q2
      refine ⟨y, _, isI _ _ _ _, (mapOf_dI (x.keeps _ _ g.1) dd).mapOf, ?_⟩
      have lk : LkOk T.prog T.w (Gb s.heap bad) (valueAt (ks.zip vals) y) (lkI ks vs y) := valueAt_lk y hz.1 rr
      cases e3 : lkI ks vs y with
      | none =>
        rw [e3] at lk q2
        rw [show valueAt _ y = none from lk]
        exact .mk (x.trans (Ext.tok _ _)) q2 (hdb ▸ rb)
      | some w =>
        rw [e3] at lk q2
        obtain ⟨v, hv, hr⟩ := lk
        rw [hv]
        exact .mk (x.trans (Ext.tok _ _)) q2 (d := 0) (hr.mono (Gb.keeps x.keeps))
    | _ => cases hm
  | _ => cases hm

theorem strsFrom_len : ∀ (xs : List Str) (tk : Nat), (strsFrom tk xs).length = xs.length := fun xs => by
  induction xs with
  | nil => intro _; rfl
  | cons a as ih => intro tk; show (strsFrom (tk + 1) as).length + 1 = _; rw [ih]; rfl
theorem split_made {l c : List Nat} {t : Tok} {s₁ : Shared} (hl : l.length ≤ sizeLine) (fresh : ¬ bad s₁.heap.objs.size) (x : Ext s s₁) (q : splW l c Q) :
    (Txt.split (stOf l) (stOf c) = [stOf l] → ∀ tk, Is T bad bc s Q (.ref s₁.heap.objs.size) { s₁ with heap := s₁.heap.push { cls := .type "list", data := .seq [Value.str (stOf l) t].toArray }, toks := tk }) ∧
    (∀ tk' tk, Is T bad bc s Q (.ref s₁.heap.objs.size) { s₁ with heap := s₁.heap.push { cls := .type "list", data := .seq (strsFrom tk' (Txt.split (stOf l) (stOf c))).toArray }, toks := tk }) ∧ (Txt.split (stOf l) (stOf c)).length ≤ sizeLine := by
  obtain ⟨q1, q2, q3, q⟩ := q
  have small : ∀ y ∈ Txt.split (stOf l) (stOf c), y.length ≤ sizeLine := fun y hy => Nat.le_trans (q3 y.cps.toList (List.mem_map.mpr ⟨y, hy, rfl⟩)) (by rw [sl_eq]; exact Nat.le_of_ble_eq_true rfl)
  have nsm : (Txt.split (stOf l) (stOf c)).length ≤ sizeLine := Nat.le_trans (by rw [splitL, List.length_map] at q2; exact q2) (by rw [sl_eq]; exact Nat.le_of_ble_eq_true rfl)
  refine ⟨fun e tk => ?_, fun tk' tk => ?_, nsm⟩
  · refine .mk (x.trans (Ext.push _ _ _)) q (.list (n := 0) (vs := [Value.str (stOf l) t]) ⟨Heap.get?_push_size _ rfl, fresh⟩ ⟨rfl, rfl⟩ rfl (by rw [sl_eq]; exact Nat.le_of_ble_eq_true rfl) ?_)
    rw [splitL, e]
    exact .cons (t := .str l) (.str _ _ hl) .nil
  · exact .mk (x.trans (Ext.push _ _ _)) q (.list (n := 0) (vs := strsFrom tk' (Txt.split (stOf l) (stOf c))) ⟨Heap.get?_push_size _ rfl, fresh⟩ ⟨rfl, rfl⟩ rfl (by rw [strsFrom_len]; exact nsm) (reps_strs _ _ small))
theorem split_ok {l : List Nat} {t : Tok} {pos : Pos} {a : Sem Value} (hbad : ∀ a, bad a → Alive s.heap a) (hl : l.length ≤ sizeLine)
    (h : wpAny (model T.prog T.w) A a (Is T bad bc s fun ta da => asStr ta fun c => splW l c Q) No s) : MethodOnS T.prog T.w A E Me.split.name (.str (stOf l) t) pos [(false, a)] (Is T bad bc s Q) s := by
  refine ⟨"str", _, F.plainAttrs_str, F.slot_str_split, F.type_str_split, typeIs_str _ _ _, (fun _ e => nomatch e), method1_meets F.slot_str_split F.entry_str_split (wp_no h fun v s₁ ⟨x, ta, da, q, r⟩ => ?_)⟩
  refine str1 r (f := fun c => splW l c Q) q fun c u hc q => ?_
  have hy : ((stOf c).length == 0) = false := by rw [stOf_length]; exact beq_eq_false_iff_ne.mpr fun h => q.1 (List.length_eq_zero_iff.mp h)
  refine ⟨typeIs_str _ _ _, F.args_str_split_2 _ _, ?_⟩
  obtain ⟨one, many, nsm⟩ := split_made (T := T) (bad := bad) (bc := bc) (t := t) hl (fun hb => not_alive_size _ ((hbad _ hb).keeps x.keeps)) x q
  clear q r h
  cases h1 : (decide ((stOf l).length < (stOf c).length) || decide (Builtin.Str.strKind (stOf l) < Builtin.Str.strKind (stOf c)))
  · cases hf : (Builtin.Str.occurrences (stOf l) (stOf c) 0 (stOf l).length ((stOf l).length + 1)).isEmpty
    · have e : Txt.split (stOf l) (stOf c) = Builtin.Str.partsBetween (stOf l) (Builtin.Str.occurrences (stOf l) (stOf c) 0 (stOf l).length ((stOf l).length + 1)) (stOf c).length :=
        (if_neg (ne_true_of_eq_false h1)).trans (if_neg (ne_true_of_eq_false hf))
      refine ⟨_, meets_str_split_sep (stOf l) (stOf c) t u h1 hy hf (by rw [stOf_length]; exact hl) (by rw [← e]; exact nsm), ?_⟩
      show Is T bad bc s Q _ _
      rw [← e]
      exact many _ _
    · exact ⟨_, meets_str_split_not_found (stOf l) (stOf c) t u h1 hy hf, one ((if_neg (ne_true_of_eq_false h1)).trans (if_pos hf)) _⟩
  · exact ⟨_, meets_str_split_cannot_occur (stOf l) (stOf c) t u h1, one (if_pos h1) _⟩
theorem joinL_len (sp : List Nat) (l : List (List Nat)) : (joinL sp l).length ≤ l.flatten.length + l.length * sp.length := by
  cases l with
  | nil => exact Nat.zero_le _
  | cons x l =>
    have : ∀ l : List (List Nat), (l.flatMap fun y => sp ++ y).length = l.flatten.length + l.length * sp.length := by
      intro l
      induction l with
      | nil => simp
      | cons y l ih => rw [List.flatMap_cons, List.length_append, ih, List.flatten_cons, List.length_append, List.length_append, List.length_cons, Nat.succ_mul]; lia
    unfold joinL
    rw [List.length_append, this, List.flatten_cons, List.length_append, List.length_cons, Nat.succ_mul]; lia
theorem join_ok {sp : List Nat} {t : Tok} {pos : Pos} {a : Sem Value} (h : wpAny (model T.prog T.w) A a (Is T bad bc s fun ta da => asList ta fun xs => joinW sp (strsOf xs) Q) No s) : MethodOnS T.prog T.w A E Me.join.name (.str (stOf sp) t) pos [(false, a)] (Is T bad bc s Q) s := by
  refine ⟨"str", _, PySem.F.plainAttrs_str, PySem.F.slot_str_join, PySem.F.type_str_join, typeIs_str _ _ _, (fun _ e => nomatch e), method1_meets PySem.F.slot_str_join PySem.F.entry_str_join (wp_no h fun v s₁ ⟨x, ta, da, q, r'⟩ => ?_)⟩
  refine list1 r' (f := fun xs => joinW sp (strsOf xs) Q) q fun xs r' q => r'.isk fun ad us hl z _ r1 => ?_
  cases e : strsOf xs with
  | none => rw [e] at q; exact (show False from q).elim
  | some ls =>
    rw [e] at q
    obtain ⟨q1, q⟩ := q
    obtain ⟨l, e1, hlt, hsm⟩ := strs_ok r1 e
    clear r1 r' e h
    subst e1
    subst hlt
    have jl := joinL_len sp (Rx.textL l)
    refine ⟨typeIs_str _ _ _, PySem.F.args_str_join_2 _ _, _, meets_str_join_list _ _ _ l ?_, hl, ?_⟩
    · rw [Rx.join_foldL, stOf_length]; unfold Builtin.Str.tooLong; rw [sl_eq]; exact decide_eq_false (by clear hsm; lia)
    · have gl : (Builtin.Str.glued (stOf sp) (l.map (·.1))).cps.toList = joinL sp (Rx.textL l) := Rx.glued_textL (stOf sp) l
      have fin : (Made.str (Builtin.Str.glued (stOf sp) (l.map (·.1)))).post (fun v s' => wants (Is T bad bc s Q) No (.ok (.ret v)) s') s₁ := by
        refine ⟨?_, ?_⟩
        · show (Builtin.Str.glued _ _).cps.size ≤ sizeLine
          have := congrArg List.length gl
          rw [Array.length_toList] at this
          rw [this, sl_eq]; clear hsm this gl; lia
        · show Is T bad bc s Q _ _
          exact (Is.trans x (Is.str q (by rw [← gl, stOf_cps]) (by rw [sl_eq]; clear hsm gl; lia)))
      cases l with
      | nil => exact fin
      | cons p l2 => cases l2 with
        | nil =>
          obtain ⟨y, ty⟩ := p
          show Is T bad bc s Q _ _
          have hy : joinL sp (Rx.textL [(y, ty)]) = y.cps.toList := List.append_nil _
          rw [hy] at q
          have := hsm (y, ty) List.mem_cons_self
          have r2 : RepD T.prog T.w (Gb s₁.heap bad) (Gb s₁.heap bc) 0 (.str (stOf y.cps.toList) ty) (.str y.cps.toList) := .str _ _ this
          exact .mk x q (by rwa [stOf_cps] at r2)
        | cons p' l3 => exact fin
theorem isSome_inv {α : Type} {o : Option α} (h : o.isSome = true) : ∃ a, o = some a := by
  cases o with
  | none => cases h
  | some a => exact ⟨a, rfl⟩
theorem me1_ok {m : Me} {o : V} {d : Nat} {ov : Value} {pos : Pos} {a : Sem Value} (hbad : ∀ a, bad a → Alive s.heap a) (hm : meOk m o = true) (r : RepD T.prog T.w (Gb s.heap bad) (Gb s.heap bc) d ov o)
    (h : wpAny (model T.prog T.w) A a (Is T bad bc s fun ta da => me1W m o d ta da Q) No s) :
    MethodOnS T.prog T.w A E m.name ov pos [(false, a)] (Is T bad bc s Q) s := by
  cases m with
  | split =>
    obtain ⟨l, e⟩ := isSome_inv hm
    obtain rfl := strOf_eq e
    exact r.str_k fun t hl => split_ok hbad hl h
  | join =>
    cases o with
    | str sp => exact r.str_k fun t hl => join_ok h
    | _ => cases hm
  | _ => cases hm
end
end Mine
end

-- part R1
section
open PySem
set_option linter.unusedVariables false
set_option maxRecDepth 100000
namespace Mine.Rx
open PySem.Sre PySem.Sre.M

noncomputable def code1 : List Nat := [14, 4, 0, 1, 1, 6, 1, 16, 46, 1]
noncomputable def code2 : List Nat := [14, 9, 4, 1, 2, 16, 10, 16, 13, 0, 7, 7, 16, 13, 16, 10, 15, 18, 5, 16, 10, 15, 13, 11, 16, 13, 5, 5, 0, 16, 10, 1, 15, 2, 0, 1]

theorem runFor_add : ∀ (n k : Nat) (m : M), runFor (n + k) m = runFor k (runFor n m)
  | 0, k, m => by rw [Nat.zero_add]; rfl
  | n + 1, k, m => by
    rw [Nat.add_right_comm]
    show (if m.outcome.isSome then m else runFor (n + k) m.step) = runFor k (if m.outcome.isSome then m else runFor n m.step)
    split
    · rename_i h
      have : ∀ k, runFor k m = m := fun k => by
        cases k with
        | zero => rfl
        | succ k => show (if m.outcome.isSome then m else _) = m; rw [if_pos h]
      rw [this]
    · exact runFor_add n k _
/-- the machine comes from m to m' in at most n steps -/
noncomputable def Go (n : Nat) (m m' : M) : Prop := ∃ k, k ≤ n ∧ runFor k m = m'
theorem Go.refl {n m} : Go n m m := ⟨0, Nat.zero_le _, rfl⟩
theorem Go.trans {n n' m m' m''} (h : Go n m m') (h' : Go n' m' m'') : Go (n + n') m m'' := by
  obtain ⟨k, a, b⟩ := h
  obtain ⟨k', a', b'⟩ := h'
  exact ⟨k + k', by lia, by rw [runFor_add, b, b']⟩
theorem Go.step {n m m'} (h0 : m.outcome = none) (h : Go n m.step m') : Go (n + 1) m m' := by
  obtain ⟨k, a, b⟩ := h
  refine ⟨k + 1, by lia, ?_⟩
  show (if m.outcome.isSome then m else runFor k m.step) = m'
  rw [h0, if_neg (by simp)]; exact b
theorem Go.one {m m' : M} (h0 : m.outcome = none) (e : m.step = m') : Go 1 m m' := Go.step h0 (e ▸ Go.refl)
theorem Go.mono {n n' m m'} (h : Go n m m') (e : n ≤ n') : Go n' m m' := by
  obtain ⟨k, a, b⟩ := h; exact ⟨k, by lia, b⟩

/-- pattern 1: the state that tries at s -/
noncomputable def A1 (text : Array Nat) (s : Nat) (first : Bool) (seen : Seen) : M :=
  { code := code1.toArray, text, lim := text.size, start := s, lastStart := text.size, pc := 5, pos := s, handed := s, outermost := first, marks := #[],
    frames := [{ wait := .nextStart, pc := 5, pos := s, outermost := first }], weight := 1, seen }

theorem forSearch1 (text : Array Nat) (s : Nat) (h : s < text.size) : ∃ seen, forSearch code1.toArray text 0 s text.size false = A1 text s true seen := by
  refine ⟨({} : Seen).add 14, ?_⟩
  unfold forSearch
  have e : (s > text.size || text.size - s < (header code1.toArray).1) = false := by
    have : (header code1.toArray).1 = 1 := rfl
    rw [this]; simp; lia
  dsimp only
  rw [e]
  rfl
theorem forSearch1_end (text : Array Nat) : ∃ m', Go 1 (forSearch code1.toArray text 0 text.size text.size false) m' ∧ m'.outcome = some .failed := by
  unfold forSearch
  have e : (text.size > text.size || text.size - text.size < (header code1.toArray).1) = true := by
    have : (header code1.toArray).1 = 1 := rfl
    rw [this]; simp
  dsimp only
  rw [if_pos e]
  exact ⟨_, ⟨1, Nat.le_refl _, rfl⟩, rfl⟩

noncomputable def at1 (text : Array Nat) (s : Nat) : Bool := s == 0 || text.getD (s - 1) 0 == 10


theorem stepA (text : Array Nat) (s : Nat) (first : Bool) (seen : Seen) : (A1 text s first seen).step = (let m := { A1 text s first seen with seen := ((seen.add 6).add 44) }; if at1 text s then { m with pc := 7 } else m.say false) := rfl
/-- after the line's begin was seen -/
noncomputable def B1 (text : Array Nat) (s : Nat) (first : Bool) (seen : Seen) : M := { A1 text s first seen with seen, pc := 7 }
noncomputable def C1 (text : Array Nat) (s : Nat) (first : Bool) (seen : Seen) : M := { A1 text s first seen with seen, pc := 7, answer := some false }
theorem stepB (text : Array Nat) (s : Nat) (first : Bool) (seen : Seen) : (B1 text s first seen).step = (let m := { B1 text s first seen with seen := (seen.add 16) }; if s ≥ text.size then m.say false else
    match (text.getD s 0 == 46) with | false => m.say false | true => { m with pc := 9, pos := s + 1 }) := by
  show (if s ≥ text.size then _ else _) = (if s ≥ text.size then _ else _)
  split
  · rfl
  · show (match (Except.ok ((text.getD s 0 == 46), seen.add 16) : Except String (Bool × Seen)) with | .error why => _ | .ok (false, seen) => _ | .ok (true, seen) => _) = _
    cases text.getD s 0 == 46 <;> rfl
theorem goB (text : Array Nat) (s : Nat) (first : Bool) (seen : Seen) (h : at1 text s = true) : Go 1 (A1 text s first seen) (B1 text s first ((seen.add 6).add 44)) := by
  refine Go.step rfl ?_
  rw [stepA, h]
  exact Go.refl
theorem goC (text : Array Nat) (s : Nat) (first : Bool) (seen : Seen) (h : s < text.size → text.getD s 0 ≠ 46) : Go 1 (B1 text s first seen) (C1 text s first (seen.add 16)) := by
  refine Go.step rfl ?_
  rw [stepB]
  by_cases e : s ≥ text.size
  · dsimp only; rw [if_pos e]; exact Go.refl
  · dsimp only; rw [if_neg e]
    have : (text.getD s 0 == 46) = false := by simpa using h (by lia)
    rw [this]; exact Go.refl
noncomputable def D1 (text : Array Nat) (s : Nat) (first : Bool) (seen : Seen) : M := { A1 text s first seen with seen, answer := some false }
theorem goD (text : Array Nat) (s : Nat) (first : Bool) (seen : Seen) (h : at1 text s = false) : Go 1 (A1 text s first seen) (D1 text s first ((seen.add 6).add 44)) := by
  refine Go.step rfl ?_
  rw [stepA, h]
  exact Go.refl
/-- a start that does not match -/
noncomputable def miss1 (text : Array Nat) (s : Nat) : Prop := at1 text s = true → s < text.size → text.getD s 0 ≠ 46
theorem go_miss (text : Array Nat) (s : Nat) (first : Bool) (seen : Seen) (h : miss1 text s) : ∃ m seen', Go 2 (A1 text s first seen) m ∧ m.outcome = none ∧ (s < text.size → m.step = A1 text (s + 1) false seen') ∧ (¬ s < text.size → ∃ m', m'.outcome = some .failed ∧ Go 2 m m') := by
  cases e : at1 text s
  · refine ⟨_, ((seen.add 6).add 44), (goD text s first seen e).mono (by lia), rfl, fun hs => ?_, fun hs => ?_⟩
    · show (if s < text.size then _ else _) = _
      rw [if_pos hs]; rfl
    · have e1 : (D1 text s first ((seen.add 6).add 44)).step = ({ D1 text s first ((seen.add 6).add 44) with answer := some false, frames := [], weight := 0, pc := 5 } : M) := by
        show (if s < text.size then _ else _) = _
        rw [if_neg hs]; rfl
      exact ⟨_, rfl, (Go.one rfl e1).trans (Go.one rfl rfl)⟩
  · refine ⟨_, ((((seen.add 6).add 44)).add 16), (goB text s first seen e).trans (goC text s first _ (h e)), rfl, fun hs => ?_, fun hs => ?_⟩
    · show (if s < text.size then _ else _) = _
      rw [if_pos hs]; rfl
    · have e1 : (C1 text s first ((((seen.add 6).add 44)).add 16)).step = ({ C1 text s first ((((seen.add 6).add 44)).add 16) with answer := some false, frames := [], weight := 0, pc := 5 } : M) := by
        show (if s < text.size then _ else _) = _
        rw [if_neg hs]; rfl
      exact ⟨_, rfl, (Go.one rfl e1).trans (Go.one rfl rfl)⟩
noncomputable def B2 (text : Array Nat) (s : Nat) (first : Bool) (seen : Seen) : M := { A1 text s first seen with seen, pc := 9, pos := s + 1 }
noncomputable def B3 (text : Array Nat) (s : Nat) (first : Bool) (seen : Seen) : M := { A1 text s first seen with seen, pc := 9, pos := s + 1, handed := s + 1, answer := some true }
theorem go_hit (text : Array Nat) (s : Nat) (first : Bool) (seen : Seen) (h : at1 text s = true) (hs : s < text.size) (h46 : text.getD s 0 = 46) :
    ∃ m', Go 6 (A1 text s first seen) m' ∧ m'.outcome = some .matched ∧ m'.start = s ∧ m'.handed = s + 1 := by
  have b := goB text s first seen h
  have e : (B1 text s first ((seen.add 6).add 44)).step = B2 text s first (((seen.add 6).add 44).add 16) := by
    rw [stepB]; dsimp only; rw [if_neg (by lia), h46]; rfl
  have e3 : (B2 text s first (((seen.add 6).add 44).add 16)).step = B3 text s first ((((seen.add 6).add 44).add 16).add 1) := by
    show (if (first && false) = true then _ else _) = _
    rw [Bool.and_false, if_neg (by simp)]; rfl
  exact ⟨_, ((b.trans (Go.one rfl e)).trans ((Go.one rfl e3).trans ((Go.one rfl rfl).trans (Go.one rfl rfl)))).mono (by lia), rfl, rfl, rfl⟩

/-- the next match of pattern 1 from s: none, or its begin -/
noncomputable def next1 (text : Array Nat) : Nat → Nat → Option Nat
  | 0, _ => none
  | n + 1, s => if at1 text s = true ∧ text.getD s 0 = 46 then some s else next1 text n (s + 1)
theorem search1 (text : Array Nat) : ∀ (n s : Nat) (first : Bool) (seen : Seen), s + n = text.size → ∃ m', Go (6 * n + 6) (A1 text s first seen) m' ∧
    match next1 text n s with
    | some p => m'.outcome = some .matched ∧ m'.start = p ∧ m'.handed = p + 1
    | none => m'.outcome = some .failed
  | 0, s, first, seen, e => by
    obtain ⟨m, seen', g, h0, _, h2⟩ := go_miss text s first seen (fun _ h => by lia)
    obtain ⟨m', a, b⟩ := h2 (by lia)
    exact ⟨m', (g.trans b).mono (by lia), a⟩
  | n + 1, s, first, seen, e => by
    unfold next1
    by_cases c : at1 text s = true ∧ text.getD s 0 = 46
    · rw [if_pos c]
      obtain ⟨m', a, b⟩ := go_hit text s first seen c.1 (by lia) c.2
      exact ⟨m', a.mono (by lia), b⟩
    · rw [if_neg c]
      obtain ⟨m, seen', g, h0, h1, _⟩ := go_miss text s first seen (fun h h' h'' => c ⟨h, h''⟩)
      obtain ⟨m', a, b⟩ := search1 text n (s + 1) false seen' (by lia)
      exact ⟨m', (g.trans (Go.step h0 ((h1 (by lia)).symm ▸ a))).mono (by lia), b⟩
theorem found1 (text : Array Nat) (s : Nat) (h : s ≤ text.size) : ∃ m', Go (6 * (text.size - s) + 6) (forSearch code1.toArray text 0 s text.size false) m' ∧
    match next1 text (text.size - s) s with
    | some p => m'.outcome = some .matched ∧ m'.start = p ∧ m'.handed = p + 1
    | none => m'.outcome = some .failed := by
  by_cases e : s < text.size
  · obtain ⟨seen, q⟩ := forSearch1 text s e
    rw [q]; exact search1 text _ s true seen (by lia)
  · obtain rfl : s = text.size := by lia
    obtain ⟨m', a, b⟩ := forSearch1_end text
    rw [Nat.sub_self]
    exact ⟨m', a.mono (by lia), b⟩
end Mine.Rx
end

-- part R2
section
open PySem
set_option linter.unusedVariables false
set_option maxRecDepth 100000
namespace Mine.Rx
open PySem.Sre PySem.Sre.M

noncomputable def X (text : Array Nat) (s : Nat) (seen : Seen) (pc pos : Nat) (outermost : Bool) (handed : Nat) (frames : List Sre.Frame) (weight : Nat) (answer : Option Bool) : M :=
  { code := code2.toArray, text, lim := text.size, start := s, lastStart := text.size, pc, pos, handed, outermost, marks := #[], frames, weight, seen, answer }
noncomputable def NS (s : Nat) (first : Bool) : Sre.Frame := { wait := .nextStart, pc := 10, pos := s, outermost := first }
noncomputable def NB (pc s : Nat) (first : Bool) : Sre.Frame := { wait := .nextBranch, pc, pos := s, outermost := first }
noncomputable def LN (s : Nat) (first : Bool) : Sre.Frame := { wait := .lookNot, pc := 26, pos := s, outermost := first }
noncomputable def A2 (text : Array Nat) (s : Nat) (first : Bool) (seen : Seen) : M := X text s seen 10 s first s [NS s first] 1 none

theorem lit (text : Array Nat) (s : Nat) (seen : Seen) (pc w pos : Nat) (o : Bool) (hd : Nat) (fs : List Sre.Frame) (wt : Nat) (h : (pc, w) ∈ [(12, 13), (14, 10), (19, 10), (24, 13), (29, 10)]) :
    (X text s seen pc pos o hd fs wt none).step = if pos < text.size ∧ text.getD pos 0 = w then X text s (seen.add 16) (pc + 2) (pos + 1) o hd fs wt none else X text s (seen.add 16) pc pos o hd fs wt (some false) := by
  simp only [List.mem_cons, Prod.mk.injEq, List.not_mem_nil, or_false] at h
  rcases h with ⟨rfl, rfl⟩ | ⟨rfl, rfl⟩ | ⟨rfl, rfl⟩ | ⟨rfl, rfl⟩ | ⟨rfl, rfl⟩
  · show (if pos ≥ text.size then _ else (match (Except.ok ((text.getD pos 0 == 13), seen.add 16) : Except String (Bool × Seen)) with | .error why => _ | .ok (false, seen) => _ | .ok (true, seen) => _)) = _
    by_cases e : pos ≥ text.size
    · rw [if_pos e, if_neg (by lia)]; rfl
    · rw [if_neg e]
      by_cases e2 : text.getD pos 0 = 13
      · rw [if_pos ⟨by lia, e2⟩, e2]; rfl
      · rw [if_neg (fun h => e2 h.2)]
        rw [beq_eq_false_iff_ne.mpr e2]; rfl
  · show (if pos ≥ text.size then _ else (match (Except.ok ((text.getD pos 0 == 10), seen.add 16) : Except String (Bool × Seen)) with | .error why => _ | .ok (false, seen) => _ | .ok (true, seen) => _)) = _
    by_cases e : pos ≥ text.size
    · rw [if_pos e, if_neg (by lia)]; rfl
    · rw [if_neg e]
      by_cases e2 : text.getD pos 0 = 10
      · rw [if_pos ⟨by lia, e2⟩, e2]; rfl
      · rw [if_neg (fun h => e2 h.2)]
        rw [beq_eq_false_iff_ne.mpr e2]; rfl
  · show (if pos ≥ text.size then _ else (match (Except.ok ((text.getD pos 0 == 10), seen.add 16) : Except String (Bool × Seen)) with | .error why => _ | .ok (false, seen) => _ | .ok (true, seen) => _)) = _
    by_cases e : pos ≥ text.size
    · rw [if_pos e, if_neg (by lia)]; rfl
    · rw [if_neg e]
      by_cases e2 : text.getD pos 0 = 10
      · rw [if_pos ⟨by lia, e2⟩, e2]; rfl
      · rw [if_neg (fun h => e2 h.2)]
        rw [beq_eq_false_iff_ne.mpr e2]; rfl
  · show (if pos ≥ text.size then _ else (match (Except.ok ((text.getD pos 0 == 13), seen.add 16) : Except String (Bool × Seen)) with | .error why => _ | .ok (false, seen) => _ | .ok (true, seen) => _)) = _
    by_cases e : pos ≥ text.size
    · rw [if_pos e, if_neg (by lia)]; rfl
    · rw [if_neg e]
      by_cases e2 : text.getD pos 0 = 13
      · rw [if_pos ⟨by lia, e2⟩, e2]; rfl
      · rw [if_neg (fun h => e2 h.2)]
        rw [beq_eq_false_iff_ne.mpr e2]; rfl
  · show (if pos ≥ text.size then _ else (match (Except.ok ((text.getD pos 0 == 10), seen.add 16) : Except String (Bool × Seen)) with | .error why => _ | .ok (false, seen) => _ | .ok (true, seen) => _)) = _
    by_cases e : pos ≥ text.size
    · rw [if_pos e, if_neg (by lia)]; rfl
    · rw [if_neg e]
      by_cases e2 : text.getD pos 0 = 10
      · rw [if_pos ⟨by lia, e2⟩, e2]; rfl
      · rw [if_neg (fun h => e2 h.2)]
        rw [beq_eq_false_iff_ne.mpr e2]; rfl
theorem lit_yes {text : Array Nat} {s : Nat} {seen : Seen} {pc w pos : Nat} {o : Bool} {hd : Nat} {fs : List Sre.Frame} {wt : Nat} (h : (pc, w) ∈ [(12, 13), (14, 10), (19, 10), (24, 13), (29, 10)])
    (h1 : pos < text.size) (h2 : text.getD pos 0 = w) : Go 1 (X text s seen pc pos o hd fs wt none) (X text s (seen.add 16) (pc + 2) (pos + 1) o hd fs wt none) :=
  Go.one rfl (by rw [lit _ _ _ _ _ _ _ _ _ _ h, if_pos ⟨h1, h2⟩])
theorem lit_no {text : Array Nat} {s : Nat} {seen : Seen} {pc w pos : Nat} {o : Bool} {hd : Nat} {fs : List Sre.Frame} {wt : Nat} (h : (pc, w) ∈ [(12, 13), (14, 10), (19, 10), (24, 13), (29, 10)])
    (h1 : ¬ (pos < text.size ∧ text.getD pos 0 = w)) : Go 1 (X text s seen pc pos o hd fs wt none) (X text s (seen.add 16) pc pos o hd fs wt (some false)) :=
  Go.one rfl (by rw [lit _ _ _ _ _ _ _ _ _ _ h, if_neg h1])
theorem enter (text : Array Nat) (s : Nat) (first : Bool) (seen : Seen) : Go 1 (A2 text s first seen) (X text s (seen.add 7) 12 s first s [NB 11 s first, NS s first] 2 none) := Go.one rfl rfl
theorem second (text : Array Nat) (s : Nat) (first : Bool) (seen : Seen) (pc pos hd : Nat) : Go 1 (X text s seen pc pos first hd [NB 11 s first, NS s first] 2 (some false)) (X text s seen 19 s first s [NB 18 s first, NS s first] 2 none) := Go.one rfl rfl
theorem third (text : Array Nat) (s : Nat) (first : Bool) (seen : Seen) (pc pos hd : Nat) : Go 1 (X text s seen pc pos first hd [NB 18 s first, NS s first] 2 (some false)) (X text s seen 24 s first s [NB 23 s first, NS s first] 2 none) := Go.one rfl rfl
/-- from the last word to the answer -/
theorem close (text : Array Nat) (s : Nat) (first : Bool) (seen : Seen) (b pos hd : Nat) : ∃ m', Go 4 (X text s seen 35 pos first hd [NB b s first, NS s first] 2 none) m' ∧ m'.outcome = some .matched ∧ m'.start = s ∧ m'.handed = pos := by
  have e : (X text s seen 35 pos first hd [NB b s first, NS s first] 2 none).step = X text s (seen.add 1) 35 pos first pos [NB b s first, NS s first] 2 (some true) := by
    show (if (first && false) = true then _ else _) = _
    rw [Bool.and_false, if_neg (by simp)]; rfl
  exact ⟨_, (((Go.one rfl e).trans (Go.one rfl rfl)).trans ((Go.one rfl rfl).trans (Go.one rfl rfl))), rfl, rfl, rfl⟩
theorem jump16 (text : Array Nat) (s : Nat) (first : Bool) (seen : Seen) (pos hd : Nat) (fs) (wt) : Go 1 (X text s seen 16 pos first hd fs wt none) (X text s (seen.add 15) 35 pos first hd fs wt none) := Go.one rfl rfl
theorem jump21 (text : Array Nat) (s : Nat) (first : Bool) (seen : Seen) (pos hd : Nat) (fs) (wt) : Go 1 (X text s seen 21 pos first hd fs wt none) (X text s (seen.add 15) 35 pos first hd fs wt none) := Go.one rfl rfl
theorem jump32 (text : Array Nat) (s : Nat) (first : Bool) (seen : Seen) (pos hd : Nat) (fs) (wt) : Go 1 (X text s seen 32 pos first hd fs wt none) (X text s (seen.add 15) 35 pos first hd fs wt none) := Go.one rfl rfl
theorem look (text : Array Nat) (s : Nat) (first : Bool) (seen : Seen) (pos hd : Nat) (b : Nat) : Go 1 (X text s seen 26 pos first hd [NB b s first, NS s first] 2 none) (X text s (seen.add 5) 29 pos false pos [LN pos first, NB b s first, NS s first] 3 none) := by
  refine Go.one rfl ?_
  have e : (X text s seen 26 pos first hd [NB b s first, NS s first] 2 none).step = (if pos < 0 then X text s (seen.add 5) 32 pos first hd [NB b s first, NS s first] 2 none else X text s (seen.add 5) 29 pos false pos [LN pos first, NB b s first, NS s first] 3 none) := rfl
  rw [e, if_neg (by lia)]
theorem unlook (text : Array Nat) (s : Nat) (first : Bool) (seen : Seen) (pos pc p' hd : Nat) (b : Nat) : Go 1 (X text s seen pc p' false hd [LN pos first, NB b s first, NS s first] 3 (some false)) (X text s seen 32 pos first hd [NB b s first, NS s first] 2 none) := Go.one rfl rfl

/-- the length of a row's end at s -/
noncomputable def end2 (text : Array Nat) (s : Nat) : Nat := if text.getD s 0 = 13 ∧ s + 1 < text.size ∧ text.getD (s + 1) 0 = 10 then 2 else 1
theorem hit2 (text : Array Nat) (s : Nat) (first : Bool) (seen : Seen) (hs : s < text.size) (hc : text.getD s 0 = 10 ∨ text.getD s 0 = 13) :
    ∃ m', Go 20 (A2 text s first seen) m' ∧ m'.outcome = some .matched ∧ m'.start = s ∧ m'.handed = s + end2 text s := by
  rcases hc with hc | hc
  · have e : end2 text s = 1 := if_neg (by lia)
    obtain ⟨m', g, r⟩ := close text s first _ 18 (s + 1) s
    refine ⟨m', ?_, by rw [e]; exact r⟩
    exact ((enter text s first seen).trans ((lit_no (w := 13) (by decide) (by lia)).trans ((second _ _ _ _ _ _ _).trans ((lit_yes (w := 10) (by decide) hs hc).trans ((jump21 _ _ _ _ _ _ _ _).trans g))))).mono (by lia)
  · by_cases h2 : s + 1 < text.size ∧ text.getD (s + 1) 0 = 10
    · have e : end2 text s = 2 := if_pos ⟨hc, h2⟩
      obtain ⟨m', g, r⟩ := close text s first _ 11 (s + 2) s
      refine ⟨m', ?_, by rw [e]; exact r⟩
      exact ((enter text s first seen).trans ((lit_yes (w := 13) (by decide) hs hc).trans ((lit_yes (w := 10) (by decide) h2.1 h2.2).trans ((jump16 _ _ _ _ _ _ _ _).trans g)))).mono (by lia)
    · have e : end2 text s = 1 := if_neg (fun h => h2 h.2)
      obtain ⟨m', g, r⟩ := close text s first _ 23 (s + 1) (s + 1)
      refine ⟨m', ?_, by rw [e]; exact r⟩
      exact ((enter text s first seen).trans ((lit_yes (w := 13) (by decide) hs hc).trans ((lit_no (w := 10) (by decide) h2).trans ((second _ _ _ _ _ _ _).trans ((lit_no (w := 10) (by decide) (by lia)).trans
        ((third _ _ _ _ _ _ _).trans ((lit_yes (w := 13) (by decide) hs hc).trans ((look _ _ _ _ _ _ _).trans ((lit_no (w := 10) (by decide) h2).trans ((unlook _ _ _ _ _ _ _ _ _).trans ((jump32 _ _ _ _ _ _ _ _).trans g))))))))))).mono (by lia)

/-- the next row's end from s -/
noncomputable def next2 (text : Array Nat) : Nat → Nat → Option Nat
  | 0, _ => none
  | n + 1, s => if text.getD s 0 = 10 ∨ text.getD s 0 = 13 then some s else next2 text n (s + 1)
theorem inSet2 (c : Nat) (seen : Seen) : ∃ seen', inSet code2.toArray c code2.toArray.size 5 true seen = .ok (decide (c = 10 ∨ c = 13), seen') := by
  have h : inSet code2.toArray c code2.toArray.size 5 true seen = (if (c == 10) = true then .ok (true, seen.add 16) else if (c == 13) = true then .ok (true, (seen.add 16).add 16) else .ok (false, ((seen.add 16).add 16).add 0)) := rfl
  rw [h]
  by_cases e : c = 10
  · subst e; exact ⟨_, rfl⟩
  · rw [if_neg (by simpa using e)]
    by_cases e2 : c = 13
    · subst e2; exact ⟨_, rfl⟩
    · rw [if_neg (by simpa using e2)]
      exact ⟨((seen.add 16).add 16).add 0, by simp [e, e2]⟩
theorem admitted2 (m : M) (hc : m.code = code2.toArray) (hl : m.lim = m.text.size) : ∀ (n s : Nat) (seen : Seen), s + n = m.text.size → ∃ seen', m.admitted (n + 1) s seen = .ok (next2 m.text n s, seen')
  | 0, s, seen, e => by
    refine ⟨seen, ?_⟩
    unfold M.admitted
    rw [if_pos (by lia)]; rfl
  | n + 1, s, seen, e => by
    unfold M.admitted
    rw [if_neg (by lia), hc]
    obtain ⟨seen', q⟩ := inSet2 (m.text.getD s 0) seen
    rw [q]
    unfold next2
    by_cases c : m.text.getD s 0 = 10 ∨ m.text.getD s 0 = 13
    · rw [if_pos c, decide_eq_true c]; exact ⟨_, rfl⟩
    · rw [if_neg c, decide_eq_false c]
      exact admitted2 m hc hl n (s + 1) seen' (by lia)
theorem next2_some {text : Array Nat} : ∀ {n s p}, next2 text n s = some p → s ≤ p ∧ p < s + n ∧ (text.getD p 0 = 10 ∨ text.getD p 0 = 13)
  | 0, s, p, h => by cases h
  | n + 1, s, p, h => by
    unfold next2 at h
    split at h
    · rename_i c; cases h; exact ⟨Nat.le_refl _, by lia, c⟩
    · have := next2_some h; exact ⟨by lia, by lia, this.2.2⟩
theorem found2 (text : Array Nat) (s : Nat) (h : s ≤ text.size) : ∃ m', Go 20 (forSearch code2.toArray text 0 s text.size false) m' ∧
    match next2 text (text.size - s) s with
    | some p => m'.outcome = some .matched ∧ m'.start = p ∧ m'.handed = p + end2 text p
    | none => m'.outcome = some .failed := by
  have e1 : (header code2.toArray).1 = 1 := rfl
  by_cases e : s < text.size
  · have e0 : (s > text.size || text.size - s < (header code2.toArray).1) = false := by rw [e1]; simp; lia
    let m0 : M := X text s (({} : Seen).add 14) 10 s true s [] 0 none
    have f : forSearch code2.toArray text 0 s text.size false = m0.attemptFrom s true := by
      unfold forSearch
      dsimp only
      rw [e0]; rfl
    obtain ⟨seen', q⟩ := admitted2 m0 rfl rfl (text.size - s) s m0.seen (by show s + (text.size - s) = text.size; lia)
    have ha : m0.attemptFrom s true = (match m0.admitted (text.size + 1 - s) s m0.seen with
      | .ok (some s, seen) => { m0 with mustAdvance := false, seen }.attemptAt s true
      | .ok (none, seen) => { m0 with seen }.say false
      | .error why => m0.stick why) := rfl
    have en : text.size + 1 - s = text.size - s + 1 := by lia
    rw [f, ha, en, q]
    have tt : m0.text = text := rfl
    rw [tt]
    cases hn : next2 text (text.size - s) s with
    | none => exact ⟨_, (Go.one rfl rfl).mono (by lia), rfl⟩
    | some p =>
      obtain ⟨a, b, c⟩ := next2_some hn
      exact hit2 text p true seen' (by lia) c
  · obtain rfl : s = text.size := by lia
    rw [Nat.sub_self]
    unfold forSearch
    have e0 : (text.size > text.size || text.size - text.size < (header code2.toArray).1) = true := by rw [e1]; simp
    dsimp only
    rw [if_pos e0]
    exact ⟨_, (Go.one rfl rfl).mono (by lia), rfl⟩
end Mine.Rx
end

-- part R3
section
open PySem
set_option linter.unusedVariables false
set_option maxRecDepth 100000
set_option genSizeOf false
set_option genSizeOfSpec false
set_option genInjectivity false
namespace Mine.Rx
open PySem.Builtin.Re

section
variable {M : Model} {A : Around} {E : Value → Shared → Prop} {s : Shared}

structure Pat (h : Heap) (a : Addr) (code : List Nat) : Prop where
  ex : ∃ (fs : Array Value) (T : Addr) (ws : Array Value) (n : Nat), h.get? a = some { cls := .type "re.Pattern", data := .fields fs } ∧ fs.getD 5 .none = .ref T ∧ reRawNat (fs.getD 2 .none) = 0 ∧ reRawNat (fs.getD 6 .none) = 0 ∧
    h.get? T = some { cls := .type "tuple", data := .seq ws n } ∧ ((ws.map reRawOf).map (·.toNat)).toList = code
theorem Pat.keeps {h h' : Heap} {a : Addr} {code} (x : Pat h a code) (k : ∀ b o, h.get? b = some o → h'.get? b = some o) : Pat h' a code := by
  obtain ⟨fs, T, ws, n, h1, h2, h3, h4, h5, h6⟩ := x.ex
  exact ⟨fs, T, ws, n, k _ _ h1, h2, h3, h4, k _ _ h5, h6⟩

theorem wp_target {pa : Addr} {code : List Nat} {x : Str} {u : Tok} {Q : ReTarget → Shared → Prop} (p : Pat s.heap pa code)
    (h : Q { pattern := .ref pa, string := .str x u, code := code.toArray, text := x.cps, kind := 0, groups := 0, pos := 0, lim := x.cps.size } s) : wpAny M A (reWholeTarget (.ref pa) (.str x u)) Q E s := by
  obtain ⟨fs, T, ws, n, h1, h2, h3, h4, h5, h6⟩ := p.ex
  unfold reWholeTarget
  refine wpAny_bind (wpAny_fieldsOf h1 rfl ?_)
  have e1 : reTextOf (.str x u) = pure (x.cps, 0) := rfl
  rw [e1]
  refine wpAny_bind (wpAny_pure ?_)
  dsimp only
  rw [h4, h3, h2]
  have e2 : reRawItems (.ref T) = (do return ((← seqItems? (.ref T)).getD #[]).map reRawOf) := rfl
  simp only [Nat.reduceBEq, Bool.and_false, Bool.and_true, Bool.false_eq_true, if_false, reNoCollectionInside, pure_bind]
  rw [e2]
  unfold seqItems?
  refine wpAny_bind (wpAny_bind (wpAny_bind (wpAny_load h5 ?_)))
  dsimp only
  refine wpAny_pure (wpAny_pure (wpAny_pure ?_))
  simp only [Option.getD_some]
  have e3 : (ws.map reRawOf).map (·.toNat) = code.toArray := by rw [← h6]
  rw [e3]; exact h
theorem reDrive_ok {m' : Sre.M} {Q : Sre.M → Shared → Prop} (h' : m'.outcome.isSome = true) : ∀ (turns : Nat) (m : Sre.M) (n : Nat), Go n m m' → n < 4 * turns → Q m' s → wpAny M A (reDrive turns m) Q E s
  | 0, m, n, _, e, _ => by lia
  | turns + 1, m, n, ⟨k, hk, r⟩, e, q => by
    unfold reDrive
    have stop : ∀ (m : Sre.M), m.outcome.isSome = true → ∀ j, m.runFor j = m := fun m hm j => by
      cases j with
      | zero => rfl
      | succ j => show (if m.outcome.isSome then m else _) = m; rw [if_pos hm]
    have e4 : reTurnSteps = 4 := rfl
    rw [e4]
    dsimp only
    by_cases c : ((m.runFor 4).outcome.isSome) = true
    · rw [if_pos c]
      have : m.runFor 4 = m' := by
        by_cases hk4 : k ≤ 4
        · have : m.runFor (k + (4 - k)) = m' := by rw [runFor_add, r, stop m' h']
          rwa [show k + (4 - k) = 4 by lia] at this
        · have : m.runFor (4 + (k - 4)) = m' := by rw [show 4 + (k - 4) = k by lia]; exact r
          rw [runFor_add, stop _ c] at this; exact this
      rw [this]; exact wpAny_pure q
    · rw [if_neg c]
      refine wpAny_bind (wpAny_rule ?_)
      have h4 : 4 < k := by
        by_cases hk4 : k ≤ 4
        · exfalso
          have : m.runFor (k + (4 - k)) = m' := by rw [runFor_add, r, stop m' h']
          rw [show k + (4 - k) = 4 by lia] at this
          rw [this] at c; exact c h'
        · lia
      refine reDrive_ok h' turns _ (n - 4) ⟨k - 4, by lia, ?_⟩ (by lia) q
      rw [← runFor_add, show 4 + (k - 4) = k by lia]; exact r

theorem wp_toEnd {m m' : Sre.M} {n : Nat} {Q : Option Sre.M → Shared → Prop} (g : Go n m m') (hn : n ≤ 100000000) (q : (m'.outcome = some .matched ∧ Q (some m') s) ∨ (m'.outcome = some .failed ∧ Q none s)) : wpAny M A (reRunToEnd m) Q E s := by
  unfold reRunToEnd
  have hs : m'.outcome.isSome = true := by rcases q with ⟨h, _⟩ | ⟨h, _⟩ <;> rw [h] <;> rfl
  refine wpAny_bind (reDrive_ok (Q := fun m₁ s₁ => wpAny M A _ Q E s₁) hs (2 ^ 64) m n g (by lia) ?_)
  refine wpAny_bind (wpAny_forIn_list (s := s) _ (fun _ _ s' => s' = s) _ ?_ ?_ _ _ rfl)
  · rintro x rest b _ rfl
    split
    · exact wpAny_bind (wpAny_rule (wpAny_pure rfl))
    · exact wpAny_pure rfl
  · rintro b _ rfl
    rcases q with ⟨h, q⟩ | ⟨h, q⟩
    · rw [h]; exact wpAny_pure q
    · rw [h]; exact wpAny_pure q
end
end Mine.Rx
end

-- part R4
section
open PySem
set_option linter.unusedVariables false
set_option maxRecDepth 100000
namespace Mine.Rx
theorem plainAttrs_pat : PlainAttrs "re.Pattern" :=
  ⟨⟨"object.__getattribute__", by rw [typeLookup_type, builtinLookup_eq_fast]; kernel_rfl, by decide +kernel⟩, by rw [typeLookup_type, builtinLookup_eq_fast]; kernel_rfl⟩
theorem slot_sub : Slot "re.Pattern" "sub" "re.Pattern.sub" :=
  .of (owner := "re.Pattern") (n := "sub") (by rw [typeLookup_type, builtinLookup_eq_fast]; kernel_rfl) (by decide +kernel) (by decide +kernel) (by decide +kernel)
    (by first | exact .inl (by decide +kernel) | exact .inr (by decide +kernel)) (by rw [isSubtype_type]; kernel_rfl)
theorem type_sub : typeOf (.builtin "re.Pattern.sub") = pure (.type "method_descriptor") := by show builtinType _ = _; rw [builtinType_eq_fast]; kernel_rfl
theorem entry_sub : entryFor table "re.Pattern.sub" = some Builtin.«re.Pattern.sub» := entryFor_of_tree (by kernel_rfl)
theorem entry_loop : entryFor table "re.Pattern.sub.loop" = some Builtin.«re.Pattern.sub.loop» := entryFor_of_tree (by kernel_rfl)
theorem owner_pat : Manifest.owners.lookup (String.ofList ['n', 'r', 'e', 't', 't', 'a', 'P', '.', 'e', 'r'].reverse) = some Manifest.sig_re_Pattern := by kernel_rfl
theorem args_sub (a b c : Value) : argsOk "re.Pattern.sub" ⟨[a, b, c], []⟩ := by
  unfold argsOk; rw [signature?_of (id := "re.Pattern.sub") (n := ['b', 'u', 's']) (o := ['n', 'r', 'e', 't', 't', 'a', 'P', '.', 'e', 'r']) (by kernel_rfl) owner_pat]; kernel_rfl
theorem call_str : typeLookup (.type "str") "__call__" = pure none := by rw [typeLookup_type, builtinLookup_eq_fast]; kernel_rfl
theorem plain_loop : plainId "re.Pattern.sub.loop" = true := by decide +kernel
end Mine.Rx
end

-- part R5
section
open PySem
set_option linter.unusedVariables false
set_option maxRecDepth 100000
set_option genSizeOf false
set_option genSizeOfSpec false
set_option genInjectivity false
namespace Mine.Rx
open PySem.Builtin.Re PySem.Builtin.Str

/-- what finds the next match from a place -/
structure Finds (code : List Nat) (text : Array Nat) (find : Nat → Option (Nat × Nat)) : Prop where
  go : ∀ d, d ≤ text.size → ∃ (n : Nat) (m' : Sre.M), n ≤ 100000000 ∧ Go n (Sre.forSearch code.toArray text 0 d text.size false) m' ∧
    match find d with
    | some (p, e) => m'.outcome = some .matched ∧ m'.start = p ∧ m'.handed = e
    | none => m'.outcome = some .failed
  lt : ∀ d p e, find d = some (p, e) → d ≤ p ∧ p < e ∧ e ≤ text.size

noncomputable def subG (find : Nat → Option (Nat × Nat)) (text : Array Nat) (repl : List Nat) : Nat → Nat → List Nat
  | 0, _ => []
  | n + 1, d => match find d with
    | some (p, e) => (text.extract d p).toList ++ repl ++ subG find text repl n e
    | none => (text.extract d text.size).toList

section
variable {prog : Program} {w : World}

noncomputable def largs (pa : Addr) (x : Str) (u : Tok) (r : Str) (ru : Tok) (n : Int) (d : Nat) (L : Addr) : Args :=
  ⟨[.ref pa, .str x u, .str r ru, rawInt 0, rawInt 0, rawInt n, rawInt d, rawInt d, .bool false, .ref L, .bool false], []⟩

theorem wp_next {A : Around} {E : Value → Shared → Prop} {s : Shared} {code : List Nat} {find} {t : ReTarget} {d : Nat} {Q : Option Sre.M → Shared → Prop} (F : Finds code t.text find) (hc : t.code = code.toArray) (hg : t.groups = 0) (hl : t.lim = t.text.size)
    (hd : d ≤ t.text.size) (q : ∀ m', match find d with
      | some (p, e) => m'.start = p → m'.handed = e → Q (some m') s
      | none => Q none s) : wpAny (model prog w) A (reNextFound t d false) Q E s := by
  obtain ⟨n, m', hn, g, h⟩ := F.go d hd
  unfold reNextFound
  rw [hc, hg, hl]
  have q := q m'
  refine wp_toEnd g hn ?_
  cases e : find d with
  | none => rw [e] at h q; exact .inr ⟨h, q⟩
  | some pe =>
    obtain ⟨p, e'⟩ := pe
    rw [e] at h q
    exact .inl ⟨h.1, q h.2.1 h.2.2⟩

theorem push_list {h : Heap} {L : Addr} {xs : List (Str × Tok)} {n : Nat} (ho : h.get? L = some { cls := .type "list", data := .seq (strValues xs).toArray n }) (y : Str) (t : Tok) :
    ∃ n', (h.update L (Obj.mapSeq (·.push (.str y t)))).get? L = some { cls := .type "list", data := .seq (strValues (xs ++ [(y, t)])).toArray n' } := by
  refine ⟨n + 1, (Heap.get?_update_self _ ho (by simp [Obj.mapSeq, Obj.isFreed])).trans ?_⟩
  simp [Obj.mapSeq, strValues]
theorem Ext.upd {s0 s : Shared} {L : Addr} {f : Obj → Obj} {t : Nat} (x : Ext s0 s) (h0 : s0.heap.get? L = none) : Ext s0 { s with heap := s.heap.update L f, toks := t } := by
  obtain ⟨h, t', rfl, k⟩ := x
  refine ⟨_, _, rfl, fun b o e => ?_⟩
  have : L ≠ b := fun hb => by subst hb; rw [h0] at e; cases e
  exact (Heap.get?_update_other _ _ this).trans (k b o e)
end
end Mine.Rx
end

-- part R6
section
open PySem
set_option linter.unusedVariables false
set_option maxRecDepth 100000
namespace Mine.Rx
open PySem.Builtin.Re PySem.Builtin.Str
variable {prog : Program} {w : World}

abbrev postR (prog : Program) (w : World) (A : Around) (R : Result → Shared → Prop) : Fin → Shared → Prop :=
  fun fin s' => match fin with | .done f => R (.ok f) s' | .again c' => c'.quiet = true ∧ codeAny (model prog w) A c' R s'

theorem wp_slice {M : Model} {A : Around} {E : Value → Shared → Prop} {s : Shared} {text : Array Nat} {b e : Nat} {Q : Value → Shared → Prop} (hz : text.size ≤ sizeLine)
    (q : Q (.str ⟨text.extract b e⟩ s.toks) { s with toks := s.toks + 1 }) : wpAny M A (reSlice text 0 b e) Q E s := by
  unfold reSlice
  rw [if_pos (by rfl)]
  exact wpAny_mkStr q (by show (text.extract b e).size ≤ sizeLine; rw [Array.size_extract]; lia)

theorem loop_ok {A : Around} {code : List Nat} {pa L : Addr} {x r : Str} {u ru : Tok} {find} {s0 : Shared} {R : Result → Shared → Prop} (F : Finds code x.cps find) (hr : r.cps.size = 2) (hL : s0.heap.get? L = none) :
    ∀ (fuel d : Nat) (l : List (Str × Tok)) (n : Int) (k : Nat) (s : Shared), Pat s0.heap pa code → Ext s0 s → d ≤ x.cps.size → x.cps.size - d < fuel →
      s.heap.get? L = some { cls := .type "list", data := .seq (strValues l).toArray k } → l.length + 4 * (x.cps.size - d) + (texts l).length ≤ 2000000 → x.cps.size ≤ 300000 →
      (∀ s' y t, Ext s0 s' → y.cps.toList = texts l ++ subG find x.cps r.cps.toList fuel d → R (.ok (.ret (.str y t))) s') →
      codeAny (model prog w) A (.builtin "re.Pattern.sub.loop" (largs pa x u r ru n d L)) R s
  | 0, d, l, n, k, s, _, _, _, h, _, _, _, _ => by lia
  | fuel + 1, d, l, n, k, s, P, X, hd, hf, ho, hb, hx, q => by
    have hsl : sizeLine = 16777216 := rfl
    refine codeAny_builtin entry_loop ?_
    rw [Around.under_plainId plain_loop]
    unfold Builtin.«re.Pattern.sub.loop» largs
    dsimp only
    refine wpAny_bind (wp_target (P.keeps X.keeps) ?_)
    have e2 : reLiteralCannotBeTurned (.str r ru) = pure () := rfl
    rw [if_pos (by rfl), e2]
    refine wpAny_bind (wpAny_pure ?_)
    dsimp only
    refine wpAny_bind ?_
    rw [if_neg (by simp), Int.toNat_natCast]
    refine wp_next F rfl rfl rfl hd fun m' => ?_
    cases he : find d with
    | none =>
      dsimp only
      have len : l.length ≤ 2000000 := by lia
      have fin : ∀ (s1 : Shared) (l1 : List (Str × Tok)) (k1 : Nat) (tt : Tok), Ext s0 s1 → s1.heap.get? L = some { cls := .type "list", data := .seq (strValues l1).toArray k1 } → texts l1 = texts l ++ (x.cps.extract d x.cps.size).toList → l1.length ≤ l.length + 1 →
          wpAny (model prog w) A.in1 (do
            let __do_lift ← seqItems? (Value.ref L)
            if (__do_lift.getD #[]).isEmpty = true then do
              let text ← pure (Value.str ⟨x.cps.extract 0 0⟩ tt)
              if false = true then do
                let __do_lift ← holding [text] do
                      let __do_lift ← mkInt n
                      newTuple [text, __do_lift]
                ret __do_lift
              else ret text
            else do
              let text ← call (Value.builtin (if (0 == 0) = true then "str.join" else "bytes.join")) [(Value.str ⟨x.cps.extract 0 0⟩ tt), Value.ref L]
              if false = true then do
                let __do_lift ← holding [text] do
                      let __do_lift ← mkInt n
                      newTuple [text, __do_lift]
                ret __do_lift
              else ret text) (postR prog w A R) (fun e s' => R (.error e) s') s1 := by
        intro s1 l1 k1 tt X1 ho1 tx1 hl1
        have tl1 : (texts l1).length = (texts l).length + (x.cps.size - d) := by
          rw [tx1]; simp
        have ey : ∀ (y : Str), y.cps.toList = texts l1 → y.cps.toList = texts l ++ subG find x.cps r.cps.toList (fuel + 1) d := fun y h => by
          rw [h, tx1]; simp [subG, he]
        have e0 : (⟨x.cps.extract 0 0⟩ : Str).cps = #[] := by simp
        refine wpAny_bind ?_
        unfold seqItems?
        refine wpAny_bind (wpAny_load ho1 ?_)
        dsimp only
        refine wpAny_pure ?_
        cases hl : l1 with
        | nil =>
          rw [if_pos (by simp [strValues])]
          refine wpAny_bind (wpAny_pure ?_)
          rw [if_neg (by simp)]
          exact wpAny_pure (q _ _ _ X1 (ey _ (by rw [e0, hl]; rfl)))
        | cons c l2 =>
          rw [if_neg (by simp [strValues])]
          refine wpAny_bind ?_
          rw [if_pos (by rfl)]
          refine call_meets PySem.F.slot_str_join (typeIs_str _ _ _) PySem.F.entry_str_join (PySem.F.args_str_join_2 _ _) (meets_str_join_list _ _ _ l1 ?_) ⟨⟨_, ho1, rfl, _, rfl⟩, ?_⟩
          · rw [join_fold _ e0]
            unfold tooLong; simp; lia
          · have close : ∀ (y : Str) (t : Tok) (s' : Shared), Ext s0 s' → y.cps.toList = texts l1 → wpAny (model prog w) A.in1 (if false = true then do
                let __do_lift ← holding [Value.str y t] do
                      let __do_lift ← mkInt n
                      newTuple [Value.str y t, __do_lift]
                ret __do_lift
              else ret (Value.str y t)) (postR prog w A R) (fun e s' => R (.error e) s') s' := fun y t s' X' hy => by
              rw [if_neg (by simp)]
              exact wpAny_pure (q _ _ _ X' (ey _ hy))
            have gl := glued_texts _ e0 l1
            cases hl2 : l2 with
            | nil =>
              rw [hl, hl2]
              obtain ⟨cy, ct⟩ := c
              exact close cy ct s1 X1 (by rw [hl, hl2]; simp [texts, textL])
            | cons c' l3 =>
              rw [hl2] at hl
              rw [hl] at gl ⊢
              refine ⟨?_, close _ _ _ (X1.trans (Ext.tok _ _)) (by rw [hl]; exact gl)⟩
              show (glued _ _).cps.size ≤ sizeLine
              have := congrArg List.length gl
              rw [← hl, tl1, Array.length_toList] at this
              rw [← hl]; lia
      by_cases hc : d < x.cps.size
      · rw [if_pos hc]
        refine wpAny_bind (wp_slice (by lia) ?_)
        refine wpAny_bind (wpAny_updateSeq ho rfl ?_ (by simp [strValues]; lia) (by simp [strValues]; lia))
        obtain ⟨k1, ho1⟩ := push_list ho ⟨x.cps.extract d x.cps.size⟩ s.toks
        refine wpAny_bind (wp_slice (by lia) ?_)
        exact fin _ _ k1 _ ((Ext.upd (s := s) (L := L) (t := s.toks + 1) X hL).trans (Ext.tok _ _)) ho1 (by simp [texts, textL]) (by simp)
      · rw [if_neg hc]
        refine wpAny_bind (wp_slice (by lia) ?_)
        exact fin _ _ k _ (X.trans (Ext.tok _ _)) ho (by rw [show x.cps.size = d by lia]; simp) (by lia)
    | some pe =>
      obtain ⟨p, e⟩ := pe
      dsimp only
      intro h1 h2
      obtain ⟨hdp, hpe, hle⟩ := F.lt _ _ _ he
      have eb : (e == p) = false := by simp; lia
      rw [h1, h2, eb]
      have cont : ∀ (s1 : Shared) (l1 : List (Str × Tok)) (k1 : Nat), Ext s0 s1 → s1.heap.get? L = some { cls := .type "list", data := .seq (strValues l1).toArray k1 } → texts l1 = texts l ++ (x.cps.extract d p).toList → l1.length ≤ l.length + 1 →
          codeAny (model prog w) A (.builtin "re.Pattern.sub.loop" (largs pa x u r ru (n + 1) e L)) R { s1 with heap := s1.heap.update L (Obj.mapSeq (·.push (.str r ru))) } := by
        intro s1 l1 k1 X1 ho1 tx1 hl1
        obtain ⟨k2, ho2⟩ := push_list ho1 r ru
        have tr : texts [(r, ru)] = r.cps.toList := by simp [texts, textL]
        have trl : (texts [(r, ru)]).length = 2 := by rw [tr]; simpa using hr
        have tl1 : (texts l1).length = (texts l).length + (p - d) := by
          rw [tx1]; simp; lia
        refine loop_ok F hr hL fuel e (l1 ++ [(r, ru)]) (n + 1) k2 _ P (Ext.upd X1 hL) hle (by lia) ho2 ?_ hx (fun s' y t X' ey => q s' y t X' ?_)
        · rw [texts_append, List.length_append, List.length_append, trl, tl1, List.length_singleton]; lia
        · rw [ey, texts_append, tx1, tr]; simp [subG, he]
      have len : l.length ≤ 2000000 := by lia
      by_cases hc : d < p
      · rw [if_pos hc]
        refine wpAny_bind (wp_slice (by lia) ?_)
        refine wpAny_bind (wpAny_updateSeq ho rfl ?_ (by simp [strValues]; lia) (by simp [strValues]; lia))
        obtain ⟨k1, ho1⟩ := push_list ho ⟨x.cps.extract d p⟩ s.toks
        rw [if_pos (by rfl)]
        refine wpAny_bind (wpAny_pure ?_)
        rw [if_pos (by rfl)]
        refine wpAny_bind (wpAny_updateSeq ho1 rfl ?_ (by simp [strValues]; lia) (by simp [strValues]; lia))
        refine wpAny_pure ⟨plainId_quiet plain_loop _, ?_⟩
        exact cont _ _ k1 (Ext.upd (s := s) (L := L) (t := s.toks + 1) X hL) ho1 (by simp [texts, textL]) (by simp)
      · rw [if_neg hc]
        have hdp : d = p := by lia
        rw [if_pos (by rfl)]
        refine wpAny_bind (wpAny_pure ?_)
        rw [if_pos (by rfl)]
        refine wpAny_bind (wpAny_updateSeq ho rfl ?_ (by simp [strValues]; lia) (by simp [strValues]; lia))
        refine wpAny_pure ⟨plainId_quiet plain_loop _, ?_⟩
        exact cont _ _ k X ho (by rw [hdp]; simp) (by lia)
end Mine.Rx
end

-- part R7
section
open PySem
set_option linter.unusedVariables false
set_option maxRecDepth 100000
namespace Mine.Rx
open PySem.Builtin.Re PySem.Builtin.Str
variable {prog : Program} {w : World}

theorem named_sub (r x : Value) : reNamed "re.Pattern.sub" "sub" ["repl", "string", "count"] 2 [r, x] [] = pure [some r, some x, none] := rfl

theorem sub_meets {A : Around} {code : List Nat} {pa : Addr} {x r : Str} {u ru : Tok} {find} {s : Shared} {R : Result → Shared → Prop} (F : Finds code x.cps find) (hr : r.cps.size = 2) (h92 : r.cps.contains 92 = false)
    (P : Pat s.heap pa code) (hx : x.cps.size ≤ 300000)
    (q : ∀ s' y t, Ext s s' → y.cps.toList = subG find x.cps r.cps.toList (x.cps.size + 1) 0 → R (.ok (.ret (.str y t))) s') :
    wpAny (model prog w) A.in1 (Builtin.«re.Pattern.sub» ⟨[.ref pa, .str r ru, .str x u], []⟩) (postR prog w A R) (fun e s' => R (.error e) s') s := by
  unfold Builtin.«re.Pattern.sub» reSubstitute
  dsimp only
  rw [named_sub]
  refine wpAny_bind (wpAny_pure ?_)
  dsimp only
  refine wpAny_bind (wpAny_pure ?_)
  refine wpAny_bind (wpAny_specialOf (typeIs_str _ _ _) call_str ?_)
  have ea : asStr? (.str r ru) = pure (some r) := rfl
  rw [ea]
  rw [if_neg (by simp)]
  refine wpAny_bind (wpAny_pure ?_)
  dsimp only
  refine wpAny_bind (wpAny_pure ?_)
  rw [if_neg (by simp), if_pos (by rw [h92]; rfl)]
  refine wpAny_bind (wpAny_pure ?_)
  dsimp only
  refine wpAny_bind (wpAny_holding (wp_target P ?_))
  rw [if_neg (by simp)]
  refine wpAny_bind (wpAny_newList ?_ (by simp))
  refine wpAny_pure ⟨plainId_quiet plain_loop _, ?_⟩
  have hL : s.heap.get? s.heap.objs.size = none := by
    cases e : s.heap.get? s.heap.objs.size with
    | none => rfl
    | some o => exact (Nat.lt_irrefl _ (Heap.lt_size e)).elim
  exact loop_ok (s0 := s) F hr hL (x.cps.size + 1) 0 [] 0 0 _ P (Ext.push s _ s.toks) (Nat.zero_le _) (by lia) (Heap.get?_push_size _ rfl) (by simp [texts, textL]; lia) hx fun s' y t X e => q s' y t X (by simpa [texts, textL] using e)

theorem method_sub {A : Around} {E : Value → Shared → Prop} {code : List Nat} {pa : Addr} {r : List Nat} {s : Shared} {pos : Pos} {find : Array Nat → Nat → Option (Nat × Nat)} {ta tb : Sem Value} {Q : Value → Shared → Prop}
    (F : ∀ text : Array Nat, text.size ≤ 300000 → Finds code text (find text)) (hr : r.length = 2) (h92 : 92 ∉ r) (P : Pat s.heap pa code)
    (h : wpAny (model prog w) A ta (fun va s1 => wpAny (model prog w) A tb (fun vb s2 => ∃ ru x u, va = .str (stOf r) ru ∧ vb = .str (stOf x) u ∧ x.length ≤ 300000 ∧ Ext s s2 ∧
      ∀ s' t, Ext s2 s' → Q (.str (stOf (subG (find x.toArray) x.toArray r (x.length + 1) 0)) t) s') E s1) E s) :
    MethodOn prog w A "sub" pos (.ref pa) [(false, ta), (false, tb)] Q E s := by
  obtain ⟨fs, T, ws, n, h1, h2, h3, h4, h5, h6⟩ := P.ex
  refine ⟨"re.Pattern", _, plainAttrs_pat, slot_sub, type_sub, ⟨_, h1, rfl⟩, fun a e => by cases e; exact ⟨_, h1, rfl⟩, ?_⟩
  refine method2_meetsIn slot_sub entry_sub (wpAny_mono h (fun va s1 h' => wpAny_mono h' (fun vb s2 ⟨ru, x, u, e1, e2, hx, X, q⟩ => ?_) fun _ _ e => e) fun _ _ e => e)
  subst e1 e2
  refine ⟨⟨_, X.keeps _ _ h1, rfl⟩, args_sub _ _ _, fun A R s => s = s2 ∧ ∀ s' t, Ext s2 s' → R (.ok (.ret (.str (stOf (subG (find x.toArray) x.toArray r (x.length + 1) 0)) t))) s', ?_, rfl, q⟩
  rintro A R _ ⟨rfl, q⟩
  refine sub_meets (x := stOf x) (r := stOf r) (F _ (by simpa using hx)) (by simpa using hr) (by cases e : (stOf r).cps.contains 92 with | false => rfl | true => exact absurd (by simpa using e) h92) (P.keeps X.keeps) (by simpa using hx) fun s' y t X' e => ?_
  have : y = stOf (subG (find x.toArray) x.toArray r (x.length + 1) 0) := by
    obtain ⟨y⟩ := y
    have e : y.toList = subG (find x.toArray) x.toArray r (x.length + 1) 0 := e
    rw [← e]
  rw [this]; exact q s' t X'

/-! what the two patterns find -/
noncomputable def find1 (text : Array Nat) (d : Nat) : Option (Nat × Nat) := (next1 text (text.size - d) d).map fun p => (p, p + 1)
noncomputable def find2 (text : Array Nat) (d : Nat) : Option (Nat × Nat) := (next2 text (text.size - d) d).map fun p => (p, p + end2 text p)
theorem next1_some {text : Array Nat} : ∀ {n s p}, next1 text n s = some p → s ≤ p ∧ p < s + n
  | 0, s, p, h => by cases h
  | n + 1, s, p, h => by
    unfold next1 at h
    split at h
    · cases h; exact ⟨Nat.le_refl _, by lia⟩
    · have := next1_some h; exact ⟨by lia, by lia⟩
theorem finds1 (text : Array Nat) (hz : text.size ≤ 300000) : Finds code1 text (find1 text) where
  go d hd := by
    obtain ⟨m', g, h⟩ := found1 text d hd
    refine ⟨_, m', ?_, g, ?_⟩
    · lia
    · unfold find1
      cases e : next1 text (text.size - d) d with
      | none => rw [e] at h; exact h
      | some p => rw [e] at h; exact h
  lt d p e h := by
    unfold find1 at h
    cases e1 : next1 text (text.size - d) d with
    | none => rw [e1] at h; cases h
    | some p' => rw [e1] at h; cases h; have := next1_some e1; lia
theorem finds2 (text : Array Nat) : Finds code2 text (find2 text) where
  go d hd := by
    obtain ⟨m', g, h⟩ := found2 text d hd
    refine ⟨_, m', ?_, g, ?_⟩
    · lia
    · unfold find2
      cases e : next2 text (text.size - d) d with
      | none => rw [e] at h; exact h
      | some p => rw [e] at h; exact h
  lt d p e h := by
    unfold find2 at h
    cases e1 : next2 text (text.size - d) d with
    | none => rw [e1] at h; cases h
    | some p' =>
      rw [e1] at h; cases h
      have := next2_some e1
      unfold end2
      split <;> lia
end Mine.Rx
end

-- part R8
section
open PySem
set_option linter.unusedVariables false
set_option maxRecDepth 100000
namespace Mine.Rx

noncomputable def norm2 : List Nat → List Nat
  | [] => []
  | 13 :: 10 :: t => 13 :: 10 :: norm2 t
  | c :: t => (if c = 13 ∨ c = 10 then [13, 10] else [c]) ++ norm2 t
theorem norm2_cons (c : Nat) (t : List Nat) (h : ¬ (c = 13 ∧ t.head? = some 10)) : norm2 (c :: t) = (if c = 13 ∨ c = 10 then [13, 10] else [c]) ++ norm2 t := by
  cases t with
  | nil => simp [norm2]
  | cons d t =>
    rw [norm2.eq_3]
    intro t' e1 e2
    cases e2
    exact h ⟨e1, rfl⟩
noncomputable def dotL : Bool → List Nat → List Nat
  | _, [] => []
  | b, c :: t => (if b = true ∧ c = 46 then [46, 46] else [c]) ++ dotL (c == 10) t
noncomputable def quoteL (x : List Nat) : List Nat := dotL true (norm2 x)

theorem drop_cons (text : Array Nat) (s : Nat) (h : s < text.size) : text.toList.drop s = text.getD s 0 :: text.toList.drop (s + 1) := by
  have e : text.getD s 0 = text.toList[s] := by simp [Array.getD, h]
  rw [e]
  exact (List.drop_eq_getElem_cons (by simpa using h))
theorem ext_toList (text : Array Nat) (s p : Nat) : (text.extract s p).toList = (text.toList.drop s).take (p - s) := by
  simp [Array.toList_extract, List.extract]

theorem norm2_run (text : Array Nat) : ∀ (k s : Nat), s + k = text.size →
    match next2 text k s with
    | some p => norm2 (text.toList.drop s) = (text.extract s p).toList ++ norm2 (text.toList.drop p)
    | none => norm2 (text.toList.drop s) = (text.extract s text.size).toList
  | 0, s, h => by
    show norm2 _ = _
    rw [ext_toList, List.drop_eq_nil_of_le (by simp; lia)]; simp [norm2]
  | k + 1, s, h => by
    unfold next2
    split
    · rename_i p e
      split at e
      · cases e; simp
      · rename_i c
        have ih := norm2_run text k (s + 1) (by lia)
        rw [e] at ih
        have := next2_some e
        dsimp only at ih
        rw [drop_cons text s (by lia), norm2_cons _ _ (by lia), if_neg (by lia), ih, ext_toList, ext_toList, drop_cons text s (by lia), show p - s = (p - (s + 1)) + 1 by lia]
        simp
    · rename_i e
      split at e
      · cases e
      · rename_i c
        have ih := norm2_run text k (s + 1) (by lia)
        rw [e] at ih
        dsimp only at ih
        rw [drop_cons text s (by lia), norm2_cons _ _ (by lia), if_neg (by lia), ih, ext_toList, ext_toList, drop_cons text s (by lia), show text.size - s = (text.size - (s + 1)) + 1 by lia]
        simp
theorem sub2_eq (text : Array Nat) : ∀ (n d : Nat), text.size - d < n → d ≤ text.size → subG (find2 text) text [13, 10] n d = norm2 (text.toList.drop d)
  | 0, d, h, _ => by lia
  | n + 1, d, h, hd => by
    have r := norm2_run text (text.size - d) d (by lia)
    have hf : find2 text d = (next2 text (text.size - d) d).map fun p => (p, p + end2 text p) := rfl
    unfold subG
    rw [hf]
    cases e : next2 text (text.size - d) d with
    | none => rw [e] at r; simp only [Option.map_none]; exact r.symm
    | some p =>
      rw [e] at r
      dsimp only at r
      simp only [Option.map_some]
      have hp := next2_some e
      have e2 : p + end2 text p ≤ text.size ∧ 1 ≤ end2 text p := by unfold end2; split <;> lia
      rw [sub2_eq text n (p + end2 text p) (by lia) e2.1, r, List.append_assoc]
      congr 1
      rw [drop_cons text p (by lia)]
      unfold end2
      split
      · rename_i c
        rw [c.1, drop_cons text (p + 1) c.2.1, c.2.2]
        rfl
      · rename_i c
        rw [norm2_cons, if_pos (by lia)]
        rintro ⟨h1, h2⟩
        refine c ⟨h1, ?_⟩
        by_cases hl : p + 1 < text.size
        · rw [drop_cons text (p + 1) hl] at h2
          simp at h2
          exact ⟨hl, by simpa using h2⟩
        · rw [List.drop_eq_nil_of_le (by simp; lia)] at h2; cases h2
theorem sub2_ok (x : List Nat) : subG (find2 x.toArray) x.toArray [13, 10] (x.length + 1) 0 = norm2 x := by
  rw [sub2_eq _ _ _ (by simp) (Nat.zero_le _)]; simp

theorem at1_succ (text : Array Nat) (s : Nat) : at1 text (s + 1) = (text.getD s 0 == 10) := by simp [at1]
theorem dot_run (text : Array Nat) : ∀ (k s : Nat), s + k = text.size →
    match next1 text k s with
    | some p => dotL (at1 text s) (text.toList.drop s) = (text.extract s p).toList ++ dotL (at1 text p) (text.toList.drop p)
    | none => dotL (at1 text s) (text.toList.drop s) = (text.extract s text.size).toList
  | 0, s, h => by
    show dotL _ _ = _
    rw [ext_toList, List.drop_eq_nil_of_le (by simp; lia)]; simp [dotL]
  | k + 1, s, h => by
    unfold next1
    split
    · rename_i p e
      split at e
      · cases e; simp
      · rename_i c
        have ih := dot_run text k (s + 1) (by lia)
        rw [e] at ih
        have := next1_some e
        dsimp only at ih
        rw [drop_cons text s (by lia), dotL, if_neg c, ← at1_succ, ih, ext_toList, ext_toList, drop_cons text s (by lia), show p - s = (p - (s + 1)) + 1 by lia]
        simp
    · rename_i e
      split at e
      · cases e
      · rename_i c
        have ih := dot_run text k (s + 1) (by lia)
        rw [e] at ih
        dsimp only at ih
        rw [drop_cons text s (by lia), dotL, if_neg c, ← at1_succ, ih, ext_toList, ext_toList, drop_cons text s (by lia), show text.size - s = (text.size - (s + 1)) + 1 by lia]
        simp
theorem next1_hit {text : Array Nat} : ∀ {n s p}, next1 text n s = some p → at1 text p = true ∧ text.getD p 0 = 46
  | 0, s, p, h => by cases h
  | n + 1, s, p, h => by
    unfold next1 at h
    split at h
    · rename_i c; cases h; exact c
    · exact next1_hit h
theorem sub1_eq (text : Array Nat) : ∀ (n d : Nat), text.size - d < n → d ≤ text.size → subG (find1 text) text [46, 46] n d = dotL (at1 text d) (text.toList.drop d)
  | 0, d, h, _ => by lia
  | n + 1, d, h, hd => by
    have r := dot_run text (text.size - d) d (by lia)
    have hf : find1 text d = (next1 text (text.size - d) d).map fun p => (p, p + 1) := rfl
    unfold subG
    rw [hf]
    cases e : next1 text (text.size - d) d with
    | none => rw [e] at r; simp only [Option.map_none]; exact r.symm
    | some p =>
      rw [e] at r
      dsimp only at r
      simp only [Option.map_some]
      have hp := next1_some e
      have hh := next1_hit e
      rw [sub1_eq text n (p + 1) (by lia) (by lia), r, List.append_assoc]
      congr 1
      rw [drop_cons text p (by lia), dotL, if_pos hh, at1_succ]
theorem sub1_ok (x : List Nat) : subG (find1 x.toArray) x.toArray [46, 46] (x.length + 1) 0 = dotL true x := by
  rw [sub1_eq _ _ _ (by simp) (Nat.zero_le _)]; simp [at1]
theorem norm2_len : ∀ x : List Nat, (norm2 x).length ≤ 2 * x.length
  | [] => by simp [norm2]
  | c :: t => by
    by_cases h : c = 13 ∧ t.head? = some 10
    · obtain ⟨rfl, h⟩ := h
      cases t with
      | nil => cases h
      | cons d t =>
        simp at h; subst h
        have := norm2_len t
        simp [norm2]; lia
    · rw [norm2_cons c t h]
      have := norm2_len t
      split <;> simp <;> lia
theorem dotL_len : ∀ (b : Bool) (x : List Nat), (dotL b x).length ≤ 2 * x.length
  | _, [] => by simp [dotL]
  | b, c :: t => by
    have := dotL_len (c == 10) t
    unfold dotL
    split <;> simp <;> lia
end Mine.Rx
end

-- part R9
section
open PySem
set_option linter.unusedVariables false
set_option maxRecDepth 100000
namespace Mine
open PySem.Builtin.Str PySem.StrLaws

/-- the places at which y stands in the text, none within another -/
noncomputable def scan (y : List Nat) : List Nat → Nat → Nat → List Nat
  | [], _, _ => []
  | c :: t, i, free => if free ≤ i ∧ (c :: t).take y.length = y then i :: scan y t (i + 1) (i + y.length) else scan y t (i + 1) free

theorem occ_if (s y : List Nat) (hy : y ≠ []) {i free : Nat} {acc : Array Nat} (hi : i ≤ s.length) (ha : acc.size ≤ i) :
    (((acc.size < s.length + 1 ∧ free ≤ i) ∧ i + (stOf y).length ≤ s.length) ∧ subAt (stOf s) (stOf y) i = true) ↔ (free ≤ i ∧ (s.drop i).take y.length = y) := by
  have e1 : subAt (stOf s) (stOf y) i = true ↔ (s.drop i).take y.length = y := by
    rw [subAt_eq]; simp [Str.length]
  have e2 : (stOf y).length = y.length := by simp [Str.length]
  have hy0 : 0 < y.length := List.length_pos_iff.mpr hy
  rw [e1, e2]
  constructor
  · exact fun h => ⟨h.1.1.2, h.2⟩
  · rintro ⟨h1, h2⟩
    refine ⟨⟨⟨by lia, h1⟩, ?_⟩, h2⟩
    have := congrArg List.length h2
    rw [List.length_take, List.length_drop] at this
    lia
theorem scan_run (s y : List Nat) (hy : y ≠ []) : ∀ (k i : Nat) (acc : Array Nat) (free : Nat), i + k = s.length → acc.size ≤ i →
    (forIn (List.range' i (k + 1)) (acc, free) (occBody (stOf s) (stOf y) s.length (s.length + 1))).run.fst.toList = acc.toList ++ scan y (s.drop i) i free := by
  intro k
  induction k with
  | zero =>
    intro i acc free h ha
    rw [List.range'_succ, List.forIn_cons]
    unfold occBody
    have ed : s.drop i = [] := List.drop_eq_nil_of_le (by lia)
    rw [if_neg (fun h' => hy (by
      have := ((occ_if s y hy (by lia) ha).mp h').2
      rw [ed] at this; simpa using this.symm)), ed]
    simp [scan]
  | succ k ih =>
    intro i acc free h ha
    rw [List.range'_succ, List.forIn_cons]
    unfold occBody
    have ed := List.drop_eq_getElem_cons (l := s) (i := i) (by lia)
    have e3 := occ_if s y hy (i := i) (free := free) (acc := acc) (by lia) ha
    have ih1 := ih (i + 1)
    rw [ed] at e3 ⊢
    generalize s.drop (i + 1) = t at e3 ih1 ⊢
    unfold scan
    by_cases c : free ≤ i ∧ (s[i]'(by lia) :: t).take y.length = y
    · rw [if_pos (e3.mpr c), if_pos c]
      refine Eq.trans (ih1 (acc.push i) (i + y.length) (by lia) (by simp; lia)) ?_
      simp
    · rw [if_neg (fun h => c (e3.mp h)), if_neg c]
      exact ih1 acc free (by lia) (by lia)
theorem occ_scan (s y : List Nat) (hy : y ≠ []) : occurrences (stOf s) (stOf y) 0 (stOf s).length ((stOf s).length + 1) = scan y s 0 0 := by
  have e : (stOf s).length = s.length := by simp [Str.length]
  rw [e, occ_eq]
  have := scan_run s y hy s.length 0 #[] 0 (by lia) (by simp)
  simpa using this

noncomputable def partsL (s : List Nat) (w : Nat) : Nat → List Nat → List (List Nat)
  | a, [] => [s.drop a]
  | a, c :: r => (s.drop a).take (c - a) :: partsL s w (c + w) r
theorem parts_eq (s : List Nat) (w : Nat) : ∀ (cuts : List Nat) (a : Nat), (partsFrom (stOf s) w a cuts).map (·.cps.toList) = partsL s w a cuts
  | [], a => by
    simp only [partsFrom, partsL, List.map_cons, List.map_nil, strSub_toList]
    rw [List.take_of_length_le (by simp [Str.length])]
  | c :: r, a => by
    simp only [partsFrom, partsL, List.map_cons, strSub_toList]
    rw [parts_eq s w r (c + w)]

noncomputable def glueHead (a : List Nat) : List (List Nat) → List (List Nat)
  | [] => [a]
  | p :: ps => (a ++ p) :: ps
/-- a text parted at each return and feed -/
noncomputable def spl : List Nat → List (List Nat)
  | [] => [[]]
  | 13 :: 10 :: t => [] :: spl t
  | c :: t => glueHead [c] (spl t)
theorem spl_cons (c : Nat) (t : List Nat) (h : ¬ (c = 13 ∧ t.head? = some 10)) : spl (c :: t) = glueHead [c] (spl t) := by
  cases t with
  | nil => simp [spl]
  | cons d t =>
    rw [spl.eq_3]
    intro t' e1 e2
    cases e2
    exact h ⟨e1, rfl⟩
theorem glue_glue (a b : List Nat) (l : List (List Nat)) : glueHead a (glueHead b l) = glueHead (a ++ b) l := by
  cases l <;> simp [glueHead]
theorem spl_ne (t : List Nat) : spl t ≠ [] := by
  unfold spl
  split
  · simp
  · simp
  · cases spl _ <;> simp [glueHead]
theorem split_run (s : List Nat) : ∀ (n i a : Nat), s.length - i < n → i ≤ s.length → a ≤ i → partsL s 2 a (scan [13, 10] (s.drop i) i i) = glueHead ((s.drop a).take (i - a)) (spl (s.drop i))
  | 0, i, a, h, _, _ => by lia
  | n + 1, i, a, h, hi, ha => by
    have key : (s.drop a).take (i - a) ++ s.drop i = s.drop a := by
      have : s.drop i = (s.drop a).drop (i - a) := by rw [List.drop_drop]; congr 1; lia
      rw [this, List.take_append_drop]
    cases ed : s.drop i with
    | nil =>
      rw [ed, List.append_nil] at key
      simp only [scan, partsL, spl, glueHead]
      rw [key, List.append_nil]
    | cons x t =>
      have hl : i < s.length := by have := congrArg List.length ed; simp at this; lia
      have et : s.drop (i + 1) = t := by rw [← List.drop_drop, ed]; rfl
      unfold scan
      by_cases c : i ≤ i ∧ (x :: t).take [13, 10].length = [13, 10]
      · rw [if_pos c]
        cases t with
        | nil => simp at c
        | cons y t' =>
          have c2 : x = 13 ∧ y = 10 := by simpa using c.2
          obtain ⟨rfl, rfl⟩ := c2
          have et2 : s.drop (i + 2) = t' := by rw [show i + 2 = (i + 1) + 1 by lia, ← List.drop_drop, et]; rfl
          have hl2 : i + 2 ≤ s.length := by
            have := congrArg List.length et; simp at this; lia
          have sk : scan [13, 10] (10 :: t') (i + 1) (i + [13, 10].length) = scan [13, 10] t' (i + 2) (i + 2) := by
            rw [scan, if_neg (by simp)]; rfl
          rw [sk]
          simp only [partsL]
          have ih := split_run s n (i + 2) (i + 2) (by lia) hl2 (Nat.le_refl _)
          rw [et2] at ih
          rw [ih, Nat.sub_self, List.take_zero]
          simp only [spl, glueHead, List.append_nil]
          cases e : spl t' with
          | nil => exact absurd e (spl_ne _)
          | cons p ps => simp
      · rw [if_neg c]
        have sc : ∀ (l : List Nat) (j : Nat), scan [13, 10] l (j + 1) j = scan [13, 10] l (j + 1) (j + 1) := by
          intro l j
          cases l with
          | nil => rfl
          | cons z l =>
            unfold scan
            by_cases q : (z :: l).take [13, 10].length = [13, 10]
            · rw [if_pos ⟨by lia, q⟩, if_pos ⟨by lia, q⟩]
            · rw [if_neg (fun h => q h.2), if_neg (fun h => q h.2)]
              -- the bound matters no more
              have mono : ∀ (l : List Nat) (j f g : Nat), f ≤ j → g ≤ j → scan [13, 10] l j f = scan [13, 10] l j g := by
                intro l
                induction l with
                | nil => intros; rfl
                | cons z l ih =>
                  intro j f g hf hg
                  unfold scan
                  by_cases q : (z :: l).take [13, 10].length = [13, 10]
                  · rw [if_pos ⟨hf, q⟩, if_pos ⟨hg, q⟩]
                  · rw [if_neg (fun h => q h.2), if_neg (fun h => q h.2)]
                    exact ih _ _ _ (by lia) (by lia)
              exact mono l (j + 1 + 1) j (j + 1) (by lia) (by lia)
        rw [sc t i]
        have ih := split_run s n (i + 1) a (by lia) (by lia) (by lia)
        rw [et] at ih
        rw [ih, spl_cons x t (by
          rintro ⟨rfl, h2⟩
          cases t with
          | nil => cases h2
          | cons y t => simp at h2; subst h2; exact c ⟨Nat.le_refl _, rfl⟩), glue_glue]
        congr 1
        have : (s.drop a).take (i + 1 - a) = (s.drop a).take (i - a) ++ [x] := by
          rw [show i + 1 - a = (i - a) + 1 by lia, List.take_add_one]
          congr 1
          rw [List.getElem?_drop, show a + (i - a) = i by lia]
          have : (s.drop i)[0]? = some x := by rw [ed]; rfl
          rw [List.getElem?_drop] at this
          simp at this
          rw [this]; rfl
        rw [this]
theorem split_crlf (s : List Nat) : splitL s [13, 10] = spl s := by
  unfold splitL Txt.split
  have occ := occ_scan s [13, 10] (by simp)
  have main := split_run s (s.length + 1) 0 0 (by lia) (Nat.zero_le _) (Nat.le_refl _)
  simp only [List.drop_zero, Nat.sub_zero, List.take_zero] at main
  have g0 : glueHead [] (spl s) = spl s := by
    cases e : spl s with
    | nil => exact absurd e (spl_ne _)
    | cons p ps => simp [glueHead]
  rw [g0] at main
  have full : partsL s 2 0 (scan [13, 10] s 0 0) = ((partsBetween (stOf s) (occurrences (stOf s) (stOf [13, 10]) 0 (stOf s).length ((stOf s).length + 1)) (stOf [13, 10]).length).map (·.cps.toList)) := by
    rw [partsBetween_eq, occ, parts_eq]; rfl
  have one : scan [13, 10] s 0 0 = [] → [stOf s].map (·.cps.toList) = spl s := fun e => by
    rw [← main, e]; simp [partsL]
  split
  · rename_i h
    apply one
    simp only [Bool.or_eq_true, decide_eq_true_eq] at h
    rcases h with h | h
    · have : s.length < 2 := by simpa [Str.length] using h
      match s, this with
      | [], _ => rfl
      | [x], _ => simp [scan]
    · exfalso
      have : Builtin.Str.strKind (stOf [13, 10]) = 1 := by simp [Builtin.Str.strKind]
      rw [this] at h
      unfold Builtin.Str.strKind at h
      split at h <;> (try split at h) <;> lia
  · split
    · rename_i h
      apply one
      rw [← occ]
      exact List.isEmpty_iff.mp h
    · rw [← full, main]
end Mine
end

-- part M6
section
open PySem PySem.Calls PyProof.Rows
set_option linter.unusedVariables false
set_option genSizeOf false
set_option genSizeOfSpec false
set_option genInjectivity false
namespace Mine

/-! the small language of expressions -/
mutual
inductive E where
  | lit (v : V)
  | var (i : Nat)
  | bin (op : Operator) (a b : E)
  | neg (a : E)
  | notE (a : E)
  | cmp (op : CmpOp) (a b : E)
  | bop (op : BoolOp) (a b : E)
  | ife (t a b : E)
  | idx (a i : E)
  | sl (a lo hi : E)
  | list (es : Es)
  | tup (es : Es)
  | call (f : Nat) (es : Es)
  | bi (b : Bi) (es : Es)
  | me0 (m : Me) (o : E)
  | me1 (m : Me) (o a : E)
  | sub (f : Nat) (a b : E)
  | comp (it : E) (i : Nat) (c e : E)
  | me2 (m : Me) (o a b : E)
  | isI (a : E)
  | isB (a : E)
  | rev (a : E)
  | comp2 (p q : E) (i : Nat) (e : E)
inductive Es where
  | nil
  | cons (e : E) (es : Es)
end

abbrev Spec := List V → (V → Prop) → Prop
structure Fenv where
  con : List (Str × V)
  fns : List (Str × Spec)
  bis : List Bi
  subs : List (Str × List Nat × (List Nat → List Nat))

noncomputable def allZ : List (V × Nat) → Prop
  | [] => True
  | (_, d) :: r => d = 0 ∧ allZ r
noncomputable def specAt (F : Fenv) (i : Nat) (as : List V) (Q : V → Prop) : Prop := match F.fns[i]? with
  | some (_, sp) => sp as Q
  | none => False

noncomputable def subW (F : Fenv) (f : Nat) (x y : V) (Q : V → Nat → Prop) : Prop := match F.subs[f]? with
  | some p => asStr x fun r => asStr y fun y => r = p.2.1 ∧ y.length ≤ 300000 ∧ (p.2.2 y).length ≤ 1000000 ∧ Q (.str (p.2.2 y)) 0
  | none => False

abbrev VP := (V → Nat → Prop) → Prop
abbrev BP := (Bool → Prop) → Prop
noncomputable def itemsV : V → Option (List V)
  | .list xs => some xs
  | .tup xs => some xs
  | .str s => some (s.map fun c => .str [c])
  | .rng a b c => some ((rngL a b c).map .int)
  | .dS ks _ => if ks.all (fun k => decide (k.length ≤ 1000)) = true then some (ks.map .str) else none
  | _ => none
noncomputable def iterOk : V → Prop
  | .rng a b c => rOk a b c
  | _ => True

noncomputable def compG {α : Type} (pc : α → BP) (pe : α → VP) : List α → (List V → Prop) → Prop
  | [], K => K []
  | v :: vs, K => pc v fun b => if b = true then pe v fun u du => du = 0 ∧ compG pc pe vs (fun us => K (u :: us)) else compG pc pe vs K
/-- two clauses without tests: the second clause's items by the first one's -/
noncomputable def comp2G (pq : V → VP) (pe : V → V → VP) : List V → (List V → Prop) → Prop
  | [], K => K []
  | v :: vs, K => pq v fun t d => d = 0 ∧ iterOk t ∧ ∃ items, itemsV t = some items ∧ items.length ≤ 100 ∧ compG (fun _ Q => Q true) (pe v) items fun us => comp2G pq pe vs fun ws => K (us ++ ws)
noncomputable def bGo : BoolOp → Bool
  | .And => true
  | .Or => false
noncomputable def ofV (f : VP) : VP × BP := (f, fun Q => f fun t _ => truthW t Q)

mutual
noncomputable def sem (F : Fenv) (r : Rv) : E → VP × BP
  | .lit v => ofV fun Q => Q v 0
  | .var i => ofV fun Q => match r.lookup i with | some (t, d) => Q t d | none => False
  | .bin op a b => ofV fun Q => (sem F r a).1 fun x dx => (sem F r b).1 fun y dy => binW op x dx y dy Q
  | .neg a => ofV fun Q => (sem F r a).1 fun x _ => asInt x fun i => Q (.int (-i)) 0
  | .notE a => (fun Q => (sem F r a).1 fun x _ => truthW x fun b => Q (.bool (!b)) 0, fun Q => (sem F r a).2 fun b => Q (!b))
  | .cmp op a b => ofV fun Q => (sem F r a).1 fun x _ => (sem F r b).1 fun y _ => cmpW op x y Q
  | .bop op a b => (fun Q => (sem F r a).1 fun x d => truthW x fun c => if c = bGo op then (sem F r b).1 Q else Q x d,
      fun Q => (sem F r a).2 fun c => if c = bGo op then (sem F r b).2 Q else Q c)
  | .ife t a b => (fun Q => (sem F r t).2 fun c => if c = true then (sem F r a).1 Q else (sem F r b).1 Q,
      fun Q => (sem F r t).2 fun c => if c = true then (sem F r a).2 Q else (sem F r b).2 Q)
  | .idx a i => ofV fun Q => (sem F r a).1 fun x d => (sem F r i).1 fun y _ => idxW x d y Q
  | .sl a lo hi => ofV fun Q => (sem F r a).1 fun x d => (sem F r lo).1 fun l _ => (sem F r hi).1 fun h _ => slW x d l h Q
  | .list es => ofV fun Q => sems F r es fun as => allZ as ∧ as.length ≤ 10000 ∧ Q (.list (as.map (·.1))) 0
  | .tup es => ofV fun Q => sems F r es fun as => allZ as ∧ as.length ≤ 10000 ∧ Q (.tup (as.map (·.1))) 0
  | .call f es => ofV fun Q => sems F r es fun as => allZ as ∧ specAt F f (as.map (·.1)) fun t => Q t 0
  | .bi b es => ofV fun Q => sems F r es fun as => biW b as Q
  | .me0 m o => ofV fun Q => (sem F r o).1 fun x d => me0W m x d Q
  | .me1 m o a => ofV fun Q => (sem F r o).1 fun x d => meOk m x = true ∧ (sem F r a).1 fun y dy => me1W m x d y dy Q
  | .sub f a b => ofV fun Q => (sem F r a).1 fun x _ => (sem F r b).1 fun y _ => subW F f x y Q
  | .comp it i c e => ofV fun Q => (sem F r it).1 fun t d => d = 0 ∧ iterOk t ∧ ∃ items, itemsV t = some items ∧ items.length ≤ 10000 ∧
      compG (fun v => (sem F ((i, v, 0) :: r) c).2) (fun v => (sem F ((i, v, 0) :: r) e).1) items fun us => Q (.list us) 0
  | .me2 m o a b => ofV fun Q => (sem F r o).1 fun x d => me2Ok m x = true ∧ (sem F r a).1 fun y _ => (sem F r b).1 fun z dz => me2W m x y z dz Q
  | .isI a => ofV fun Q => (sem F r a).1 fun x _ => asInt x fun _ => Q (.bool true) 0
  | .isB a => ofV fun Q => (sem F r a).1 fun x _ => asInt x fun _ => Q (.bool false) 0
  | .rev a => ofV fun Q => (sem F r a).1 fun x d => revW x d Q
  | .comp2 p q i e => ofV fun Q => (sem F r p).1 fun x dx => dx = 0 ∧ iterOk x ∧ ∃ items, itemsV x = some items ∧ items.length ≤ 100 ∧
      comp2G (fun v => (sem F ((i, v, 0) :: r) q).1) (fun v u => (sem F ((i + 1, u, 0) :: (i, v, 0) :: r) e).1) items fun us => Q (.list us) 0
noncomputable def sems (F : Fenv) (r : Rv) : Es → (List (V × Nat) → Prop) → Prop
  | .nil => fun Q => Q []
  | .cons e es => fun Q => (sem F r e).1 fun t d => sems F r es fun as => Q ((t, d) :: as)
end
noncomputable def evW (F : Fenv) (r : Rv) (e : E) : VP := (sem F r e).1
noncomputable def tsW (F : Fenv) (r : Rv) (e : E) : BP := (sem F r e).2

/-! translation -/
noncomputable def toEs : List E → Es
  | [] => .nil
  | e :: es => .cons e (toEs es)
noncomputable def boolE (op : BoolOp) : List E → Option E
  | [] => none
  | [e] => some e
  | e :: es => (boolE op es).map (.bop op e)
noncomputable def meOf (m : Str) : Option Me := [Me.lower, .split, .join, .get].find? fun x => x.name == m
noncomputable def trConst : Const → Option E
  | .none => some (.lit .none)
  | .bool b => some (.lit (.bool b))
  | .int i => some (.lit (.int i))
  | .str s => if s.cps.size ≤ 10000 then some (.lit (.str s.cps.toList)) else none
  | _ => none
noncomputable def relF (sc : Scope) : Str × NameKind → Str × NameKind := fun (n, k) => if (k == .free && sc.kind == .function && sc.names.lookup n == some .cell) then (n, .cell) else (n, k)
noncomputable def relK (sc : Scope) (n : Str) (k : NameKind) : NameKind := if (k == .free && sc.kind == .function && sc.names.lookup n == some .cell) then .cell else k
noncomputable def relS (scope sc : Scope) : Scope := { scope with names := scope.names.map (relF sc) }
/-- a scope that a comprehension may have: names of its own (locals or cells), cells from without, names of the globals -/
noncomputable def compSc (scope sc : Scope) (names xs : List Str) : Bool :=
  scope.kind == .function && sc.kind == .function && (xs.all fun x => (scope.names.lookup x == some .local || scope.names.lookup x == some .cell) && x != ("" : Str)) && !names.contains (".0" : Str) && (scope.names.lookup ("" : Str)).isNone &&
  scope.names.all fun p => match p.2 with
    | .local => (xs.contains p.1 || p.1 == (".0" : Str)) && scope.names.lookup p.1 == some .local
    | .cell => xs.contains p.1 && scope.names.lookup p.1 == some .cell
    | .free => sc.names.lookup p.1 == some .cell && !xs.contains p.1 && scope.names.lookup p.1 == some .free
    | .globalImplicit => true
    | _ => false
/-- the names in a comprehension: its own hide those from without -/
noncomputable def hideN (names xs : List Str) : List Str := names.map fun n => if xs.contains n then ("" : Str) else n
noncomputable def compNs (names xs : List Str) : List Str := hideN names xs ++ xs
noncomputable def biOk (F : Fenv) (sc : Scope) (names : List Str) (b : Bi) : Bool :=
  !names.contains b.name && sc.names.lookup b.name == some .globalImplicit && F.bis.contains b
/-! soundness -/
noncomputable def FnOk (T : GT) (k : Nat) (f : Value) (sp : Spec) : Prop :=
  ∀ A s bad vs ts Q, AOk k A → Keeps T.h0 s.heap → (∀ a, bad a → Alive s.heap a ∧ T.h0.get? a = none) → Reps T.prog T.w (Gb s.heap bad) vs ts → sp ts Q →
    wpAny (model T.prog T.w) A (call f vs) (fun v s' => Ext s s' ∧ ∃ t, Q t ∧ Rep T.prog T.w (Gb s'.heap bad) v t) No s

noncomputable def SubOk (T : GT) (pa : Addr) (r : List Nat) (g : List Nat → List Nat) : Prop :=
  ∀ (A : Around) (s : Shared) (pos : Pos) (ta tb : Sem Value) (Q : Value → Shared → Prop), Keeps T.h0 s.heap →
    wpAny (model T.prog T.w) A ta (fun va s1 => wpAny (model T.prog T.w) A tb (fun vb s2 => ∃ ru x u, va = .str (stOf r) ru ∧ vb = .str (stOf x) u ∧ x.length ≤ 300000 ∧ Ext s s2 ∧ ∀ s' t, Ext s2 s' → Q (.str (stOf (g x)) t) s') No s1) No s →
    MethodOnS T.prog T.w A No "sub" (.ref pa) pos [(false, ta), (false, tb)] Q s

structure FOk (T : GT) (k : Nat) (F : Fenv) : Prop where
  con : ∀ x t, F.con.lookup x = some t → ∃ v, T.mg x = some v ∧ Rep T.prog T.w (fun a o => T.h0.get? a = some o) v t
  fns : ∀ (i : Nat) x sp, F.fns[i]? = some (x, sp) → ∃ a o fd, T.mg x = some (.ref a) ∧ T.h0.get? a = some o ∧ o.data = .func fd ∧ FnOk T k (.ref a) sp
  bis : ∀ b, b ∈ F.bis → T.mg b.name = none ∧ T.mb b.name = some b.val
  subs : ∀ (i : Nat) x r g, F.subs[i]? = some (x, r, g) → ∃ pa, T.mg x = some (.ref pa) ∧ SubOk T pa r g

section
variable {T : GT} {k : Nat} {sc : Scope} {names : List Str} {r : Rv} {F : Fenv} {Q : V → Nat → Prop} {QB : Bool → Prop}

theorem RepD.keep {bad bc : Addr → Prop} {s s' : Shared} {d v t} (h : RepD T.prog T.w (Gb s.heap bad) (Gb s.heap bc) d v t) (x : Ext s s') : RepD T.prog T.w (Gb s'.heap bad) (Gb s'.heap bc) d v t :=
  h.mono (Gb.keeps x.keeps) (Gb.keeps x.keeps)

theorem ite_none {α : Type} {b : Bool} {o : Option α} {v : α} (h : (if b = true then o else none) = some v) : b = true ∧ o = some v := by
  cases b with
  | false => exact nos h
  | true => exact ⟨rfl, h⟩
theorem wpAny_loadName_env {env : Env} {bad bc : Addr → Prop} {s : Shared} {A : Around} {E : Value → Shared → Prop} {m cm : Str → Option Value} {x : Str} {v : Value} {Q : Value → Shared → Prop} (R : Rd T env sc names r bad bc s)
    (F : Frm env s.heap m cm) (hv : valAt env m cm x = some v) (hx : (x == ("__classdict__" : Str)) = false) (h : Q v s) : wpAny (model T.prog T.w) A (loadName env x) Q E s := by
  unfold valAt at hv
  cases hk : env.kindOf x with
  | none => rw [hk] at hv; exact nos hv
  | some kd =>
    rw [hk] at hv
    cases kd with
    | «local» => exact wpAny_loadName_local R.kind hk F.ns hv h
    | cell =>
      obtain ⟨hc, hv⟩ := ite_none hv
      obtain ⟨c, hc⟩ := Option.isSome_iff_exists.mp hc
      exact wpAny_loadName_cell R.kind hk hc (hv ▸ F.cell _ _ hc) h
    | free =>
      obtain ⟨hc, hv⟩ := ite_none hv
      obtain ⟨c, hc⟩ := Option.isSome_iff_exists.mp hc
      exact wpAny_loadName_free R.kind hk hc (hv ▸ F.cell _ _ hc) h hx
    | _ => exact nos hv

theorem EVW.var {x : Str} {p : Pos} {i : Nat} {t d} (hx : (x == ("__debug__" : Str)) = false) (hx' : (x == ("__classdict__" : Str)) = false) (hi : names[i]? = some x) (hk : varKind (sc.names.lookup x) = true)
    (hr : r.lookup i = some (t, d)) (q : Q t d) : EVW T k sc names r (.Name x p) Q := fun A env bad bc s hA R => by
  obtain ⟨m, cm, F, h⟩ := R.vals
  obtain ⟨v, hv, hr⟩ := h i t d x hr hi hk
  exact wpAny_Name (wpAny_loadName_env R F hv hx' (.mk (Ext.refl _) q hr)) hx

theorem Rd.global {env bad bc s x v} {A : Around} {E : Value → Shared → Prop} {Q : Value → Shared → Prop} (R : Rd T env sc names r bad bc s) (hg : sc.names.lookup x = some .globalImplicit) (hv : T.mg x = some v) {p : Pos}
    (hx : (x == ("__debug__" : Str)) = false) (h : Q v s) : wpAny (model T.prog T.w) A (eval (.Name x p) env) Q E s :=
  Name_function_global R.kind (R.scg hg) (loadGlobal_global (mg := T.mg) (by rw [R.glo]; exact T.g.keeps R.base) hv h) hx
theorem Rd.builtin {env bad bc s x v} {A : Around} {E : Value → Shared → Prop} {Q : Value → Shared → Prop} (R : Rd T env sc names r bad bc s) (hg : sc.names.lookup x = some .globalImplicit) (hn : T.mg x = none) (hv : T.mb x = some v) {p : Pos}
    (hx : (x == ("__debug__" : Str)) = false) (h : Q v s) : wpAny (model T.prog T.w) A (eval (.Name x p) env) Q E s :=
  Name_function_global R.kind (R.scg hg) (loadGlobal_builtin (mg := T.mg) (mb := T.mb) (by rw [R.glo]; exact T.g.keeps R.base) hn (by rw [R.blt]; exact T.b.keeps R.base) hv h) hx

theorem EVW.con {x : Str} {p : Pos} {t} (FO : FOk T k F) (hx : (x == ("__debug__" : Str)) = false) (hg : sc.names.lookup x = some .globalImplicit) (hc : F.con.lookup x = some t) (q : Q t 0) :
    EVW T k sc names r (.Name x p) Q := fun A env bad bc s hA R => by
  obtain ⟨v, hv, hr⟩ := FO.con x t hc
  refine R.global hg hv hx (.mk (Ext.refl _) q (hr.mono fun a o e => ⟨R.base _ _ e, fun hb => ?_⟩))
  rw [(R.badok a hb).2] at e; cases e

theorem EVW.bin {l op rr p} {e' : E} (hl : EVW T k sc names r l (fun a da => evW F r e' fun b db => binW op a da b db Q)) (hr : ∀ Q, evW F r e' Q → EVW T k sc names r rr Q) :
    EVW T k sc names r (.BinOp l op rr p) Q := fun A env bad bc s hA R =>
  wpAny_BinOp (wp_no (hl A env bad bc s hA R) fun va s1 ⟨x1, ta, da, q, r1⟩ => wp_no (hr _ q A env bad bc s1 hA (R.keep x1)) fun vb s2 ⟨x2, tb, db, q2, r2⟩ =>
    wp_no (bin_ok (fun a h => (((R.keep x1).keep x2).badok a h).1) (r1.keep x2) r2 q2) fun v s3 h => h.trans (x1.trans x2))

theorem EVW.cmp {l op rr p} {e' : E} (hm : behindInMarks op rr = false) (hl : EVW T k sc names r l (fun a da => evW F r e' fun b db => cmpW op a b Q)) (hr : ∀ Q, evW F r e' Q → EVW T k sc names r rr Q) :
    EVW T k sc names r (.Compare l [op] [rr] p) Q := fun A env bad bc s hA R =>
  wpAny_Compare1 (wp_no (hl A env bad bc s hA R) fun va s1 ⟨x1, ta, da, q, r1⟩ => wp_no (hr _ q A env bad bc s1 hA (R.keep x1)) fun vb s2 ⟨x2, tb, db, q2, r2⟩ =>
    wp_no (cmp_ok (by have := hA.2.2; lia) (r1.keep x2) r2 q2) fun v s3 h => h.trans (x1.trans x2)) hm
theorem TVW.cmp {l op rr p} {e' : E} (hm : behindInMarks op rr = false) (hl : EVW T k sc names r l (fun a da => evW F r e' fun b db => cmpW op a b fun t _ => truthW t QB)) (hr : ∀ Q, evW F r e' Q → EVW T k sc names r rr Q) :
    TVW T k sc names r (.Compare l [op] [rr] p) QB := fun A env bad bc s hA R =>
  wpAny_isTrue_Compare1 (wp_no (hl A env bad bc s hA R) fun va s1 ⟨x1, ta, da, q, r1⟩ => wp_no (hr _ q A env bad bc s1 hA (R.keep x1)) fun vb s2 ⟨x2, tb, db, q2, r2⟩ =>
    wp_no (cmp_ok (by have := hA.2.2; lia) (r1.keep x2) r2 q2) fun v s3 ⟨x3, t, d, q3, r3⟩ => wp_no (truth_ok r3 q3) fun b s4 ⟨x4, q4⟩ => ⟨((x1.trans x2).trans x3).trans x4, q4⟩) hm

theorem EVW.neg {x p} (h : EVW T k sc names r x (fun a _ => asInt a fun i => Q (.int (-i)) 0)) : EVW T k sc names r (.UnaryOp .USub x p) Q := fun A env bad bc s hA R => by
  show wpAny _ A (do let v ← eval x env; standAt p; holding [v] (unaryOp .USub v)) _ _ s
  exact wpAny_bind (wp_no (h A env bad bc s hA R) fun v s1 ⟨x1, t, d, q, r1⟩ => wpAny_bind (wpAny_standAt (wpAny_holding (int1 r1 q fun i u q => P.neg_int (Is.trans x1 (Is.int q))))))

theorem EVW.not {x p} (h : EVW T k sc names r x (fun a _ => truthW a fun b => Q (.bool (!b)) 0)) : EVW T k sc names r (.UnaryOp .Not x p) Q := fun A env bad bc s hA R => by
  show wpAny _ A (do let v ← eval x env; standAt p; holding [v] (unaryOp .Not v)) _ _ s
  refine wpAny_bind (wp_no (h A env bad bc s hA R) fun v s1 ⟨x1, t, d, q, r1⟩ => wpAny_bind (wpAny_standAt (wpAny_holding ?_)))
  refine not_of (wp_no (truth_ok r1 q) fun b s2 ⟨x2, q2⟩ => .mk (x1.trans x2) q2 (.bool _))
theorem TVW.not {x p} (h : TVW T k sc names r x (fun b => QB (!b))) : TVW T k sc names r (.UnaryOp .Not x p) QB := fun A env bad bc s hA R => by
  show wpAny _ A (do return !(← isTrue x env (eval x env))) _ _ s
  exact wpAny_bind (wp_no (h A env bad bc s hA R) fun b s1 ⟨x1, q⟩ => wpAny_pure ⟨x1, q⟩)

theorem EVW.ife {t a b p} {a' b' : E} (ht : TVW T k sc names r t (fun c => if c = true then evW F r a' Q else evW F r b' Q)) (ha : ∀ Q, evW F r a' Q → EVW T k sc names r a Q) (hb : ∀ Q, evW F r b' Q → EVW T k sc names r b Q) :
    EVW T k sc names r (.IfExp t a b p) Q := fun A env bad bc s hA R =>
  wpAny_IfExp (wp_no (ht A env bad bc s hA R) fun c s1 ⟨x1, q⟩ => by
    cases c with
    | true => exact wp_no (ha _ (by simpa using q) A env bad bc s1 hA (R.keep x1)) fun v s2 h => h.trans x1
    | false => exact wp_no (hb _ (by simpa using q) A env bad bc s1 hA (R.keep x1)) fun v s2 h => h.trans x1)
theorem TVW.ife {t a b p} {a' b' : E} (ht : TVW T k sc names r t (fun c => if c = true then tsW F r a' QB else tsW F r b' QB)) (ha : ∀ Q, tsW F r a' Q → TVW T k sc names r a Q) (hb : ∀ Q, tsW F r b' Q → TVW T k sc names r b Q) :
    TVW T k sc names r (.IfExp t a b p) QB := fun A env bad bc s hA R => by
  show wpAny _ A (do if ← isTrue t env (eval t env) then isTrue a env (eval a env) else isTrue b env (eval b env)) _ _ s
  refine wpAny_bind (wp_no (ht A env bad bc s hA R) fun c s1 ⟨x1, q⟩ => ?_)
  cases c with
  | true => exact wp_no (ha _ (by simpa using q) A env bad bc s1 hA (R.keep x1)) fun v s2 ⟨x2, h⟩ => ⟨x1.trans x2, h⟩
  | false => exact wp_no (hb _ (by simpa using q) A env bad bc s1 hA (R.keep x1)) fun v s2 ⟨x2, h⟩ => ⟨x1.trans x2, h⟩

/-- a test that is no word of its own; what is not starred; what is no call of super; what is no display of a set -/
abbrev PlT (e : Expr) : Prop := ∀ env, isTrue e env (eval e env) = (do let v ← eval e env; standAt e.pos; holding [v] (truthy v))
abbrev NsE (e : Expr) : Prop := ∀ es env, starEach (e :: es) env = (false, eval e env) :: starEach es env
abbrev BsE (o : Expr) (m : Str) : Prop := ∀ env, attributeBase o m env (eval o env) = eval o env
abbrev FsE (e : Expr) : Prop := ∀ env v, foldedSetIterable e env v = pure v
theorem TVW.of {e : Expr} (hp : PlT e) (h : EVW T k sc names r e (fun t _ => truthW t QB)) : TVW T k sc names r e QB := fun A env bad bc s hA R => by
  rw [hp env]
  exact wpAny_bind (wp_no (h A env bad bc s hA R) fun v s1 ⟨x1, t, d, q, r1⟩ => wpAny_bind (wpAny_standAt (wpAny_holding (wp_no (truth_ok r1 q) fun b s2 ⟨x2, q2⟩ => ⟨x1.trans x2, q2⟩))))
end
end Mine
end

-- part M7
section
open PySem PySem.Calls PyProof.Rows
set_option linter.unusedVariables false
set_option genSizeOf false
set_option genSizeOfSpec false
set_option genInjectivity false
namespace Mine

section
variable {T : GT} {k : Nat} {sc : Scope} {names : List Str} {r : Rv} {F : Fenv} {Q : V → Nat → Prop} {QB : Bool → Prop}

structure Good (T : GT) (k : Nat) (sc : Scope) (names : List Str) (F : Fenv) (e : Expr) (e' : E) : Prop where
  ev : ∀ r Q, evW F r e' Q → EVW T k sc names r e Q
  tv : ∀ r Q, tsW F r e' Q → TVW T k sc names r e Q
  ns : NsE e

theorem boolE_cons {op : BoolOp} {b b2 : E} {bs : List E} {e' : E} (h : boolE op (b :: b2 :: bs) = some e') : ∃ e2, boolE op (b2 :: bs) = some e2 ∧ e' = .bop op b e2 := by
  have h : (boolE op (b2 :: bs)).map (E.bop op b) = some e' := h
  obtain ⟨e2, h1, h2⟩ := map_inv h
  exact ⟨e2, h1, h2⟩
theorem bop_ok {op : BoolOp} {pos : Pos} {A : Around} {env : Env} {bad bc : Addr → Prop} {Q : V → Nat → Prop} {vs : List Expr} {es : List E} (g : All2 (Good T k sc names F) vs es) : ∀ {e' : E} {s : Shared}, boolE op es = some e' →
    AOk k A → Rd T env sc names r bad bc s → evW F r e' Q → wpAny (model T.prog T.w) A (boolOp pos op (evalEach vs env)) (Is T bad bc s Q) No s := by
  induction g with
  | nil => exact fun he => nos he
  | @cons a b as bs g gs ih =>
    intro e' s he hA R q
    cases gs with
    | nil => exact g.ev r _ (Option.some.inj he ▸ q) A env bad bc s hA R
    | @cons a2 b2 as2 bs2 g2 gs =>
      obtain ⟨e2, e1, e3⟩ := boolE_cons he
      show wpAny _ A (do
        let v ← eval a env
        standAt pos
        let t ← holding [v] (truthy v)
        match op, t with
        | .And, false | .Or, true => pure v
        | _, _ => boolOp pos op (evalEach (a2 :: as2) env)) _ _ s
      have q' : evW F r b (fun x d => truthW x fun c => if c = bGo op then evW F r e2 Q else Q x d) := by rw [e3] at q; exact q
      clear q
      refine wpAny_bind (wp_no (g.ev r _ q' A env bad bc s hA R) fun v s1 ⟨x1, t, d, q1, r1⟩ => wpAny_bind (wpAny_standAt (wpAny_bind (wpAny_holding (wp_no (truth_ok r1 q1) fun c s2 ⟨x2, q2⟩ => ?_)))))
      have rest : evW F r e2 Q → wpAny (model T.prog T.w) A (boolOp pos op (evalEach (a2 :: as2) env)) (Is T bad bc s Q) No s2 := fun q3 =>
        wp_no (ih e1 hA ((R.keep x1).keep x2) q3) fun v s3 h => h.trans (x1.trans x2)
      have stop : Q t d → wpAny (model T.prog T.w) A (pure v) (Is T bad bc s Q) No s2 := fun q3 => wpAny_pure (.mk (x1.trans x2) q3 (r1.keep x2))
      clear ih gs g2 g q1 he e1
      cases op with
      | And => cases c with
        | false => exact stop q2
        | true => exact rest q2
      | Or => cases c with
        | false => exact rest q2
        | true => exact stop q2
theorem bopT_ok {op : BoolOp} {A : Around} {env : Env} {bad bc : Addr → Prop} {Q : Bool → Prop} {vs : List Expr} {es : List E} (g : All2 (Good T k sc names F) vs es) : ∀ {e' : E} {s : Shared}, boolE op es = some e' →
    AOk k A → Rd T env sc names r bad bc s → tsW F r e' Q → wpAny (model T.prog T.w) A (allTrue op vs env) (fun b s' => Ext s s' ∧ Q b) No s := by
  induction g with
  | nil => exact fun he => nos he
  | @cons a b as bs g gs ih =>
    intro e' s he hA R q
    have step : ∀ QB : Bool → Prop, tsW F r b QB → (∀ c s1, Ext s s1 → QB c → c = bGo op → wpAny (model T.prog T.w) A (allTrue op as env) (fun b s' => Ext s s' ∧ Q b) No s1) → (∀ c, QB c → c ≠ bGo op → Q c) →
        wpAny (model T.prog T.w) A (allTrue op (a :: as) env) (fun b s' => Ext s s' ∧ Q b) No s := fun QB q h1 h2 => by
      show wpAny _ A (do match op, ← isTrue a env (eval a env) with
        | .And, false => pure false
        | .Or, true => pure true
        | _, _ => allTrue op as env) _ _ s
      refine wpAny_bind (wp_no (g.tv r _ q A env bad bc s hA R) fun c s1 ⟨x1, q1⟩ => ?_)
      have h1 := h1 c s1 x1 q1
      have h2 := fun h => wpAny_pure (M := model T.prog T.w) (A := A) (Q := fun b s' => Ext s s' ∧ Q b) (E := No) (s := s1) (a := c) ⟨x1, h2 c q1 h⟩
      clear q1 ih gs g q
      cases op with
      | And => cases c with
        | false => exact h2 nofun
        | true => exact h1 rfl
      | Or => cases c with
        | false => exact h1 rfl
        | true => exact h2 nofun
    cases gs with
    | nil => exact step Q (Option.some.inj he ▸ q) (fun c s1 x1 q1 h => wpAny_pure ⟨x1, by rw [h] at q1; cases op <;> exact q1⟩) fun c q _ => q
    | @cons a2 b2 as2 bs2 g2 gs =>
      obtain ⟨e2, e1, e3⟩ := boolE_cons he
      have q' : tsW F r b (fun c => if c = bGo op then tsW F r e2 Q else Q c) := by rw [e3] at q; exact q
      exact step _ q' (fun c s1 x1 q1 h => wp_no (ih e1 hA (R.keep x1) (by rw [if_pos h] at q1; exact q1)) fun v s3 ⟨x2, h⟩ => ⟨x1.trans x2, h⟩) fun c q h => by rw [if_neg h] at q; exact q

theorem sp_ok {pos : Pos} {A : Around} {env : Env} {bad bc : Addr → Prop} {vs : List Expr} {es : List E} (g : All2 (Good T k sc names F) vs es) : ∀ {s : Shared} {Q : List (V × Nat) → Prop},
    AOk k A → Rd T env sc names r bad bc s → sems F r (toEs es) Q →
    wpAny (model T.prog T.w) A (spliced (backTo pos (starEach vs env))) (fun us s' => Ext s s' ∧ ∃ as, Q as ∧ All2 (Arg T bad bc s') us as) No s := by
  induction g with
  | nil => exact fun hA R q => Calls.spliced_nil ⟨Ext.refl _, [], q, .nil⟩
  | @cons a b as bs g gs ih =>
    intro s Q hA R q
    rw [g.ns]
    have q' : evW F r b (fun t d => sems F r (toEs bs) fun as => Q ((t, d) :: as)) := q
    refine Calls.spliced_cons (wp_no (g.ev r _ q' A env bad bc s hA R) fun v s1 ⟨x1, t, d, q1, r1⟩ => ?_)
    exact wp_no (ih hA (R.keep x1) q1) fun us s2 ⟨x2, as2, q2, r2⟩ => ⟨x1.trans x2, _, q2, .cons (r1.keep x2) r2⟩

theorem allZ_reps {bad bc : Addr → Prop} {s : Shared} {us : List Value} {as : List (V × Nat)} (h : All2 (Arg T bad bc s) us as) : allZ as → Reps T.prog T.w (Gb s.heap bad) us (as.map (·.1)) := by
  induction h with
  | nil => exact fun _ => .nil
  | @cons v p us as a b ih =>
    intro h
    obtain ⟨t, d⟩ := p
    have a : RepD T.prog T.w (Gb s.heap bad) (Gb s.heap bc) d v t := a
    rw [show d = 0 from h.1] at a
    exact .cons a (ih h.2)

theorem EVW.list {es p} {es' : List E} (g : All2 (Good T k sc names F) es es') (q : sems F r (toEs es') fun as => allZ as ∧ as.length ≤ 10000 ∧ Q (.list (as.map (·.1))) 0) :
    EVW T k sc names r (.List es p) Q := fun A env bad bc s hA R => by
  refine wpAny_List (wp_no (sp_ok g hA R q) fun us s1 ⟨x1, as, ⟨hz, hn, q⟩, rs⟩ => ?_)
  have hl := rs.length
  refine ⟨by rw [hl, sl_eq]; lia, .mk (x1.trans (Ext.push _ _ _)) q (.list (n := 0) (vs := us) ⟨Heap.get?_push_size _ rfl, fun hb => ?_⟩ ⟨rfl, rfl⟩ rfl (by rw [hl, sl_eq]; lia) ((allZ_reps rs hz).mono (Gb.keeps (Keeps.push _ _))))⟩
  exact not_alive_size _ ((R.badok _ hb).1.keeps x1.keeps)
theorem EVW.tup {es kk p} {es' : List E} (g : All2 (Good T k sc names F) es es') (q : sems F r (toEs es') fun as => allZ as ∧ as.length ≤ 10000 ∧ Q (.tup (as.map (·.1))) 0) :
    EVW T k sc names r (.Tuple es kk p) Q := fun A env bad bc s hA R => by
  refine wpAny_Tuple (wp_no (sp_ok g hA R q) fun us s1 ⟨x1, as, ⟨hz, hn, q⟩, rs⟩ => ?_)
  have hl := rs.length
  refine ⟨by rw [hl, sl_eq]; lia, .mk (x1.trans (Ext.push _ _ _)) q (.tup (n := 0) (vs := us) ⟨Heap.get?_push_size _ rfl, fun hb => ?_⟩ rfl rfl (by rw [hl, sl_eq]; lia) ((allZ_reps rs hz).mono (Gb.keeps (Keeps.push _ _))))⟩
  exact not_alive_size _ ((R.badok _ hb).1.keeps x1.keeps)

theorem slice_ops (slice : Expr) (o i : Value) : ∃ ops, subscripted slice false o i = operate ops (getItem o i) := by
  cases slice with
  | Slice _ _ st _ => cases st <;> exact ⟨_, rfl⟩
  | _ => exact ⟨_, rfl⟩

noncomputable def subable : V → Bool
  | .str _ => true
  | .list _ => true
  | .dS _ _ => true
  | .dI _ _ => true
  | _ => false
theorem kind_ok {bad bc : Addr → Prop} {s : Shared} {d v t} (h : RepD T.prog T.w (Gb s.heap bad) (Gb s.heap bc) d v t) (e : subable t = true) :
    ∃ Tn id, s.TypeIs v Tn ∧ typeLookup (.type Tn) "__getitem__" = pure (some (.builtin id)) := by
  cases t with
  | str l => exact h.str_k fun u _ => ⟨_, _, typeIs_str _ _ _, PySem.F.slot_str_getitem.lookup⟩
  | list xs => exact h.list_inv.isk fun a vs g _ _ _ => ⟨_, _, g.typeIs, PySem.F.slot_list_getitem.lookup⟩
  | dS ks vs =>
    obtain ⟨b, o, vals, e, g, hz, d, r⟩ := h.inv rfl
    rw [e]; exact ⟨_, _, (mapOf_dS g.1 d).typeIs, slot_dict_getitem.lookup⟩
  | dI ks vs =>
    obtain ⟨b, o, vals, e, g, hz, d, r⟩ := h.inv rfl
    rw [e]; exact ⟨_, _, (mapOf_dI g.1 d).typeIs, slot_dict_getitem.lookup⟩
  | _ => cases e
theorem idx_kind {x d y} (h : idxW x d y Q) : subable x = true := by
  cases x with
  | str => rfl
  | list => rfl
  | dS => rfl
  | dI => rfl
  | _ => exact (show False from h).elim
theorem sl_kind {x d y z} (h : slW x d y z Q) : subable x = true := by
  cases x with
  | str => rfl
  | list => rfl
  | _ => exact (show False from h).elim

theorem EVW.idx {v i p} {i' : E} (hv : EVW T k sc names r v (fun x d => evW F r i' fun y _ => idxW x d y Q)) (hi : ∀ Q, evW F r i' Q → EVW T k sc names r i Q) :
    EVW T k sc names r (.Subscript v i p) Q := fun A env bad bc s hA R =>
  Subscript_ (wp_no (hv A env bad bc s hA R) fun va s1 ⟨x1, ta, da, q, r1⟩ => wp_no (hi _ q A env bad bc s1 hA (R.keep x1)) fun vb s2 ⟨x2, tb, db, q2, r2⟩ => by
    obtain ⟨ops, ho⟩ := slice_ops i va vb
    obtain ⟨Tn, id, h1, h2⟩ := kind_ok (r1.keep x2) (idx_kind q2)
    exact tail_any h1 h2 (wp_no (idx_ok (r1.keep x2) r2 q2) fun v s3 h => h.trans (x1.trans x2)) ho)

theorem EVW.sl {v p pos} {lo hi : Option Expr} {lo' hi' : E} (hv : EVW T k sc names r v (fun x d => evW F r lo' fun l _ => evW F r hi' fun h _ => slW x d l h Q))
    (hlo : ∀ Q, evW F r lo' Q → ∀ A env bad bc s, AOk k A → Rd T env sc names r bad bc s → wpAny (model T.prog T.w) A (evalPart lo env) (Is T bad bc s Q) No s)
    (hhi : ∀ Q, evW F r hi' Q → ∀ A env bad bc s, AOk k A → Rd T env sc names r bad bc s → wpAny (model T.prog T.w) A (evalPart hi env) (Is T bad bc s Q) No s) :
    EVW T k sc names r (.Subscript v (.Slice lo hi none p) pos) Q := fun A env bad bc s hA R =>
  Subscript_ (wp_no (hv A env bad bc s hA R) fun va s1 ⟨x1, ta, da, q, r1⟩ => by
    refine wpAny_Slice (wp_no (hlo _ q A env bad bc s1 hA (R.keep x1)) fun vl s2 ⟨x2, tl, dl, q2, r2⟩ => wp_no (hhi _ q2 A env bad bc s2 hA ((R.keep x1).keep x2)) fun vh s3 ⟨x3, th, dh, q3, r3⟩ => ?_)
    refine wpAny_pure ?_
    have x4 : Ext s3 { s3 with heap := s3.heap.push { cls := .type "slice", data := .fields #[vl, vh, .none] } } := Ext.push _ _ _
    have R4 := (((R.keep x1).keep x2).keep x3).keep x4
    have ra := ((r1.keep x2).keep x3).keep x4
    obtain ⟨Tn, id, h1, h2⟩ := kind_ok ra (sl_kind q3)
    exact tail_any h1 h2 (wp_no (sl_ok ra ((r2.keep x3).keep x4) (r3.keep x4) (Heap.get?_push_size _ rfl) (fun a h => (R4.badok a h).1) q3) fun v s5 h => h.trans (((x1.trans x2).trans x3).trans x4)) rfl)
end
end Mine
end

-- part X1
section
open PySem PySem.Calls PyProof.Rows
set_option linter.unusedVariables false
set_option genSizeOf false
set_option genSizeOfSpec false
set_option genInjectivity false
namespace Mine
theorem rev_kind {x : V} {d : Nat} {Q : V → Nat → Prop} (h : revW x d Q) : subable x = true := by
  cases x with
  | str => rfl
  | list => rfl
  | _ => exact (show False from h).elim
section
variable {T : GT} {k : Nat} {sc : Scope} {names : List Str} {r : Rv} {F : Fenv} {Q : V → Nat → Prop} {QB : Bool → Prop}

theorem EVW.isI {x y : Str} {np yp p : Pos} {a : Expr} {a' : E} (FO : FOk T k F) (h1 : biOk F sc names .isinstance = true) (h2 : biOk F sc names .int = true) (hx : x = ("isinstance" : Str)) (hy : y = ("int" : Str)) (g : Good T k sc names F a a')
    (h : EVW T k sc names r a fun t _ => asInt t fun _ => Q (.bool true) 0) : EVW T k sc names r (.Call (.Name x np) [a, .Name y yp] [] p) Q := fun A env bad bc s hA R => by
  subst hx hy
  simp only [biOk, Bool.and_eq_true, beq_iff_eq, List.contains_iff_mem] at h1 h2
  obtain ⟨⟨_, g1⟩, b1⟩ := h1
  obtain ⟨⟨_, g2⟩, b2⟩ := h2
  obtain ⟨m1, v1⟩ := FO.bis _ b1
  obtain ⟨m2, v2⟩ := FO.bis _ b2
  refine Call_ (R.builtin g1 m1 v1 (by decide) ?_)
  have hst : starEach [a, .Name ("int" : Str) yp] env = [(false, eval a env), (false, eval (.Name ("int" : Str) yp) env)] := by rw [g.ns]; rfl
  rw [hst]
  refine Calls.callWith_builtin rfl (Calls.evalArgs_plain (Calls.spliced_cons (wp_no (h A env bad bc s hA R) fun v s1 ⟨x1, t, d, q, rv⟩ => ?_)))
  refine Calls.spliced_cons ((R.keep x1).builtin g2 m2 v2 (by decide) (Calls.spliced_nil ?_))
  exact int1 rv q fun i u q => IsiPair.int_int (.mk x1 q (.bool _))

theorem EVW.isB {x y : Str} {np yp p : Pos} {a : Expr} {a' : E} (FO : FOk T k F) (h1 : biOk F sc names .isinstance = true) (h2 : biOk F sc names .bool = true) (hx : x = ("isinstance" : Str)) (hy : y = ("bool" : Str)) (g : Good T k sc names F a a')
    (h : EVW T k sc names r a fun t _ => asInt t fun _ => Q (.bool false) 0) : EVW T k sc names r (.Call (.Name x np) [a, .Name y yp] [] p) Q := fun A env bad bc s hA R => by
  subst hx hy
  simp only [biOk, Bool.and_eq_true, beq_iff_eq, List.contains_iff_mem] at h1 h2
  obtain ⟨⟨_, g1⟩, b1⟩ := h1
  obtain ⟨⟨_, g2⟩, b2⟩ := h2
  obtain ⟨m1, v1⟩ := FO.bis _ b1
  obtain ⟨m2, v2⟩ := FO.bis _ b2
  refine Call_ (R.builtin g1 m1 v1 (by decide) ?_)
  have hst : starEach [a, .Name ("bool" : Str) yp] env = [(false, eval a env), (false, eval (.Name ("bool" : Str) yp) env)] := by rw [g.ns]; rfl
  rw [hst]
  refine Calls.callWith_builtin rfl (Calls.evalArgs_plain (Calls.spliced_cons (wp_no (h A env bad bc s hA R) fun v s1 ⟨x1, t, d, q, rv⟩ => ?_)))
  refine Calls.spliced_cons ((R.keep x1).builtin g2 m2 v2 (by decide) (Calls.spliced_nil ?_))
  exact int1 rv q fun i u q => IsiPair.int_bool (.mk (x1.trans (Ext.tok _ _)) q (.bool _))

/-- x[::-1] -/
theorem EVW.rev {v : Expr} {sp pos up cp : Pos} {kd : Nat} (hv : EVW T k sc names r v (fun x d => revW x d Q)) :
    EVW T k sc names r (.Subscript v (.Slice none none (some (.UnaryOp .USub (.Constant (.int 1) kd cp) up)) sp) pos) Q := fun A env bad bc s hA R =>
  Subscript_ (wp_no (hv A env bad bc s hA R) fun va s1 ⟨x1, ta, da, q, r1⟩ => by
    refine wpAny_Slice (wpAny_pure (wpAny_pure ?_))
    show wpAny _ A (eval (.UnaryOp .USub (.Constant (.int 1) kd cp) up) env) _ _ s1
    refine wp_no ((EVW.neg (Q := fun t d => t = .int (-1) ∧ d = 0) (k := k) fun A env bad bc s hA R => wpAny_Constant_int (Is.int ⟨rfl, rfl⟩)) A env bad bc s1 hA (R.keep x1)) fun vs s2 ⟨x2, t, d, ⟨e1, e2⟩, r2⟩ => ?_
    subst e1 e2
    obtain ⟨tk, rfl⟩ := r2.int_inv
    have x4 : Ext s2 { s2 with heap := s2.heap.push { cls := .type "slice", data := .fields #[.none, .none, .int (-1) tk] } } := Ext.push _ _ _
    have R4 := ((R.keep x1).keep x2).keep x4
    have ra := (r1.keep x2).keep x4
    obtain ⟨Tn, id, h1, h2⟩ := kind_ok ra (rev_kind q)
    exact tail_any h1 h2 (wp_no (rev_ok ra (Heap.get?_push_size _ rfl) (fun a h => (R4.badok a h).1) q) fun v s5 h => h.trans ((x1.trans x2).trans x4)) rfl)
theorem EVW.me2 {o a b : Expr} {a' b' : E} {m : Str} {apos pos : Pos} {x : Me} (hb : BsE o m) (hl : (apos.endLine == pos.line) = true) (hm : x.name = m) (g1 : Good T k sc names F a a') (g2 : Good T k sc names F b b')
    (h : EVW T k sc names r o (fun t d => me2Ok x t = true ∧ evW F r a' fun y _ => evW F r b' fun z dz => me2W x t y z dz Q)) : EVW T k sc names r (.Call (.Attribute o m apos) [a, b] [] pos) Q := fun A env bad bc s hA R => by
  have hst : starEach [a, b] env = [(false, eval a env), (false, eval b env)] := by rw [g1.ns, g2.ns]; rfl
  refine wpAny_Call_method_lateS (hb env) (by rw [hst]; rfl) hl (wp_no (h A env bad bc s hA R) fun v s1 ⟨x1, t, d, ⟨q0, q⟩, r1⟩ => ?_)
  subst hm
  rw [hst]
  obtain ⟨Tn, id, h1, h2, h3, h4, h5, h6⟩ := me2_ok (A := A) (pos := pos) (Q := Q) q0 r1 (wp_no (g1.ev r _ q A env bad bc s1 hA (R.keep x1)) fun va s2 ⟨x2, ta, da, q2, ra⟩ =>
    wp_no (g2.ev r _ q2 A env bad bc s2 hA ((R.keep x1).keep x2)) fun vb s3 ⟨x3, tb, db, q3, rb⟩ => ⟨x2.trans x3, ta, da, tb, db, q3, ra.keep x3, rb⟩)
  exact ⟨Tn, id, h1, h2, h3, h4, h5, wp_no h6 fun v s2 h => h.trans x1⟩
end
end Mine
end

-- part M9
section
open PySem PySem.Calls PyProof.Rows
set_option linter.unusedVariables false
set_option genSizeOf false
set_option genSizeOfSpec false
set_option genInjectivity false
namespace Mine

structure Iter (T : GT) (bad : Addr → Prop) (s : Shared) (items : List V) (it : Value) (s' : Shared) (I : Addr) (fp wr : List Addr) (P : Nat → Value → Prop) (St : Nat → Heap → Prop) : Prop where
  ext : Ext s s'
  it : it = .ref I
  W : ∀ A' : Around, A'.handled = none → Walks T.prog T.w A' I fp wr items.length P St
  st : St 0 s'.heap
  wrok : ∀ b ∈ wr, s.heap.get? b = none ∧ Alive s'.heap b
  fpok : ∀ b ∈ fp, b ∈ wr ∨ (¬ bad b ∧ Alive s.heap b)
  alive : ∀ i h, St i h → ∀ b ∈ fp, Alive h b
  item : ∀ i v, P i v → i < items.length → ∃ t, items[i]? = some t ∧ Rep T.prog T.w (Gb s.heap bad) v t

/-- what a walk over t is -/
inductive IterP (T : GT) (bad : Addr → Prop) (s : Shared) (items : List V) (it : Value) (s' : Shared) : Prop where
  | mk (I : Addr) (fp wr : List Addr) (P : Nat → Value → Prop) (St : Nat → Heap → Prop) (h : Iter T bad s items it s' I fp wr P St)
theorem none_new (h : Heap) : h.get? h.objs.size = none := none_of_ge (Nat.le_refl _)
theorem one_new {h : Heap} {o : Obj} (hf : o.isFreed = false := by rfl) : ∀ b ∈ [h.objs.size], h.get? b = none ∧ Alive (h.push o) b := fun b hb => by
  rw [List.mem_singleton.mp hb]; exact ⟨none_new h, _, Heap.get?_push_size _ hf⟩
theorem two_fp {bad : Addr → Prop} {h : Heap} {a I : Addr} (hb : ¬ bad a) (ha : Alive h a) : ∀ b ∈ [I, a], b ∈ [I] ∨ (¬ bad b ∧ Alive h b) := fun b h => by
  cases h with
  | head => exact .inl List.mem_cons_self
  | tail _ h => rw [List.mem_singleton.mp h]; exact .inr ⟨hb, ha⟩
theorem two_al {h : Heap} {a I : Addr} (hI : Alive h I) (ha : Alive h a) : ∀ b ∈ [I, a], Alive h b := fun b h => by
  cases h with
  | head => exact hI
  | tail _ h => rw [List.mem_singleton.mp h]; exact ha
theorem one_al {h : Heap} {I : Addr} (hI : Alive h I) : ∀ b ∈ [I], Alive h b := fun b h => by rw [List.mem_singleton.mp h]; exact hI
theorem reps_item {p w G} {vs : List Value} {items : List V} (r : Reps p w G vs items) : ∀ (i : Nat) (v : Value), vs.toArray[i]? = some v → i < items.length → ∃ t, items[i]? = some t ∧ Rep p w G v t := fun i v hv _ => by
  rw [List.getElem?_toArray] at hv
  exact r.get' hv
theorem sign_item {p w G} {l : List Nat} : ∀ (i : Nat) (v : Value), SignAt (stOf l) i v → i < (l.map fun c => V.str [c]).length → ∃ t, (l.map fun c => V.str [c])[i]? = some t ∧ Rep p w G v t := by
  rintro i v ⟨c, u, h1, rfl⟩ _
  have h1 : l[i]? = some c := by rw [← h1]; exact (List.getElem?_toArray ..).symm
  exact ⟨.str [c], by rw [List.getElem?_map, h1]; rfl, .str [c] u (by rw [sl_eq]; exact Nat.le_of_ble_eq_true rfl)⟩
theorem isS_inv {p w} {x : Str} {v : Value} (h : (PySem.strKind p w).is x v = true) : ∃ t, v = .str x t := Value.isStrOf_shape h
theorem iter_ok {T : GT} {bad : Addr → Prop} {s : Shared} {A : Around} {E : Value → Shared → Prop} {va t items} (h : Rep T.prog T.w (Gb s.heap bad) va t) (hi : itemsV t = some items) (ho : iterOk t) :
    wpAny (model T.prog T.w) A (pyIter va) (fun it s' => IterP T bad s items it s') E s := by
  have h := h.inv
  cases t with
  | list xs =>
    obtain ⟨a, o, vs, n, e, g, c, d, z, r⟩ := h
    rw [e, ← Option.some.inj hi]
    have hl := isList_of g.1 c d
    have W : ∀ A' : Around, A'.handled = none → _ := fun A' hA => Walks.list (prog := T.prog) (w := T.w) (A := A') hA s.heap.objs.size a (Nat.ne_of_lt (Heap.lt_size g.1)) vs.toArray
    rw [show vs.toArray.size = xs.length from r.length] at W
    exact wpAny_pyIter_list hl ⟨s.heap.objs.size, [s.heap.objs.size, a], [s.heap.objs.size], _, _, Ext.push _ _ _, rfl, W, ⟨⟨_, Heap.get?_push_size _ rfl, rfl, rfl⟩, hl.at fun o e => Heap.get?_push_of_some _ e⟩, one_new, two_fp g.2 ⟨_, g.1⟩,
      fun i h ⟨⟨o1, e1, _⟩, ⟨o2, e2, _⟩⟩ => two_al ⟨_, e1⟩ ⟨_, e2⟩, reps_item r⟩
  | tup xs =>
    obtain ⟨a, o, vs, n, e, g, c, d, z, r⟩ := h
    rw [e, ← Option.some.inj hi]
    have W : ∀ A' : Around, A'.handled = none → _ := fun A' hA => Walks.tuple (prog := T.prog) (w := T.w) (A := A') hA s.heap.objs.size a (Nat.ne_of_lt (Heap.lt_size g.1)) vs.toArray
    rw [show vs.toArray.size = xs.length from r.length] at W
    exact wpAny_pyIter_tuple (isTuple_of g.1 c d) ⟨s.heap.objs.size, [s.heap.objs.size, a], [s.heap.objs.size], _, _, Ext.push _ _ _, rfl, W, ⟨⟨_, Heap.get?_push_size _ rfl, rfl, rfl⟩, ⟨_, Heap.get?_push_of_some _ g.1, c, _, d⟩⟩, one_new, two_fp g.2 ⟨_, g.1⟩,
      fun i h ⟨⟨o1, e1, _⟩, ⟨o2, e2, _⟩⟩ => two_al ⟨_, e1⟩ ⟨_, e2⟩, reps_item r⟩
  | str l =>
    obtain ⟨tk, e, hz⟩ := h
    rw [e, ← Option.some.inj hi]
    have e : (stOf l).cps.size = (l.map fun c => V.str [c]).length := by rw [List.length_map]; rfl
    cases ha : (stOf l).cps.all (· < 128)
    · have W : ∀ A' : Around, A'.handled = none → _ := fun A' hA => Walks.strWide (prog := T.prog) (w := T.w) (A := A') hA s.heap.objs.size (stOf l) tk
      rw [e] at W
      exact wpAny_pyIter_wide ha ⟨s.heap.objs.size, [s.heap.objs.size], [s.heap.objs.size], _, _, Ext.push _ _ _, rfl, W, ⟨_, Heap.get?_push_size _ rfl, rfl, rfl⟩, one_new, fun b hb => .inl hb, fun i h ⟨o, e, _⟩ => one_al ⟨o, e⟩, sign_item⟩
    · have W : ∀ A' : Around, A'.handled = none → _ := fun A' hA => Walks.strAscii (prog := T.prog) (w := T.w) (A := A') hA s.heap.objs.size (stOf l) tk
      rw [e] at W
      exact wpAny_pyIter_ascii ha ⟨s.heap.objs.size, [s.heap.objs.size], [s.heap.objs.size], _, _, Ext.push _ _ _, rfl, W, ⟨_, Heap.get?_push_size _ rfl, rfl, rfl⟩, one_new, fun b hb => .inl hb, fun i h ⟨o, e, _⟩ => one_al ⟨o, e⟩, sign_item⟩
  | rng a b c =>
    obtain ⟨ad, t, u, x, e, g⟩ := h
    rw [e, ← Option.some.inj hi]
    have e : rsize a b c = ((rngL a b c).map V.int).length := by rw [List.length_map, rngL_length]
    have W : ∀ A' : Around, A'.handled = none → _ := fun A' hA => Walks.range (prog := T.prog) (w := T.w) (A := A') hA s.heap.objs.size a c (rsize a b c)
    rw [e] at W
    refine wpAny_pyIter_range g.1 (small_ok ho) ⟨s.heap.objs.size, [s.heap.objs.size], [s.heap.objs.size], _, _, Ext.push _ _ _, rfl, W, ?_, one_new, fun b hb => .inl hb, fun i h e => one_al ⟨_, e⟩, ?_⟩
    · rw [← e, (rsize_le ho).1]
      have : (s.heap.push { cls := .type "range_iterator", data := .fields #[rawInt a, rawInt (rsize a b c), rawInt c] }).get? s.heap.objs.size = some { cls := .type "range_iterator", data := .fields #[rawInt a, rawInt (rsize a b c), rawInt c] } := Heap.get?_push_size _ rfl
      simpa [IsRangeIter] using this
    · rintro i v ⟨tk, rfl⟩ hlt
      rw [← e] at hlt
      exact ⟨.int (a + i * c), by rw [List.getElem?_map, rngL, List.getElem?_map, List.getElem?_range hlt]; rfl, .int _ _⟩
  | dS ks vs =>
    obtain ⟨a, o, vals, e, g, hz, d, r⟩ := h
    rw [e]
    have hi : (if ks.all (fun k => decide (k.length ≤ 1000)) = true then some (ks.map V.str) else none) = some items := hi
    by_cases hk : ks.all (fun k => decide (k.length ≤ 1000)) = true
    · rw [if_pos hk] at hi
      cases hi
      obtain ⟨x, es, ep, e1, e2, e3, e4⟩ := d
      have hlen : ((ks.map stOf).zip vals).length = (ks.map V.str).length := by rw [List.length_zip, List.length_map, List.length_map, hz.1, Nat.min_self]
      have W : ∀ A' : Around, A'.handled = none → _ := fun A' hA => Walks.dictKeys (prog := T.prog) (w := T.w) (knd := PySem.strKind T.prog T.w) (A := A') hA s.heap.objs.size a (Nat.ne_of_lt (Heap.lt_size g.1)) ((ks.map stOf).zip vals) ep
      rw [hlen] at W
      have hd : s.heap.DictAt (PySem.strKind T.prog T.w) a ((ks.map stOf).zip vals) ep := ⟨o, es, g.1, x, e1, e2, e3, e4⟩
      refine wpAny_pyIter_dict hz.2.2 hd ⟨s.heap.objs.size, [s.heap.objs.size, a], [s.heap.objs.size], _, _, Ext.push _ _ _, rfl, W, ⟨⟨_, Heap.get?_push_size _ rfl, rfl, by rw [hlen]; rfl⟩, hd.push _⟩, one_new, two_fp g.2 ⟨_, g.1⟩,
        fun i h ⟨⟨o1, e1, _⟩, ⟨o2, _, e2, _⟩⟩ => two_al ⟨_, e1⟩ ⟨_, e2⟩, fun i v ⟨k, y, hk1, hk2⟩ hi => ?_⟩
      obtain ⟨hk1, _⟩ := List.getElem?_zip_eq_some.mp hk1
      obtain ⟨k', hk3, rfl⟩ := List.getElem?_map .. ▸ hk1 |> Option.map_eq_some_iff.mp
      obtain ⟨t, rfl⟩ := isS_inv hk2
      refine ⟨.str k', by rw [List.getElem?_map, hk3]; rfl, .str _ _ ?_⟩
      have := List.all_eq_true.mp hk k' (List.mem_of_getElem? hk3)
      have := of_decide_eq_true this
      rw [sl_eq]; lia
    · rw [if_neg hk] at hi; exact nos hi
  | _ => exact nos hi
noncomputable def IsL (h : Heap) (a : Addr) (vs : List Value) : Prop := h.PlainList a vs.toArray ∧ vs.length ≤ sizeLine
theorem IsL.keeps {h h' : Heap} {a vs} (x : IsL h a vs) (k : Keeps h h') : IsL h' a vs := ⟨x.1.at fun o e => k _ _ e, x.2⟩
theorem IsL.at {h h' : Heap} {a vs} (x : IsL h a vs) (k : ∀ o, h.get? a = some o → h'.get? a = some o) : IsL h' a vs := ⟨x.1.at k, x.2⟩
theorem IsL.alive {h : Heap} {a vs} (x : IsL h a vs) : Alive h a := let ⟨⟨_, e⟩, _⟩ := x; ⟨_, e⟩
end Mine
end

-- part C1
section
open PySem PySem.Calls PyProof.Rows
set_option linter.unusedVariables false
set_option genSizeOf false
set_option genSizeOfSpec false
set_option genInjectivity false
namespace Mine
/-! comprehensions with one clause and one name -/
theorem closure_ok {env : Env} : ∀ (l : List (Str × NameKind)) (acc : List (Str × Addr)), (∀ n, (n, NameKind.free) ∈ l → (env.cells.lookup n).isSome = true) → (∀ n c, acc.lookup n = some c → env.cells.lookup n = some c) →
    ∃ cl, forIn l acc (fun x r => if (x.2 == NameKind.free) = true then do let c ← cellOf env x.1; pure (ForInStep.yield ((x.1, c) :: r)) else (pure (ForInStep.yield r) : Sem (ForInStep (List (Str × Addr))))) = pure cl ∧
      (∀ n c, cl.lookup n = some c → env.cells.lookup n = some c) ∧ (∀ n, (n, NameKind.free) ∈ l ∨ (acc.lookup n).isSome = true → (cl.lookup n).isSome = true)
  | [], acc, _, h => ⟨acc, rfl, h, fun n hn => hn.elim (fun h => nomatch h) id⟩
  | (n, k) :: l, acc, hf, h => by
    by_cases hk : (k == NameKind.free) = true
    · have hk' : k = .free := by simpa using hk
      subst hk'
      obtain ⟨c, hc⟩ := Option.isSome_iff_exists.mp (hf n List.mem_cons_self)
      obtain ⟨cl, h1, h2, h3⟩ := closure_ok l ((n, c) :: acc) (fun m hm => hf m (List.mem_cons_of_mem _ hm)) (fun m d hm => by
        rw [List.lookup_cons] at hm
        cases e : m == n with
        | true => rw [e] at hm; cases hm; have : m = n := by simpa using e
                  subst this; exact hc
        | false => rw [e] at hm; exact h m d hm)
      refine ⟨cl, ?_, h2, fun m hm => h3 m ?_⟩
      · rw [List.forIn_cons]
        have e : cellOf env n = pure c := by unfold cellOf; rw [hc]
        simp only [hk, if_true, e]
        exact h1
      · rw [List.lookup_cons]
        cases e : m == n with
        | true => exact .inr rfl
        | false =>
          refine hm.imp (fun hm => ?_) id
          rcases List.mem_cons.mp hm with h | h
          · cases h; simp at e
          · exact h
    · obtain ⟨cl, h1, h2, h3⟩ := closure_ok l acc (fun m hm => hf m (List.mem_cons_of_mem _ hm)) h
      refine ⟨cl, ?_, h2, fun m hm => h3 m (hm.imp (fun hm => ?_) id)⟩
      · rw [List.forIn_cons]
        simp only [hk, if_false]
        exact h1
      · rcases List.mem_cons.mp hm with h | h
        · cases h; exact absurd rfl hk
        · exact h
theorem closureFor_ok {env : Env} {scope : Scope} (hf : ∀ n, (n, NameKind.free) ∈ scope.names → (env.cells.lookup n).isSome = true) :
    ∃ cl, closureFor scope env = pure cl ∧ (∀ n c, cl.lookup n = some c → env.cells.lookup n = some c) ∧ (∀ n, (n, NameKind.free) ∈ scope.names → (cl.lookup n).isSome = true) := by
  obtain ⟨cl, h1, h2, h3⟩ := closure_ok scope.names [] hf (fun _ _ h => nomatch h)
  refine ⟨cl, ?_, h2, fun n hn => h3 n (.inl hn)⟩
  have e : closureFor scope env = (forIn scope.names ([] : List (Str × Addr)) (fun x r => if (x.2 == NameKind.free) = true then do let c ← cellOf env x.1; pure (ForInStep.yield ((x.1, c) :: r)) else (pure (ForInStep.yield r) : Sem (ForInStep (List (Str × Addr))))) >>= fun cs => pure cs) := rfl
  rw [e, h1]; rfl
/-- what the pieces of a comprehension have in common -/
theorem relS_eq {scope : Scope} {env : Env} : relabel scope env = relS scope env.scope := rfl
theorem relF_eq (sc : Scope) (p : Str × NameKind) : relF sc p = (p.1, relK sc p.1 p.2) := by
  obtain ⟨n, k⟩ := p
  unfold relF relK
  dsimp only
  split <;> rfl
theorem lookup_relS (sc : Scope) (y : Str) : ∀ l : List (Str × NameKind), (l.map (relF sc)).lookup y = (l.lookup y).map (relK sc y)
  | [] => rfl
  | (n, k) :: l => by
    rw [List.map_cons, relF_eq, List.lookup_cons, List.lookup_cons]
    cases e : y == n with
    | true =>
      have : y = n := by simpa using e
      subst this; rfl
    | false => exact lookup_relS sc y l
theorem mem_lookupS {α : Type} {l : List (Str × α)} {x : Str} {t : α} (h : l.lookup x = some t) : (x, t) ∈ l := by
  induction l with
  | nil => cases h
  | cons p l ih =>
    obtain ⟨y, u⟩ := p
    rw [List.lookup_cons] at h
    cases e : x == y with
    | true =>
      rw [e] at h; cases h
      have : x = y := by simpa using e
      subst this; exact List.mem_cons_self
    | false => rw [e] at h; exact List.mem_cons_of_mem _ (ih h)
structure CompSc (scope sc : Scope) (names xs : List Str) : Prop where
  kind : scope.kind = .function
  kind' : sc.kind = .function
  loc : ∀ x ∈ xs, (scope.names.lookup x = some .local ∨ scope.names.lookup x = some .cell) ∧ x ≠ ("" : Str)
  new0 : (".0" : Str) ∉ names
  emp : scope.names.lookup ("" : Str) = none
  all : ∀ n k, (n, k) ∈ scope.names → match k with
    | .local => (n ∈ xs ∨ n = (".0" : Str)) ∧ scope.names.lookup n = some .local
    | .cell => n ∈ xs ∧ scope.names.lookup n = some .cell
    | .free => sc.names.lookup n = some .cell ∧ n ∉ xs ∧ scope.names.lookup n = some .free
    | .globalImplicit => True
    | _ => False
theorem compSc_ok {scope sc : Scope} {names xs : List Str} (h : compSc scope sc names xs = true) : CompSc scope sc names xs := by
  unfold compSc at h
  simp only [Bool.and_eq_true, beq_iff_eq, Bool.not_eq_true'] at h
  obtain ⟨⟨⟨⟨⟨h1, h2⟩, h3⟩, h4⟩, h5⟩, h6⟩ := h
  refine ⟨h1, h2, fun x hx => ?_, fun hm => ?_, Option.isNone_iff_eq_none.mp h5, fun n k hk => ?_⟩
  · have := List.all_eq_true.mp h3 x hx
    simpa using this
  · rw [List.contains_iff_mem.mpr hm] at h4; cases h4
  · have := List.all_eq_true.mp h6 _ hk
    cases k with
    | «local» => simpa using this
    | cell => simpa using this
    | free => simpa [and_assoc] using this
    | globalImplicit => trivial
    | _ => cases this

/-! the cells of a comprehension -/
theorem cellsFrom_app : ∀ (names : List (Str × NameKind)) (n : Nat) (acc : List (Str × Addr)), cellsFrom n names acc = cellsFrom n names [] ++ acc
  | [], _, acc => rfl
  | (x, k) :: r, n, acc => by
    unfold cellsFrom
    by_cases h : (k == NameKind.cell) = true
    · rw [if_pos h, if_pos h, cellsFrom_app r (n + 1) ((x, n) :: acc), cellsFrom_app r (n + 1) [(x, n)], List.append_assoc]; rfl
    · rw [if_neg h, if_neg h, cellsFrom_app r n acc]
theorem cellsFrom_mem : ∀ {names : List (Str × NameKind)} {n : Nat} {acc : List (Str × Addr)} {x : Str} {c : Addr}, (x, c) ∈ cellsFrom n names acc → (x, c) ∈ acc ∨ ((x, NameKind.cell) ∈ names ∧ n ≤ c)
  | [], _, _, _, _, h => .inl h
  | (y, k) :: r, n, acc, x, c, h => by
    unfold cellsFrom at h
    by_cases hk : (k == NameKind.cell) = true
    · rw [if_pos hk] at h
      have hk' : k = .cell := by simpa using hk
      subst hk'
      rcases cellsFrom_mem h with h | ⟨h, hn⟩
      · cases h with
        | head => exact .inr ⟨List.mem_cons_self, Nat.le_refl _⟩
        | tail _ h => exact .inl h
      · exact .inr ⟨List.mem_cons_of_mem _ h, Nat.le_of_succ_le hn⟩
    · rw [if_neg hk] at h
      rcases cellsFrom_mem h with h | ⟨h, hn⟩
      · exact .inl h
      · exact .inr ⟨List.mem_cons_of_mem _ h, hn⟩
theorem cells_acc {x : Str} : ∀ {names : List (Str × NameKind)} {lo : Nat} {acc : List (Str × Addr)}, (acc.lookup x).isSome = true → ((cellsFrom lo names acc).lookup x).isSome = true
  | [], _, _, h => h
  | (n, k) :: r, lo, acc, h => by
    unfold cellsFrom
    split
    · refine cells_acc ?_
      rw [List.lookup_cons]; split
      · rfl
      · exact h
    · exact cells_acc h
theorem cells_some {x : Str} : ∀ {names : List (Str × NameKind)} {lo : Nat} {acc : List (Str × Addr)}, names.lookup x = some .cell → ((cellsFrom lo names acc).lookup x).isSome = true
  | [], _, _, h => by cases h
  | (n, k) :: r, lo, acc, h => by
    unfold cellsFrom
    rw [List.lookup_cons] at h
    split at h
    · rename_i e
      cases h
      rw [if_pos (by decide)]
      refine cells_acc ?_
      rw [List.lookup_cons, e]; rfl
    · split
      · exact cells_some h
      · exact cells_some h
theorem lookup_app {l l' : List (Str × Addr)} {x : Str} : (l ++ l').lookup x = (l.lookup x).or (l'.lookup x) := by
  induction l with
  | nil => rfl
  | cons p l ih =>
    obtain ⟨y, c⟩ := p
    rw [List.cons_append, List.lookup_cons, List.lookup_cons]
    cases x == y with
    | true => rfl
    | false => exact ih
/-- the cells cs, some of them (at zs) the comprehension's own, the others those of cl -/
structure CsOk (scope : Scope) (cl : List (Str × Addr)) (C : Addr) (cs : List (Str × Addr)) (zs : List Addr) : Prop where
  own : ∀ x, scope.names.lookup x = some .cell → ∃ Z, Z ∈ zs ∧ cs.lookup x = some Z
  other : ∀ x, scope.names.lookup x ≠ some .cell → cs.lookup x = cl.lookup x
  apart : ∀ x y Z, scope.names.lookup x = some .cell → scope.names.lookup y = some .cell → cs.lookup x = some Z → cs.lookup y = some Z → x = y
  above : ∀ Z ∈ zs, C < Z
  all : ∀ Z ∈ zs, ∃ x, scope.names.lookup x = some .cell ∧ cs.lookup x = some Z
/-- what the own names hold -/
structure FmC (scope : Scope) (cs : List (Str × Addr)) (C : Addr) (own : List Str) (m : Str → Option Value) (h : Heap) : Prop where
  ns : ∃ m0, h.Ns C m0 ∧ ∀ x ∈ own, scope.names.lookup x = some .local → m0 x = m x
  cell : ∀ x Z, scope.names.lookup x = some .cell → cs.lookup x = some Z → h.IsCell Z (m x)
section
variable {T : GT} {k : Nat} {sc : Scope} {names own : List Str} {r r' : Rv} {scope : Scope} {cl cs : List (Str × Addr)} {C : Addr} {zs : List Addr}
theorem FmC.keep (K : CsOk scope cl C cs zs) {m : Str → Option Value} {h h' : Heap} (F : FmC scope cs C own m h) (k : ∀ b, b = C ∨ b ∈ zs → ∀ o, h.get? b = some o → h'.get? b = some o) : FmC scope cs C own m h' := by
  obtain ⟨m0, hn, e⟩ := F.ns
  refine ⟨⟨m0, hn.at' fun o e => k C (.inl rfl) o e, e⟩, fun x Z hx hZ => ?_⟩
  obtain ⟨o, ho, hd⟩ := F.cell x Z hx hZ
  obtain ⟨Z', hm, hZ'⟩ := K.own x hx
  rw [hZ] at hZ'; cases hZ'
  exact ⟨o, k Z (.inr hm) o ho, hd⟩
theorem FmC.store (K : CsOk scope cl C cs zs) {prog : Program} {w : World} {A' : Around} {env : Env} {x : Str} {v : Value} {m : Str → Option Value} {u : Shared} {Q : Unit → Shared → Prop} {E : Value → Shared → Prop}
    (hloc : ∀ x ∈ own, scope.names.lookup x = some .local ∨ scope.names.lookup x = some .cell) (hk : env.scope.kind = .function) (hl : env.locals = C) (hc : env.cells = cs) (hkd : ∀ x kd, (kd = .local ∨ kd = .cell) → scope.names.lookup x = some kd → env.kindOf x = some kd)
    (hx : x ∈ own) (F : FmC scope cs C own m u.heap)
    (h : ∀ h3 tk3, FmC scope cs C own (fun y => if y = x then some v else m y) h3 → (∀ b o, b ≠ C → b ∉ zs → u.heap.get? b = some o → h3.get? b = some o) → Q () { u with heap := h3, toks := tk3 }) :
    wpAny (model prog w) A' (storeName env x v) Q E u := by
  obtain ⟨m0, hn, e⟩ := F.ns
  rcases hloc x hx with hx1 | hx1
  · refine wpAny_storeName_local (hkd x _ (.inl rfl) hx1) (hl ▸ hn) (fun h3 hn3 hs3 => ?_) (by rw [hk]; rfl)
    rw [hl] at hn3 hs3
    refine h h3 _ ⟨⟨_, hn3, fun y hy hy1 => ?_⟩, fun y Z hy hZ => ?_⟩ fun b o hb _ e => hs3.extBut b o hb e
    · by_cases q : y = x
      · simp [q]
      · simp [q]; exact e y hy hy1
    · have hyx : y ≠ x := fun q => by subst q; rw [hx1] at hy; cases hy
      simp only [if_neg hyx]
      obtain ⟨Z', hm, hZ'⟩ := K.own y hy
      rw [hZ] at hZ'; cases hZ'
      exact (F.cell y Z hy hZ).sameBut hs3 (Nat.ne_of_gt (K.above Z hm))
  · obtain ⟨Z, hm, hZ⟩ := K.own x hx1
    have hCZ := K.above Z hm
    refine wpAny_storeName_cell hk (hkd x _ (.inr rfl) hx1) (by rw [hc]; exact hZ) (F.cell x Z hx1 hZ) fun h3 hc3 hs3 => ?_
    refine h h3 _ ⟨⟨m0, hn.sameBut hs3 (Nat.ne_of_lt hCZ), fun y hy hy1 => ?_⟩, fun y Z' hy hZ' => ?_⟩ fun b o _ hb e => hs3.extBut b o (fun q => hb (q ▸ hm)) e
    · have hyx : y ≠ x := fun q => by subst q; rw [hx1] at hy1; cases hy1
      simp only [if_neg hyx]; exact e y hy hy1
    · by_cases q : y = x
      · subst q
        rw [hZ] at hZ'; cases hZ'
        simpa using hc3
      · simp only [if_neg q]
        exact (F.cell y Z' hy hZ').sameBut hs3 fun e => q (K.apart y x Z hy hx1 (e ▸ hZ') hZ)

theorem compNs_get {xs : List Str} {i : Nat} {y : Str} (h : (compNs names xs)[i]? = some y) : (names[i]? = some y ∧ y ∉ xs) ∨ y = ("" : Str) ∨ ∃ l, xs[l]? = some y ∧ i = names.length + l := by
  unfold compNs at h
  have hl : (hideN names xs).length = names.length := List.length_map _
  by_cases hi : i < names.length
  · rw [List.getElem?_append_left (by rw [hl]; exact hi)] at h
    unfold hideN at h
    rw [List.getElem?_map] at h
    obtain ⟨z, hz, e⟩ := Option.map_eq_some_iff.mp h
    by_cases hc : xs.contains z = true
    · rw [if_pos hc] at e; exact .inr (.inl e.symm)
    · rw [if_neg hc] at e
      subst e
      exact .inl ⟨hz, fun hm => hc (List.contains_iff_mem.mpr hm)⟩
  · rw [List.getElem?_append_right (by rw [hl]; omega), hl] at h
    exact .inr (.inr ⟨_, h, by omega⟩)
/-- what a name may be read as in a comprehension -/
inductive RdC (T : GT) (r : Rv) (names own : List Str) (m : Str → Option Value) (h : Heap) (bad' : Addr → Prop) (i : Nat) (t : V) (d : Nat) (y : Str) : Prop where
  | out (h1 : r.lookup i = some (t, d)) (h2 : names[i]? = some y) (h3 : y ∉ own)
  | emp (h1 : y = ("" : Str))
  | own (h1 : y ∈ own) (h2 : d = 0) (v : Value) (h3 : m y = some v) (h4 : Rep T.prog T.w (Gb h bad') v t)
theorem compRd {ns' : List Str} {env : Env} {bad bad' bc : Addr → Prop} {s : Shared} (R : Rd T env sc names r bad bc s) (H : CompSc scope sc names own) (K : CsOk scope cl C cs zs) (hcl1 : ∀ n c, cl.lookup n = some c → env.cells.lookup n = some c)
    (hcl2 : ∀ n, (n, NameKind.free) ∈ scope.names → (cl.lookup n).isSome = true) {h : Heap} {tk : Tok} {m : Str → Option Value} (hk : Keeps s.heap h)
    (hnew : ∀ a, bad' a → Alive s.heap a → bad a) (F : FmC scope cs C own m h)
    (hown : ∀ i t d y, r'.lookup i = some (t, d) → ns'[i]? = some y → RdC T r names own m h bad' i t d y) (hb : ∀ a, bad a → bad' a) (hbad : ∀ a, bad' a → Alive h a ∧ T.h0.get? a = none) :
    Rd T (compEnvC scope cs C env) (relS scope sc) ns' r' bad' bc { s with heap := h, toks := tk } := by
  have hq := R.scq
  subst hq
  have lk := fun y => lookup_relS env.scope y scope.names
  refine ⟨fun a o e => hk _ _ (R.base _ _ e), H.kind, R.glo, R.blt, rfl, fun y hy => ?_, hbad, fun a ha => hb _ (R.sub _ ha), ?_⟩
  · have hy : (scope.names.map (relF env.scope)).lookup y = some NameKind.cell := hy
    show (cs.lookup y).isSome = true
    rw [lk] at hy
    cases e : scope.names.lookup y with
    | none => rw [e] at hy; cases hy
    | some kd =>
      have hm := mem_lookupS e
      have ha := H.all _ _ hm
      cases kd with
      | free =>
        rw [K.other y (by rw [e]; simp)]
        exact hcl2 _ hm
      | cell =>
        obtain ⟨Z, _, hZ⟩ := K.own y e
        rw [hZ]; rfl
      | «local» => rw [e] at hy; cases hy
      | globalImplicit => rw [e] at hy; cases hy
      | _ => cases ha
  · obtain ⟨mo, cm, Fo, vals⟩ := R.vals
    obtain ⟨m0, hn, hm0⟩ := F.ns
    refine ⟨m0, fun n => if scope.names.lookup n = some .cell then m n else cm n, ⟨hn, fun n c hc => ?_⟩, fun i t' d y e1 e2 e3 => ?_⟩
    · have hc : cs.lookup n = some c := hc
      by_cases e : scope.names.lookup n = some .cell
      · rw [if_pos e]; exact F.cell n c e hc
      · rw [if_neg e]
        rw [K.other n e] at hc
        exact (Fo.cell n c (hcl1 n c hc)).keeps hk
    have gk : ∀ a o, Gb s.heap bad a o → Gb h bad' a o := fun a o ⟨e, nb⟩ => ⟨hk _ _ e, fun hb' => nb (hnew a hb' ⟨o, e⟩)⟩
    have hkd : (compEnvC scope cs C env).kindOf y = (scope.names.map (relF env.scope)).lookup y := rfl
    have e3 : varKind ((scope.names.map (relF env.scope)).lookup y) = true := e3
    rw [lk] at e3 hkd
    cases hown i t' d y e1 e2 with
    | emp h => subst h; rw [H.emp] at e3; cases e3
    | own hyx hd v hv hr =>
      subst hd
      refine ⟨v, ?_, hr⟩
      rcases (H.loc y hyx).1 with hl | hl
      · rw [hl] at hkd
        unfold valAt
        rw [hkd]
        exact (hm0 y hyx hl).trans hv
      · rw [hl] at hkd
        unfold valAt
        rw [hkd]
        obtain ⟨Z, _, hZ⟩ := K.own y hl
        show (if (cs.lookup y).isSome then (if scope.names.lookup y = some .cell then m y else cm y) else none) = some v
        rw [hZ, if_pos hl]; exact hv
    | out e1 e2 hno =>
      have hy : y ∈ names := List.mem_of_getElem? e2
      cases el : scope.names.lookup y with
      | none => rw [el] at e3; cases e3
      | some kd =>
        rw [el] at e3 hkd
        have hm := mem_lookupS el
        have ha := H.all _ _ hm
        cases kd with
        | «local» =>
          rcases ha.1 with h | h
          · exact absurd h hno
          · exact absurd (h ▸ hy) H.new0
        | cell => exact absurd ha.1 hno
        | free =>
          obtain ⟨u, hu, hru⟩ := vals i t' d y e1 e2 (by rw [ha.1]; rfl)
          have hce : env.kindOf y = some .cell := ha.1
          refine ⟨u, ?_, hru.mono gk (Gb.keeps hk)⟩
          have hcc := R.cel y ha.1
          have hc2 := hcl2 _ hm
          unfold valAt at hu ⊢
          rw [hce] at hu
          have hu : (if (env.cells.lookup y).isSome then cm y else none) = some u := hu
          rw [if_pos hcc] at hu
          have hkd : (compEnvC scope cs C env).kindOf y = some .cell := by
            rw [hkd]
            simp [relK, ha.1, H.kind']
          rw [hkd]
          show (if (cs.lookup y).isSome then (if scope.names.lookup y = some .cell then m y else cm y) else none) = some u
          rw [K.other y (by rw [el]; simp), if_pos hc2, if_neg (by rw [el]; simp)]; exact hu
        | globalImplicit => cases e3
        | _ => cases ha
end
end Mine
end

-- part C2
section
open PySem PySem.Calls PyProof.Rows
set_option linter.unusedVariables false
namespace Mine
section
variable {T : GT} {k : Nat} {sc : Scope} {names own : List Str} {r : Rv} {x : Str} {scope : Scope} {cl cs : List (Str × Addr)} {C : Addr} {zs : List Addr}
/-- the tests of a clause -/
noncomputable def TstW (T : GT) (k : Nat) (sc : Scope) (names : List Str) (r : Rv) (ifs : List Expr) (QB : Bool → Prop) : Prop :=
  ∀ A env bad bc s, AOk k A → Rd T env sc names r bad bc s → wpAny (model T.prog T.w) A (forIn ifs true fun c r => if r = true then do let ok ← isTrue c env (eval c env); pure (ForInStep.yield ok) else pure (ForInStep.yield r)) (fun b s' => Ext s s' ∧ QB b) No s
theorem TstW.nil {QB : Bool → Prop} (q : QB true) : TstW T k sc names r [] QB := fun A env bad bc s hA R => wpAny_tests_nil ⟨Ext.refl _, q⟩
theorem All2.snoc {α β : Type} {R : α → β → Prop} {as : List α} {bs : List β} {a : α} {b : β} (h : All2 R as bs) (hab : R a b) : All2 R (as ++ [a]) (bs ++ [b]) := by
  induction h with
  | nil => exact .cons hab .nil
  | cons x _ ih => exact .cons x ih
/-- a turn of the last clause of a comprehension -/
noncomputable def TurnEq (elt : Expr) (gens : List Comprehension) (sc : Scope) (pos : Pos) (depth : Nat) (x : Str) (px : Pos) (ifs : List Expr) (p : Pos) : Prop :=
  ∀ it acc env, compTurn (.ListComp elt gens sc pos) depth it acc env = (do
      standAt p
      match ← pyNext it with
      | none => pure (.done .next)
      | some v =>
        assign (.Name x px) env v
        let mut ok := true
        for c in ifs do
          if ok then ok ← isTrue c env (eval c env)
        if ok then
          (do let _ ← call (.builtin "list.append") [acc, ← eval elt env])
        again (.compLoop (.ListComp elt gens sc pos) depth it acc env))
theorem compLoop_go {prog : Program} {w : World} {A : Around} {R : Result → Shared → Prop} {s : Shared} {elt : Expr} {gens : List Comprehension} {scope : Scope} {pos px p : Pos} {depth : Nat} {ifs : List Expr} {it acc : Value} {env : Env} (te : TurnEq elt gens scope pos depth x px ifs p)
    (I : Nat → Shared → Prop)
    (turn : ∀ n s, I n s → wpAny (model prog w) A (pyNext it) (fun r s₁ => match r with
      | none => R (.ok .next) s₁
      | some v => wpAny (model prog w) A (assign (.Name x px) env v) (fun _ s₂ =>
          wpAny (model prog w) A (forIn ifs true fun c r => if r = true then do let ok ← isTrue c env (eval c env); pure (ForInStep.yield ok) else pure (ForInStep.yield r)) (fun ok s₃ =>
            if ok = true then wpAny (model prog w) A (eval elt env) (fun x s₄ =>
              wpAny (model prog w) A (call (.builtin "list.append") [acc, x]) (fun _ s₅ => ∃ m, m < n ∧ I m s₅) (notedBy (model prog w) A env fun e s' => R (.error e) s') s₄) (notedBy (model prog w) A env fun e s' => R (.error e) s') s₃
            else ∃ m, m < n ∧ I m s₃) (notedBy (model prog w) A env fun e s' => R (.error e) s') s₂) (notedBy (model prog w) A env fun e s' => R (.error e) s') s₁) (notedBy (model prog w) A env fun e s' => R (.error e) s') s)
    (n : Nat) (h : I n s) :
    codeAny (model prog w) A (.compLoop (.ListComp elt gens scope pos) depth it acc env) R s := by
  refine codeAny_loop rfl I (fun n s hI => ?_) n h
  show wpAny _ A ((compTurn (.ListComp elt gens scope pos) depth it acc env).onRaise (fun x => do noteFrame x env; theTreesLotGoes x)) _ _ s
  refine wpAny_noted ?_
  rw [te it acc env]
  refine wpAny_bind (wpAny_standAt (wpAny_bind (wpAny_mono (turn n s hI) (fun r s₁ h₁ => ?_) fun _ _ h' => h')))
  cases r with
  | none => exact wpAny_pure h₁
  | some v =>
    refine wpAny_bind (wpAny_mono h₁ (fun _ s₂ h₂ => wpAny_bind (wpAny_mono h₂ (fun ok s₃ h₃ => ?_) fun _ _ h' => h')) fun _ _ h' => h')
    cases ok with
    | false => exact wpAny_pure ⟨rfl, h₃⟩
    | true =>
      exact wpAny_bind (wpAny_bind (wpAny_mono h₃ (fun x s₄ h₄ => wpAny_bind (wpAny_mono h₄ (fun _ s₅ h₅ => wpAny_pure (wpAny_pure ⟨rfl, h₅⟩)) fun _ _ h' => h')) fun _ _ h' => h'))

/-- where a comprehension stands: its frame, its list, what it may not touch -/
structure CEnv (T : GT) (k : Nat) (sc : Scope) (names own : List Str) (r : Rv) (scope : Scope) (cl cs : List (Str × Addr)) (C : Addr) (zs : List Addr) (D : Addr) (env : Env) (bad bc : Addr → Prop) (s : Shared) (A : Around) : Prop where
  aok : AOk k A
  R : Rd T env sc names r bad bc s
  H : CompSc scope sc names own
  K : CsOk scope cl C cs zs
  cl1 : ∀ n c, cl.lookup n = some c → env.cells.lookup n = some c
  cl2 : ∀ n, (n, NameKind.free) ∈ scope.names → (cl.lookup n).isSome = true
  dC : D ≠ C
  dz : D ∉ zs
  new : ∀ b, b = D ∨ b = C ∨ b ∈ zs → s.heap.get? b = none
theorem CEnv.kd {D : Addr} {env : Env} {bad bc : Addr → Prop} {s : Shared} {A : Around} (X : CEnv T k sc names own r scope cl cs C zs D env bad bc s A) : ∀ x kd, (kd = .local ∨ kd = .cell) → scope.names.lookup x = some kd → (compEnvC scope cs C env).kindOf x = some kd := fun x kd hkd h => by
  show (scope.names.map (relF env.scope)).lookup x = some kd
  rw [lookup_relS, h]
  rcases hkd with rfl | rfl <;> rfl
/-- a loop's beginning -/
structure LBeg (T : GT) (own : List Str) (scope : Scope) (cs : List (Str × Addr)) (C : Addr) (zs : List Addr) (D : Addr) (bad : Addr → Prop) (s : Shared) (wr fp : List Addr) (St : Nat → Heap → Prop) (bad' : Addr → Prop) (g : Heap) (m : Str → Option Value) (ys : List Value) (us : List V) : Prop where
  st : St 0 g
  pl : g.PlainList D ys.toArray
  fm : FmC scope cs C own m g
  rs : Reps T.prog T.w (Gb g bad') ys us
  b1 : ∀ a, bad a → bad' a
  b2 : ∀ a, bad' a → Alive s.heap a → bad a
  b3 : ∀ a, bad' a → Alive g a ∧ T.h0.get? a = none
  bD : bad' D
  bC : ∀ b, b = C ∨ b ∈ zs → bad' b
  bw : ∀ b ∈ wr, bad' b
  dis : ∀ b ∈ fp, b ≠ D ∧ b ≠ C ∧ b ∉ zs
  nw : ∀ b ∈ wr, s.heap.get? b = none
  k0 : Keeps s.heap g
inductive CompI (T : GT) (own : List Str) (scope : Scope) (cs : List (Str × Addr)) (C : Addr) (zs : List Addr) (D : Addr) (s : Shared) (len : Nat) (St : Nat → Heap → Prop) (bad' : Addr → Prop) (wr : List Addr) (g : Heap) (x : Str) (m0 : Str → Option Value) (n0 : Nat) (q : Nat → List V → Prop) (n : Nat) (s' : Shared) : Prop where
  | mk (h' : Heap) (tk : Nat) (m' : Str → Option Value) (ys : List Value) (us : List V) (j : Nat) (e : s' = { s with heap := h', toks := tk }) (hj : j ≤ len) (hn : n = len + 1 - j) (st : St j h') (pl : h'.PlainList D (List.toArray ys))
    (hu : us.length ≤ n0 + j) (fm : FmC scope cs C own m' h') (hm : ∀ z, z ≠ x → m' z = m0 z) (rs : Reps T.prog T.w (Gb h' bad') ys us) (q : q j us) (hk : ∀ b o, b ∉ wr → b ≠ D → b ≠ C → b ∉ zs → g.get? b = some o → h'.get? b = some o)
theorem comp_loop {D : Addr} {env : Env} {bad bc : Addr → Prop} {s : Shared} {A : Around} (X : CEnv T k sc names own r scope cl cs C zs D env bad bc s A) {elt : Expr} {gens : List Comprehension} {pos px p : Pos} {depth : Nat} {ifs : List Expr} (te : TurnEq elt gens scope pos depth x px ifs p) (hx : x ∈ own)
    {badI : Addr → Prop} {sI sX : Shared} {items : List V} {it : Value} {I : Addr} {fp wr : List Addr} {P : Nat → Value → Prop} {St : Nat → Heap → Prop} (IT : Iter T badI sI items it sX I fp wr P St) {bad' : Addr → Prop} {g : Heap} {tg : Tok} {m0 : Str → Option Value} {ys0 : List Value} {us0 : List V}
    (B : LBeg T own scope cs C zs D bad s wr fp St bad' g m0 ys0 us0) (up : ∀ a o, Gb sI.heap badI a o → Gb g bad' a o) (hz : us0.length + items.length ≤ 1000000) {rv : V → Rv} {pc : V → BP} {pe : V → VP} {K : List V → Prop} {RR : Result → Shared → Prop}
    (hown : ∀ (a : V) i t d y, (rv a).lookup i = some (t, d) → (compNs names own)[i]? = some y → (r.lookup i = some (t, d) ∧ names[i]? = some y ∧ y ∉ own) ∨ y = ("" : Str) ∨ (y = x ∧ d = 0 ∧ t = a) ∨ (y ∈ own ∧ y ≠ x ∧ d = 0 ∧ ∃ v, m0 y = some v ∧ Rep T.prog T.w (Gb g bad') v t))
    (gt : ∀ v QB, pc v QB → TstW T k (relS scope sc) (compNs names own) (rv v) ifs QB)
    (ge : ∀ v QV, pe v QV → EVW T k (relS scope sc) (compNs names own) (rv v) elt QV) (q : compG pc pe items fun vs => K (us0 ++ vs))
    (hRR : ∀ h' tk m' ys us, K us → FmC scope cs C own m' h' → (∀ z, z ≠ x → m' z = m0 z) → h'.PlainList D (List.toArray ys) → us.length ≤ us0.length + items.length → Reps T.prog T.w (Gb h' bad') ys us →
      (∀ b o, b ∉ wr → b ≠ D → b ≠ C → b ∉ zs → g.get? b = some o → h'.get? b = some o) → RR (.ok .next) { s with heap := h', toks := tk }) :
    codeAny (model T.prog T.w) A (.compLoop (.ListComp elt gens scope pos) depth (.ref I) (.ref D) (compEnvC scope cs C env)) RR { s with heap := g, toks := tg } := by
  have hA := X.aok
  have W := IT.W A hA.1
  have nK : ∀ {h' : Heap}, (∀ b o, b ∉ wr → b ≠ D → b ≠ C → b ∉ zs → g.get? b = some o → h'.get? b = some o) → Keeps s.heap h' := fun {h'} hk b o e => by
    have ne : ∀ c, s.heap.get? c = none → b ≠ c := fun c hc h => by rw [← h, e] at hc; cases hc
    exact hk b o (fun h => ne b (B.nw b h) rfl) (ne D (X.new D (.inl rfl))) (ne C (X.new C (.inr (.inl rfl)))) (fun h => ne b (X.new b (.inr (.inr h))) rfl) (B.k0 b o e)
  have loc : ∀ x ∈ own, scope.names.lookup x = some .local ∨ scope.names.lookup x = some .cell := fun x hx => (X.H.loc x hx).1
  refine compLoop_go te (fun n s' => CompI T own scope cs C zs D s items.length St bad' wr g x m0 us0.length (fun j us => compG pc pe (items.drop j) fun vs => K (us ++ vs)) n s') ?_ (items.length + 1)
    ⟨g, tg, m0, ys0, us0, 0, rfl, Nat.zero_le _, rfl, B.st, B.pl, Nat.le_refl _, B.fm, fun _ _ => rfl, B.rs, q, fun b o _ _ _ _ e => e⟩
  rintro n s' ⟨h', tk, m', ys, us, j, rfl, hj, rfl, hst, hpl, hus, fm, hm, hrs, q, hk⟩
  have hyl := hrs.length
  by_cases hjl : j < items.length
  · refine W.item j _ _ _ hjl hst fun v h2 tk2 hP hst2 hk2 => ?_
    have wD : ∀ b ∈ wr, b ≠ D ∧ b ≠ C ∧ b ∉ zs := fun b hb => B.dis b (W.sub b hb)
    have fm2 : FmC scope cs C own m' h2 := fm.keep X.K fun b hb o e => hk2 b o (fun hw => by
      rcases hb with rfl | hb
      · exact (wD b hw).2.1 rfl
      · exact (wD b hw).2.2 hb) e
    refine wpAny_assign_Name (FmC.store X.K loc (env := compEnvC scope cs C env) X.H.kind rfl rfl X.kd hx fm2 fun h3 tk3 fm3 hk3 => ?_)
    obtain ⟨tv, htv, hrv⟩ := IT.item j v hP hjl
    have hst3 : St (j + 1) h3 := W.frame _ _ _ hst2 fun b hb o e => hk3 b o (B.dis b hb).2.1 (B.dis b hb).2.2 e
    have up3 : ∀ b o, b ∉ wr → b ≠ C → b ∉ zs → h'.get? b = some o → h3.get? b = some o := fun b o h1 h2 h3 e => hk3 b o h2 h3 (hk2 b o h1 e)
    have hkk : ∀ b o, b ∉ wr → b ≠ D → b ≠ C → b ∉ zs → g.get? b = some o → h3.get? b = some o := fun b o h1 h2 h3 h4 e => up3 b o h1 h3 h4 (hk b o h1 h2 h3 h4 e)
    have hpl3 : h3.PlainList D (List.toArray ys) := hpl.at fun o e => up3 D o (fun h => (wD D h).1 rfl) X.dC X.dz e
    have gb3 : ∀ a o, Gb h' bad' a o → Gb h3 bad' a o := fun a o ⟨e, nb⟩ => ⟨up3 a o (fun h => nb (B.bw a h)) (fun h => nb (B.bC a (.inl h))) (fun h => nb (B.bC a (.inr h))) e, nb⟩
    have gg3 : ∀ a o, Gb g bad' a o → Gb h3 bad' a o := fun a o ⟨e, nb⟩ => ⟨hkk a o (fun h => nb (B.bw a h)) (fun h => nb (h ▸ B.bD)) (fun h => nb (B.bC a (.inl h))) (fun h => nb (B.bC a (.inr h))) e, nb⟩
    have al3 : ∀ a, bad' a → Alive h3 a ∧ T.h0.get? a = none := fun a ha => by
      refine ⟨?_, (B.b3 a ha).2⟩
      by_cases h1 : a ∈ wr
      · exact IT.alive _ _ hst3 a (W.sub a h1)
      by_cases h2 : a = D
      · subst h2; obtain ⟨nn, e⟩ := hpl3; exact ⟨_, e⟩
      by_cases h3 : a = C
      · subst h3
        obtain ⟨_, ⟨o, _, _, e, _⟩, _⟩ := fm3.ns
        exact ⟨o, e⟩
      by_cases h4 : a ∈ zs
      · obtain ⟨y, hy, hya⟩ := X.K.all a h4
        obtain ⟨o, e, _⟩ := fm3.cell y a hy hya
        exact ⟨o, e⟩
      · obtain ⟨o, e⟩ := (B.b3 a ha).1
        exact ⟨o, hkk a o h1 h2 h3 h4 e⟩
    have R3 : ∀ tk, Rd T (compEnvC scope cs C env) (relS scope sc) (compNs names own) (rv tv) bad' bc { s with heap := h3, toks := tk } := fun tk =>
      compRd X.R X.H X.K X.cl1 X.cl2 (nK hkk) B.b2 fm3 (fun i t d y e1 e2 => by
        rcases hown tv i t d y e1 e2 with ⟨h1, h2, h4⟩ | h1 | ⟨h1, h2, h4⟩ | ⟨h1, h2, h4, w, h5, h6⟩
        · exact .out h1 h2 h4
        · exact .emp h1
        · subst h1 h2 h4
          exact .own hx rfl v (if_pos rfl) ((hrv.mono up).mono gg3)
        · exact .own h1 h4 w (by rw [if_neg h2, hm y h2]; exact h5) (h6.mono gg3)) B.b1 al3
    have hrs3 := hrs.mono gb3
    have hdr : items.drop j = tv :: items.drop (j + 1) := by
      obtain ⟨h1, h2⟩ := List.getElem?_eq_some_iff.mp htv
      rw [← h2]; exact List.drop_eq_getElem_cons h1
    rw [hdr] at q
    have q : pc tv fun b => if b = true then pe tv fun u du => du = 0 ∧ compG pc pe (items.drop (j + 1)) (fun vs => K (us ++ (u :: vs))) else compG pc pe (items.drop (j + 1)) (fun vs => K (us ++ vs)) := q
    refine wp_no (gt tv _ q A _ bad' bc _ hA (R3 _)) fun ok s4 ⟨x4, q4⟩ => ?_
    have R4 := (R3 _).keep x4
    obtain ⟨h4, t4, e4, k4⟩ := x4
    subst e4
    have hm3 : ∀ z, z ≠ x → (if z = x then some v else m' z) = m0 z := fun z hz => by rw [if_neg hz]; exact hm z hz
    cases ok with
    | false =>
      rw [if_neg (by decide)] at q4
      rw [if_neg (by decide)]
      exact ⟨items.length + 1 - (j + 1), by lia, h4, t4, _, ys, us, j + 1, rfl, hjl, rfl, W.frame _ _ _ hst3 fun b _ o e => k4 b o e, hpl3.at fun o e => k4 _ o e, by lia, fm3.keep X.K fun b _ o e => k4 b o e, hm3, hrs3.mono (Gb.keeps k4), q4,
        fun b o h1 h2 h3 h4 e => k4 b o (hkk b o h1 h2 h3 h4 e)⟩
    | true =>
      rw [if_pos rfl] at q4
      rw [if_pos rfl]
      refine wp_no (ge tv _ q4 A _ bad' bc _ hA R4) fun y s5 ⟨x5, u, du, ⟨hdu, q5⟩, ru⟩ => ?_
      subst hdu
      obtain ⟨h5, t5, e5, k5⟩ := x5
      subst e5
      have hpl5 : h5.PlainList D (List.toArray ys) := hpl3.at fun o e => k5 _ o (k4 _ o e)
      have ru : Rep T.prog T.w (Gb h5 bad') y u := ru
      refine wpAny_list_append_plain (hsz := by rw [List.size_toArray, sl_eq]; lia) hpl5 fun h6 hl6 hs6 => ?_
      have gb6 : ∀ a o, Gb h5 bad' a o → Gb h6 bad' a o := fun a o ⟨e, nb⟩ => ⟨hs6.extBut a o (fun h => nb (h ▸ B.bD)) e, nb⟩
      have e56 : ∀ b, b ≠ D → ∀ o, h3.get? b = some o → h6.get? b = some o := fun b hb o e => hs6.extBut b o hb (k5 b o (k4 b o e))
      refine ⟨items.length + 1 - (j + 1), by lia, h6, t5, _, ys ++ [y], us ++ [u], j + 1, rfl, hjl, rfl, W.frame _ _ _ hst3 fun b hb o e => e56 b (B.dis b hb).1 o e, by simpa using hl6,
        by rw [List.length_append, List.length_singleton]; lia, fm3.keep X.K fun b hb o e => e56 b (fun h => by
          subst h
          rcases hb with h | h
          · exact X.dC h
          · exact X.dz h) o e, hm3, ?_, ?_, fun b o h1 h2 h3 h4 e => e56 b h2 o (hkk b o h1 h2 h3 h4 e)⟩
      · have a := ((hrs3.mono (Gb.keeps k4)).mono (Gb.keeps k5)).mono gb6
        exact Reps.of_all2 (All2.snoc a.all2 (ru.mono gb6))
      · have : (fun vs => K (us ++ [u] ++ vs)) = fun vs => K (us ++ (u :: vs)) := by funext vs; rw [List.append_assoc]; rfl
        rw [this]; exact q5
  · have hj' : j = items.length := by lia
    subst hj'
    refine W.done _ _ _ hst fun h2 tk2 hk2 => ?_
    have wD : ∀ b ∈ wr, b ≠ D ∧ b ≠ C ∧ b ∉ zs := fun b hb => B.dis b (W.sub b hb)
    rw [List.drop_length] at q
    have q : K (us ++ []) := q
    rw [List.append_nil] at q
    have hpl2 : h2.PlainList D (List.toArray ys) := hpl.at fun o e => hk2 _ o (fun h => (wD D h).1 rfl) e
    refine hRR h2 tk2 m' ys us q (fm.keep X.K fun b hb o e => hk2 b o (fun hw => by
      rcases hb with rfl | hb
      · exact (wD b hw).2.1 rfl
      · exact (wD b hw).2.2 hb) e) hm hpl2 hus (hrs.mono fun a o ⟨e, nb⟩ => ⟨hk2 a o (fun h => nb (B.bw a h)) e, nb⟩) fun b o h1 h2 h3 h4 e => hk2 b o h1 (hk b o h1 h2 h3 h4 e)
end
end Mine
end

-- part C3
section
open PySem PySem.Calls PyProof.Rows
set_option linter.unusedVariables false
namespace Mine
section
variable {T : GT} {k : Nat} {sc : Scope} {names own : List Str} {r : Rv} {x : Str} {scope : Scope}
/-- the frame of a comprehension, with its cells -/
theorem newFunctionEnv_comp {M : Model} {A : Around} {E : Value → Shared → Prop} {s : Shared} {globals : Addr} {closure : List (Str × Addr)} {qual : Str} {outer : Env} {Q : Env → Shared → Prop}
    (hQ : Q (newEnv scope s.heap.objs.size globals (cellsFrom (s.heap.objs.size + 1) scope.names closure) qual none .none (some outer) builtinsNs) { s with heap := pushCells (s.heap.push { cls := .type "dict", data := .dict #[] }) scope.names }) :
    wpAny M A (newFunctionEnv scope globals closure [] qual none .none (some outer)) Q E s := by
  simp only [newFunctionEnv, Option.isSome_some, if_true]
  refine wpAny_bind (wpAny_alloc ?_)
  refine wpAny_bind (wpAny_layCells _ (fun name kind cells => by cases hkc : kind == NameKind.cell <;> simp [hkc]) _ _ _ _ ?_)
  rw [show ({ s with heap := s.heap.push { cls := .type "dict", data := .dict #[] } } : Shared).heap.objs.size = s.heap.objs.size + 1 from Heap.size_push ..]
  exact wpAny_bind (wpAny_pure (wpAny_pure hQ))
noncomputable def ownZs (scope : Scope) (C : Addr) (own : List Str) : List Addr := own.filterMap fun x => (cellsFrom (C + 1) scope.names []).lookup x
theorem ownZs_mem {C : Addr} {Z : Addr} (h : Z ∈ ownZs scope C own) : ∃ x, (cellsFrom (C + 1) scope.names []).lookup x = some Z := by
  obtain ⟨x, _, h⟩ := List.mem_filterMap.mp h
  exact ⟨x, h⟩
theorem csOk {C : Addr} {cl : List (Str × Addr)} (H : CompSc scope sc names own) {h : Heap} (ok : CellsOk h (C + 1) (cellsFrom (C + 1) scope.names [])) : CsOk scope cl C (cellsFrom (C + 1) scope.names cl) (ownZs scope C own) := by
  have kd : ∀ {x Z}, (cellsFrom (C + 1) scope.names []).lookup x = some Z → scope.names.lookup x = some .cell ∧ C < Z := fun {x Z} h => by
    rcases cellsFrom_mem (mem_of_lookup h) with h | ⟨h1, h2⟩
    · cases h
    · exact ⟨(H.all _ _ h1).2, h2⟩
  have new : ∀ {x}, scope.names.lookup x = some .cell → ∃ Z, (cellsFrom (C + 1) scope.names []).lookup x = some Z ∧ (cellsFrom (C + 1) scope.names cl).lookup x = some Z := fun {x} h => by
    obtain ⟨Z, hZ⟩ := Option.isSome_iff_exists.mp (cells_some (lo := C + 1) (acc := []) h)
    exact ⟨Z, hZ, by rw [cellsFrom_app, lookup_app, hZ]; rfl⟩
  refine ⟨fun x h => ?_, fun x h => ?_, fun x y Z hx hy h1 h2 => ?_, fun Z h => ?_, fun Z h => ?_⟩
  · obtain ⟨Z, h1, h2⟩ := new h
    exact ⟨Z, List.mem_filterMap.mpr ⟨x, (H.all _ _ (mem_lookupS h)).1, h1⟩, h2⟩
  · rw [cellsFrom_app, lookup_app]
    cases e : (cellsFrom (C + 1) scope.names []).lookup x with
    | none => rfl
    | some Z => exact absurd (kd e).1 h
  · obtain ⟨Z1, a1, a2⟩ := new hx
    obtain ⟨Z2, b1, b2⟩ := new hy
    rw [h1] at a2; cases a2
    rw [h2] at b2; cases b2
    exact name_of_addr ok.apart (mem_of_lookup a1) (mem_of_lookup b1)
  · obtain ⟨x, h⟩ := ownZs_mem h
    exact (kd h).2
  · obtain ⟨x, h⟩ := ownZs_mem h
    obtain ⟨Z', h1, h2⟩ := new (kd h).1
    rw [h] at h1; cases h1
    exact ⟨x, (kd h).1, h2⟩

theorem comp_setup {elt target iter : Expr} {ifs : List Expr} {rest : List Comprehension} {pos : Pos} {A : Around} {env : Env} {bad bc : Addr → Prop} {s : Shared} {va : Value} {items : List V} {cl : List (Str × Addr)} {RR : Value → Addr → Result → Shared → Prop} {E : Value → Shared → Prop}
    (hA : AOk k A) (R : Rd T env sc names r bad bc s) (H : CompSc scope sc names own) (hcl1 : ∀ n c, cl.lookup n = some c → env.cells.lookup n = some c) (hcl2 : ∀ n, (n, NameKind.free) ∈ scope.names → (cl.lookup n).isSome = true)
    (hit : wpAny (model T.prog T.w) A (pyIter va) (fun it s₂ => IterP T bad s items it s₂) E s)
    (go : ∀ D C cs zs I it sX fp wr P St bad' g tg, CEnv T k sc names own r scope cl cs C zs D env bad bc s A → Iter T bad s items it sX I fp wr P St → LBeg T own scope cs C zs D bad s wr fp St bad' g (fun _ => none) [] [] → (∀ a o, Gb s.heap bad a o → Gb g bad' a o) →
      (∀ a, bad a → bad' a) → codeAny (model T.prog T.w) A (.compLoop (.ListComp elt (⟨target, iter, ifs, 0⟩ :: rest) scope pos) 0 (.ref I) (.ref D) (compEnvC scope cs C env)) (RR (.ref D) C) { s with heap := g, toks := tg }) :
    wpAny (model T.prog T.w) A (pyIter va) (fun it s₂ => wpAny (model T.prog T.w) A (newList []) (fun acc s₃ => wpAny (model T.prog T.w) A (newFunctionEnv scope env.globals cl [] env.qual none .none (some env)) (fun cenv s₄ =>
      codeAny (model T.prog T.w) A (.compStart (.ListComp elt (⟨target, iter, ifs, 0⟩ :: rest) scope pos) 0 it acc { cenv with scope := relabel scope env }) (RR acc cenv.locals) s₄) E s₃) E s₂) E s := by
  refine wpAny_mono hit (fun itv s₂ ⟨I, fp, wr, P, St, IT⟩ => ?_) fun _ _ e => e
  have hiteq := IT.it
  subst hiteq
  have W := IT.W A hA.1
  refine wpAny_newObj_type (newFunctionEnv_comp ?_)
  dsimp only
  generalize hH2 : s₂.heap.push { cls := .type "list", dict := none, data := .seq ([] : List Value).toArray } = H2
  have hC : H2.objs.size = s₂.heap.objs.size + 1 := by rw [← hH2, Heap.size_push]
  obtain ⟨D, hDd⟩ : ∃ D, s₂.heap.objs.size = D := ⟨_, rfl⟩
  obtain ⟨C, hCd⟩ : ∃ C, H2.objs.size = C := ⟨_, rfl⟩
  rw [hCd] at hC ⊢
  rw [hDd] at hC ⊢
  have hlt : D < C := by rw [hC]; exact Nat.lt_succ_self _
  have hDC : D ≠ C := Nat.ne_of_lt hlt
  have sz3 : (H2.push { cls := .type "dict", data := .dict #[] }).objs.size = C + 1 := by rw [Heap.size_push, hCd]
  have ok := cellsFrom_ok scope.names (H2.push { cls := .type "dict", data := .dict #[] }) (C + 1) [] ⟨fun _ _ hm => (nomatch hm), List.Pairwise.nil⟩ (Nat.le_of_eq sz3.symm)
  rw [sz3] at ok
  have K := csOk (cl := cl) H ok
  generalize hG : pushCells (H2.push { cls := .type "dict", data := .dict #[] }) scope.names = G at ok
  have k3 : ∀ b o, H2.get? b = some o → G.get? b = some o := fun b o e => hG ▸ pushCells_keeps _ _ b o (Heap.get?_push_of_some _ e)
  have fresh : ∀ a, D ≤ a → s₂.heap.get? a = none := fun a ha => none_of_ge (hDd ▸ ha)
  have lt2 : ∀ {b}, Alive s₂.heap b → b < D := fun ⟨o, e⟩ => hDd ▸ Heap.lt_size e
  have old : ∀ b o, s₂.heap.get? b = some o → G.get? b = some o := fun b o e => k3 b o (hH2 ▸ Heap.get?_push_of_some _ e)
  have hacc : G.PlainList D #[] := ⟨0, k3 _ _ (hH2 ▸ hDd ▸ Heap.get?_push_size _ rfl)⟩
  have hns : G.Ns C fun _ => none := by
    have := (Heap.Ns.new H2 (.type "dict")).keeps (h' := G) fun b o e => hG ▸ pushCells_keeps _ _ b o e
    rwa [hCd] at this
  have aS2 : ∀ {b}, Alive s.heap b → Alive s₂.heap b := fun h => h.keeps IT.ext.keeps
  have fpD : ∀ b ∈ fp, b < D := fun b hb => lt2 (IT.alive _ _ IT.st b hb)
  have noneS : ∀ a, D ≤ a → s.heap.get? a = none := fun a ha => by
    cases e' : s.heap.get? a with
    | none => rfl
    | some o => exact absurd (lt2 (aS2 ⟨o, e'⟩)) (Nat.not_lt.mpr ha)
  have nw : ∀ {a}, Alive s.heap a → a ∉ wr := fun ⟨o, e⟩ h => by rw [(IT.wrok _ h).1] at e; cases e
  have zC : ∀ Z ∈ ownZs scope C own, C < Z := fun Z h => K.above Z h
  have X : CEnv T k sc names own r scope cl (cellsFrom (C + 1) scope.names cl) C (ownZs scope C own) D env bad bc s A := ⟨hA, R, H, K, hcl1, hcl2, hDC, fun h => Nat.lt_irrefl _ (Nat.lt_trans hlt (zC D h)), fun b hb => by
    rcases hb with rfl | rfl | hb
    · exact noneS _ (Nat.le_refl _)
    · exact noneS _ (Nat.le_of_lt hlt)
    · exact noneS _ (Nat.le_of_lt (Nat.lt_trans hlt (zC b hb)))⟩
  have kS : Keeps s.heap G := fun b o e => old b o (IT.ext.keeps b o e)
  have none0 : ∀ a, s.heap.get? a = none → T.h0.get? a = none := fun a h => by
    cases e : T.h0.get? a with
    | none => rfl
    | some o => rw [R.base a o e] at h; cases h
  have fm : FmC scope (cellsFrom (C + 1) scope.names cl) C own (fun _ => none) G := ⟨⟨_, hns, fun _ _ _ => rfl⟩, fun x Z hx hZ => by
    obtain ⟨Z', hm, hZ'⟩ := K.own x hx
    rw [hZ] at hZ'; cases hZ'
    obtain ⟨y, hy⟩ := ownZs_mem hm
    exact (ok.empty _ _ (mem_of_lookup hy)).1⟩
  have nbn : ∀ a, (bad a ∨ a ∈ wr ∨ a = D ∨ a = C ∨ a ∈ ownZs scope C own) → Alive s.heap a → bad a := fun a ha hal => by
    have hl := lt2 (aS2 hal)
    rcases ha with h | h | h | h | h
    · exact h
    · exact absurd h (nw hal)
    · exact absurd h (Nat.ne_of_lt hl)
    · exact absurd h (Nat.ne_of_lt (Nat.lt_trans hl hlt))
    · exact absurd (Nat.lt_trans hlt (zC a h)) (Nat.not_lt.mpr (Nat.le_of_lt hl))
  have B : LBeg T own scope (cellsFrom (C + 1) scope.names cl) C (ownZs scope C own) D bad s wr fp St (fun a => bad a ∨ a ∈ wr ∨ a = D ∨ a = C ∨ a ∈ ownZs scope C own) G (fun _ => none) [] [] := by
    refine ⟨W.frame _ _ _ IT.st fun b _ o e => old b o e, hacc, fm, .nil, fun a h => .inl h, nbn, fun a ha => ?_, .inr (.inr (.inl rfl)), fun b hb => hb.elim (fun h => .inr (.inr (.inr (.inl h)))) fun h => .inr (.inr (.inr (.inr h))), fun b hb => .inr (.inl hb),
      fun b hb => ⟨Nat.ne_of_lt (fpD b hb), Nat.ne_of_lt (Nat.lt_trans (fpD b hb) hlt), fun h => Nat.lt_irrefl _ (Nat.lt_trans (Nat.lt_trans (fpD b hb) hlt) (zC b h))⟩, fun b hb => (IT.wrok b hb).1, kS⟩
    rcases ha with h | h | h | h | h
    · exact ⟨(R.badok a h).1.keeps kS, (R.badok a h).2⟩
    · exact ⟨(IT.wrok a h).2.keeps old, none0 a (IT.wrok a h).1⟩
    · subst h; obtain ⟨nn, e⟩ := hacc; exact ⟨⟨_, e⟩, none0 _ (noneS _ (Nat.le_refl _))⟩
    · subst h; obtain ⟨o, _, _, e, _⟩ := hns; exact ⟨⟨o, e⟩, none0 _ (noneS _ (Nat.le_of_lt hlt))⟩
    · obtain ⟨y, hy⟩ := ownZs_mem h
      obtain ⟨o, e, _⟩ := (ok.empty _ _ (mem_of_lookup hy)).1
      exact ⟨⟨o, e⟩, none0 _ (noneS _ (Nat.le_of_lt (Nat.lt_trans hlt (zC a h))))⟩
  have up : ∀ a o, Gb s.heap bad a o → Gb G (fun a => bad a ∨ a ∈ wr ∨ a = D ∨ a = C ∨ a ∈ ownZs scope C own) a o := fun a o ⟨e, nb⟩ => ⟨kS a o e, fun h => nb (nbn a h ⟨o, e⟩)⟩
  have loop := fun tg => go D C _ _ I _ _ fp wr P St _ G tg X IT B up B.b1
  obtain ⟨hx2, tx2, e2, k2⟩ := IT.ext
  subst e2
  exact codeAny_compStart_list (loop _) (W.self 0 _ _ _ B.st (loop _))
/-- what a comprehension leaves: a fresh list -/
theorem comp_freshG {target : Expr} {elt iter : Expr} {ifs : List Expr} {rest : List Comprehension} {pos : Pos} {K : List V → Prop} {gd : List V → Prop} (hs : compSc scope sc names own = true) (hset : ∀ (env : Env) v, foldedSetIterable iter env v = pure v)
    {A : Around} {env : Env} {bad bc : Addr → Prop} {s : Shared} {use : Option (Value → Sem Unit)} {Q : Value → Shared → Prop} (hA : AOk k A) (R : Rd T env sc names r bad bc s)
    (h : EVW T k sc names r iter fun t d => d = 0 ∧ iterOk t ∧ ∃ items, itemsV t = some items ∧ gd items)
    (go : ∀ D C cl cs zs I it sX fp wr P St bad' g tg s₁ items (RR : Value → Addr → Result → Shared → Prop), gd items → Ext s s₁ → CEnv T k sc names own r scope cl cs C zs D env bad bc s₁ A → Iter T bad s₁ items it sX I fp wr P St →
      LBeg T own scope cs C zs D bad s₁ wr fp St bad' g (fun _ => none) [] [] → (∀ a o, Gb s₁.heap bad a o → Gb g bad' a o) →
      (∀ h' tk ys us m', K us → FmC scope cs C own m' h' → h'.PlainList D (List.toArray ys) → us.length ≤ 1000000 → Reps T.prog T.w (Gb h' bad') ys us → Keeps s₁.heap h' → RR (.ref D) C (.ok .next) { s₁ with heap := h', toks := tk }) →
      codeAny (model T.prog T.w) A (.compLoop (.ListComp elt (⟨target, iter, ifs, 0⟩ :: rest) scope pos) 0 (.ref I) (.ref D) (compEnvC scope cs C env)) (RR (.ref D) C) { s₁ with heap := g, toks := tg })
    (hQ : ∀ D C h' tk m' ys us, K us → s.heap.get? D = none → s.heap.get? C = none → D ≠ C → h'.Ns C m' → IsL h' D ys → Reps T.prog T.w (Gb h' fun b => bad b ∨ b = D ∨ b = C) ys us → (∀ b o, s.heap.get? b = some o → h'.get? b = some o) →
      compPost (model T.prog T.w) A No use Q (.ref D) C (.ok .next) { s with heap := h', toks := tk }) :
    wpAny (model T.prog T.w) A (comprehension (.ListComp elt (⟨target, iter, ifs, 0⟩ :: rest) scope pos) scope env (firstIterPos (⟨target, iter, ifs, 0⟩ :: rest) pos) (newList []) false (eval iter env) use) Q No s := by
  have H := compSc_ok hs
  obtain ⟨cl, hcl, hcl1, hcl2⟩ := closureFor_ok (env := env) (scope := scope) (fun n hn => R.cel n (H.all n _ hn).1)
  have hnames : ∀ y ∈ scope.names, y.2 = .local → scope.names.lookup y.1 = some .local := fun y hy e => by
    have := H.all y.1 y.2 hy
    rw [e] at this; exact this.2
  refine wpAny_comprehension_free rfl (hset env) hcl H.kind hnames (wp_no (h A env bad bc s hA R) fun va s1 ⟨x1, t, d, ⟨hd, ho, items, hi, hg⟩, rv⟩ => ?_)
  subst hd
  have k1 := x1.keeps
  obtain ⟨h1, t1, e1, k1'⟩ := id x1
  have back : ∀ a, s1.heap.get? a = none → s.heap.get? a = none := fun a e => by
    cases e' : s.heap.get? a with
    | none => rfl
    | some o => rw [k1 a o e'] at e; cases e
  refine comp_setup (RR := compPost (model T.prog T.w) A No use Q) hA (R.keep x1) H hcl1 hcl2 (iter_ok rv hi ho) fun D C cs zs I it sX fp wr P St bad' g tg X IT B up bb => ?_
  refine go D C cl cs zs I it sX fp wr P St bad' g tg s1 items _ hg x1 X IT B up fun h' tk ys us m' hK fm hl hz hr hk => ?_
  obtain ⟨m0, hn, _⟩ := fm.ns
  have hlen := hr.length
  subst e1
  exact hQ D C h' tk m0 ys us hK (back D (X.new D (.inl rfl))) (back C (X.new C (.inr (.inl rfl)))) X.dC hn ⟨hl, by rw [sl_eq]; lia⟩ (hr.mono fun a o ⟨e, nb⟩ => ⟨e, fun h => nb (by
    rcases h with h | h | h
    · exact bb a h
    · exact h ▸ B.bD
    · exact B.bC a (.inl h))⟩) fun b o e => hk b o (k1 b o e)

theorem own_one {v : V} {i : Nat} {t : V} {d : Nat} {y : Str} {P : Prop} (e1 : ((names.length, v, 0) :: r : Rv).lookup i = some (t, d)) (e2 : (compNs names [x])[i]? = some y) :
    (r.lookup i = some (t, d) ∧ names[i]? = some y ∧ y ∉ [x]) ∨ y = ("" : Str) ∨ (y = x ∧ d = 0 ∧ t = v) ∨ P := by
  rw [List.lookup_cons] at e1
  rcases compNs_get e2 with ⟨h1, h2⟩ | h | ⟨l, h1, h2⟩
  · have hlt := (List.getElem?_eq_some_iff.mp h1).1
    have e : (i == names.length) = false := by simpa using Nat.ne_of_lt hlt
    rw [e] at e1
    exact .inl ⟨e1, h1, h2⟩
  · exact .inr (.inl h)
  · cases l with
    | zero =>
      cases h1
      have e : (i == names.length) = true := by simpa using h2
      rw [e] at e1
      cases e1
      exact .inr (.inr (.inl ⟨rfl, rfl, rfl⟩))
    | succ l => cases h1

theorem turn1 (elt iter : Expr) (ifs : List Expr) (scope : Scope) (pos px : Pos) : TurnEq elt [⟨.Name x px, iter, ifs, 0⟩] scope pos 0 x px ifs iter.pos := fun it acc env => rfl
theorem comp_fresh {elt iter : Expr} {px : Pos} {ifs : List Expr} {pos : Pos} {pc : V → BP} {pe : V → VP} {K : List V → Prop} (hs : compSc scope sc names [x] = true) (hset : ∀ (env : Env) v, foldedSetIterable iter env v = pure v)
    (h : EVW T k sc names r iter fun t d => d = 0 ∧ iterOk t ∧ ∃ items, itemsV t = some items ∧ items.length ≤ 10000 ∧ compG pc pe items K)
    (gt : ∀ v QB, pc v QB → TstW T k (relS scope sc) (compNs names [x]) ((names.length, v, 0) :: r) ifs QB)
    (ge : ∀ v QV, pe v QV → EVW T k (relS scope sc) (compNs names [x]) ((names.length, v, 0) :: r) elt QV)
    {A : Around} {env : Env} {bad bc : Addr → Prop} {s : Shared} {use : Option (Value → Sem Unit)} {Q : Value → Shared → Prop} (hA : AOk k A) (R : Rd T env sc names r bad bc s)
    (hQ : ∀ D C h' tk m' ys us, K us → s.heap.get? D = none → s.heap.get? C = none → D ≠ C → h'.Ns C m' → IsL h' D ys → Reps T.prog T.w (Gb h' fun b => bad b ∨ b = D ∨ b = C) ys us → (∀ b o, s.heap.get? b = some o → h'.get? b = some o) →
      compPost (model T.prog T.w) A No use Q (.ref D) C (.ok .next) { s with heap := h', toks := tk }) :
    wpAny (model T.prog T.w) A (comprehension (.ListComp elt [⟨.Name x px, iter, ifs, 0⟩] scope pos) scope env (firstIterPos [⟨.Name x px, iter, ifs, 0⟩] pos) (newList []) false (eval iter env) use) Q No s := by
  refine comp_freshG (K := K) (gd := fun items => items.length ≤ 10000 ∧ compG pc pe items K) hs hset hA R h (fun D C cl cs zs I it sX fp wr P St bad' g tg s₁ items RR ⟨hl, q⟩ x1 X IT B up hRR => ?_) hQ
  refine comp_loop X (turn1 elt iter ifs scope pos px) List.mem_cons_self IT B up (by simp; lia) (rv := fun v => (names.length, v, 0) :: r) (fun a i t d y e1 e2 => own_one e1 e2) gt ge q fun h' tk m' ys us hK fm hm pl hz rs hk => ?_
  refine hRR h' tk ys us m' hK fm pl (by simp at hz; lia) rs fun b o e => ?_
  have ne : ∀ c, s₁.heap.get? c = none → b ≠ c := fun c hc h => by rw [← h, e] at hc; cases hc
  exact hk b o (fun h => ne b (B.nw b h) rfl) (ne D (X.new D (.inl rfl))) (ne C (X.new C (.inr (.inl rfl)))) (fun h => ne b (X.new b (.inr (.inr h))) rfl) (B.k0 b o e)

/-- a comprehension as a value -/
theorem comp_val {bad bc : Addr → Prop} {s : Shared} {A : Around} {env : Env} {D C : Addr} {h' : Heap} {tk : Tok} {m' : Str → Option Value} {ys : List Value} {us : List V} {Q : V → Nat → Prop} (R : Rd T env sc names r bad bc s) (q : Q (.list us) 0)
    (hD : s.heap.get? D = none) (hC : s.heap.get? C = none) (hDC : D ≠ C) (hn : h'.Ns C m') (hl : IsL h' D ys) (hr : Reps T.prog T.w (Gb h' fun b => bad b ∨ b = D ∨ b = C) ys us) (hk : ∀ b o, s.heap.get? b = some o → h'.get? b = some o) :
    compPost (model T.prog T.w) A No none (Is T bad bc s Q) (.ref D) C (.ok .next) { s with heap := h', toks := tk } := by
  refine ⟨m', hn, fun h2 hs2 => ?_⟩
  obtain ⟨⟨nn, eo⟩, hz⟩ := hl
  have nC : ∀ a o, s.heap.get? a = some o → a ≠ C := fun a o e h => by rw [h, hC] at e; cases e
  have nD : ¬ bad D := fun h => by
    obtain ⟨⟨o, e⟩, _⟩ := R.badok D h
    rw [hD] at e; cases e
  refine Is.mk (T := T) (s := s) (s' := { s with heap := h2, toks := tk }) (Ext.of fun b o e => hs2.extBut b o (nC b o e) (hk b o e)) q (RepD.mono (d := 0) (fun _ _ g => g) (fun _ _ g => g) ?_)
  exact Rep.list (G := Gb h2 bad) ⟨hs2.extBut _ _ hDC eo, nD⟩ ⟨rfl, rfl⟩ rfl hz (hr.mono fun a o ⟨e, nb⟩ => ⟨hs2.extBut a o (fun h => nb (.inr (.inr h))) e, fun h => nb (.inl h)⟩)

/-- a comprehension, whatever is done with it -/
noncomputable def CJ (T : GT) (k : Nat) (sc : Scope) (names : List Str) (r : Rv) (elt : Expr) (gens : List Comprehension) (scope : Scope) (pos : Pos) (K : List V → Prop) : Prop :=
  ∀ A env bad bc s use Q, AOk k A → Rd T env sc names r bad bc s →
    (∀ D C h' tk m' ys us, K us → s.heap.get? D = none → s.heap.get? C = none → D ≠ C → h'.Ns C m' → IsL h' D ys → Reps T.prog T.w (Gb h' fun b => bad b ∨ b = D ∨ b = C) ys us → (∀ b o, s.heap.get? b = some o → h'.get? b = some o) →
      compPost (model T.prog T.w) A No use Q (.ref D) C (.ok .next) { s with heap := h', toks := tk }) →
    wpAny (model T.prog T.w) A (comprehension (.ListComp elt gens scope pos) scope env (firstIterPos gens pos) (newList []) false (firstIter gens env) use) Q No s
theorem CJ.mono {elt : Expr} {gens : List Comprehension} {pos : Pos} {K K' : List V → Prop} (h : CJ T k sc names r elt gens scope pos K) (q : ∀ us, K us → K' us) : CJ T k sc names r elt gens scope pos K' :=
  fun A env bad bc s use Q hA R hQ => h A env bad bc s use Q hA R fun D C h' tk m' ys us hK => hQ D C h' tk m' ys us (q us hK)
theorem CJ.comp {elt iter : Expr} {px : Pos} {ifs : List Expr} {pos : Pos} {pc : V → BP} {pe : V → VP} {K : List V → Prop} (hs : compSc scope sc names [x] = true) (hset : ∀ (env : Env) v, foldedSetIterable iter env v = pure v)
    (h : EVW T k sc names r iter fun t d => d = 0 ∧ iterOk t ∧ ∃ items, itemsV t = some items ∧ items.length ≤ 10000 ∧ compG pc pe items K)
    (gt : ∀ v QB, pc v QB → TstW T k (relS scope sc) (compNs names [x]) ((names.length, v, 0) :: r) ifs QB)
    (ge : ∀ v QV, pe v QV → EVW T k (relS scope sc) (compNs names [x]) ((names.length, v, 0) :: r) elt QV) :
    CJ T k sc names r elt [⟨.Name x px, iter, ifs, 0⟩] scope pos K := fun A env bad bc s use Q hA R hQ => comp_fresh hs hset h gt ge hA R hQ
theorem EVW.ofCJ {elt : Expr} {gens : List Comprehension} {pos : Pos} {Q : V → Nat → Prop} (ha : firstAsync gens = false) (h : CJ T k sc names r elt gens scope pos fun us => Q (.list us) 0) : EVW T k sc names r (.ListComp elt gens scope pos) Q := fun A env bad bc s hA R => by
  rw [eval_ListComp, ha]
  exact h A env bad bc s none _ hA R fun D C h' tk m' ys us q hD hC hDC hn hl hr hk => comp_val R q hD hC hDC hn hl hr hk
end
end Mine
end

-- part C4
section
open PySem PySem.Calls PyProof.Rows
set_option linter.unusedVariables false
namespace Mine
section
variable {T : GT} {k : Nat} {sc : Scope} {names : List Str} {r : Rv} {x y : Str} {scope : Scope} {cl cs : List (Str × Addr)} {C : Addr} {zs : List Addr}
/-! comprehensions with two clauses, no tests -/
noncomputable def gens2 (x y : Str) (px py : Pos) (iter iter2 : Expr) : List Comprehension := [⟨.Name x px, iter, [], 0⟩, ⟨.Name y py, iter2, [], 0⟩]
theorem turn_out (elt iter iter2 : Expr) (scope : Scope) (pos px py : Pos) (it acc : Value) (env : Env) : compTurn (.ListComp elt (gens2 x y px py iter iter2) scope pos) 0 it acc env = (do
      standAt iter.pos
      match ← pyNext it with
      | none => pure (.done .next)
      | some v =>
        assign (.Name x px) env v
        let x2 ← eval iter2 env
        standAt iter2.pos
        let x2 ← foldedSetIterable iter2 env x2
        let i2 ← holding [x2] (pyIter x2)
        let _ ← runOwn (.compStart (.ListComp elt (gens2 x y px py iter iter2) scope pos) 1 i2 acc env) env
        again (.compLoop (.ListComp elt (gens2 x y px py iter iter2) scope pos) 0 it acc env)) := by rfl
theorem turn_in (elt iter iter2 : Expr) (scope : Scope) (pos px py : Pos) : TurnEq elt (gens2 x y px py iter iter2) scope pos 1 y py [] iter2.pos := fun it acc env => rfl
theorem compStart_in {prog : Program} {w : World} {A : Around} {R : Result → Shared → Prop} {s : Shared} {elt iter iter2 : Expr} {scope : Scope} {pos px py : Pos} {it acc : Value} {env : Env}
    (h0 : codeAny (model prog w) A (.compLoop (.ListComp elt (gens2 x y px py iter iter2) scope pos) 1 it acc env) R s)
    (h : wpAny (model prog w) A (pyIter it) (fun it' s' => codeAny (model prog w) A (.compLoop (.ListComp elt (gens2 x y px py iter iter2) scope pos) 1 it' acc env) R s') (notedBy (model prog w) A env fun x s' => R (.error x) s') s) :
    codeAny (model prog w) A (.compStart (.ListComp elt (gens2 x y px py iter iter2) scope pos) 1 it acc env) R s := by
  refine codeAny_of_tree ?_
  show wpAny _ _ ((compStart (.ListComp elt (gens2 x y px py iter iter2) scope pos) 1 it acc env).onRaise (fun x => do noteFrame x env; standAt theWindowsPlace)) _ _ s
  refine wpAny_notedAt ?_
  unfold compStart
  show wpAny _ _ (ask >>= _) _ _ s
  refine wpAny_bind (wpAny_askSetting (wpAny_ite ?_))
  split
  · first
      | exact wpAny_bind (wpAny_pure (wpAny_pure (And.intro rfl h0)))
      | exact wpAny_pure (And.intro rfl h0)
  · first
      | exact wpAny_bind (wpAny_rule (wpAny_bind (wpAny_standAt (wpAny_bind (wpAny_mono h (fun it' s' h' => wpAny_pure (And.intro rfl h')) fun _ _ x => x)))))
      | (refine wpAny_bind (wpAny_rule ?_); show wpAny _ _ (standAt iter2.pos >>= _) _ _ s; exact wpAny_bind (wpAny_standAt (wpAny_bind (wpAny_mono h (fun it' s' h' => wpAny_pure (And.intro rfl h')) fun _ _ x => x))))
inductive Comp2I (T : GT) (own : List Str) (scope : Scope) (cs : List (Str × Addr)) (C : Addr) (zs : List Addr) (D : Addr) (s : Shared) (len : Nat) (St : Nat → Heap → Prop) (bad' : Addr → Prop) (wr : List Addr) (g : Heap) (q : Nat → List V → Prop) (n : Nat) (s' : Shared) : Prop where
  | mk (h' : Heap) (tk : Nat) (m' : Str → Option Value) (ys : List Value) (us : List V) (j : Nat) (e : s' = { s with heap := h', toks := tk }) (hj : j ≤ len) (hn : n = len + 1 - j) (st : St j h') (pl : h'.PlainList D (List.toArray ys))
    (hu : us.length ≤ 100 * j) (fm : FmC scope cs C own m' h') (rs : Reps T.prog T.w (Gb h' bad') ys us) (q : q j us) (hk : ∀ b o, b ∉ wr → b ≠ D → b ≠ C → b ∉ zs → g.get? b = some o → h'.get? b = some o)
theorem own_in {v u : V} {i : Nat} {t : V} {d : Nat} {z : Str} {P : Prop} (hP : P) (hxy : x ≠ y) (e1 : ((names.length + 1, u, 0) :: (names.length, v, 0) :: r : Rv).lookup i = some (t, d)) (e2 : (compNs names [x, y])[i]? = some z) :
    (r.lookup i = some (t, d) ∧ names[i]? = some z ∧ z ∉ [x, y]) ∨ z = ("" : Str) ∨ (z = y ∧ d = 0 ∧ t = u) ∨ (z = x ∧ d = 0 ∧ t = v) := by
  rw [List.lookup_cons] at e1
  rcases compNs_get e2 with ⟨h1, h2⟩ | h | ⟨l, h1, h2⟩
  · have hlt := (List.getElem?_eq_some_iff.mp h1).1
    have e : (i == names.length + 1) = false := by simp; lia
    rw [e] at e1
    dsimp only at e1
    rw [List.lookup_cons] at e1
    have e : (i == names.length) = false := by simpa using Nat.ne_of_lt hlt
    rw [e] at e1
    exact .inl ⟨e1, h1, h2⟩
  · exact .inr (.inl h)
  · match l with
    | 0 =>
      cases h1
      have e : (i == names.length + 1) = false := by simp; lia
      rw [e] at e1
      dsimp only at e1
      rw [List.lookup_cons] at e1
      have e : (i == names.length) = true := by simpa using h2
      rw [e] at e1
      cases e1
      exact .inr (.inr (.inr ⟨rfl, rfl, rfl⟩))
    | 1 =>
      cases h1
      have e : (i == names.length + 1) = true := by simpa using h2
      rw [e] at e1
      cases e1
      exact .inr (.inr (.inl ⟨rfl, rfl, rfl⟩))
    | l + 2 => cases h1
theorem hide_get {i : Nat} {z : Str} (h : (hideN names [x, y] ++ [x])[i]? = some z) : (names[i]? = some z ∧ z ∉ [x, y]) ∨ z = ("" : Str) ∨ (z = x ∧ i = names.length) := by
  have hl : (hideN names [x, y]).length = names.length := List.length_map _
  by_cases hi : i < names.length
  · rw [List.getElem?_append_left (by rw [hl]; exact hi)] at h
    unfold hideN at h
    rw [List.getElem?_map] at h
    obtain ⟨w, hw, e⟩ := Option.map_eq_some_iff.mp h
    by_cases hc : [x, y].contains w = true
    · rw [if_pos hc] at e; exact .inr (.inl e.symm)
    · rw [if_neg hc] at e
      subst e
      exact .inl ⟨hw, fun hm => hc (List.contains_iff_mem.mpr hm)⟩
  · rw [List.getElem?_append_right (by rw [hl]; lia), hl] at h
    have : i - names.length = 0 := by
      have := (List.getElem?_eq_some_iff.mp h).1
      rw [List.length_singleton] at this
      lia
    rw [this] at h
    cases h
    exact .inr (.inr ⟨rfl, by lia⟩)
theorem comp2_loop {D : Addr} {env : Env} {bad bc : Addr → Prop} {s : Shared} {A : Around} (X : CEnv T k sc names [x, y] r scope cl cs C zs D env bad bc s A) {elt iter iter2 : Expr} {pos px py : Pos} (hxy : x ≠ y) (hset : ∀ (env : Env) v, foldedSetIterable iter2 env v = pure v)
    {badI : Addr → Prop} {sI sX : Shared} {items : List V} {it : Value} {I : Addr} {fp wr : List Addr} {P : Nat → Value → Prop} {St : Nat → Heap → Prop} (IT : Iter T badI sI items it sX I fp wr P St) {bad' : Addr → Prop} {g : Heap} {tg : Tok} {m0 : Str → Option Value}
    (B : LBeg T [x, y] scope cs C zs D bad s wr fp St bad' g m0 [] []) (up : ∀ a o, Gb sI.heap badI a o → Gb g bad' a o) (hz : items.length ≤ 100) {pq : V → VP} {pe : V → V → VP} {K : List V → Prop} {RR : Result → Shared → Prop}
    (gq : ∀ v QV, pq v QV → EVW T k (relS scope sc) (hideN names [x, y] ++ [x]) ((names.length, v, 0) :: r) iter2 QV)
    (ge : ∀ v u QV, pe v u QV → EVW T k (relS scope sc) (compNs names [x, y]) ((names.length + 1, u, 0) :: (names.length, v, 0) :: r) elt QV) (q : comp2G pq pe items K)
    (hRR : ∀ h' tk m' ys us, K us → FmC scope cs C [x, y] m' h' → h'.PlainList D (List.toArray ys) → us.length ≤ 1000000 → Reps T.prog T.w (Gb h' bad') ys us →
      (∀ b o, b ∉ wr → b ≠ D → b ≠ C → b ∉ zs → g.get? b = some o → h'.get? b = some o) → RR (.ok .next) { s with heap := h', toks := tk }) :
    codeAny (model T.prog T.w) A (.compLoop (.ListComp elt (gens2 x y px py iter iter2) scope pos) 0 (.ref I) (.ref D) (compEnvC scope cs C env)) RR { s with heap := g, toks := tg } := by
  have hA := X.aok
  have W := IT.W A hA.1
  have nK : ∀ {h' : Heap}, (∀ b o, b ∉ wr → b ≠ D → b ≠ C → b ∉ zs → g.get? b = some o → h'.get? b = some o) → Keeps s.heap h' := fun {h'} hk b o e => by
    have ne : ∀ c, s.heap.get? c = none → b ≠ c := fun c hc h => by rw [← h, e] at hc; cases hc
    exact hk b o (fun h => ne b (B.nw b h) rfl) (ne D (X.new D (.inl rfl))) (ne C (X.new C (.inr (.inl rfl)))) (fun h => ne b (X.new b (.inr (.inr h))) rfl) (B.k0 b o e)
  have loc : ∀ z ∈ [x, y], scope.names.lookup z = some .local ∨ scope.names.lookup z = some .cell := fun z hz => (X.H.loc z hz).1
  have wD : ∀ b ∈ wr, b ≠ D ∧ b ≠ C ∧ b ∉ zs := fun b hb => B.dis b (W.sub b hb)
  refine codeAny_loop rfl (fun n s' => Comp2I T [x, y] scope cs C zs D s items.length St bad' wr g (fun j us => comp2G pq pe (items.drop j) fun vs => K (us ++ vs)) n s') (fun n s' hI => ?_) (items.length + 1)
    ⟨g, tg, m0, [], [], 0, rfl, Nat.zero_le _, rfl, B.st, B.pl, Nat.le_refl _, B.fm, B.rs, q, fun b o _ _ _ _ e => e⟩
  show wpAny _ A ((compTurn (.ListComp elt (gens2 x y px py iter iter2) scope pos) 0 (.ref I) (.ref D) (compEnvC scope cs C env)).onRaise (fun x => do noteFrame x (compEnvC scope cs C env); theTreesLotGoes x)) _ _ s'
  refine wpAny_noted ?_
  rw [turn_out]
  refine wpAny_bind (wpAny_standAt (wpAny_bind ?_))
  obtain ⟨h', tk, m', ys, us, j, rfl, hj, rfl, hst, hpl, hus, fm, hrs, q, hk⟩ := hI
  have hyl := hrs.length
  by_cases hjl : j < items.length
  · refine W.item j _ _ _ hjl hst fun v h2 tk2 hP hst2 hk2 => ?_
    have fm2 : FmC scope cs C [x, y] m' h2 := fm.keep X.K fun b hb o e => hk2 b o (fun hw => by
      rcases hb with rfl | hb
      · exact (wD b hw).2.1 rfl
      · exact (wD b hw).2.2 hb) e
    refine wpAny_bind (wpAny_assign_Name (FmC.store X.K loc (env := compEnvC scope cs C env) X.H.kind rfl rfl X.kd List.mem_cons_self fm2 fun h3 tk3 fm3 hk3 => ?_))
    obtain ⟨tv, htv, hrv⟩ := IT.item j v hP hjl
    have hst3 : St (j + 1) h3 := W.frame _ _ _ hst2 fun b hb o e => hk3 b o (B.dis b hb).2.1 (B.dis b hb).2.2 e
    have up3 : ∀ b o, b ∉ wr → b ≠ C → b ∉ zs → h'.get? b = some o → h3.get? b = some o := fun b o h1 h2 h3 e => hk3 b o h2 h3 (hk2 b o h1 e)
    have hkk : ∀ b o, b ∉ wr → b ≠ D → b ≠ C → b ∉ zs → g.get? b = some o → h3.get? b = some o := fun b o h1 h2 h3 h4 e => up3 b o h1 h3 h4 (hk b o h1 h2 h3 h4 e)
    have hpl3 : h3.PlainList D (List.toArray ys) := hpl.at fun o e => up3 D o (fun h => (wD D h).1 rfl) X.dC X.dz e
    have gb3 : ∀ a o, Gb h' bad' a o → Gb h3 bad' a o := fun a o ⟨e, nb⟩ => ⟨up3 a o (fun h => nb (B.bw a h)) (fun h => nb (B.bC a (.inl h))) (fun h => nb (B.bC a (.inr h))) e, nb⟩
    have gg3 : ∀ a o, Gb g bad' a o → Gb h3 bad' a o := fun a o ⟨e, nb⟩ => ⟨hkk a o (fun h => nb (B.bw a h)) (fun h => nb (h ▸ B.bD)) (fun h => nb (B.bC a (.inl h))) (fun h => nb (B.bC a (.inr h))) e, nb⟩
    have al3 : ∀ a, bad' a → Alive h3 a ∧ T.h0.get? a = none := fun a ha => by
      refine ⟨?_, (B.b3 a ha).2⟩
      by_cases h1 : a ∈ wr
      · exact IT.alive _ _ hst3 a (W.sub a h1)
      by_cases h2 : a = D
      · subst h2; obtain ⟨nn, e⟩ := hpl3; exact ⟨_, e⟩
      by_cases h3 : a = C
      · subst h3
        obtain ⟨_, ⟨o, _, _, e, _⟩, _⟩ := fm3.ns
        exact ⟨o, e⟩
      by_cases h4 : a ∈ zs
      · obtain ⟨z, hy, hya⟩ := X.K.all a h4
        obtain ⟨o, e, _⟩ := fm3.cell z a hy hya
        exact ⟨o, e⟩
      · obtain ⟨o, e⟩ := (B.b3 a ha).1
        exact ⟨o, hkk a o h1 h2 h3 h4 e⟩
    have hrv3 : Rep T.prog T.w (Gb h3 bad') v tv := (hrv.mono up).mono gg3
    have R3 : Rd T (compEnvC scope cs C env) (relS scope sc) (hideN names [x, y] ++ [x]) ((names.length, tv, 0) :: r) bad' bc { s with heap := h3, toks := tk3 } :=
      compRd X.R X.H X.K X.cl1 X.cl2 (nK hkk) B.b2 fm3 (fun i t d z e1 e2 => by
        rcases hide_get e2 with ⟨h1, h2⟩ | h | ⟨h1, h2⟩
        · rw [List.lookup_cons, show (i == names.length) = false by simpa using Nat.ne_of_lt (List.getElem?_eq_some_iff.mp h1).1] at e1
          exact .out e1 h1 h2
        · exact .emp h
        · subst h1 h2
          rw [List.lookup_cons, show (names.length == names.length) = true from beq_self_eq_true _] at e1
          cases e1
          exact .own List.mem_cons_self rfl v (if_pos rfl) hrv3) B.b1 al3
    have hrs3 := hrs.mono gb3
    have hdr : items.drop j = tv :: items.drop (j + 1) := by
      obtain ⟨h1, h2⟩ := List.getElem?_eq_some_iff.mp htv
      rw [← h2]; exact List.drop_eq_getElem_cons h1
    rw [hdr] at q
    have q : pq tv fun t d => d = 0 ∧ iterOk t ∧ ∃ items2, itemsV t = some items2 ∧ items2.length ≤ 100 ∧ compG (fun _ Q => Q true) (pe tv) items2 fun vs => comp2G pq pe (items.drop (j + 1)) fun ws => K (us ++ (vs ++ ws)) := q
    refine wpAny_bind (wp_no (gq tv _ q A _ bad' bc _ hA R3) fun va s4 ⟨x4, t, d, ⟨hd, hio, items2, hi2, hz2, q4⟩, r4⟩ => ?_)
    subst hd
    have R4 := R3.keep x4
    have k4 : Keeps h3 s4.heap := x4.keeps
    refine wpAny_bind (wpAny_standAt (wpAny_bind (wpAny_of_eq (hset _ va) (wpAny_bind (wpAny_holding (wp_no (iter_ok (A := A) (E := No) r4 hi2 hio) fun i2 s5 ⟨I2, fp2, wr2, P2, St2, IT2⟩ => ?_))))))
    have hi2e := IT2.it
    subst hi2e
    have k5 : Keeps s4.heap s5.heap := IT2.ext.keeps
    have W2 := IT2.W A hA.1
    have al4 : ∀ {b}, Alive s4.heap b → b ∉ wr2 := fun ⟨o, e⟩ h => by rw [(IT2.wrok _ h).1] at e; cases e
    have k35 := k4.trans k5
    have alive4 : ∀ a, bad' a → Alive s4.heap a := fun a h => (al3 a h).1.keeps k4
    have gb5 : ∀ a o, Gb s4.heap bad' a o → Gb s5.heap (fun a => bad' a ∨ a ∈ wr2) a o := fun a o ⟨e, nb⟩ => ⟨k5 a o e, fun h => h.elim nb (al4 ⟨o, e⟩)⟩
    have ks4 : Keeps s.heap s4.heap := (nK hkk).trans k4
    have B2 : LBeg T [x, y] scope cs C zs D bad s wr2 fp2 St2 (fun a => bad' a ∨ a ∈ wr2) s5.heap (fun z => if z = x then some v else m' z) ys us := by
      refine ⟨IT2.st, hpl3.at fun o e => k35 _ o e, fm3.keep X.K fun b _ o e => k35 b o e, ((hrs3.mono (Gb.keeps k4)).mono gb5), fun a h => .inl (B.b1 a h), fun a h hal => ?_, fun a h => ?_, .inl B.bD, fun b h => .inl (B.bC b h), fun b h => .inr h, fun b h => ?_, fun b h => ?_, ks4.trans k5⟩
      · rcases h with h | h
        · exact B.b2 a h hal
        · exact absurd h (al4 (hal.keeps ks4))
      · rcases h with h | h
        · exact ⟨(al3 a h).1.keeps k35, (al3 a h).2⟩
        · refine ⟨(IT2.wrok a h).2, ?_⟩
          cases e : T.h0.get? a with
          | none => rfl
          | some o => exact absurd h (al4 ⟨o, ks4 _ _ (X.R.base a o e)⟩)
      · have nb : ¬ bad' b := by
          rcases IT2.fpok b h with h | h
          · exact fun hb => al4 (alive4 b hb) h
          · exact h.1
        exact ⟨fun h => nb (h ▸ B.bD), fun h => nb (B.bC b (.inl h)), fun h => nb (B.bC b (.inr h))⟩
      · cases e : s.heap.get? b with
        | none => rfl
        | some o => exact absurd h (al4 ⟨o, ks4 _ _ e⟩)
    have q4 : compG (fun _ Q => Q true) (pe tv) items2 fun vs => (fun ws => comp2G pq pe (items.drop (j + 1)) fun zs => K (ws ++ zs)) (us ++ vs) := by
      have : (fun vs => comp2G pq pe (items.drop (j + 1)) fun ws => K (us ++ (vs ++ ws))) = fun vs => (fun ws => comp2G pq pe (items.drop (j + 1)) fun zs => K (ws ++ zs)) (us ++ vs) := by
        funext vs; dsimp only; congr 1; funext ws; rw [List.append_assoc]
      exact this ▸ q4
    have rv5 : Rep T.prog T.w (Gb s5.heap fun a => bad' a ∨ a ∈ wr2) v tv := (hrv3.mono (Gb.keeps k4)).mono gb5
    obtain ⟨h4, t4, e4, _⟩ := id x4
    subst e4
    obtain ⟨h5, t5, e5, _⟩ := id IT2.ext
    subst e5
    have inner := fun tg RR hRR => comp_loop X (turn_in (x := x) elt iter iter2 scope pos px py) (List.mem_cons_of_mem _ List.mem_cons_self) IT2 B2 (tg := tg) gb5 (by lia) (rv := fun u => (names.length + 1, u, 0) :: (names.length, tv, 0) :: r) (pc := fun _ Q => Q true) (pe := pe tv)
      (K := fun ws => comp2G pq pe (items.drop (j + 1)) fun zs => K (ws ++ zs)) (RR := RR) (fun a i t d z e1 e2 => by
        rcases own_in (P := True) trivial hxy e1 e2 with h | h | h | ⟨h1, h2, h4⟩
        · exact .inl h
        · exact .inr (.inl h)
        · exact .inr (.inr (.inl h))
        · subst h1 h2 h4
          exact .inr (.inr (.inr ⟨List.mem_cons_self, hxy, rfl, v, if_pos rfl, rv5⟩))) (fun v QB qb => TstW.nil qb) (fun u QV qv => ge tv u QV qv) q4 hRR
    refine wpAny_bind (wpAny_runOwn (h := none) ?_)
    have fin : ∀ h' tk m'' ys' us', comp2G pq pe (items.drop (j + 1)) (fun zs => K (us' ++ zs)) → FmC scope cs C [x, y] m'' h' → (∀ z, z ≠ y → m'' z = (if z = x then some v else m' z)) → h'.PlainList D (List.toArray ys') → us'.length ≤ us.length + items2.length →
        Reps T.prog T.w (Gb h' fun a => bad' a ∨ a ∈ wr2) ys' us' → (∀ b o, b ∉ wr2 → b ≠ D → b ≠ C → b ∉ zs → h5.get? b = some o → h'.get? b = some o) →
        ∃ m, m < items.length + 1 - j ∧ Comp2I T [x, y] scope cs C zs D s items.length St bad' wr g (fun j us => comp2G pq pe (items.drop j) fun vs => K (us ++ vs)) m { s with heap := h', toks := tk } := by
      intro h' tk m'' ys' us' hK fm' _ pl' hu' rs' hk'
      have up5 : ∀ b, b ≠ D → b ≠ C → b ∉ zs → ∀ o, h3.get? b = some o → h'.get? b = some o := fun b h1 h2 h3 o e => hk' b o (fun h => al4 ⟨o, k4 _ _ e⟩ h) h1 h2 h3 (k35 _ _ e)
      refine ⟨items.length + 1 - (j + 1), by lia, h', tk, m'', ys', us', j + 1, rfl, hjl, rfl, W.frame _ _ _ hst3 fun b hb o e => up5 b (B.dis b hb).1 (B.dis b hb).2.1 (B.dis b hb).2.2 o e, pl', by lia, fm', rs'.mono fun a o ⟨e, nb⟩ => ⟨e, fun h => nb (.inl h)⟩, hK,
        fun b o h1 h2 h3 h4 e => up5 b h2 h3 h4 o (hkk b o h1 h2 h3 h4 e)⟩
    have loop2 : ∀ tg, codeAny (model T.prog T.w) A (.compLoop (.ListComp elt (gens2 x y px py iter iter2) scope pos) 1 (.ref I2) (.ref D) (compEnvC scope cs C env)) (fun r s' => r = .ok .next ∧ ∃ m, m < items.length + 1 - j ∧ Comp2I T [x, y] scope cs C zs D s items.length St bad' wr g (fun j us => comp2G pq pe (items.drop j) fun vs => K (us ++ vs)) m s') { s with heap := h5, toks := tg } :=
      fun tg => inner tg _ fun h' tk m'' ys' us' a1 a2 a3 a4 a5 a6 a7 => ⟨rfl, fin h' tk m'' ys' us' a1 a2 a3 a4 a5 a6 a7⟩
    refine codeAny_mono (compStart_in (loop2 _) (W2.self 0 _ _ _ IT2.st (loop2 _))) fun r s' ⟨e, hr⟩ => ?_
    subst e
    exact wpAny_pure ⟨rfl, hr⟩
  · have hj' : j = items.length := by lia
    subst hj'
    refine W.done _ _ _ hst fun h2 tk2 hk2 => wpAny_pure ?_
    rw [List.drop_length] at q
    have q : K (us ++ []) := q
    rw [List.append_nil] at q
    have hpl2 : h2.PlainList D (List.toArray ys) := hpl.at fun o e => hk2 _ o (fun h => (wD D h).1 rfl) e
    exact hRR h2 tk2 m' ys us q (fm.keep X.K fun b hb o e => hk2 b o (fun hw => by
      rcases hb with rfl | hb
      · exact (wD b hw).2.1 rfl
      · exact (wD b hw).2.2 hb) e) hpl2 (by lia) (hrs.mono fun a o ⟨e, nb⟩ => ⟨hk2 a o (fun h => nb (B.bw a h)) e, nb⟩) fun b o h1 h2 h3 h4 e => hk2 b o h1 (hk b o h1 h2 h3 h4 e)
theorem CJ.comp2 {elt iter iter2 : Expr} {px py : Pos} {pos : Pos} {pq : V → VP} {pe : V → V → VP} {K : List V → Prop} (hs : compSc scope sc names [x, y] = true) (hxy : x ≠ y) (hset : ∀ (env : Env) v, foldedSetIterable iter env v = pure v) (hset2 : ∀ (env : Env) v, foldedSetIterable iter2 env v = pure v)
    (h : EVW T k sc names r iter fun t d => d = 0 ∧ iterOk t ∧ ∃ items, itemsV t = some items ∧ items.length ≤ 100 ∧ comp2G pq pe items K)
    (gq : ∀ v QV, pq v QV → EVW T k (relS scope sc) (hideN names [x, y] ++ [x]) ((names.length, v, 0) :: r) iter2 QV)
    (ge : ∀ v u QV, pe v u QV → EVW T k (relS scope sc) (compNs names [x, y]) ((names.length + 1, u, 0) :: (names.length, v, 0) :: r) elt QV) :
    CJ T k sc names r elt [⟨.Name x px, iter, [], 0⟩, ⟨.Name y py, iter2, [], 0⟩] scope pos K := fun A env bad bc s use Q hA R hQ => by
  refine comp_freshG (K := K) (gd := fun items => items.length ≤ 100 ∧ comp2G pq pe items K) hs hset hA R h (fun D C cl cs zs I it sX fp wr P St bad' g tg s₁ items RR ⟨hl, q⟩ x1 X IT B up hRR => ?_) hQ
  refine comp2_loop X hxy hset2 IT B up hl gq ge q fun h' tk m' ys us hK fm pl hz rs hk => ?_
  refine hRR h' tk ys us m' hK fm pl hz rs fun b o e => ?_
  have ne : ∀ c, s₁.heap.get? c = none → b ≠ c := fun c hc h => by rw [← h, e] at hc; cases hc
  exact hk b o (fun h => ne b (B.nw b h) rfl) (ne D (X.new D (.inl rfl))) (ne C (X.new C (.inr (.inl rfl)))) (fun h => ne b (X.new b (.inr (.inr h))) rfl) (B.k0 b o e)
end
end Mine
end

-- part M8
section
open PySem PySem.Calls PyProof.Rows
set_option linter.unusedVariables false
namespace Mine

section
variable {T : GT} {k : Nat} {sc : Scope} {names : List Str} {r : Rv} {F : Fenv} {Q : V → Nat → Prop} {QB : Bool → Prop}

theorem backTo_plain {pos : Pos} {env : Env} : ∀ {vs : List Expr} {es : List E}, All2 (Good T k sc names F) vs es → (backTo pos (starEach vs env)).any (·.1) = false
  | _, _, .nil => rfl
  | _, _, .cons g gs => by
    rw [g.ns]
    have := backTo_plain (pos := pos) (env := env) gs
    simpa [backTo] using this

theorem callWith_flat {M : Model} {A : Around} {E : Value → Shared → Prop} {s : Shared} {b : Bi} {pos : Pos} {x : Sem Value} {rest : List (Bool × Sem Value)} {Q : Value → Shared → Prop} (hp : ((false, x) :: rest).any (·.1) = false)
    (h : wpAny M A (spliced ((false, x) :: rest)) (fun vs s₁ => wpAny M A (call b.val vs) Q E s₁) E s) : wpAny M A (callWith pos b.val [] ((false, x) :: rest) []) Q E s := by
  cases b <;> first
    | exact Calls.callWith_builtin hp (Calls.evalArgs_plain h)
    | exact PyProof.Rows.callWith_type hp (Calls.evalArgs_plain h)

theorem EVW.bi {x : Str} {np p : Pos} {as : List Expr} {es : List E} {b : Bi} (FO : FOk T k F) (hb : b ∈ F.bis) (hx : (x == ("__debug__" : Str)) = false) (hg : sc.names.lookup x = some .globalImplicit) (hn : b.name = x)
    (g : All2 (Good T k sc names F) as es) (h0 : es ≠ []) (q : sems F r (toEs es) fun as => biW b as Q) : EVW T k sc names r (.Call (.Name x np) as [] p) Q := fun A env bad bc s hA R => by
  obtain ⟨h1, h2⟩ := FO.bis b hb
  refine Call_ (R.builtin hg (hn ▸ h1) (hn ▸ h2) hx ?_)
  have hplain := backTo_plain (pos := p) (env := env) g
  have sp := sp_ok (pos := p) g hA R q
  cases g with
  | nil => exact absurd rfl h0
  | cons g gs =>
    rw [g.ns] at sp hplain ⊢
    exact callWith_flat hplain (wp_no sp fun us s1 ⟨x1, as, q1, rs⟩ => wp_no (bi_ok hA.1 (fun a h => ((R.keep x1).badok a h).1) rs q1) fun v s2 h => h.trans x1)

theorem EVW.call {x : Str} {np p : Pos} {as : List Expr} {es : List E} {i : Nat} {y : Str} {sp : Spec} (FO : FOk T k F) (hi : F.fns[i]? = some (y, sp)) (hy : y = x) (hx : (x == ("__debug__" : Str)) = false)
    (hg : sc.names.lookup x = some .globalImplicit)
    (g : All2 (Good T k sc names F) as es) (h0 : es ≠ []) (q : sems F r (toEs es) fun as => allZ as ∧ specAt F i (as.map (·.1)) fun t => Q t 0) : EVW T k sc names r (.Call (.Name x np) as [] p) Q := fun A env bad bc s hA R => by
  subst hy
  obtain ⟨a, o, fd, h1, h2, h3, h4⟩ := FO.fns i y sp hi
  refine Call_ (R.global hg h1 hx ?_)
  have spl := sp_ok (pos := p) g hA R q
  cases g with
  | nil => exact absurd rfl h0
  | cons g gs =>
    refine callWith_def h3 (wp_no spl fun us s1 ⟨x1, as, ⟨q0, q1⟩, rs⟩ => ?_) (g.ns _ _)
    have R1 := R.keep x1
    refine ⟨R1.base _ _ h2, ?_⟩
    have q1 : sp (as.map (·.1)) fun t => Q t 0 := by
      unfold specAt at q1; rw [hi] at q1; exact q1
    exact wp_no (h4 A s1 bad us _ _ hA R1.base R1.badok (allZ_reps rs q0) q1) fun v s2 ⟨x2, t, q2, r2⟩ => .mk (x1.trans x2) q2 r2

theorem EVW.me0 {o : Expr} {m : Str} {apos pos : Pos} {x : Me} (hs : BsE o m) (hl : (apos.endLine == pos.line) = true) (hm : x.name = m)
    (h : EVW T k sc names r o (fun t d => me0W x t d Q)) : EVW T k sc names r (.Call (.Attribute o m apos) [] [] pos) Q := fun A env bad bc s hA R =>
  wpAny_Call_method_lateS (hs env) rfl hl (wp_no (h A env bad bc s hA R) fun v s1 ⟨x1, t, d, q, r1⟩ => by
    subst hm
    obtain ⟨Tn, id, h1, h2, h3, h4, h5, h6⟩ := me0_ok (A := A) (E := No) (pos := pos) r1 q
    exact ⟨Tn, id, h1, h2, h3, h4, h5, wp_no h6 fun v s2 h => h.trans x1⟩)

theorem EVW.me1 {o a : Expr} {a' : E} {m : Str} {apos pos : Pos} {x : Me} (hs : BsE o m) (hl : (apos.endLine == pos.line) = true) (hm : x.name = m) (g : Good T k sc names F a a')
    (h : EVW T k sc names r o (fun t d => meOk x t = true ∧ evW F r a' fun y dy => me1W x t d y dy Q)) : EVW T k sc names r (.Call (.Attribute o m apos) [a] [] pos) Q := fun A env bad bc s hA R => by
  have hst : starEach [a] env = [(false, eval a env)] := g.ns _ _
  refine wpAny_Call_method_lateS (hs env) (by rw [hst]; rfl) hl (wp_no (h A env bad bc s hA R) fun v s1 ⟨x1, t, d, ⟨q0, q⟩, r1⟩ => ?_)
  subst hm
  rw [hst]
  obtain ⟨Tn, id, h1, h2, h3, h4, h5, h6⟩ := me1_ok (A := A) (E := No) (pos := pos) (fun a h => ((R.keep x1).badok a h).1) q0 r1 (g.ev r _ q A env bad bc s1 hA (R.keep x1))
  exact ⟨Tn, id, h1, h2, h3, h4, h5, wp_no h6 fun v s2 h => h.trans x1⟩
end

theorem EVW.sub {T : GT} {k : Nat} {sc : Scope} {names : List Str} {r : Rv} {F : Fenv} {Q : V → Nat → Prop} {x y : Str} {np apos pos : Pos} {a b : Expr} {a' b' : E} {i : Nat} {rr : List Nat} {gg : List Nat → List Nat} (FO : FOk T k F) (hi : F.subs[i]? = some (y, rr, gg)) (hy : y = x)
    (hx : (x == ("__debug__" : Str)) = false) (hl : (apos.endLine == pos.line) = true) (hg : sc.names.lookup x = some .globalImplicit)
    (g1 : Good T k sc names F a a') (g2 : Good T k sc names F b b') (q : evW F r a' fun x _ => evW F r b' fun y _ => subW F i x y Q) :
    EVW T k sc names r (.Call (.Attribute (.Name x np) "sub" apos) [a, b] [] pos) Q := fun A env bad bc s hA R => by
  subst hy
  obtain ⟨pa, h1, h2⟩ := FO.subs i y rr gg hi
  have hst : starEach [a, b] env = [(false, eval a env), (false, eval b env)] := by rw [g1.ns, g2.ns]; rfl
  refine wpAny_Call_method_lateS rfl (by rw [hst]; rfl) hl (R.global hg h1 hx ?_)
  rw [hst]
  refine h2 A s pos _ _ _ R.base (wp_no (g1.ev r _ q A env bad bc s hA R) fun va s1 ⟨x1, ta, da, q1, r1⟩ => ?_)
  refine wp_no (g2.ev r _ q1 A env bad bc s1 hA (R.keep x1)) fun vb s2 ⟨x2, y', db, q2, r2⟩ => ?_
  unfold subW at q2
  rw [hi] at q2
  refine str1 r1 (f := fun r' => asStr y' fun y => r' = rr ∧ y.length ≤ 300000 ∧ (gg y).length ≤ 1000000 ∧ Q (.str (gg y)) 0) q2 fun r' u _ q2 => str1 r2 (f := fun y => r' = rr ∧ y.length ≤ 300000 ∧ (gg y).length ≤ 1000000 ∧ Q (.str (gg y)) 0) q2 fun x2' u' _ ⟨er, hz, hz2, q3⟩ => ?_
  exact ⟨u, _, u', er ▸ rfl, rfl, hz, x1.trans x2, fun s' t X => .mk (d := 0) ((x1.trans x2).trans X) q3 (Rep.str _ _ (Nat.le_trans hz2 (by rw [sl_eq]; exact Nat.le_of_ble_eq_true rfl)))⟩

theorem Good.of {T : GT} {k : Nat} {sc : Scope} {names : List Str} {F : Fenv} {e : Expr} {e' : E} (hp : PlT e) (hs : NsE e) (h : ∀ r, sem F r e' = ofV (evW F r e'))
    (ev : ∀ r Q, evW F r e' Q → EVW T k sc names r e Q) : Good T k sc names F e e' :=
  ⟨ev, fun r Q q => TVW.of hp (ev _ _ (by unfold tsW at q; rw [h r] at q; exact q)), hs⟩
theorem findIdx_some {α : Type} {p : α → Bool} {l : List α} {i : Nat} (h : l.findIdx? p = some i) : ∃ a, l[i]? = some a ∧ p a = true := by
  obtain ⟨h1, h2⟩ := List.findIdx?_eq_some_iff_getElem.mp h
  exact ⟨l[i], by rw [List.getElem?_eq_getElem h1], h2.1⟩

section
variable {T : GT} {k : Nat} {sc : Scope} {names : List Str} {F : Fenv}
theorem const_good {c : Const} {kd : Nat} {p : Pos} {e' : E} (h : trConst c = some e') : Good T k sc names F (.Constant c kd p) e' := by
  cases c with
  | none => exact Option.some.inj h ▸ Good.of (fun _ => rfl) (fun _ _ => rfl) (fun _ => rfl) (fun r Q q A env bad bc s hA R => wpAny_pure (.mk (d := 0) (Ext.refl _) q .none))
  | bool b => exact Option.some.inj h ▸ Good.of (fun _ => rfl) (fun _ _ => rfl) (fun _ => rfl) (fun r Q q A env bad bc s hA R => wpAny_pure (.mk (d := 0) (Ext.refl _) q (.bool _)))
  | int i => exact Option.some.inj h ▸ Good.of (fun _ => rfl) (fun _ _ => rfl) (fun _ => rfl) (fun r Q q A env bad bc s hA R => wpAny_Constant_int (Is.int q))
  | str str =>
    have h : (if str.cps.size ≤ 10000 then some (E.lit (.str str.cps.toList)) else none) = some e' := h
    by_cases hz : str.cps.size ≤ 10000
    · rw [if_pos hz] at h
      exact Option.some.inj h ▸ Good.of (fun _ => rfl) (fun _ _ => rfl) (fun _ => rfl) (fun r Q q A env bad bc s hA R => Constant_str (Is.str q (stOf_cps _).symm (by rw [sl_eq]; exact Nat.le_trans hz (Nat.le_of_ble_eq_true rfl))))
    · rw [if_neg hz] at h; exact nos h
  | _ => exact nos h
theorem var_good {x : Str} {p : Pos} {i : Nat} (hd : (x == ("__debug__" : Str)) = false) (hd' : (x == ("__classdict__" : Str)) = false) (hi : names.findIdx? (· == x) = some i) (hk : varKind (sc.names.lookup x) = true) : Good T k sc names F (.Name x p) (.var i) := by
  obtain ⟨y, h1, h2⟩ := findIdx_some hi
  obtain rfl : y = x := eq_of_beq h2
  have ev : ∀ r Q, evW F r (.var i) Q → EVW T k sc names r (.Name y p) Q := fun r Q q => by
    have q : (match r.lookup i with | some (t, d) => Q t d | none => False) := q
    cases hr : r.lookup i with
    | none => rw [hr] at q; exact q.elim
    | some td => rw [hr] at q; exact EVW.var hd hd' h1 hk hr q
  exact ⟨ev, fun r Q q => TVW.of (fun _ => rfl) (ev _ _ q), fun _ _ => rfl⟩
theorem meOf_eq {m : Str} {x : Me} (h : meOf m = some x) : x.name = m := by simpa using List.find?_some h
end
section
variable {F : Fenv} {sc : Scope} {ns : List Str}
/-- what an expression is in the small language -/
noncomputable def TrE (F : Fenv) (sc : Scope) (ns : List Str) (e : Expr) (e' : E) : Prop := ∀ (T : GT) (k : Nat), FOk T k F → Good T k sc ns F e e'
noncomputable def TrEs (F : Fenv) (sc : Scope) (ns : List Str) (es : List Expr) (l : List E) : Prop := ∀ (T : GT) (k : Nat), FOk T k F → All2 (Good T k sc ns F) es l
noncomputable def TrO (F : Fenv) (sc : Scope) (ns : List Str) (x : Option Expr) (x' : E) : Prop := ∀ (T : GT) (k : Nat), FOk T k F → ∀ r Q, evW F r x' Q → ∀ A env bad bc s, AOk k A → Rd T env sc ns r bad bc s → wpAny (model T.prog T.w) A (evalPart x env) (Is T bad bc s Q) No s
noncomputable def TrI (F : Fenv) (sc : Scope) (ns : List Str) (ifs : List Expr) (c : E) : Prop := ∀ (T : GT) (k : Nat), FOk T k F → ∀ r QB, (sem F r c).2 QB → TstW T k sc ns r ifs QB
theorem TrEs.nil : TrEs F sc ns [] [] := fun T k FO => .nil
theorem TrEs.cons {e es a l} (h : TrE F sc ns e a) (hs : TrEs F sc ns es l) : TrEs F sc ns (e :: es) (a :: l) := fun T k FO => .cons (h T k FO) (hs T k FO)
theorem TrO.none : TrO F sc ns none (.lit .none) := fun T k FO r Q q A env bad bc s hA R => wpAny_pure (.mk (Ext.refl _) q .none)
theorem TrO.some {e a} (h : TrE F sc ns e a) : TrO F sc ns (some e) a := fun T k FO r Q q A env bad bc s hA R => (h T k FO).ev r Q q A env bad bc s hA R
theorem TrI.nil : TrI F sc ns [] (.lit (.bool true)) := fun T k FO r QB q => TstW.nil q
theorem TrE.const {c kd p e'} (h : trConst c = .some e') : TrE F sc ns (.Constant c kd p) e' := fun T k FO => const_good h
theorem TrE.var {x p i} (hd : (x == ("__debug__" : Str)) = false) (hd' : (x == ("__classdict__" : Str)) = false) (hi : ns.findIdx? (· == x) = .some i) (hk : varKind (sc.names.lookup x) = true) : TrE F sc ns (.Name x p) (.var i) := fun T k FO => var_good hd hd' hi hk
theorem TrE.con {x p t} (hd : (x == ("__debug__" : Str)) = false) (hg : sc.names.lookup x = .some .globalImplicit) (hc : F.con.lookup x = .some t) : TrE F sc ns (.Name x p) (.lit t) := fun T k FO => Good.of (fun _ => rfl) (fun _ _ => rfl) (fun _ => rfl) fun r Q q => EVW.con FO hd hg hc q
theorem TrE.bin {l op r p a b} (ha : TrE F sc ns l a) (hb : TrE F sc ns r b) : TrE F sc ns (.BinOp l op r p) (.bin op a b) := fun T k FO =>
  Good.of (fun _ => rfl) (fun _ _ => rfl) (fun _ => rfl) fun r Q q => EVW.bin ((ha T k FO).ev _ _ q) fun Q q => (hb T k FO).ev _ _ q
theorem TrE.neg {x p a} (h : TrE F sc ns x a) : TrE F sc ns (.UnaryOp .USub x p) (.neg a) := fun T k FO => Good.of (fun _ => rfl) (fun _ _ => rfl) (fun _ => rfl) fun r Q q => EVW.neg ((h T k FO).ev _ _ q)
theorem TrE.notE {x p a} (h : TrE F sc ns x a) : TrE F sc ns (.UnaryOp .Not x p) (.notE a) := fun T k FO => ⟨fun r Q q => EVW.not ((h T k FO).ev _ _ q), fun r Q q => TVW.not ((h T k FO).tv _ _ q), fun _ _ => rfl⟩
theorem TrE.cmp {l op r p a b} (hm : behindInMarks op r = false) (ha : TrE F sc ns l a) (hb : TrE F sc ns r b) : TrE F sc ns (.Compare l [op] [r] p) (.cmp op a b) := fun T k FO =>
  ⟨fun r Q q => EVW.cmp hm ((ha T k FO).ev _ _ q) fun Q q => (hb T k FO).ev _ _ q, fun r Q q => TVW.cmp hm ((ha T k FO).ev _ _ q) fun Q q => (hb T k FO).ev _ _ q, fun _ _ => rfl⟩
theorem TrE.bop {op vs p es e'} (g : TrEs F sc ns vs es) (h : boolE op es = .some e') : TrE F sc ns (.BoolOp op vs p) e' := fun T k FO =>
  ⟨fun r Q q A env bad bc s hA R => bop_ok (pos := p) (g T k FO) h hA R q, fun r Q q A env bad bc s hA R => bopT_ok (g T k FO) h hA R q, fun _ _ => rfl⟩
theorem TrE.ife {t a b p t' a' b'} (ht : TrE F sc ns t t') (ha : TrE F sc ns a a') (hb : TrE F sc ns b b') : TrE F sc ns (.IfExp t a b p) (.ife t' a' b') := fun T k FO =>
  ⟨fun r Q q => EVW.ife ((ht T k FO).tv _ _ q) (fun Q q => (ha T k FO).ev _ _ q) fun Q q => (hb T k FO).ev _ _ q, fun r Q q => TVW.ife ((ht T k FO).tv _ _ q) (fun Q q => (ha T k FO).tv _ _ q) fun Q q => (hb T k FO).tv _ _ q, fun _ _ => rfl⟩
theorem TrE.sl {v lo hi sp p a l u} (ha : TrE F sc ns v a) (hl : TrO F sc ns lo l) (hu : TrO F sc ns hi u) : TrE F sc ns (.Subscript v (.Slice lo hi none sp) p) (.sl a l u) := fun T k FO =>
  Good.of (fun _ => rfl) (fun _ _ => rfl) (fun _ => rfl) fun r Q q => EVW.sl ((ha T k FO).ev _ _ q) (hl T k FO r) (hu T k FO r)
theorem TrE.idx {v i p a b} (ha : TrE F sc ns v a) (hb : TrE F sc ns i b) : TrE F sc ns (.Subscript v i p) (.idx a b) := fun T k FO => Good.of (fun _ => rfl) (fun _ _ => rfl) (fun _ => rfl) fun r Q q => EVW.idx ((ha T k FO).ev _ _ q) fun Q q => (hb T k FO).ev _ _ q
theorem TrE.rev {v sp up cp kd p a} (ha : TrE F sc ns v a) : TrE F sc ns (.Subscript v (.Slice .none .none (.some (.UnaryOp .USub (.Constant (.int 1) kd cp) up)) sp) p) (.rev a) := fun T k FO =>
  Good.of (fun _ => rfl) (fun _ _ => rfl) (fun _ => rfl) fun r Q q => EVW.rev ((ha T k FO).ev _ _ q)
theorem TrE.list {es p l} (g : TrEs F sc ns es l) : TrE F sc ns (.List es p) (.list (toEs l)) := fun T k FO => Good.of (fun _ => rfl) (fun _ _ => rfl) (fun _ => rfl) fun r Q q => EVW.list (g T k FO) q
theorem TrE.tup {es kk p l} (g : TrEs F sc ns es l) : TrE F sc ns (.Tuple es kk p) (.tup (toEs l)) := fun T k FO => Good.of (fun _ => rfl) (fun _ _ => rfl) (fun _ => rfl) fun r Q q => EVW.tup (g T k FO) q
/-- what a comprehension is in the small language -/
structure TrC (F : Fenv) (sc : Scope) (ns : List Str) (elt : Expr) (gens : List Comprehension) (scope : Scope) (p : Pos) (e' : E) : Prop where
  as : firstAsync gens = false
  sm : ∀ r, sem F r e' = ofV (evW F r e')
  cj : ∀ (T : GT) (k : Nat), FOk T k F → ∀ r Q, evW F r e' Q → CJ T k sc ns r elt gens scope p fun us => Q (.list us) 0
theorem TrC.comp {elt x px iter ifs scope p it c e} (hsc : compSc scope sc ns [x] = true) (hset : FsE iter) (hit : TrE F sc ns iter it) (hc : TrI F (relS scope sc) (compNs ns [x]) ifs c) (he : TrE F (relS scope sc) (compNs ns [x]) elt e) :
    TrC F sc ns elt [⟨.Name x px, iter, ifs, 0⟩] scope p (.comp it ns.length c e) := ⟨rfl, fun _ => rfl, fun T k FO r Q q => CJ.comp hsc hset ((hit T k FO).ev _ _ q) (fun v QB qb => hc T k FO _ _ qb) fun v QV qv => (he T k FO).ev _ _ qv⟩
theorem TrC.comp2 {elt x px y py iter iter2 scope p p' q' e} (hsc : compSc scope sc ns [x, y] = true) (hxy : (x == y) = false) (h1 : FsE iter) (h2 : FsE iter2) (ha : TrE F sc ns iter p') (hb : TrE F (relS scope sc) (hideN ns [x, y] ++ [x]) iter2 q')
    (he : TrE F (relS scope sc) (compNs ns [x, y]) elt e) : TrC F sc ns elt [⟨.Name x px, iter, [], 0⟩, ⟨.Name y py, iter2, [], 0⟩] scope p (.comp2 p' q' ns.length e) := ⟨rfl, fun _ => rfl, fun T k FO r Q q =>
  CJ.comp2 hsc (by simpa using hxy) h1 h2 ((ha T k FO).ev _ _ q) (fun v QV qv => (hb T k FO).ev _ _ qv) fun v u QV qv => (he T k FO).ev _ _ qv⟩
theorem TrE.ofC {elt gens scope p e'} (h : TrC F sc ns elt gens scope p e') : TrE F sc ns (.ListComp elt gens scope p) e' := fun T k FO =>
  Good.of (fun _ => rfl) (fun _ _ => rfl) h.sm fun r Q q => EVW.ofCJ h.as (h.cj T k FO r Q q)
theorem TrE.isI {np a yp p a'} (h1 : biOk F sc ns .isinstance = true) (h2 : biOk F sc ns .int = true) (ha : TrE F sc ns a a') : TrE F sc ns (.Call (.Name ("isinstance" : Str) np) [a, .Name ("int" : Str) yp] [] p) (.isI a') := fun T k FO =>
  Good.of (fun _ => rfl) (fun _ _ => rfl) (fun _ => rfl) fun r Q q => EVW.isI FO h1 h2 rfl rfl (ha T k FO) ((ha T k FO).ev _ _ q)
theorem TrE.isB {np a yp p a'} (h1 : biOk F sc ns .isinstance = true) (h2 : biOk F sc ns .bool = true) (ha : TrE F sc ns a a') : TrE F sc ns (.Call (.Name ("isinstance" : Str) np) [a, .Name ("bool" : Str) yp] [] p) (.isB a') := fun T k FO =>
  Good.of (fun _ => rfl) (fun _ _ => rfl) (fun _ => rfl) fun r Q q => EVW.isB FO h1 h2 rfl rfl (ha T k FO) ((ha T k FO).ev _ _ q)
theorem TrE.callF {x np as p l i} (hd : (x == ("__debug__" : Str)) = false) (hg : sc.names.lookup x = .some .globalImplicit) (hi : F.fns.findIdx? (·.1 == x) = .some i) (g : TrEs F sc ns as l) (h0 : l ≠ []) : TrE F sc ns (.Call (.Name x np) as [] p) (.call i (toEs l)) := fun T k FO => by
  obtain ⟨⟨y, sp⟩, h1, h2⟩ := findIdx_some hi
  exact Good.of (fun _ => rfl) (fun _ _ => rfl) (fun _ => rfl) fun r Q q => EVW.call FO h1 (eq_of_beq h2) hd hg (g T k FO) h0 q
theorem TrE.callB {x np as p l b} (hd : (x == ("__debug__" : Str)) = false) (hg : sc.names.lookup x = .some .globalImplicit) (hb : F.bis.find? (·.name == x) = .some b) (g : TrEs F sc ns as l) (h0 : l ≠ []) : TrE F sc ns (.Call (.Name x np) as [] p) (.bi b (toEs l)) := fun T k FO =>
  Good.of (fun _ => rfl) (fun _ _ => rfl) (fun _ => rfl) fun r Q q => EVW.bi FO (List.mem_of_find?_eq_some hb) hd hg (eq_of_beq (List.find?_some (p := fun b => Bi.name b == x) hb)) (g T k FO) h0 q
theorem TrE.me0 {o m ap p x a} (hs : BsE o m) (hl : (ap.endLine == p.line) = true) (hm : meOf m = .some x) (ha : TrE F sc ns o a) : TrE F sc ns (.Call (.Attribute o m ap) [] [] p) (.me0 x a) := fun T k FO =>
  Good.of (fun _ => rfl) (fun _ _ => rfl) (fun _ => rfl) fun r Q q => EVW.me0 hs hl (meOf_eq hm) ((ha T k FO).ev _ _ q)
theorem TrE.me1 {o m ap p x b a b'} (hs : BsE o m) (hl : (ap.endLine == p.line) = true) (hm : meOf m = .some x) (ha : TrE F sc ns o a) (hb : TrE F sc ns b b') : TrE F sc ns (.Call (.Attribute o m ap) [b] [] p) (.me1 x a b') := fun T k FO =>
  Good.of (fun _ => rfl) (fun _ _ => rfl) (fun _ => rfl) fun r Q q => EVW.me1 hs hl (meOf_eq hm) (hb T k FO) ((ha T k FO).ev _ _ q)
theorem TrE.sub {x np ap p a b a' b' i} (hl : (ap.endLine == p.line) = true) (hd : (x == ("__debug__" : Str)) = false) (hg : sc.names.lookup x = .some .globalImplicit) (hi : F.subs.findIdx? (·.1 == x) = .some i) (ha : TrE F sc ns a a') (hb : TrE F sc ns b b') :
    TrE F sc ns (.Call (.Attribute (.Name x np) ("sub" : Str) ap) [a, b] [] p) (.sub i a' b') := fun T k FO => by
  obtain ⟨⟨y, rr, gg⟩, h1, h2⟩ := findIdx_some hi
  exact Good.of (fun _ => rfl) (fun _ _ => rfl) (fun _ => rfl) fun r Q q => EVW.sub FO h1 (eq_of_beq h2) hd hl hg (ha T k FO) (hb T k FO) q
theorem TrE.me2 {o m ap p x b c a b' c'} (hs : BsE o m) (hl : (ap.endLine == p.line) = true) (hm : meOf m = .some x) (ha : TrE F sc ns o a) (hb : TrE F sc ns b b') (hc : TrE F sc ns c c') : TrE F sc ns (.Call (.Attribute o m ap) [b, c] [] p) (.me2 x a b' c') := fun T k FO =>
  Good.of (fun _ => rfl) (fun _ _ => rfl) (fun _ => rfl) fun r Q q => EVW.me2 hs hl (meOf_eq hm) (hb T k FO) (hc T k FO) ((ha T k FO).ev _ _ q)
end
end Mine
end

-- part M10
section
open PySem PySem.Calls PyProof.Rows
set_option linter.unusedVariables false
set_option genSizeOf false
set_option genSizeOfSpec false
namespace Mine

/-! what a name holds -/
inductive B where
  | val (t : V)
  | own (xs : List V)
  | own2 (xss : List (List V))
  | ownD (ks : List Int) (vs : List V)
noncomputable def B.read : B → V × Nat
  | .val t => (t, 0)
  | .own xs => (.list xs, 1)
  | .own2 xss => (.list (xss.map .list), 2)
  | .ownD _ _ => (.any, 0)
abbrev St := List (Nat × B)
noncomputable def rd (st : St) : Rv := st.map fun p => (p.1, p.2.read)
theorem rd_lookup (st : St) (i : Nat) : (rd st).lookup i = (st.lookup i).map B.read := by
  induction st with
  | nil => rfl
  | cons p st ih =>
    obtain ⟨j, b⟩ := p
    show List.lookup i ((j, b.read) :: rd st) = _
    simp only [List.lookup_cons]
    split <;> simp_all

noncomputable def Sub (st' st : St) : Prop := ∀ i b, st'.lookup i = some b → st.lookup i = some b

structure FC where
  T : GT
  k : Nat
  F : Fenv
  env : Env
  names : List Str
  A : Around
  aok : AOk k A
  FO : FOk T k F
  kind : env.scope.kind = .function
  glo : env.globals = mainGlobals
  blt : env.builtins = builtinsNs
  nodup : names.Nodup
  cellInj : ∀ n n' c, env.cells.lookup n = some c → env.cells.lookup n' = some c → n = n'
  cellLoc : ∀ n, env.cells.lookup n ≠ some env.locals
  cellOk : ∀ nm, env.kindOf nm = some .cell → (env.cells.lookup nm).isSome = true

abbrev Ads := Nat → List Addr
noncomputable def Mut (C : FC) (ad : Ads) (a : Addr) : Prop := a = C.env.locals ∨ (∃ n, C.env.cells.lookup n = some a) ∨ ∃ i, a ∈ ad i
noncomputable def Bad (C : FC) (bad : Addr → Prop) (ad : Ads) (a : Addr) : Prop := bad a ∨ Mut C ad a

noncomputable def RepB (C : FC) (bad : Addr → Prop) (ad : Ads) (h : Heap) (al : List Addr) (v : Value) : B → Prop
  | .val t => Rep C.T.prog C.T.w (Gb h (Bad C bad ad)) v t
  | .own xs => ∃ a vs, v = .ref a ∧ al = [a] ∧ IsL h a vs ∧ Reps C.T.prog C.T.w (Gb h (Bad C bad ad)) vs xs
  | .own2 xss => ∃ a bs, v = .ref a ∧ al = a :: bs ∧ IsL h a (bs.map .ref) ∧ All2 (fun b xs => ∃ vs, IsL h b vs ∧ Reps C.T.prog C.T.w (Gb h (Bad C bad ad)) vs xs) bs xss
  | .ownD ks vs => ∃ a vals, v = .ref a ∧ al = [a] ∧ h.DictOf (PySem.intKind C.T.prog C.T.w) a (ks.zip vals) ∧ (ks.length = vals.length ∧ vals.length ≤ 10000 ∧ (a == sysModules) = false) ∧ Reps C.T.prog C.T.w (Gb h (Bad C bad ad)) vals vs

structure Sim (C : FC) (bad : Addr → Prop) (st : St) (ad : Ads) (s : Shared) : Prop where
  base : Keeps C.T.h0 s.heap
  badok : ∀ a, bad a → Alive s.heap a ∧ C.T.h0.get? a = none
  loc : C.T.h0.get? C.env.locals = none ∧ ¬ bad C.env.locals
  cells : ∀ n c, C.env.cells.lookup n = some c → C.T.h0.get? c = none ∧ ¬ bad c
  owned : ∀ i a, a ∈ ad i → C.T.h0.get? a = none ∧ ¬ bad a ∧ a ≠ C.env.locals ∧ (∀ n, C.env.cells.lookup n ≠ some a) ∧ Alive s.heap a
  disj : ∀ i j, i ≠ j → ∀ a, a ∈ ad i → a ∉ ad j
  nodup : ∀ i, (ad i).Nodup
  vals : Ex2 (fun m cm => Frm C.env s.heap m cm) fun m cm => ∀ i b, st.lookup i = some b → ∃ x v, C.names[i]? = some x ∧ valAt C.env m cm x = some v ∧ RepB C bad ad s.heap (ad i) v b


section
variable {C : FC} {bad : Addr → Prop} {st st' : St} {ad ad' : Ads} {s s' : Shared}

theorem RepB.mono {bad' : Addr → Prop} {h h' : Heap} {al v b} (x : RepB C bad ad h al v b) (g : ∀ a o, Gb h (Bad C bad ad) a o → Gb h' (Bad C bad' ad') a o) (k : ∀ a ∈ al, ∀ o, h.get? a = some o → h'.get? a = some o) : RepB C bad' ad' h' al v b := by
  cases b with
  | val t => exact Rep.mono g x
  | own xs =>
    obtain ⟨a, vs, e, e', i, r⟩ := x
    exact ⟨a, vs, e, e', i.at (k a (by rw [e']; exact List.mem_cons_self)), r.mono g⟩
  | own2 xss =>
    obtain ⟨a, bs, e, e', i, r⟩ := x
    subst e'
    refine ⟨a, bs, e, rfl, i.at (k a List.mem_cons_self), All2.of_get r.length fun j b xs hb hx => ?_⟩
    obtain ⟨b', hb', vs, h1, h2⟩ := r.get hx
    rw [hb] at hb'; cases hb'
    exact ⟨vs, h1.at (k b (List.mem_cons_of_mem _ (List.mem_of_getElem? hb))), h2.mono g⟩
  | ownD ks vs =>
    obtain ⟨a, vals, e, e', ⟨o, es, ep, e1, r⟩, z, h2⟩ := x
    exact ⟨a, vals, e, e', ⟨o, es, ep, k a (by rw [e']; exact List.mem_cons_self) o e1, r⟩, z, h2.mono g⟩

theorem Sim.sub (S : Sim C bad st ad s) (h : Sub st' st) : Sim C bad st' ad s :=
  { S with vals := let ⟨m, cm, F, v⟩ := S.vals; ⟨m, cm, F, fun i b e => v i b (h i b e)⟩ }
theorem Sim.keep (S : Sim C bad st ad s) (x : Ext s s') : Sim C bad st ad s' := by
  have k := x.keeps
  obtain ⟨m, cm, F, v⟩ := S.vals
  exact ⟨S.base.trans k, fun a h => ⟨(S.badok a h).1.keeps k, (S.badok a h).2⟩, S.loc, S.cells, fun i a h => let ⟨h1, h2, h3, h4, h5⟩ := S.owned i a h; ⟨h1, h2, h3, h4, h5.keeps k⟩, S.disj, S.nodup,
    m, cm, F.keeps k, fun i b e => let ⟨x, u, h1, h2, h3⟩ := v i b e; ⟨x, u, h1, h2, h3.mono (Gb.keeps k) fun a _ o e => k _ _ e⟩⟩

theorem Sim.locAlive (S : Sim C bad st ad s) : Alive s.heap C.env.locals := let ⟨m, cm, F, v⟩ := S.vals; let ⟨o, _, _, e, _⟩ := F.ns; ⟨o, e⟩
theorem Sim.cellAlive (S : Sim C bad st ad s) {n c} (h : C.env.cells.lookup n = some c) : Alive s.heap c := let ⟨m, cm, F, v⟩ := S.vals; let ⟨o, e, _⟩ := F.cell n c h; ⟨o, e⟩
theorem Sim.badAll (S : Sim C bad st ad s) : ∀ a, Bad C bad ad a → Alive s.heap a ∧ C.T.h0.get? a = none := by
  rintro a (h | rfl | ⟨n, h⟩ | ⟨i, h⟩)
  · exact S.badok a h
  · exact ⟨S.locAlive, S.loc.1⟩
  · exact ⟨S.cellAlive h, (S.cells n a h).1⟩
  · have := S.owned i a h; exact ⟨this.2.2.2.2, this.1⟩
theorem Sim.rd (S : Sim C bad st ad s) : Rd C.T C.env C.env.scope C.names (rd st) (Bad C bad ad) bad s := by
  obtain ⟨m, cm, F, v⟩ := S.vals
  refine ⟨S.base, C.kind, C.glo, C.blt, rfl, fun x h => C.cellOk x h, S.badAll, fun a h => .inl h, m, cm, F, fun i t d x e hx hk => ?_⟩
  rw [rd_lookup] at e
  cases hb : st.lookup i with
  | none => rw [hb] at e; cases e
  | some b =>
    rw [hb] at e
    obtain ⟨y, u, h1, h2, h3⟩ := v i b hb
    rw [hx] at h1; cases h1
    refine ⟨u, h2, ?_⟩
    cases b with
    | val t => cases e; exact h3
    | own xs =>
      cases e
      obtain ⟨a, vs, rfl, ha, ⟨⟨n, eo⟩, z⟩, r⟩ := h3
      exact ⟨a, _, vs, n, xs, rfl, rfl, ⟨eo, (S.owned i a (by rw [ha]; exact List.mem_cons_self)).2.1⟩, ⟨rfl, rfl⟩, rfl, z, r.all2⟩
    | own2 xss =>
      cases e
      obtain ⟨a, bs, rfl, ha, ⟨⟨n, eo⟩, z⟩, r⟩ := h3
      refine ⟨a, _, bs.map .ref, n, xss.map .list, rfl, rfl, ⟨eo, (S.owned i a (by rw [ha]; exact List.mem_cons_self)).2.1⟩, ⟨rfl, rfl⟩, rfl, z, ?_⟩
      refine All2.of_get (by simp [r.length]) fun j v t hv ht => ?_
      simp only [List.getElem?_map, Option.map_eq_some_iff] at hv ht
      obtain ⟨b, hb, rfl⟩ := hv
      obtain ⟨xs, hx, rfl⟩ := ht
      obtain ⟨b', hb', vs, ⟨⟨n', eo'⟩, z'⟩, r'⟩ := r.get hx
      rw [hb] at hb'; cases hb'
      exact ⟨b, _, vs, n', xs, rfl, rfl, ⟨eo', (S.owned i b (by rw [ha]; exact List.mem_cons_of_mem _ (List.mem_of_getElem? hb))).2.1⟩, ⟨rfl, rfl⟩, rfl, z', r'.all2⟩
    | ownD ks vs => cases e; exact Rep.any

/-! what a statement leaves alone -/
noncomputable def Fram (C : FC) (ad : Ads) (s s' : Shared) : Prop :=
  (∃ h' tk, s' = { s with heap := h', toks := tk }) ∧ ∀ b o, s.heap.get? b = some o → ¬ Mut C ad b → s'.heap.get? b = some o
noncomputable def Grow (s : Shared) (ad ad' : Ads) : Prop := ∀ i a, a ∈ ad' i → (∃ j, a ∈ ad j) ∨ s.heap.get? a = none

theorem Fram.refl : Fram C ad s s := ⟨⟨s.heap, s.toks, rfl⟩, fun _ _ e _ => e⟩
theorem Fram.of_ext (x : Ext s s') : Fram C ad s s' := by
  obtain ⟨h, tk, rfl, k⟩ := x
  exact ⟨⟨h, tk, rfl⟩, fun b o e _ => k b o e⟩
theorem Grow.refl : Grow s ad ad := fun i a h => .inl ⟨i, h⟩
theorem Fram.trans {s₁ s₂ s₃ : Shared} {ad₁ ad₂ : Ads} (x : Fram C ad₁ s₁ s₂) (g : Grow s₁ ad₁ ad₂) (y : Fram C ad₂ s₂ s₃) : Fram C ad₁ s₁ s₃ := by
  obtain ⟨⟨h1, t1, rfl⟩, x⟩ := x
  obtain ⟨⟨h2, t2, rfl⟩, y⟩ := y
  refine ⟨⟨h2, t2, rfl⟩, fun b o e n => y b o (x b o e n) fun hm => n ?_⟩
  rcases hm with h | h | ⟨i, h⟩
  · exact .inl h
  · exact .inr (.inl h)
  · rcases g i b h with q | q
    · exact .inr (.inr q)
    · rw [q] at e; cases e
theorem Grow.trans {s₁ s₂ : Shared} {ad₁ ad₂ ad₃ : Ads} (x : Grow s₁ ad₁ ad₂) (f : Fram C ad₁ s₁ s₂) (A1 : ∀ i a, a ∈ ad₁ i → Alive s₁.heap a) (L : Mut C ad₁ C.env.locals) (y : Grow s₂ ad₂ ad₃)
    (nl : ∀ i a, a ∈ ad₃ i → a ≠ C.env.locals ∧ ∀ n, C.env.cells.lookup n ≠ some a) : Grow s₁ ad₁ ad₃ := by
  intro i a h
  rcases y i a h with ⟨j, q⟩ | q
  · exact x j a q
  · by_cases hm : ∃ j, a ∈ ad₁ j
    · exact .inl hm
    · refine .inr ?_
      cases e : s₁.heap.get? a with
      | none => rfl
      | some o =>
        have : s₂.heap.get? a = some o := f.2 a o e fun hmut => by
          rcases hmut with h1 | ⟨n, h1⟩ | h1
          · exact (nl i a h).1 h1
          · exact (nl i a h).2 n h1
          · exact hm h1
        rw [q] at this; cases this

inductive Out where
  | next (st : St)
  | brk (st : St)
  | cont (st : St)
  | ret (t : V)

inductive After (C : FC) (bad : Addr → Prop) (ad : Ads) (s : Shared) (Q : St → Prop) (s' : Shared) : Prop where
  | mk (st' : St) (ad' : Ads) (q : Q st') (S : Sim C bad st' ad' s') (g : Grow s ad ad')
noncomputable def Post (C : FC) (bad : Addr → Prop) (ad : Ads) (s : Shared) (Q : Out → Prop) (f : Flow) (s' : Shared) : Prop :=
  Fram C ad s s' ∧ match f with
  | .next => After C bad ad s (fun st => Q (.next st)) s'
  | .brk => After C bad ad s (fun st => Q (.brk st)) s'
  | .cont => After C bad ad s (fun st => Q (.cont st)) s'
  | .ret v => ∃ t, Q (.ret t) ∧ Rep C.T.prog C.T.w (Gb s'.heap bad) v t

noncomputable def SX (C : FC) (st : St) (x : Stmt) (Q : Out → Prop) : Prop :=
  ∀ bad ad s, Sim C bad st ad s → wpAny (model C.T.prog C.T.w) C.A (exec x C.env) (Post C bad ad s Q) No s
noncomputable def SW (C : FC) (st : St) (xs : List Stmt) (Q : Out → Prop) : Prop :=
  ∀ bad ad s, Sim C bad st ad s → wpAny (model C.T.prog C.T.w) C.A (execs xs C.env) (Post C bad ad s Q) No s

theorem Post.mono {Q Q' : Out → Prop} {f} (h : Post C bad ad s Q f s') (q : ∀ o, Q o → Q' o) : Post C bad ad s Q' f s' := by
  refine ⟨h.1, ?_⟩
  have h := h.2
  cases f with
  | next => obtain ⟨st, ad, a, b, c⟩ := h; exact ⟨st, ad, q _ a, b, c⟩
  | brk => obtain ⟨st, ad, a, b, c⟩ := h; exact ⟨st, ad, q _ a, b, c⟩
  | cont => obtain ⟨st, ad, a, b, c⟩ := h; exact ⟨st, ad, q _ a, b, c⟩
  | ret v => obtain ⟨t, a, b⟩ := h; exact ⟨t, q _ a, b⟩

/-- a later part of the run, told from an earlier state -/
theorem Post.from {s₁ s₂ : Shared} {ad₁ ad₂ : Ads} {st₁ : St} {Q : Out → Prop} {f} (S₁ : Sim C bad st₁ ad₁ s₁) (x : Fram C ad₁ s₁ s₂) (g : Grow s₁ ad₁ ad₂) (h : Post C bad ad₂ s₂ Q f s') : Post C bad ad₁ s₁ Q f s' := by
  have A1 : ∀ i a, a ∈ ad₁ i → Alive s₁.heap a := fun i a h => (S₁.owned i a h).2.2.2.2
  refine ⟨x.trans g h.1, ?_⟩
  have h2 := h.2
  have nl : ∀ {st' ad'}, Sim C bad st' ad' s' → ∀ i a, a ∈ ad' i → a ≠ C.env.locals ∧ ∀ n, C.env.cells.lookup n ≠ some a := fun S i a h => let ⟨_, _, h3, h4, _⟩ := S.owned i a h; ⟨h3, h4⟩
  cases f with
  | next => obtain ⟨st, ad, q, S, g'⟩ := h2; exact ⟨st, ad, q, S, g.trans x A1 (.inl rfl) g' (nl S)⟩
  | brk => obtain ⟨st, ad, q, S, g'⟩ := h2; exact ⟨st, ad, q, S, g.trans x A1 (.inl rfl) g' (nl S)⟩
  | cont => obtain ⟨st, ad, q, S, g'⟩ := h2; exact ⟨st, ad, q, S, g.trans x A1 (.inl rfl) g' (nl S)⟩
  | ret v => exact h2

theorem SW.nil {Q : Out → Prop} (q : Q (.next st)) : SW C st [] Q := fun bad ad s S => wpAny_execs_nil ⟨Fram.refl, st, ad, q, S, Grow.refl⟩
theorem SW.cons {x xs} {Q : Out → Prop} (h : SX C st x (fun o => match o with | .next st' => SW C st' xs Q | o => Q o)) : SW C st (x :: xs) Q := fun bad ad s S => by
  refine wpAny_execs_cons (wp_no (h bad ad s S) fun f s1 hp => ?_)
  cases f with
  | next =>
    obtain ⟨fr, st1, ad1, q, S1, g⟩ := hp
    exact wp_no (q bad ad1 s1 S1) fun f2 s2 h2 => Post.from S fr g h2
  | brk => exact hp
  | cont => exact hp
  | ret v => exact hp
theorem SW.weak {xs} {Q : Out → Prop} (h : Sub st' st) (w : SW C st' xs Q) : SW C st xs Q := fun bad ad s S => w bad ad s (S.sub h)
theorem SX.mono {x} {Q Q' : Out → Prop} (h : SX C st x Q) (q : ∀ o, Q o → Q' o) : SX C st x Q' := fun bad ad s S => wp_no (h bad ad s S) fun f s1 hp => hp.mono q
theorem SW.mono {xs} {Q Q' : Out → Prop} (h : SW C st xs Q) (q : ∀ o, Q o → Q' o) : SW C st xs Q' := fun bad ad s S => wp_no (h bad ad s S) fun f s1 hp => hp.mono q

/-! storing into a name -/
theorem nodup_idx {α : Type} {l : List α} (h : l.Nodup) {i j : Nat} {x : α} (hi : l[i]? = some x) (hj : l[j]? = some x) : i = j := by
  obtain ⟨h1, e1⟩ := List.getElem?_eq_some_iff.mp hi
  obtain ⟨h2, e2⟩ := List.getElem?_eq_some_iff.mp hj
  rcases Nat.lt_trichotomy i j with q | q | q
  · exact absurd (e1.trans e2.symm) (List.pairwise_iff_getElem.mp h i j h1 h2 q)
  · exact q
  · exact absurd (e2.trans e1.symm) (List.pairwise_iff_getElem.mp h j i h2 h1 q)

noncomputable def setAd (ad : Ads) (i : Nat) (al : List Addr) : Ads := fun j => if j = i then al else ad j

theorem Sim.storeX {s₁ : Shared} {ex : List Addr} (S : Sim C bad st ad s) (x : Ext s s₁) {i : Nat} {nm : Str} (hn : C.names[i]? = some nm) (hk : varKind (C.env.kindOf nm) = true) (hfree : C.env.kindOf nm ≠ some .free)
    (hcell : C.env.kindOf nm = some .cell → (C.env.cells.lookup nm).isSome = true) {v : Value} {b : B} {al : List Addr}
    (hal : ∀ a ∈ al, s.heap.get? a = none ∧ Alive s₁.heap a) (hex : ∀ a ∈ ex, s.heap.get? a = none ∧ Alive s₁.heap a ∧ a ∉ al) (hnd : al.Nodup) (hr : RepB C (fun a => bad a ∨ a ∈ ex) (setAd ad i al) s₁.heap al v b) {E : Value → Shared → Prop} :
    wpAny (model C.T.prog C.T.w) C.A (storeName C.env nm v) (fun _ s₂ => Fram C ad s s₂ ∧ (∀ a ∈ ex, ∀ o, s₁.heap.get? a = some o → s₂.heap.get? a = some o) ∧ After C (fun a => bad a ∨ a ∈ ex) ad s (fun st' => st' = (i, b) :: st) s₂) E s₁ := by
  have k := x.keeps
  obtain ⟨m, cm, F, vals⟩ := S.vals
  have fresh : ∀ a ∈ al, ∀ h, Alive s.heap h → a ≠ h := fun a ha h ⟨o, e⟩ q => by rw [← q, (hal a ha).1] at e; cases e
  have nex : ∀ a, Alive s.heap a → a ∉ ex := fun a ⟨o, e⟩ h => by rw [(hex a h).1] at e; cases e
  have g : Grow s ad (setAd ad i al) := fun j a h => by
    unfold setAd at h; split at h
    · exact .inr (hal a h).1
    · exact .inl ⟨j, h⟩
  have own' : ∀ j a, a ∈ setAd ad i al j → C.T.h0.get? a = none ∧ ¬ (bad a ∨ a ∈ ex) ∧ a ≠ C.env.locals ∧ (∀ n, C.env.cells.lookup n ≠ some a) ∧ Alive s₁.heap a := fun j a h => by
    unfold setAd at h; split at h
    · refine ⟨?_, fun hb => hb.elim (fun hb => fresh a h a (S.badok a hb).1 rfl) fun hb => (hex a hb).2.2 h, fresh a h _ S.locAlive, fun n hc => fresh a h a (S.cellAlive hc) rfl, (hal a h).2⟩
      cases e : C.T.h0.get? a with
      | none => rfl
      | some o => have := S.base a o e; rw [(hal a h).1] at this; cases this
    · obtain ⟨h1, h2, h3, h4, h5⟩ := S.owned j a h; exact ⟨h1, fun q => q.elim h2 (nex a h5), h3, h4, h5.keeps k⟩
  have disj' : ∀ j l, j ≠ l → ∀ a, a ∈ setAd ad i al j → a ∉ setAd ad i al l := fun j l hjl a h1 h2 => by
    unfold setAd at h1 h2
    split at h1 <;> split at h2
    · lia
    · exact fresh a h1 a (S.owned _ _ h2).2.2.2.2 rfl
    · exact fresh a h2 a (S.owned _ _ h1).2.2.2.2 rfl
    · exact S.disj j l hjl a h1 h2
  have nod' : ∀ j, (setAd ad i al j).Nodup := fun j => by
    unfold setAd; split
    · exact hnd
    · exact S.nodup j
  -- the parts that hold whatever cell of memory the name lies in
  have fin : ∀ (h₂ : Heap) (tk : Nat) (q : Addr) (m' cm' : Str → Option Value), Heap.SameBut q s₁.heap h₂ → (q = C.env.locals ∨ ∃ n, C.env.cells.lookup n = some q) → Frm C.env h₂ m' cm' →
      (valAt C.env m' cm' nm = some v) → (∀ y u, y ≠ nm → valAt C.env m cm y = some u → valAt C.env m' cm' y = some u) →
      Fram C ad s { s₁ with heap := h₂, toks := tk } ∧ (∀ a ∈ ex, ∀ o, s₁.heap.get? a = some o → h₂.get? a = some o) ∧ After C (fun a => bad a ∨ a ∈ ex) ad s (fun st' => st' = (i, b) :: st) { s₁ with heap := h₂, toks := tk } := by
    intro h₂ tk q m' cm' sb hq F' hv hothers
    have hqm : Mut C ad q := hq.elim (fun e => .inl e) fun e => .inr (.inl e)
    have notMut : ∀ a, a ∈ setAd ad i al i ∨ (∃ j, a ∈ setAd ad i al j) → a ≠ q := fun a ha => by
      have ⟨j, ha⟩ : ∃ j, a ∈ setAd ad i al j := ha.elim (fun h => ⟨i, h⟩) id
      obtain ⟨_, _, h3, h4, _⟩ := own' j a ha
      rintro rfl
      rcases hq with e | ⟨n, e⟩
      · exact h3 e
      · exact h4 n e
    have gk : ∀ a o, Gb s₁.heap (Bad C (fun a => bad a ∨ a ∈ ex) (setAd ad i al)) a o → Gb h₂ (Bad C (fun a => bad a ∨ a ∈ ex) (setAd ad i al)) a o := fun a o ⟨e, hb⟩ => ⟨(sb.2 a fun e' => hb (e' ▸ .inr (hq.elim (fun e => .inl e) fun e => .inr (.inl e)))).trans e, hb⟩
    have gs : ∀ a o, Gb s.heap (Bad C bad ad) a o → Gb h₂ (Bad C (fun a => bad a ∨ a ∈ ex) (setAd ad i al)) a o := fun a o ⟨e, hb⟩ => by
      refine gk a o ⟨k _ _ e, fun hb' => hb ?_⟩
      rcases hb' with (h | h) | h | h | ⟨j, h⟩
      · exact .inl h
      · exact absurd h (nex a ⟨o, e⟩)
      · exact .inr (.inl h)
      · exact .inr (.inr (.inl h))
      · unfold setAd at h; split at h
        · exact (fresh a h a ⟨o, e⟩ rfl).elim
        · exact .inr (.inr (.inr ⟨j, h⟩))
    have alive₂ : ∀ a, Alive s₁.heap a → a ≠ q → Alive h₂ a := fun a ⟨o, e⟩ n => ⟨o, (sb.2 a n).trans e⟩
    obtain ⟨h₁, t₁, rfl, k₁⟩ := x
    refine ⟨⟨⟨h₂, tk, rfl⟩, fun a o e nm' => (sb.2 a fun e' => nm' (e' ▸ hqm)).trans (k _ _ e)⟩, fun a ha o e => (sb.2 a ?_).trans e, (i, b) :: st, setAd ad i al, rfl, ?_, g⟩
    · rintro rfl
      rcases hq with rfl | ⟨n, hq⟩
      · exact nex _ S.locAlive ha
      · exact nex _ (S.cellAlive hq) ha
    refine ⟨fun a o e => ?_, fun a h => ?_, ⟨S.loc.1, fun h => h.elim S.loc.2 (nex _ S.locAlive)⟩, fun n c hc => ⟨(S.cells n c hc).1, fun h => h.elim (S.cells n c hc).2 (nex _ (S.cellAlive hc))⟩, fun j a h => ?_, disj', nod', m', cm', F', fun j c hj => ?_⟩
    · refine (sb.2 a ?_).trans (k _ _ (S.base _ _ e))
      rintro rfl
      rcases hq with rfl | ⟨n, hq⟩
      · rw [S.loc.1] at e; cases e
      · rw [(S.cells n _ hq).1] at e; cases e
    · rcases h with h | h
      · refine ⟨alive₂ a ((S.badok a h).1.keeps k) ?_, (S.badok a h).2⟩
        rintro rfl
        rcases hq with rfl | ⟨n, hq⟩
        · exact S.loc.2 h
        · exact (S.cells n _ hq).2 h
      · refine ⟨alive₂ a (hex a h).2.1 ?_, ?_⟩
        · rintro rfl
          rcases hq with rfl | ⟨n, hq⟩
          · exact nex _ S.locAlive h
          · exact nex _ (S.cellAlive hq) h
        · cases e : C.T.h0.get? a with
          | none => rfl
          | some o => exact absurd h (nex a ⟨o, S.base a o e⟩)
    · obtain ⟨h1, h2, h3, h4, h5⟩ := own' j a h
      exact ⟨h1, h2, h3, h4, alive₂ a h5 (notMut a (.inr ⟨j, h⟩))⟩
    · rw [List.lookup_cons] at hj
      split at hj
      · rename_i hji
        cases hj
        have hji : j = i := by simpa using hji
        subst hji
        refine ⟨nm, v, hn, hv, ?_⟩
        have : setAd ad j al j = al := by unfold setAd; rw [if_pos rfl]
        rw [this]
        exact hr.mono gk fun a ha o e => (sb.2 a (notMut a (.inl (by rw [this]; exact ha)))).trans e
      · rename_i hji
        have hji : j ≠ i := by simpa using hji
        obtain ⟨y, u, h1, h2, h3⟩ := vals j c hj
        refine ⟨y, u, h1, hothers y u (fun e => hji (nodup_idx C.nodup h1 (e ▸ hn))) h2, ?_⟩
        have : setAd ad i al j = ad j := by unfold setAd; rw [if_neg hji]
        rw [this]
        exact h3.mono gs fun a ha o e => (sb.2 a (notMut a (.inr ⟨j, by rw [this]; exact ha⟩))).trans (k _ _ e)
  have F₁ := F.keeps k
  cases hkn : C.env.kindOf nm with
  | none => rw [hkn] at hk; cases hk
  | some kd =>
    cases kd with
    | «local» =>
      refine wpAny_storeName_local hkn F₁.ns (fun h₂ hns hsb => ?_) (by rw [C.kind]; rfl)
      refine fin h₂ _ C.env.locals _ cm hsb (.inl rfl) ⟨hns, fun n c hc => (F₁.cell n c hc).sameBut hsb fun e => C.cellLoc n (e ▸ hc)⟩ ?_ ?_
      · unfold valAt; rw [hkn]; simp
      · intro y u hy hu
        unfold valAt at hu ⊢
        split <;> simp_all
    | cell =>
      obtain ⟨c, hc⟩ := Option.isSome_iff_exists.mp (hcell hkn)
      refine wpAny_storeName_cell C.kind hkn hc (F₁.cell _ _ hc) fun h₂ hcl hsb => ?_
      refine fin h₂ _ c m (fun y => if y = nm then some v else cm y) hsb (.inr ⟨nm, hc⟩) ⟨F₁.ns.sameBut hsb fun e => C.cellLoc nm (e ▸ hc), fun n d hd => ?_⟩ ?_ ?_
      · by_cases e : d = c
        · subst e
          have := C.cellInj _ _ _ hd hc
          subst this
          simpa using hcl
        · have : n ≠ nm := fun e' => by subst e'; rw [hc] at hd; cases hd; exact e rfl
          simp only [if_neg this]
          exact (F₁.cell n d hd).sameBut hsb e
      · unfold valAt; rw [hkn]; simp [hc]
      · intro y u hy hu
        unfold valAt at hu ⊢
        split <;> simp_all
    | free => exact absurd hkn hfree
    | _ => rw [hkn] at hk; cases hk
theorem Sim.store {s₁ : Shared} (S : Sim C bad st ad s) (x : Ext s s₁) {i : Nat} {nm : Str} (hn : C.names[i]? = some nm) (hk : varKind (C.env.kindOf nm) = true) (hfree : C.env.kindOf nm ≠ some .free)
    (hcell : C.env.kindOf nm = some .cell → (C.env.cells.lookup nm).isSome = true) {v : Value} {b : B} {al : List Addr}
    (hal : ∀ a ∈ al, s.heap.get? a = none ∧ Alive s₁.heap a) (hnd : al.Nodup) (hr : RepB C bad (setAd ad i al) s₁.heap al v b) {E : Value → Shared → Prop} :
    wpAny (model C.T.prog C.T.w) C.A (storeName C.env nm v) (fun _ s₂ => Fram C ad s s₂ ∧ After C bad ad s (fun st' => st' = (i, b) :: st) s₂) E s₁ := by
  have e : (fun a => bad a ∨ a ∈ ([] : List Addr)) = bad := by funext a; simp
  have := S.storeX x (ex := []) hn hk hfree hcell hal (fun a h => nomatch h) hnd (e.symm ▸ hr) (E := E)
  rw [e] at this
  exact wpAny_mono this (fun _ _ h => ⟨h.1, h.2.2⟩) fun _ _ h => h
end
end Mine
end

-- part M11
section
open PySem PySem.Calls PyProof.Rows
set_option linter.unusedVariables false
set_option genSizeOf false
set_option genSizeOfSpec false
set_option genInjectivity false
namespace Mine

section
variable {C : FC} {bad : Addr → Prop} {st : St} {Q : Out → Prop}

/-- a name that may be stored into -/
structure Slot1 (C : FC) (i : Nat) (nm : Str) : Prop where
  at' : C.names[i]? = some nm
  kind : varKind (C.env.kindOf nm) = true
  free : C.env.kindOf nm ≠ some .free
  cell : C.env.kindOf nm = some .cell → (C.env.cells.lookup nm).isSome = true

theorem After.of {ad s s'} {st1 : St} {q : St → Prop} (h : After C bad ad s (fun st' => st' = st1) s') (hq : q st1) : After C bad ad s q s' := by
  obtain ⟨st', ad', rfl, S, g⟩ := h; exact ⟨_, ad', hq, S, g⟩

abbrev EVC (C : FC) (st : St) (e : Expr) (Q : V → Nat → Prop) : Prop := EVW C.T C.k C.env.scope C.names (rd st) e Q
abbrev TVC (C : FC) (st : St) (e : Expr) (Q : Bool → Prop) : Prop := TVW C.T C.k C.env.scope C.names (rd st) e Q

theorem EVC.run {e : Expr} {QV : V → Nat → Prop} (h : EVC C st e QV) {ad s} (S : Sim C bad st ad s) : wpAny (model C.T.prog C.T.w) C.A (eval e C.env) (Is C.T (Bad C bad ad) bad s QV) No s := h _ _ _ _ _ C.aok S.rd
theorem TVC.run {e : Expr} {QV : Bool → Prop} (h : TVC C st e QV) {ad s} (S : Sim C bad st ad s) : wpAny (model C.T.prog C.T.w) C.A (isTrue e C.env (eval e C.env)) (fun b s' => Ext s s' ∧ QV b) No s := h _ _ _ _ _ C.aok S.rd

/-! value of a comprehension is bound on a road of its own -/
abbrev SwE (sc : Scope) (t e : Expr) : Prop := ∀ env l, env.scope = sc → swapsWith e (some t) l env = pure false
theorem SwE.lc {elt : Expr} {gens : List Comprehension} {s2 sc : Scope} {p : Pos} {x : Str} {xp : Pos} (h : (sc.names.lookup x == some .local) = false) : SwE sc (.Name x xp) (.ListComp elt gens s2 p) := fun env l e => by
  show (pure (env.blockKind == .function && env.scope.names.lookup x == some .local && _ && _) : Sem Bool) = pure false
  rw [e, h, Bool.and_false, Bool.false_and, Bool.false_and]

theorem Sim.storeVal {ad s s₁} (S : Sim C bad st ad s) (x : Ext s s₁) {i nm} (sl : Slot1 C i nm) {v t} (hr : Rep C.T.prog C.T.w (Gb s₁.heap (Bad C bad ad)) v t) {E : Value → Shared → Prop} :
    wpAny (model C.T.prog C.T.w) C.A (storeName C.env nm v) (fun _ s₂ => Fram C ad s s₂ ∧ After C bad ad s (fun st' => st' = (i, .val t) :: st) s₂) E s₁ :=
  S.store x sl.at' sl.kind sl.free sl.cell (al := []) (by simp) List.nodup_nil (b := .val t) (hr.mono fun a o ⟨e, n⟩ => ⟨e, fun hb => n (by
    rcases hb with h | h | h | ⟨j, h⟩
    · exact .inl h
    · exact .inr (.inl h)
    · exact .inr (.inr (.inl h))
    · unfold setAd at h; split at h
      · cases h
      · exact .inr (.inr (.inr ⟨j, h⟩)))⟩)

theorem SX.asg {x : Str} {i : Nat} {p pos : Pos} {e : Expr} (sl : Slot1 C i x) (hc : SwE C.env.scope (.Name x p) e) (h : EVC C st e (fun t d => d = 0 ∧ Q (.next ((i, .val t) :: st)))) : SX C st (.Assign [.Name x p] e pos) Q := fun bad ad s S => by
  refine wpAny_Assign_Name (wp_no (h.run S) fun v s1 ⟨x1, t, d, ⟨hd, q⟩, r⟩ => ?_) (hc _ _ rfl)
  subst hd
  exact wp_no (S.storeVal (E := No) x1 sl r) fun _ s2 ⟨f, a⟩ => ⟨f, a.of q⟩

/-! fresh lists -/
noncomputable def EVF (C : FC) (st : St) (e : Expr) (Q : List V → Prop) : Prop :=
  ∀ bad ad s, Sim C bad st ad s → wpAny (model C.T.prog C.T.w) C.A (eval e C.env) (fun v s' => Ext s s' ∧ ∃ a vs xs, Q xs ∧ v = .ref a ∧ s.heap.get? a = none ∧ IsL s'.heap a vs ∧ Reps C.T.prog C.T.w (Gb s'.heap fun b => Bad C bad ad b ∨ b = a) vs xs) No s

theorem SX.own {x : Str} {i : Nat} {p pos : Pos} {e : Expr} (sl : Slot1 C i x) (hc : SwE C.env.scope (.Name x p) e) (h : EVF C st e (fun xs => Q (.next ((i, .own xs) :: st)))) : SX C st (.Assign [.Name x p] e pos) Q := fun bad ad s S => by
  refine wpAny_Assign_Name (wp_no (h bad ad s S) fun v s1 ⟨x1, a, vs, xs, q, hv, hn, hl, r⟩ => ?_) (hc _ _ rfl)
  refine wp_no (S.store (E := No) x1 sl.at' sl.kind sl.free sl.cell (al := [a]) (b := .own xs) (by intro b hb; rw [List.mem_singleton.mp hb]; exact ⟨hn, hl.alive⟩) (by simp) ⟨a, vs, hv, rfl, hl, r.mono fun b o ⟨e, n⟩ => ⟨e, fun hb => n ?_⟩⟩) fun _ s2 ⟨f, a⟩ => ⟨f, a.of q⟩
  rcases hb with h | h | h | ⟨j, h⟩
  · exact .inl (.inl h)
  · exact .inl (.inr (.inl h))
  · exact .inl (.inr (.inr (.inl h)))
  · unfold setAd at h; split at h
    · exact .inr (List.mem_singleton.mp h)
    · exact .inl (.inr (.inr (.inr ⟨j, h⟩)))

/-! changing what a name owns -/
theorem Sim.upd' {ad s s₁} (S : Sim C bad st ad s) (x : Ext s s₁) {i : Nat} {b₀ b : B} {q : Addr} {h₂ : Heap} {tk : Tok} (hi : st.lookup i = some b₀) (hq : q ∈ ad i) (sb : Heap.SameBut q s₁.heap h₂) (hal : Alive h₂ q)
    (hr : ∀ v, RepB C bad ad s₁.heap (ad i) v b₀ → RepB C bad ad h₂ (ad i) v b) :
    Fram C ad s { s₁ with heap := h₂, toks := tk } ∧ Sim C bad ((i, b) :: st) ad { s₁ with heap := h₂, toks := tk } := by
  have k := x.keeps
  obtain ⟨m, cm, F, vals⟩ := S.vals
  obtain ⟨o1, o2, o3, o4, o5⟩ := S.owned i q hq
  have gk : ∀ a o, Gb s.heap (Bad C bad ad) a o → Gb h₂ (Bad C bad ad) a o := fun a o ⟨e, hb⟩ => ⟨(sb.2 a fun e' => hb (e' ▸ .inr (.inr (.inr ⟨i, hq⟩)))).trans (k _ _ e), hb⟩
  have alive₂ : ∀ a, Alive s.heap a → Alive h₂ a := fun a h => by
    by_cases e : a = q
    · rw [e]; exact hal
    · obtain ⟨o, h⟩ := h; exact ⟨o, (sb.2 a e).trans (k _ _ h)⟩
  obtain ⟨h₁, t₁, rfl, k₁⟩ := x
  refine ⟨⟨⟨h₂, tk, rfl⟩, fun a o e nm => (sb.2 a fun e' => nm (e' ▸ .inr (.inr ⟨i, hq⟩))).trans (k _ _ e)⟩, ?_⟩
  refine ⟨fun a o e => (sb.2 a fun e' => ?_).trans (k _ _ (S.base _ _ e)), fun a h => ⟨alive₂ a (S.badok a h).1, (S.badok a h).2⟩, S.loc, S.cells, fun j a h => ?_, S.disj, S.nodup, m, cm, ?_, fun j c hj => ?_⟩
  · rw [e', o1] at e; cases e
  · obtain ⟨h1, h2, h3, h4, h5⟩ := S.owned j a h; exact ⟨h1, h2, h3, h4, alive₂ a h5⟩
  · exact ⟨(F.ns.keeps k).sameBut sb (Ne.symm o3), fun n c hc => ((F.cell n c hc).keeps k).sameBut sb fun e => o4 n (e ▸ hc)⟩
  · rw [List.lookup_cons] at hj
    split at hj
    · rename_i hji
      cases hj
      have hji : j = i := by simpa using hji
      subst hji
      obtain ⟨y, u, h1, h2, h3⟩ := vals j b₀ hi
      exact ⟨y, u, h1, h2, hr u (h3.mono (Gb.keeps k) fun a _ o e => k _ _ e)⟩
    · rename_i hji
      have hji : j ≠ i := by simpa using hji
      obtain ⟨y, u, h1, h2, h3⟩ := vals j c hj
      exact ⟨y, u, h1, h2, h3.mono gk fun a ha o e => (sb.2 a fun e' => S.disj j i hji a ha (e' ▸ hq)).trans (k _ _ e)⟩

theorem Sim.upd {ad s s₁} (S : Sim C bad st ad s) (x : Ext s s₁) {i : Nat} {b₀ b : B} {q : Addr} {h₂ : Heap} {tk : Tok} (hi : st.lookup i = some b₀) (hq : q ∈ ad i) (sb : Heap.SameBut q s₁.heap h₂) (hal : Alive h₂ q)
    (hr : ∀ v, RepB C bad ad s₁.heap (ad i) v b₀ → RepB C bad ad h₂ (ad i) v b) :
    Fram C ad s { s₁ with heap := h₂, toks := tk } ∧ After C bad ad s (fun st' => st' = (i, b) :: st) { s₁ with heap := h₂, toks := tk } :=
  let ⟨f, S'⟩ := S.upd' x (tk := tk) hi hq sb hal hr
  ⟨f, _, ad, rfl, S', Grow.refl⟩

/-- the list that a name owns -/
theorem Sim.ownAt {ad s} (S : Sim C bad st ad s) {i xs} (hi : st.lookup i = some (.own xs)) : ∃ m cm x a vs, Frm C.env s.heap m cm ∧ C.names[i]? = some x ∧ valAt C.env m cm x = some (.ref a) ∧ ad i = [a] ∧ IsL s.heap a vs ∧ Reps C.T.prog C.T.w (Gb s.heap (Bad C bad ad)) vs xs := by
  obtain ⟨m, cm, F, vals⟩ := S.vals
  obtain ⟨x, v, h1, h2, a, vs, rfl, h3, h4, h5⟩ := vals i _ hi
  exact ⟨m, cm, x, a, vs, F, h1, h2, h3, h4, h5⟩
theorem Sim.loadOwn {ad s s₁} (S : Sim C bad st ad s) (x : Ext s s₁) {i xs nm} {p : Pos} (hi : st.lookup i = some (.own xs)) (hn : C.names[i]? = some nm) (hx : (nm == ("__debug__" : Str)) = false) (hx' : (nm == ("__classdict__" : Str)) = false)
    {E : Value → Shared → Prop} {QQ : Value → Shared → Prop} (h : ∀ a vs, ad i = [a] → IsL s₁.heap a vs → Reps C.T.prog C.T.w (Gb s₁.heap (Bad C bad ad)) vs xs → QQ (.ref a) s₁) :
    wpAny (model C.T.prog C.T.w) C.A (eval (.Name nm p) C.env) QQ E s₁ := by
  have S₁ := S.keep x
  obtain ⟨m, cm, y, a, vs, F, h1, h2, h3, h4, h5⟩ := S₁.ownAt hi
  rw [hn] at h1; cases h1
  exact wpAny_Name (wpAny_loadName_env S₁.rd F h2 hx' (h a vs h3 h4 h5)) hx

theorem plain_set {h : Heap} {a : Addr} {vs : List Value} {n : Nat} (k : Nat) (v : Value) (ho : h.get? a = some { cls := .type "list", data := .seq vs.toArray n }) :
    (h.update a (Obj.mapSeq (·.setIfInBounds k v))).PlainList a (vs.set k v).toArray := by
  refine ⟨n, (Heap.get?_update_self _ ho (by simp [Obj.mapSeq, Obj.isFreed])).trans ?_⟩
  simp [Obj.mapSeq]

theorem SX.sto {x : Str} {i : Nat} {xp sp pos : Pos} {ie e : Expr} {ie' : E} {xs : List V} (hn : C.names[i]? = some x) (hx : (x == ("__debug__" : Str)) = false) (hx' : (x == ("__classdict__" : Str)) = false) (hc : SwE C.env.scope (.Subscript (.Name x xp) ie sp) e)
    (hi : st.lookup i = some (.own xs)) (gi : ∀ Q, evW C.F (rd st) ie' Q → EVC C st ie Q)
    (h : EVC C st e (fun t d => d = 0 ∧ evW C.F (rd st) ie' fun u _ => match u with | .int j => 0 ≤ j ∧ j < xs.length ∧ Q (.next ((i, .own (xs.set j.toNat t)) :: st)) | _ => False)) :
    SX C st (.Assign [.Subscript (.Name x xp) ie sp] e pos) Q := fun bad ad s S => by
  refine wpAny_Assign_Subscript (wp_no (h.run S) fun v s1 ⟨x1, t, d, ⟨hd, q⟩, r⟩ => ?_) (hc _ _ rfl)
  subst hd
  refine S.loadOwn x1 hi hn hx hx' fun a vs ha hl hrs => ?_
  refine wp_no ((gi _ q).run (S.keep x1)) fun w s2 ⟨x2, u, d, q2, r2⟩ => ?_
  cases u with
  | int j =>
    obtain ⟨tk, rfl⟩ := r2.int_inv
    obtain ⟨h0, h1, q2⟩ := q2
    have k2 := x2.keeps
    have hl2 := hl.keeps k2
    have hz := hl.2
    rw [sl_eq] at hz
    have hlen := hrs.length
    obtain ⟨nn, ho⟩ := hl2.1
    refine PySem.W.ki_setAt ho h0 (by omega) (by simp; omega) ?_
    have sb := Heap.SameBut.update s2.heap a (Obj.mapSeq (·.setIfInBounds j.toNat v))
    have hl' := plain_set j.toNat v ho
    generalize s2.heap.update a (Obj.mapSeq (·.setIfInBounds j.toNat v)) = h' at sb hl'
    have := S.upd (x1.trans x2) (b := .own (xs.set j.toNat t)) (tk := s2.toks) hi (by rw [ha]; exact List.mem_cons_self) sb (IsL.alive ⟨hl', by simpa using hl.2⟩) fun v' hv' => by
      obtain ⟨a', vs', rfl, ha', hl3, hr3⟩ := hv'
      rw [ha] at ha'; cases ha'
      have hbad : Bad C bad ad a := .inr (.inr (.inr ⟨i, by rw [ha]; exact List.mem_cons_self⟩))
      have gk : ∀ b o, Gb s2.heap (Bad C bad ad) b o → Gb h' (Bad C bad ad) b o := fun b o ⟨e, n⟩ => ⟨(sb.2 b fun e' => n (e' ▸ hbad)).trans e, n⟩
      refine ⟨a, vs.set j.toNat v, rfl, ha, ⟨hl', by simpa using hl.2⟩, ?_⟩
      exact ((hrs.mono (Gb.keeps k2)).mono gk).set _ ((Rep.mono (Gb.keeps k2) r).mono gk)
    exact ⟨this.1, this.2.of q2⟩
  | _ => exact q2.elim

theorem SX.ret {e : Expr} {pos : Pos} (h : EVC C st e (fun t d => Q (.ret t))) : SX C st (.Return (some e) pos) Q := fun bad ad s S => by
  refine wpAny_Return_some (wp_no (h.run S) fun v s1 ⟨x1, t, d, q, r⟩ => ⟨Fram.of_ext x1, t, q, r.rep (fun a o ⟨e, n⟩ => ⟨e, fun hb => n (.inl hb)⟩) fun a o g => g⟩)

theorem SX.ifs {t : Expr} {a b : List Stmt} {pos : Pos} (h : TVC C st t (fun c => if c = true then SW C st a Q else SW C st b Q)) : SX C st (.If t a b pos) Q := fun bad ad s S => by
  refine wpAny_If (wp_no (h.run S) fun c s1 ⟨x1, q⟩ => ?_)
  cases c with
  | true =>
    simp only [if_true] at q ⊢
    exact wp_no (q bad ad s1 (S.keep x1)) fun f s2 h2 => Post.from S (Fram.of_ext x1) Grow.refl h2
  | false =>
    simp only [Bool.false_eq_true, if_false] at q ⊢
    exact wp_no (q bad ad s1 (S.keep x1)) fun f s2 h2 => Post.from S (Fram.of_ext x1) Grow.refl h2

noncomputable def loopOut (I : St → Prop) (Q : Out → Prop) : Out → Prop
  | .next st' => ∃ st3, Sub st3 st' ∧ I st3
  | .cont st' => ∃ st3, Sub st3 st' ∧ I st3
  | .brk st' => Q (.next st')
  | .ret t => Q (.ret t)

inductive WhlI (C : FC) (bad : Addr → Prop) (I : Nat → St → Prop) (ad : Ads) (s : Shared) (n : Nat) (s' : Shared) : Prop where
  | mk (st' : St) (ad' : Ads) (i : I n st') (S : Sim C bad st' ad' s') (f : Fram C ad s s') (g : Grow s ad ad')
theorem SX.whl {t : Expr} {body : List Stmt} {pos : Pos} (I : Nat → St → Prop) (h0 : ∃ n st', Sub st' st ∧ I n st')
    (turn : ∀ n st', I n st' → TVC C st' t (fun c => if c = true then SW C st' body (loopOut (fun st3 => ∃ m, m < n ∧ I m st3) Q) else Q (.next st'))) : SX C st (.While t body [] pos) Q := fun bad ad s S => by
  obtain ⟨n0, st0, hs0, hI0⟩ := h0
  have A1 : ∀ i a, a ∈ ad i → Alive s.heap a := fun i a h => (S.owned i a h).2.2.2.2
  refine wpAny_While (codeAny_whileLoop (fun n s' => WhlI C bad I ad s n s') ?_ n0 ⟨st0, ad, hI0, S.sub hs0, Fram.refl, Grow.refl⟩)
  rintro n s1 ⟨st1, ad1, hI, S1, f1, g1⟩
  refine wp_no ((turn n st1 hI).run S1) fun c s2 ⟨x2, q⟩ => ?_
  have S2 := S1.keep x2
  have f2 : Fram C ad s s2 := f1.trans g1 (Fram.of_ext x2)
  have up : ∀ {Q' : Out → Prop} {f s3}, Post C bad ad1 s2 Q' f s3 → Post C bad ad s Q' f s3 := fun h => Post.from S f2 (by
    intro i a h; exact g1 i a h) h
  cases c with
  | true =>
    simp only [if_true] at q ⊢
    refine wp_no (q bad ad1 s2 S2) fun f s3 h3 => ?_
    have h3 := up h3
    cases f with
    | next =>
      obtain ⟨fr, st4, ad4, ⟨st5, hs, m, hm, hI'⟩, S4, g4⟩ := h3
      exact ⟨m, hm, st5, ad4, hI', S4.sub hs, fr, g4⟩
    | cont =>
      obtain ⟨fr, st4, ad4, ⟨st5, hs, m, hm, hI'⟩, S4, g4⟩ := h3
      exact ⟨m, hm, st5, ad4, hI', S4.sub hs, fr, g4⟩
    | brk =>
      obtain ⟨fr, st4, ad4, q4, S4, g4⟩ := h3
      exact ⟨fr, st4, ad4, q4, S4, g4⟩
    | ret v => exact h3
  | false =>
    simp only [Bool.false_eq_true, if_false] at q ⊢
    exact wpAny_execs_nil (up ⟨Fram.refl, st1, ad1, q, S2, Grow.refl⟩)
end
end Mine
end

-- part M12
section
open PySem PySem.Calls PyProof.Rows
set_option linter.unusedVariables false
namespace Mine

section
variable {C : FC} {bad : Addr → Prop} {st : St} {Q : Out → Prop}

theorem Sim.loadVal {ad s s₁} (S : Sim C bad st ad s) (x : Ext s s₁) {i t nm} (hi : st.lookup i = some (.val t)) (hn : C.names[i]? = some nm) (hx' : (nm == ("__classdict__" : Str)) = false)
    {E : Value → Shared → Prop} {QQ : Value → Shared → Prop} (h : ∀ v, Rep C.T.prog C.T.w (Gb s₁.heap (Bad C bad ad)) v t → QQ v s₁) :
    wpAny (model C.T.prog C.T.w) C.A (loadName C.env nm) QQ E s₁ := by
  have S₁ := S.keep x
  obtain ⟨m, cm, F, vals⟩ := S₁.vals
  obtain ⟨y, v, h1, h2, h3⟩ := vals i _ hi
  rw [hn] at h1; cases h1
  exact wpAny_loadName_env S₁.rd F h2 hx' (h v h3)

noncomputable def augOk : Operator → V → Bool
  | .Add, t => t.flat
  | .Sub, _ => true
  | .FloorDiv, _ => true
  | _, _ => false
theorem iop_ok {T : GT} {bad bc : Addr → Prop} {s : Shared} {A : Around} {E : Value → Shared → Prop} {op a da b db va vb} {QV : V → Nat → Prop} (ho : augOk op a = true) (ha : RepD T.prog T.w (Gb s.heap bad) (Gb s.heap bc) da va a)
    (hb : RepD T.prog T.w (Gb s.heap bad) (Gb s.heap bc) db vb b) (h : binW op a da b db QV) : wpAny (model T.prog T.w) A (inplaceOp op va vb) (Is T bad bc s QV) E s := by
  unfold augOk at ho
  split at ho <;> first | cases ho | skip
  · exact iadd_ok ha hb ho h
  · exact isub_ok ha hb h
  · exact ifloordiv_ok ha hb h

theorem SX.aug {x : Str} {i : Nat} {xp pos : Pos} {op : Operator} {e : Expr} {t : V} (sl : Slot1 C i x) (hx' : (x == ("__classdict__" : Str)) = false) (hi : st.lookup i = some (.val t)) (ho : augOk op t = true)
    (h : EVC C st e (fun u du => binW op t 0 u du fun w dw => dw = 0 ∧ Q (.next ((i, .val w) :: st)))) : SX C st (.AugAssign (.Name x xp) op e pos) Q := fun bad ad s S => by
  refine wpAny_AugAssign_Name (S.loadVal (Ext.refl _) hi sl.at' hx' fun v hv => wp_no (h.run S) fun w s1 ⟨x1, u, d, q, r⟩ => ?_)
  have hv : RepD C.T.prog C.T.w (Gb s.heap (Bad C bad ad)) (Gb s.heap bad) 0 v t := hv
  refine wp_no (iop_ok (E := No) ho (RepD.keep hv x1) r q) fun y s2 ⟨x2, ty, dy, ⟨hd, q2⟩, r2⟩ => ?_
  subst hd
  exact wp_no (S.storeVal (E := No) (x1.trans x2) sl r2) fun _ s3 ⟨f, a⟩ => ⟨f, a.of q2⟩

abbrev AuE (ie : Expr) : Prop := ∀ ov iv new, augStore ie ov iv new = (do holding [new, ov, iv] (setItem ov iv new); release [new, ov, iv] []; pure .next)
theorem SX.augS {x : Str} {i : Nat} {xp sp pos : Pos} {op : Operator} {ie e : Expr} {e' : E} {xs : List V} (hn : C.names[i]? = some x) (hx : (x == ("__debug__" : Str)) = false) (hx' : (x == ("__classdict__" : Str)) = false)
    (hsl : AuE ie) (hi : st.lookup i = some (.own xs)) (ge : ∀ Q, evW C.F (rd st) e' Q → EVC C st e Q)
    (h : EVC C st ie (fun u _ => match u with
      | .int j => 0 ≤ j ∧ j < xs.length ∧ augOk op (xs.getD j.toNat .none) = true ∧ evW C.F (rd st) e' fun w dw => binW op (xs.getD j.toNat .none) 0 w dw fun t d => d = 0 ∧ Q (.next ((i, .own (xs.set j.toNat t)) :: st))
      | _ => False)) :
    SX C st (.AugAssign (.Subscript (.Name x xp) ie sp) op e pos) Q := fun bad ad s S => by
  refine wpAny_AugAssign_SubscriptAny (S.loadOwn (Ext.refl _) hi hn hx hx' fun a vs ha hl hrs => wp_no (h.run S) fun iv s1 ⟨x1, u, d, q, r⟩ => ?_) hsl
  cases u with
  | int j =>
    obtain ⟨tk, rfl⟩ := r.int_inv
    obtain ⟨h0, h1, h2, q⟩ := q
    have hz := hl.2
    rw [sl_eq] at hz
    have hlen := hrs.length
    have hj : j.toNat < xs.length := by omega
    obtain ⟨old, hold, hro⟩ := hrs.get (getD_some .none hj)
    have hl1 := hl.keeps x1.keeps
    refine wpAny_getItem_list hl1.1.isList h0 (by omega) (x := old) (by simpa using hold) ?_
    refine wp_no ((ge _ q).run (S.keep x1)) fun wv s2 ⟨x2, w, dw, q2, r2⟩ => ?_
    have hro' : RepD C.T.prog C.T.w (Gb s.heap (Bad C bad ad)) (Gb s.heap bad) 0 old (xs.getD j.toNat .none) := hro
    refine wp_no (iop_ok (E := No) h2 ((RepD.keep hro' x1).keep x2) r2 q2) fun nv s3 ⟨x3, tn, dn, ⟨hd, q3⟩, r3⟩ => ?_
    subst hd
    have hl3 := (hl1.keeps x2.keeps).keeps x3.keeps
    have x13 := (x1.trans x2).trans x3
    have k13 := x13.keeps
    obtain ⟨nn, ho⟩ := hl3.1
    refine PySem.W.ki_setAt ho h0 (by omega) (by simp; omega) ?_
    have sb := Heap.SameBut.update s3.heap a (Obj.mapSeq (·.setIfInBounds j.toNat nv))
    have hl' := plain_set j.toNat nv ho
    generalize s3.heap.update a (Obj.mapSeq (·.setIfInBounds j.toNat nv)) = h' at sb hl'
    have := S.upd x13 (b := .own (xs.set j.toNat tn)) (tk := s3.toks) hi (by rw [ha]; exact List.mem_cons_self) sb (IsL.alive ⟨hl', by simpa using hl.2⟩) fun v' hv' => by
      obtain ⟨a', vs', rfl, ha', hl4, hr4⟩ := hv'
      rw [ha] at ha'; cases ha'
      have hbad : Bad C bad ad a := .inr (.inr (.inr ⟨i, by rw [ha]; exact List.mem_cons_self⟩))
      have gk : ∀ b o, Gb s3.heap (Bad C bad ad) b o → Gb h' (Bad C bad ad) b o := fun b o ⟨e, n⟩ => ⟨(sb.2 b fun e' => n (e' ▸ hbad)).trans e, n⟩
      refine ⟨a, vs.set j.toNat nv, rfl, ha, ⟨hl', by simpa using hl.2⟩, ?_⟩
      exact ((hrs.mono (Gb.keeps k13)).mono gk).set _ (Rep.mono gk r3)
    exact ⟨this.1, this.2.of q3⟩
  | _ => exact q.elim

/-- x = y = e -/
theorem SX.asg2 {x y : Str} {i j : Nat} {p p' pos : Pos} {e : Expr} (sl : Slot1 C i x) (sl' : Slot1 C j y)
    (h : EVC C st e (fun t d => d = 0 ∧ t.flat = true ∧ Q (.next ((j, .val t) :: (i, .val t) :: st)))) : SX C st (.Assign [.Name x p, .Name y p'] e pos) Q := fun bad ad s S => by
  have hw : swappedStores [.Name x p, .Name y p'] e C.env = pure none := by
    unfold swappedStores; rfl
  refine wpAny_Assign_two (wp_no (h.run S) fun v s1 ⟨x1, t, d, ⟨hd, hf, q⟩, r⟩ => ?_) rfl hw
  subst hd
  refine wpAny_assign_Name (wp_no (S.storeVal (E := No) x1 sl r) fun _ s2 ⟨f, st2, ad2, e2, S2, g2⟩ => ?_)
  subst e2
  refine wpAny_assign_Name (wp_no (S2.storeVal (E := No) (Ext.refl _) sl' (Rep.flat r hf)) fun _ s3 ⟨f3, a3⟩ => ?_)
  exact Post.from S f g2 ⟨f3, a3.of (q := fun st => Q (.next st)) q⟩

/-- x, y = y, x -/
theorem swap_names {x y : Str} {p p' p1 p2 tp vp : Pos} {k1 k2 : Nat} {env : Env} (hk : env.scope.kind = .function) (hxy : x ≠ y) (hkx : env.kindOf x = some .local) (hky : env.kindOf y = some .local) (hl : p'.line = p.line)
    (hdx : (x == ("__debug__" : Str)) = false) (hdy : (y == ("__debug__" : Str)) = false) :
    swappedStores [.Tuple [.Name x p, .Name y p'] k1 tp] (.Tuple [.Name y p1, .Name x p2] k2 vp) env = pure (some [x, y]) := by
  have hyx : (y == x) = false := by simpa using fun h => hxy h.symm
  have e1 : ∀ n p, (Expr.Name n p).pos = p := fun _ _ => rfl
  have f1 : ∀ n p, foldedForSure 8 (.Name n p) = false := fun _ _ => rfl
  have c1 : ∀ n p, constantsAlone 8 (.Name n p) = (n == ("__debug__" : Str)) := fun _ _ => rfl
  unfold swappedStores
  simp [Env.blockKind, hk, ScopeKind.isAnnotationScope, e1, hkx, hky, hl, List.filterMap, List.eraseDups, List.eraseDupsBy, List.eraseDupsBy.loop, hyx, f1, c1, hdx, hdy]

/-- x, y = y, x -/
theorem SX.swap {x y : Str} {i j : Nat} {p p' p1 p2 tp vp pos : Pos} {k1 k2 : Nat} {a b : V} (sl : Slot1 C i x) (sl' : Slot1 C j y) (hxy : x ≠ y) (hkx : C.env.kindOf x = some .local) (hky : C.env.kindOf y = some .local) (hl : p'.line = p.line)
    (hdx : (x == ("__debug__" : Str)) = false) (hdy : (y == ("__debug__" : Str)) = false) (hcx : (x == ("__classdict__" : Str)) = false) (hcy : (y == ("__classdict__" : Str)) = false)
    (hi : st.lookup i = some (.val a)) (hj : st.lookup j = some (.val b)) (hfa : a.flat = true) (hfb : b.flat = true)
    (q : Q (.next ((i, .val b) :: (j, .val a) :: st))) : SX C st (.Assign [.Tuple [.Name x p, .Name y p'] k1 tp] (.Tuple [.Name y p1, .Name x p2] k2 vp) pos) Q := fun bad ad s S => by
  have hs : swapsWithSole [.Tuple [.Name x p, .Name y p'] k1 tp] (.Tuple [.Name y p1, .Name x p2] k2 vp) pos.line C.env = pure false := by rfl
  refine Assign_Tuple_swapped (names := [x, y]) ?_ hs (swap_names C.kind hxy hkx hky hl hdx hdy)
  refine wpAny_Tuple ?_
  refine Calls.spliced_cons (wpAny_Name (S.loadVal (Ext.refl _) hj sl'.at' hcy fun vb hb => ?_) hdy)
  refine Calls.spliced_cons (wpAny_Name (S.loadVal (Ext.refl _) hi sl.at' hcx fun va ha => ?_) hdx)
  refine Calls.spliced_nil ⟨by rw [sl_eq]; simp, ?_⟩
  have ht : (s.heap.push { cls := .type "tuple", data := .seq [vb, va].toArray }).IsTuple s.heap.objs.size #[vb, va] := ⟨_, Heap.get?_push_size _ rfl, rfl, 0, rfl⟩
  have x1 : Ext s { s with heap := s.heap.push { cls := .type "tuple", data := .seq [vb, va].toArray } } := Ext.push _ _ _
  refine wpAny_unpackItems_tuple (items := #[vb, va]) C.aok.1 ht fun h2 he => ?_
  have x2 : Ext s { s with heap := h2 } := x1.trans (Ext.of (s := { s with heap := s.heap.push { cls := .type "tuple", data := .seq [vb, va].toArray } }) fun b o e => he b o (Nat.ne_of_lt (Heap.lt_size e)) e)
  show wpAny _ _ (do holding [vb] (bindName C.env y va); assignInOrder [bindName C.env x] [vb]) _ _ _
  refine wpAny_bind (wpAny_holding (wpAny_bindName (wp_no (S.storeVal (E := No) x2 sl' (Rep.flat ha hfa)) fun _ s2 ⟨f, st2, ad2, e2, S2, g2⟩ => ?_)))
  subst e2
  show wpAny _ _ (do holding [] (bindName C.env x vb); assignInOrder [] []) _ _ _
  refine wpAny_bind (wpAny_holding (wpAny_bindName (wp_no (S2.storeVal (E := No) (Ext.refl _) sl (Rep.flat hb hfb)) fun _ s3 ⟨f3, a3⟩ => ?_)))
  refine wpAny_pure ?_
  exact Post.from S f g2 ⟨f3, a3.of (q := fun st => Q (.next st)) q⟩

theorem Sim.more {ad s s₁} {wr : List Addr} (S : Sim C bad st ad s) (x : Ext s s₁) (hw : ∀ b ∈ wr, s.heap.get? b = none ∧ Alive s₁.heap b) : Sim C (fun a => bad a ∨ a ∈ wr) st ad s₁ := by
  have k := x.keeps
  obtain ⟨m, cm, F, vals⟩ := S.vals
  have nw : ∀ a, Alive s.heap a → a ∉ wr := fun a ⟨o, e⟩ h => by rw [(hw a h).1] at e; cases e
  refine ⟨S.base.trans k, fun a h => ?_, ⟨S.loc.1, fun h => h.elim S.loc.2 (nw _ S.locAlive)⟩, fun n c hc => ⟨(S.cells n c hc).1, fun h => h.elim (S.cells n c hc).2 (nw _ (S.cellAlive hc))⟩, fun i a h => ?_, S.disj, S.nodup, m, cm, F.keeps k, fun i b e => ?_⟩
  · rcases h with h | h
    · exact ⟨(S.badok a h).1.keeps k, (S.badok a h).2⟩
    · refine ⟨(hw a h).2, ?_⟩
      cases e : C.T.h0.get? a with
      | none => rfl
      | some o => have := S.base a o e; rw [(hw a h).1] at this; cases this
  · obtain ⟨h1, h2, h3, h4, h5⟩ := S.owned i a h
    exact ⟨h1, fun q => q.elim h2 (nw _ h5), h3, h4, h5.keeps k⟩
  · obtain ⟨y, v, h1, h2, h3⟩ := vals i b e
    refine ⟨y, v, h1, h2, h3.mono (fun a o ⟨e, n⟩ => ⟨k _ _ e, fun q => ?_⟩) fun a _ o e => k _ _ e⟩
    rcases q with (q | q) | q
    · exact n (.inl q)
    · exact nw a ⟨o, e⟩ q
    · exact n (.inr q)

theorem Sim.step {ad s} {bad' : Addr → Prop} {wr : List Addr} {h' : Heap} {tk : Tok} (S : Sim C bad' st ad s) (hb : ∀ a, bad a → bad' a ∧ (a ∈ wr → Alive h' a)) (hwr : ∀ b ∈ wr, bad' b)
    (k : ∀ b o, b ∉ wr → s.heap.get? b = some o → h'.get? b = some o) : Sim C bad st ad { s with heap := h', toks := tk } := by
  obtain ⟨m, cm, F, vals⟩ := S.vals
  have al : ∀ a, Alive s.heap a → a ∉ wr → Alive h' a := fun a ⟨o, e⟩ n => ⟨o, k a o n e⟩
  have lw : C.env.locals ∉ wr := fun h => S.loc.2 (hwr _ h)
  have cw : ∀ n c, C.env.cells.lookup n = some c → c ∉ wr := fun n c hc h => (S.cells n c hc).2 (hwr _ h)
  have ow : ∀ i a, a ∈ ad i → a ∉ wr := fun i a h q => (S.owned i a h).2.1 (hwr _ q)
  refine ⟨fun a o e => ?_, fun a h => ?_, ⟨S.loc.1, fun h => S.loc.2 (hb _ h).1⟩, fun n c hc => ⟨(S.cells n c hc).1, fun h => (S.cells n c hc).2 (hb _ h).1⟩, fun i a h => ?_, S.disj, S.nodup, m, cm, ?_, fun i b e => ?_⟩
  · refine k a o (fun h => ?_) (S.base a o e)
    rw [(S.badok a (hwr a h)).2] at e; cases e
  · obtain ⟨h1, h2⟩ := hb a h
    refine ⟨?_, (S.badok a h1).2⟩
    by_cases hw : a ∈ wr
    · exact h2 hw
    · exact al a (S.badok a h1).1 hw
  · obtain ⟨h1, h2, h3, h4, h5⟩ := S.owned i a h
    exact ⟨h1, fun q => h2 (hb _ q).1, h3, h4, al a h5 (ow i a h)⟩
  · refine ⟨F.ns.at fun o e => k _ o lw e, fun n c hc => ?_⟩
    obtain ⟨o, e, d⟩ := F.cell n c hc
    exact ⟨o, k _ o (cw n c hc) e, d⟩
  · obtain ⟨y, v, h1, h2, h3⟩ := vals i b e
    refine ⟨y, v, h1, h2, h3.mono (fun a o ⟨e, n⟩ => ⟨k _ _ (fun q => n (.inl (hwr _ q))) e, fun q => ?_⟩) fun a ha o e => k _ _ (ow i a ha) e⟩
    rcases q with q | q
    · exact n (.inl (hb _ q).1)
    · exact n (.inr q)

inductive ForI (C : FC) (bad' : Addr → Prop) (len : Nat) (I : Nat → St → Prop) (ad : Ads) (s0 : Shared) (fp : List Addr) (Stt : Nat → Heap → Prop) (n : Nat) (s' : Shared) : Prop where
  | mk (j : Nat) (st' : St) (ad' : Ads) (hn : n = len + 1 - j) (hj : j ≤ len) (i : I j st') (S : Sim C bad' st' ad' s') (f : Fram C ad s0 s') (g : Grow s0 ad ad') (hfp : ∀ b ∈ fp, ¬ Mut C ad' b) (hs : Stt j s'.heap)
theorem SX.for {x : Str} {i : Nat} {xp pos : Pos} {it : Expr} {body : List Stmt} (sl : Slot1 C i x) (hs : ∀ x, foldedSetIterable it C.env x = pure x)
    (h : EVC C st it (fun t d => d = 0 ∧ iterOk t ∧ ∃ items, itemsV t = some items ∧ ∃ I : Nat → St → Prop, (∃ st', Sub st' st ∧ I 0 st') ∧
      (∀ (j : Nat) st' v, items[j]? = some v → I j st' → SW C ((i, .val v) :: st') body (loopOut (I (j + 1)) Q)) ∧ ∀ st', I items.length st' → Q (.next st'))) :
    SX C st (.For (.Name x xp) it body [] pos) Q := fun bad ad s S => by
  refine wpAny_For (wp_no (h.run S) fun v s0 ⟨x0, t, d, ⟨hd, hok, items, hit, I, ⟨st0, hs0, hI0⟩, turn, fin⟩, r⟩ => ?_) hs
  subst hd
  refine wp_no (iter_ok (A := C.A) (E := No) r hit hok) fun itv s1 ⟨Ia, fp, wr, P, Stt, IT⟩ => ?_
  have S0 := S.keep x0
  have hitv := IT.it
  subst hitv
  have A0 : ∀ i a, a ∈ ad i → Alive s0.heap a := fun i a h => (S0.owned i a h).2.2.2.2
  have nw : ∀ a, Alive s0.heap a → a ∉ wr := fun a ⟨o, e⟩ h => by rw [(IT.wrok a h).1] at e; cases e
  have wrMut : ∀ b ∈ wr, ¬ Mut C ad b := fun b hb hm => nw b (S0.badAll b (.inr hm)).1 hb
  have fpMut : ∀ b ∈ fp, ¬ Mut C ad b := fun b hb => (IT.fpok b hb).elim (wrMut b) fun h hm => h.1 (.inr hm)
  have S1 := S0.more IT.ext IT.wrok
  have W := IT.W C.A C.aok.1
  have less : ∀ {st' ad' s'}, Sim C (fun a => bad a ∨ a ∈ wr) st' ad' s' → Sim C bad st' ad' s' := fun {st' ad' s'} S' => by
    have := S'.step (bad := bad) (wr := []) (h' := s'.heap) (tk := s'.toks) (fun a h => ⟨.inl h, fun q => by cases q⟩) (fun b q => by cases q) (fun b o _ e => e)
    exact this
  suffices key : codeAny (model C.T.prog C.T.w) C.A (.forLoop (.Name x xp) (.ref Ia) body [] C.env) (fun r s' => match r with | .ok f => Post C bad ad s0 Q f s' | .error e => False) s1 by
    refine codeAny_mono key fun r s' hr => ?_
    cases r with
    | ok f => exact Post.from S (Fram.of_ext x0) Grow.refl hr
    | error e => exact hr.elim
  refine codeAny_forLoop_any (fun n s' => ForI C (fun a => bad a ∨ a ∈ wr) items.length I ad s0 fp Stt n s') ?_ (items.length + 1)
    ⟨0, st0, ad, rfl, Nat.zero_le _, hI0, S1.sub hs0, Fram.of_ext IT.ext, Grow.refl, fpMut, IT.st⟩
  rintro n s' ⟨j, st', ad', rfl, hj, hI, S', f', g', hfp, hst⟩
  have F2 : ∀ (h2 : Heap) (tk2 : Tok), (∀ b o, b ∉ wr → s'.heap.get? b = some o → h2.get? b = some o) → Fram C ad s0 { s' with heap := h2, toks := tk2 } := fun h2 tk2 k2 => by
    obtain ⟨⟨h1, t1, e1⟩, f'⟩ := f'
    exact ⟨⟨h2, tk2, by rw [e1]⟩, fun b o e nm => k2 b o (nw b ⟨o, e⟩) (f' b o e nm)⟩
  by_cases hlt : j < items.length
  · refine W.item j s' _ _ hlt hst fun v h2 tk2 hP hst2 k2 => ?_
    dsimp only
    refine wpAny_pure ?_
    have S2 : Sim C (fun a => bad a ∨ a ∈ wr) st' ad' { s' with heap := h2, toks := tk2 } := S'.step (wr := wr) (fun a h => ⟨h, fun q => IT.alive _ _ hst2 a (W.sub a q)⟩) (fun b q => .inr q) k2
    obtain ⟨tv, htv, hrv⟩ := IT.item j v hP hlt
    have hrv2 : Rep C.T.prog C.T.w (Gb h2 (Bad C (fun a => bad a ∨ a ∈ wr) ad')) v tv := hrv.mono fun a o ⟨e, nb⟩ => by
      refine ⟨k2 a o (nw a ⟨o, e⟩) (f'.2 a o e fun hm => nb (.inr hm)), fun q => ?_⟩
      rcases q with (q | q) | q | q | ⟨l, q⟩
      · exact nb (.inl q)
      · exact nw a ⟨o, e⟩ q
      · exact nb (.inr (.inl q))
      · exact nb (.inr (.inr (.inl q)))
      · rcases g' l a q with q | q
        · exact nb (.inr (.inr (.inr q)))
        · rw [q] at e; cases e
    refine wpAny_assign_Name (wp_no (S2.storeVal (E := No) (Ext.refl _) sl hrv2) fun _ s3 ⟨f3, st3, ad3, e3, S3, g3⟩ => ?_)
    subst e3
    refine wp_no (turn j st' tv htv hI _ ad3 s3 S3) fun f s4 hp => ?_
    have hp := Post.from S2 f3 g3 hp
    have f04 : Fram C ad s0 s4 := (F2 h2 tk2 k2).trans g' hp.1
    have g04 : ∀ {ad4 st4 bd}, Sim C bd st4 ad4 s4 → Grow { s' with heap := h2, toks := tk2 } ad' ad4 → Grow s0 ad ad4 := fun S4 g4 =>
      g'.trans (F2 h2 tk2 k2) A0 (.inl rfl) g4 fun i a h => let ⟨_, _, h3, h4, _⟩ := S4.owned i a h; ⟨h3, h4⟩
    have back : ∀ {ad4}, Grow { s' with heap := h2, toks := tk2 } ad' ad4 → (∀ b ∈ fp, ¬ Mut C ad4 b) := fun g4 b hb hm => by
      rcases hm with h | h | ⟨l, h⟩
      · exact hfp b hb (.inl h)
      · exact hfp b hb (.inr (.inl h))
      · rcases g4 l b h with q | q
        · exact hfp b hb (.inr (.inr q))
        · obtain ⟨o, e⟩ := IT.alive _ _ hst2 b hb
          rw [q] at e; cases e
    have hst4 : Stt (j + 1) s4.heap := W.frame _ _ _ hst2 fun b hb o e => hp.1.2 b o e (hfp b hb)
    cases f with
    | next =>
      obtain ⟨_, st4, ad4, ⟨st5, hsub, hI5⟩, S4, g4⟩ := hp
      exact ⟨items.length + 1 - (j + 1), by omega, j + 1, st5, ad4, rfl, hlt, hI5, S4.sub hsub, f04, g04 S4 g4, back g4, hst4⟩
    | cont =>
      obtain ⟨_, st4, ad4, ⟨st5, hsub, hI5⟩, S4, g4⟩ := hp
      exact ⟨items.length + 1 - (j + 1), by omega, j + 1, st5, ad4, rfl, hlt, hI5, S4.sub hsub, f04, g04 S4 g4, back g4, hst4⟩
    | brk =>
      obtain ⟨_, st4, ad4, q4, S4, g4⟩ := hp
      exact ⟨f04, st4, ad4, q4, less S4, g04 S4 g4⟩
    | ret v =>
      obtain ⟨_, tr, q4, r4⟩ := hp
      exact ⟨f04, tr, q4, r4.mono fun a o ⟨e, n⟩ => ⟨e, fun q => n (.inl q)⟩⟩
  · have : j = items.length := by omega
    subst this
    refine W.done s' _ _ hst fun h2 tk2 k2 => ?_
    refine wpAny_execs_nil ⟨F2 h2 tk2 k2, st', ad', fin st' hI, ?_, g'⟩
    exact S'.step (wr := wr) (fun a h => ⟨.inl h, fun q => absurd q (nw a (S0.badok a h).1)⟩) (fun b q => .inr q) k2
end
end Mine
end

-- part Y1
section
open PySem PySem.Calls PyProof.Rows
set_option linter.unusedVariables false
namespace Mine

section
variable {C : FC} {bad : Addr → Prop} {st : St} {Q : Out → Prop}

theorem push_plain {h : Heap} {a : Addr} {vs : List Value} (v : Value) (hl : h.PlainList a vs.toArray) : (h.update a (Obj.mapSeq (·.push v))).PlainList a (vs ++ [v]).toArray := by
  obtain ⟨n, ho⟩ := hl
  refine ⟨n + 1, (Heap.get?_update_self _ ho (by simp [Obj.mapSeq, Obj.isFreed])).trans ?_⟩
  simp [Obj.mapSeq]
theorem erase_plain {h : Heap} {a : Addr} {vs : List Value} {k : Nat} (hk : k < vs.length) (hl : h.PlainList a vs.toArray) : (h.update a (Obj.mapSeq fun xs => xs.eraseIdxIfInBounds k)).PlainList a (vs.eraseIdx k).toArray := by
  obtain ⟨n, ho⟩ := hl
  refine ⟨n + 1, (Heap.get?_update_self _ ho (by simp [Obj.mapSeq, Obj.isFreed])).trans ?_⟩
  have := List.length_eraseIdx_of_lt hk
  simp [Obj.mapSeq, Array.eraseIdxIfInBounds, hk]
  lia
theorem Reps.snoc {p w G} {vs ts v t} (h : Reps p w G vs ts) (a : Rep p w G v t) : Reps p w G (vs ++ [v]) (ts ++ [t]) := h.append (.cons a .nil)
theorem snoc_inv {p w G} {vs : List Value} {xs : List V} {x : V} (h : Reps p w G vs (xs ++ [x])) : ∃ vs1 v, vs = vs1 ++ [v] ∧ Reps p w G vs1 xs ∧ Rep p w G v x := by
  induction xs generalizing vs with
  | nil => cases h with | cons a b => cases b; exact ⟨[], _, rfl, .nil, a⟩
  | cons y xs ih => cases h with
    | cons a b =>
      obtain ⟨vs1, v, e, r1, r2⟩ := ih b
      subst e
      exact ⟨_ :: vs1, v, rfl, .cons a r1, r2⟩

/-- the frame of a function is not that of a console -/
theorem not_inter (C : FC) : interactive C.env = false := by
  unfold interactive; rw [C.kind]; rfl

theorem list_append_ok {A : Around} {T : GT} {s : Shared} {a : Addr} {vs : List Value} {e : Sem Value} {pos : Pos} {QQ : Value → Shared → Prop} (hl : IsL s.heap a vs) 
    (h : wpAny (model T.prog T.w) A e (fun v s1 => Keeps s.heap s1.heap ∧ ∀ h2, Heap.SameBut a s1.heap h2 → h2.PlainList a (vs ++ [v]).toArray → QQ .none { s1 with heap := h2 }) No s) :
    MethodOnS T.prog T.w A No "append" (.ref a) pos [(false, e)] QQ s := by
  obtain ⟨⟨n, ho⟩, hz⟩ := hl
  refine ⟨"list", "list.append", PySem.F.plainAttrs_list, PySem.F.slot_list_append, PySem.F.type_list_append, ⟨_, ho, rfl⟩, ?_, ?_⟩
  · rintro _ ⟨⟩; exact ⟨_, ho, rfl⟩
  · refine P.append_list (wp_no h fun v s1 ⟨k, q⟩ => ⟨vs.toArray, n, by simpa using hz, k _ _ ho, ?_⟩)
    exact q _ (Heap.SameBut.update ..) (push_plain v ⟨n, k _ _ ho⟩)
theorem list_pop_last_ok {A : Around} {T : GT} {s : Shared} {a : Addr} {vs : List Value} {y : Value} {pos : Pos} {QQ : Value → Shared → Prop} (hl : IsL s.heap a (vs ++ [y]))
    (h : ∀ h2, Heap.SameBut a s.heap h2 → h2.PlainList a vs.toArray → QQ y { s with heap := h2 }) : MethodOnS T.prog T.w A No "pop" (.ref a) pos [] QQ s := by
  obtain ⟨⟨n, ho⟩, hz⟩ := hl
  refine ⟨"list", "list.pop", PySem.F.plainAttrs_list, PySem.F.slot_list_pop, PySem.F.type_list_pop, ⟨_, ho, rfl⟩, ?_, ?_⟩
  · rintro _ ⟨⟩; exact ⟨_, ho, rfl⟩
  · refine P.pop_list (y := y) (items := (vs ++ [y]).toArray) (n := n) ho (by simp) ?_ (by simpa using hz)
    have hp : (s.heap.update a (Obj.mapSeq fun xs => xs.eraseIdxIfInBounds ((vs ++ [y]).toArray.size - 1))).PlainList a vs.toArray := by
      have := erase_plain (k := (vs ++ [y]).toArray.size - 1) (by simp) (vs := vs ++ [y]) ⟨n, ho⟩
      have e : (vs ++ [y]).eraseIdx ((vs ++ [y]).toArray.size - 1) = vs := by
        simp [List.eraseIdx_append_of_length_le]
      rwa [e] at this
    exact h _ (Heap.SameBut.update ..) hp
/-- x.append(e) -/
theorem SX.app {x : Str} {i : Nat} {xp ap p pos : Pos} {e : Expr} {xs : List V} (hn : C.names[i]? = some x) (hx : (x == ("__debug__" : Str)) = false) (hx' : (x == ("__classdict__" : Str)) = false) (hl : (ap.endLine == p.line) = true) (hst : NsE e)
    (hi : st.lookup i = some (.own xs)) (h : EVC C st e (fun t d => d = 0 ∧ xs.length ≤ 10000 ∧ Q (.next ((i, .own (xs ++ [t])) :: st)))) :
    SX C st (.Expr (.Call (.Attribute (.Name x xp) "append" ap) [e] [] p) pos) Q := fun bad ad s S => by
  have hst' : starEach [e] C.env = [(false, eval e C.env)] := hst _ _
  refine wpAny_Expr ?_ (not_inter C) rfl
  refine wpAny_Call_method_lateS rfl (by rw [hst']; rfl) hl (S.loadOwn (Ext.refl _) hi hn hx hx' fun a vs ha hls hrs => ?_)
  rw [hst']
  refine list_append_ok hls (wp_no (h.run S) fun v s1 ⟨x1, t, d, ⟨hd, hz, q⟩, r⟩ => ⟨x1.keeps, fun h2 sb hl2 => ?_⟩)
  subst hd
  have hlen := hrs.length
  have hz2 : (vs ++ [v]).length ≤ sizeLine := by rw [sl_eq]; simp; lia
  have k1 := x1.keeps
  have := S.upd x1 (b := .own (xs ++ [t])) (tk := s1.toks) hi (by rw [ha]; exact List.mem_cons_self) sb (IsL.alive ⟨hl2, hz2⟩) fun v' hv' => by
    obtain ⟨a', vs', rfl, ha', hl3, hr3⟩ := hv'
    rw [ha] at ha'; cases ha'
    have hbad : Bad C bad ad a := .inr (.inr (.inr ⟨i, by rw [ha]; exact List.mem_cons_self⟩))
    have gk : ∀ b o, Gb s1.heap (Bad C bad ad) b o → Gb h2 (Bad C bad ad) b o := fun b o ⟨e, n⟩ => ⟨(sb.2 b fun e' => n (e' ▸ hbad)).trans e, n⟩
    exact ⟨a, vs ++ [v], rfl, ha, ⟨hl2, hz2⟩, ((hrs.mono (Gb.keeps k1)).mono gk).snoc (Rep.mono gk r)⟩
  exact ⟨this.1, this.2.of q⟩

/-- what a name owns, a list of lists -/
theorem Sim.own2At {ad s} (S : Sim C bad st ad s) {i xss} (hi : st.lookup i = some (.own2 xss)) : ∃ m cm x a bs, Frm C.env s.heap m cm ∧ C.names[i]? = some x ∧ valAt C.env m cm x = some (.ref a) ∧ ad i = a :: bs ∧ IsL s.heap a (bs.map .ref) ∧
    All2 (fun b xs => ∃ vs, IsL s.heap b vs ∧ Reps C.T.prog C.T.w (Gb s.heap (Bad C bad ad)) vs xs) bs xss := by
  obtain ⟨m, cm, F, vals⟩ := S.vals
  obtain ⟨x, v, h1, h2, a, bs, rfl, h3, h4, h5⟩ := vals i _ hi
  exact ⟨m, cm, x, a, bs, F, h1, h2, h3, h4, h5⟩

/-- the list at a place in x -/
theorem Sim.loadIn {ad s} (S : Sim C bad st ad s) {i : Nat} {xss : List (List V)} {x : Str} {xp sp : Pos} {ie : Expr} (hi : st.lookup i = some (.own2 xss)) (hn : C.names[i]? = some x) (hx : (x == ("__debug__" : Str)) = false) (hx' : (x == ("__classdict__" : Str)) = false)
    {QJ : Nat → Prop} (h : EVC C st ie (fun u _ => asInt u fun j => 0 ≤ j ∧ j < xss.length ∧ QJ j.toNat)) {QQ : Value → Shared → Prop}
    (hQ : ∀ s1 j a bs b vs xs, Ext s s1 → QJ j → ad i = a :: bs → bs[j]? = some b → xss[j]? = some xs → IsL s1.heap b vs → Reps C.T.prog C.T.w (Gb s1.heap (Bad C bad ad)) vs xs → QQ (.ref b) s1) :
    wpAny (model C.T.prog C.T.w) C.A (eval (.Subscript (.Name x xp) ie sp) C.env) QQ No s := by
  obtain ⟨m, cm, y, a, bs, F, h1, h2, h3, h4, h5⟩ := S.own2At hi
  rw [hn] at h1; cases h1
  refine Subscript_ (wpAny_Name (wpAny_loadName_env S.rd F h2 hx' ?_) hx)
  refine wp_no (h.run S) fun w s1 ⟨x1, u, d, q, r⟩ => ?_
  obtain ⟨j, rfl, h0, hj, q⟩ := asInt_inv q
  obtain ⟨tk, rfl⟩ := r.int_inv
  obtain ⟨ops, ho⟩ := slice_ops ie (.ref a) (.int j tk)
  have hlen := h5.length
  have hl1 := h4.keeps x1.keeps
  have hz := h4.2
  rw [sl_eq, List.length_map] at hz
  have hjn : j.toNat < xss.length := by lia
  obtain ⟨b, hb, vs, e1, e2⟩ := h5.get (List.getElem?_eq_getElem hjn)
  refine tail_any hl1.1.isList.typeIs PySem.F.slot_list_getitem.lookup ?_ ho
  refine wpAny_getItem_list hl1.1.isList h0 (by lia) (x := .ref b) (by simp [hb]) ?_
  exact hQ s1 j.toNat a bs b vs _ x1 q h3 hb (List.getElem?_eq_getElem hjn) (e1.keeps x1.keeps) (e2.mono (Gb.keeps x1.keeps))

/-- one of the lists that x owns has changed -/
theorem Sim.upd2 {ad s s₁} (S : Sim C bad st ad s) (x : Ext s s₁) {i j : Nat} {xss : List (List V)} {a b : Addr} {bs : List Addr} {ys : List V} {us : List Value} {h₂ : Heap} {tk : Tok} (hi : st.lookup i = some (.own2 xss)) (ha : ad i = a :: bs) (hb : bs[j]? = some b)
    (sb : Heap.SameBut b s₁.heap h₂) (hl : IsL h₂ b us) (hr : Reps C.T.prog C.T.w (Gb h₂ (Bad C bad ad)) us ys) :
    Fram C ad s { s₁ with heap := h₂, toks := tk } ∧ Sim C bad ((i, .own2 (xss.set j ys)) :: st) ad { s₁ with heap := h₂, toks := tk } := by
  have hmem : b ∈ ad i := by rw [ha]; exact List.mem_cons_of_mem _ (List.mem_of_getElem? hb)
  have hnd := S.nodup i
  rw [ha] at hnd
  refine S.upd' x hi hmem sb hl.alive fun v hv => ?_
  obtain ⟨a', bs', rfl, ha', hl3, hr3⟩ := hv
  rw [ha] at ha'; cases ha'
  have hbad : Bad C bad ad b := .inr (.inr (.inr ⟨i, hmem⟩))
  have gk : ∀ c o, Gb s₁.heap (Bad C bad ad) c o → Gb h₂ (Bad C bad ad) c o := fun c o ⟨e, n⟩ => ⟨(sb.2 c fun e' => n (e' ▸ hbad)).trans e, n⟩
  have hab : a ≠ b := fun e => (List.nodup_cons.mp hnd).1 (e ▸ List.mem_of_getElem? hb)
  refine ⟨a, bs, rfl, ha, hl3.at fun o e => (sb.2 a hab).trans e, All2.of_get (by rw [List.length_set]; exact hr3.length) fun l c xs hc hx => ?_⟩
  by_cases e : l = j
  · subst e
    rw [hb] at hc; cases hc
    have hlt := (List.getElem?_eq_some_iff.mp hx).1
    rw [List.length_set] at hlt
    rw [List.getElem?_set_self hlt] at hx
    cases hx
    exact ⟨us, hl, hr⟩
  · rw [List.getElem?_set_ne (Ne.symm e)] at hx
    obtain ⟨c', hc', vs, e1, e2⟩ := hr3.get hx
    rw [hc] at hc'; cases hc'
    have hcb : c ≠ b := fun h => e (nodup_idx (List.nodup_cons.mp hnd).2 hc (h ▸ hb))
    exact ⟨vs, e1.at fun o e => (sb.2 c hcb).trans e, e2.mono gk⟩

/-- what a name owns may be taken as a value, for good -/
noncomputable def B.frz : B → V
  | .val t => t
  | .own xs => .list xs
  | .own2 xss => .list (xss.map .list)
  | .ownD ks vs => .dI ks vs
theorem bad_less {ad : Ads} {i : Nat} {a : Addr} (h : Bad C bad (setAd ad i []) a) : Bad C bad ad a := by
  rcases h with h | h | h | ⟨j, h⟩
  · exact .inl h
  · exact .inr (.inl h)
  · exact .inr (.inr (.inl h))
  · unfold setAd at h; split at h
    · cases h
    · exact .inr (.inr (.inr ⟨j, h⟩))
theorem Sim.freeze {ad s} (S : Sim C bad st ad s) {i : Nat} {b : B} (hi : st.lookup i = some b) : Sim C bad ((i, .val b.frz) :: st) (setAd ad i []) s ∧ Grow s ad (setAd ad i []) := by
  have sub : ∀ j a, a ∈ setAd ad i [] j → a ∈ ad j ∧ j ≠ i := fun j a h => by
    unfold setAd at h; split at h
    · cases h
    · rename_i hj; exact ⟨h, hj⟩
  have gw : ∀ a o, Gb s.heap (Bad C bad ad) a o → Gb s.heap (Bad C bad (setAd ad i [])) a o := Gb.weak fun a h => bad_less h
  have good : ∀ a ∈ ad i, ∀ o, s.heap.get? a = some o → Gb s.heap (Bad C bad (setAd ad i [])) a o := fun a ha o e => by
    obtain ⟨_, h2, h3, h4, _⟩ := S.owned i a ha
    refine ⟨e, fun h => ?_⟩
    rcases h with h | h | ⟨n, h⟩ | ⟨j, h⟩
    · exact h2 h
    · exact h3 h
    · exact h4 n h
    · obtain ⟨h, hj⟩ := sub j a h
      exact S.disj j i hj a h ha
  refine ⟨?_, fun j a h => .inl ⟨j, (sub j a h).1⟩⟩
  obtain ⟨m, cm, F, vals⟩ := S.vals
  refine ⟨S.base, S.badok, S.loc, S.cells, fun j a h => S.owned j a (sub j a h).1, fun j l hjl a h1 h2 => S.disj j l hjl a (sub j a h1).1 (sub l a h2).1, fun j => by unfold setAd; split; exact List.nodup_nil; exact S.nodup j, m, cm, F, fun j c hj => ?_⟩
  rw [List.lookup_cons] at hj
  cases e : j == i with
  | true =>
    rw [e] at hj
    cases hj
    have hji : j = i := by simpa using e
    subst hji
    obtain ⟨y, u, h1, h2, h3⟩ := vals j b hi
    refine ⟨y, u, h1, h2, ?_⟩
    cases b with
    | val t => exact Rep.mono gw h3
    | own xs =>
      obtain ⟨a, vs, rfl, ha, ⟨⟨n, eo⟩, z⟩, r⟩ := h3
      exact Rep.list (good a (by rw [ha]; exact List.mem_cons_self) _ eo) ⟨rfl, rfl⟩ rfl z (r.mono gw)
    | own2 xss =>
      obtain ⟨a, bs, rfl, ha, ⟨⟨n, eo⟩, z⟩, r⟩ := h3
      refine Rep.list (good a (by rw [ha]; exact List.mem_cons_self) _ eo) ⟨rfl, rfl⟩ rfl z (Reps.of_all2 (All2.of_get (by simp [r.length]) fun l v t hv ht => ?_))
      simp only [List.getElem?_map, Option.map_eq_some_iff] at hv ht
      obtain ⟨b, hb, rfl⟩ := hv
      obtain ⟨xs, hx, rfl⟩ := ht
      obtain ⟨b', hb', vs, ⟨⟨n', eo'⟩, z'⟩, r'⟩ := r.get hx
      rw [hb] at hb'; cases hb'
      exact Rep.list (good b (by rw [ha]; exact List.mem_cons_of_mem _ (List.mem_of_getElem? hb)) _ eo') ⟨rfl, rfl⟩ rfl z' (r'.mono gw)
    | ownD ks vs =>
      obtain ⟨a, vals, rfl, ha, ⟨o, es, ep, eo, hx, r⟩, z, h2⟩ := h3
      exact Rep.dI (good a (by rw [ha]; exact List.mem_cons_self) _ eo) ⟨z.1, by rw [sl_eq]; lia, z.2.2⟩ ⟨hx, es, ep, r⟩ (h2.mono gw)
  | false =>
    rw [e] at hj
    have hji : j ≠ i := by simpa using e
    obtain ⟨y, u, h1, h2, h3⟩ := vals j c hj
    refine ⟨y, u, h1, h2, ?_⟩
    have : setAd ad i [] j = ad j := if_neg hji
    rw [this]
    exact h3.mono gw fun a _ o e => e
theorem SX.frz {i : Nat} {b : B} {x : Stmt} (hi : st.lookup i = some b) (h : SX C ((i, .val b.frz) :: st) x Q) : SX C st x Q := fun bad ad s S => by
  obtain ⟨S', g⟩ := S.freeze hi
  exact wp_no (h bad _ s S') fun f s2 h2 => Post.from S Fram.refl g h2

/-- x = {} -/
theorem SX.newD {x : Str} {i : Nat} {p dp pos : Pos} (sl : Slot1 C i x) (q : Q (.next ((i, .ownD [] []) :: st))) : SX C st (.Assign [.Name x p] (.Dict [] [] dp) pos) Q := fun bad ad s S => by
  refine wpAny_Assign_Name (wpAny_Dict_empty ?_) rfl
  refine wp_no (S.store (E := No) (Ext.push s _ _) sl.at' sl.kind sl.free sl.cell (al := [s.heap.objs.size]) (b := .ownD [] []) (one_new) (by simp) ⟨_, [], rfl, rfl, Heap.DictOf.new _, ⟨rfl, Nat.zero_le _, ?_⟩, .nil⟩) fun _ s2 ⟨f, a⟩ => ⟨f, a.of q⟩
  exact beq_eq_false_iff_ne.mpr (Nat.ne_of_gt (modules_low (C.T.lim.keeps S.base)))

theorem zip_snoc {α β : Type} {as : List α} {bs : List β} (h : as.length = bs.length) (a : α) (b : β) : as.zip bs ++ [(a, b)] = (as ++ [a]).zip (bs ++ [b]) := by
  rw [List.zip_append h]; rfl
/-- x[i] = e, i new to the dict -/
theorem SX.stoD {x : Str} {i : Nat} {xp sp pos : Pos} {ie e : Expr} {ie' : E} {ks : List Int} {vs : List V} (hn : C.names[i]? = some x) (hx : (x == ("__debug__" : Str)) = false) (hx' : (x == ("__classdict__" : Str)) = false) (hc : SwE C.env.scope (.Subscript (.Name x xp) ie sp) e)
    (hi : st.lookup i = some (.ownD ks vs)) (gi : ∀ Q, evW C.F (rd st) ie' Q → EVC C st ie Q)
    (h : EVC C st e (fun t d => d = 0 ∧ evW C.F (rd st) ie' fun u _ => asInt u fun j => j ∉ ks ∧ ks.length ≤ 1000 ∧ Q (.next ((i, .ownD (ks ++ [j]) (vs ++ [t])) :: st)))) :
    SX C st (.Assign [.Subscript (.Name x xp) ie sp] e pos) Q := fun bad ad s S => by
  refine wpAny_Assign_Subscript (wp_no (h.run S) fun v s1 ⟨x1, t, d, ⟨hd, q⟩, r⟩ => ?_) (hc _ _ rfl)
  subst hd
  have S1 := S.keep x1
  obtain ⟨m, cm, F, vals⟩ := S1.vals
  obtain ⟨y, u, h1, h2, a, vals', rfl, ha, hD, hz, hr⟩ := vals i _ hi
  rw [hn] at h1; cases h1
  refine wpAny_Name (wpAny_loadName_env S1.rd F h2 hx' ?_) hx
  refine wp_no ((gi _ q).run S1) fun w s2 ⟨x2, u, d, q2, r2⟩ => ?_
  obtain ⟨j, rfl, hj, hkl, q2⟩ := asInt_inv q2
  obtain ⟨tk, rfl⟩ := r2.int_inv
  have k2 := x2.keeps
  have hD2 : s2.heap.DictOf (PySem.intKind C.T.prog C.T.w) a (ks.zip vals') := let ⟨o, es, ep, eo, r⟩ := hD; ⟨o, es, ep, k2 _ _ eo, r⟩
  have hst : stored (ks.zip vals') j v = (ks ++ [j]).zip (vals' ++ [v]) := by
    unfold stored
    rw [if_neg, zip_snoc hz.1]
    intro h
    obtain ⟨p, hp, e⟩ := List.any_eq_true.mp h
    have e : p.1 = j := by simpa using e
    exact hj (e ▸ (List.of_mem_zip hp).1)
  have hlen : (ks.zip vals').length ≤ sizeLine := by rw [List.length_zip, sl_eq]; lia
  refine wpAny_setItem_pairs (k := j) (isI _ _ _ _) hD2 (fun h' hD' sb => ?_) hlen
  rw [hst] at hD'
  have alive : Alive h' a := let ⟨o, _, _, eo, _⟩ := hD'; ⟨o, eo⟩
  have := S.upd (x1.trans x2) (b := .ownD (ks ++ [j]) (vs ++ [t])) (tk := s2.toks + 1) hi (by rw [ha]; exact List.mem_cons_self) sb alive fun v' hv' => by
    obtain ⟨a', vals2, rfl, ha', _, _, _⟩ := hv'
    rw [ha] at ha'; cases ha'
    have hbad : Bad C bad ad a := .inr (.inr (.inr ⟨i, by rw [ha]; exact List.mem_cons_self⟩))
    have gk : ∀ b o, Gb s2.heap (Bad C bad ad) b o → Gb h' (Bad C bad ad) b o := fun b o ⟨e, n⟩ => ⟨(sb.2 b fun e' => n (e' ▸ hbad)).trans e, n⟩
    refine ⟨a, vals' ++ [v], rfl, ha, hD', ⟨by simp [hz.1], by simp; lia, hz.2.2⟩, ?_⟩
    exact ((hr.mono (Gb.keeps k2)).mono gk).snoc ((Rep.mono (Gb.keeps k2) r).mono gk)
  exact ⟨this.1, this.2.of q2⟩

/-- x[i][j] = e -/
theorem SX.sto2 {x : Str} {i : Nat} {xp sp sp2 pos : Pos} {ie je e : Expr} {ie' je' : E} {xss : List (List V)} (hn : C.names[i]? = some x) (hx : (x == ("__debug__" : Str)) = false) (hx' : (x == ("__classdict__" : Str)) = false) (hc : SwE C.env.scope (.Subscript (.Subscript (.Name x xp) ie sp) je sp2) e)
    (hi : st.lookup i = some (.own2 xss)) (gi : ∀ Q, evW C.F (rd st) ie' Q → EVC C st ie Q) (gj : ∀ Q, evW C.F (rd st) je' Q → EVC C st je Q)
    (h : EVC C st e (fun t d => d = 0 ∧ evW C.F (rd st) ie' fun u _ => asInt u fun a => 0 ≤ a ∧ a < xss.length ∧ evW C.F (rd st) je' fun u _ => asInt u fun b => 0 ≤ b ∧ b < (xss.getD a.toNat []).length ∧
      Q (.next ((i, .own2 (xss.set a.toNat ((xss.getD a.toNat []).set b.toNat t))) :: st)))) :
    SX C st (.Assign [.Subscript (.Subscript (.Name x xp) ie sp) je sp2] e pos) Q := fun bad ad s S => by
  refine wpAny_Assign_Subscript (wp_no (h.run S) fun v s1 ⟨x1, t, d, ⟨hd, q⟩, r⟩ => ?_) (hc _ _ rfl)
  subst hd
  have S1 := S.keep x1
  refine S1.loadIn (QJ := fun j => evW C.F (rd st) je' fun u _ => asInt u fun b => 0 ≤ b ∧ b < (xss.getD j []).length ∧ Q (.next ((i, .own2 (xss.set j ((xss.getD j []).set b.toNat t))) :: st))) hi hn hx hx' (gi _ q) fun s2 j a bs b vs xs x2 q2 ha hb hxs hls hrs => ?_
  have hgd : xss.getD j [] = xs := by rw [List.getD_eq_getElem?_getD, hxs]; rfl
  rw [hgd] at q2
  refine wp_no ((gj _ q2).run (S1.keep x2)) fun w s3 ⟨x3, u, d, q3, r3⟩ => ?_
  obtain ⟨c, rfl, h0, h1, q3⟩ := asInt_inv q3
  obtain ⟨tk, rfl⟩ := r3.int_inv
  have k3 := x3.keeps
  have hl3 := hls.keeps k3
  have hz := hls.2
  rw [sl_eq] at hz
  have hlen := hrs.length
  obtain ⟨nn, ho⟩ := hl3.1
  refine PySem.W.ki_setAt ho h0 (by lia) (by simp; lia) ?_
  have sb := Heap.SameBut.update s3.heap b (Obj.mapSeq (·.setIfInBounds c.toNat v))
  have hl' := plain_set c.toNat v ho
  generalize s3.heap.update b (Obj.mapSeq (·.setIfInBounds c.toNat v)) = h' at sb hl'
  have hbad : Bad C bad ad b := .inr (.inr (.inr ⟨i, by rw [ha]; exact List.mem_cons_of_mem _ (List.mem_of_getElem? hb)⟩))
  have gk : ∀ a o, Gb s3.heap (Bad C bad ad) a o → Gb h' (Bad C bad ad) a o := fun a o ⟨e, n⟩ => ⟨(sb.2 a fun e' => n (e' ▸ hbad)).trans e, n⟩
  have r' : Rep C.T.prog C.T.w (Gb h' (Bad C bad ad)) v t := ((Rep.mono (Gb.keeps x2.keeps) r).mono (Gb.keeps k3)).mono gk
  have := S1.upd2 (x2.trans x3) (tk := s3.toks) hi ha hb sb ⟨hl', by simpa using hls.2⟩ (((hrs.mono (Gb.keeps k3)).mono gk).set c.toNat r')
  obtain ⟨f2, S2⟩ := this
  exact Post.from S (Fram.of_ext x1) Grow.refl ⟨f2, _, ad, q3, S2, Grow.refl⟩

/-- x, y = p.pop() -/
theorem SX.popU {x y p : Str} {ix iy i : Nat} {xp yp tp pp ap cp pos : Pos} {kt : Nat} {xs : List V} {u v : V} (sx : Slot1 C ix x) (sy : Slot1 C iy y) (hn : C.names[i]? = some p) (hx : (p == ("__debug__" : Str)) = false) (hx' : (p == ("__classdict__" : Str)) = false) (hl : (ap.endLine == cp.line) = true)
    (hi : st.lookup i = some (.own (xs ++ [.list [u, v]]))) (q : Q (.next ((iy, .val v) :: (ix, .val u) :: (i, .own xs) :: st))) :
    SX C st (.Assign [.Tuple [.Name x xp, .Name y yp] kt tp] (.Call (.Attribute (.Name p pp) "pop" ap) [] [] cp) pos) Q := fun bad ad s S => by
  refine Assign_Tuple ?_ rfl rfl
  refine wpAny_Call_method_lateS rfl rfl hl (S.loadOwn (Ext.refl _) hi hn hx hx' fun a vs ha hls hrs => ?_)
  obtain ⟨vs1, w, hvs, hr1, hrw⟩ := snoc_inv hrs
  subst hvs
  refine list_pop_last_ok hls fun h2 sb hl2 => ?_
  obtain ⟨l, o, vs', n, e, g, c, dt, z, r⟩ := hrw.inv
  subst e
  cases r with | @cons wa _ _ _ ra r => cases r with | @cons wb _ _ _ rb r => cases r with | nil =>
  have hbad : Bad C bad ad a := .inr (.inr (.inr ⟨i, by rw [ha]; exact List.mem_cons_self⟩))
  have gk : ∀ c o, Gb s.heap (Bad C bad ad) c o → Gb h2 (Bad C bad ad) c o := fun c o ⟨e, n⟩ => ⟨(sb.2 c fun e' => n (e' ▸ hbad)).trans e, n⟩
  have hz1 : vs1.length ≤ sizeLine := by have := hls.2; simp at this; lia
  obtain ⟨f1, S1⟩ := S.upd' (Ext.refl s) (b := .own xs) (tk := s.toks) hi (by rw [ha]; exact List.mem_cons_self) sb (IsL.alive ⟨hl2, hz1⟩) fun v' hv' => by
    obtain ⟨a', vs2, rfl, ha', _, _⟩ := hv'
    rw [ha] at ha'; cases ha'
    exact ⟨a, vs1, rfl, ha, ⟨hl2, hz1⟩, hr1.mono gk⟩
  have hls2 : h2.IsList l [wa, wb].toArray := isList_of (gk l o g).1 c dt
  rw [arm_assign_Tuple]
  refine wpAny_bind (wpAny_standAt ?_)
  unfold unpack
  refine wpAny_bind (wpAny_holding (PySem.W.kun_itemsOf (items := #[wa, wb]) C.aok.1 hls2 fun h3 he => ?_))
  have x3 : Ext { s with heap := h2 } { s with heap := h3 } := Ext.of (s := { s with heap := h2 }) fun b o e => he b o (Nat.ne_of_lt (Heap.lt_size e)) e
  have up : ∀ {v t}, Rep C.T.prog C.T.w (Gb s.heap (Bad C bad ad)) v t → Rep C.T.prog C.T.w (Gb h3 (Bad C bad ad)) v t := fun h => (Rep.mono gk h).mono (Gb.keeps x3.keeps)
  show wpAny _ _ (do holding [wb] (assign (.Name x xp) C.env wa); do holding [] (assign (.Name y yp) C.env wb); pure ()) _ _ _
  refine wpAny_bind (wpAny_holding (wpAny_assign_Name (wp_no (S1.storeVal (E := No) x3 sx (up ra)) fun _ s4 ⟨f4, st4, ad4, e4, S4, g4⟩ => ?_)))
  subst e4
  have rb4 : Rep C.T.prog C.T.w (Gb s4.heap (Bad C bad ad4)) wb v := (Rep.mono gk rb).mono fun c o ⟨e, n⟩ => ⟨f4.2 c o e fun hm => n (.inr hm), fun h => by
    rcases h with h | h | h | ⟨j, h⟩
    · exact n (.inl h)
    · exact n (.inr (.inl h))
    · exact n (.inr (.inr (.inl h)))
    · rcases g4 j c h with h | h
      · exact n (.inr (.inr (.inr h)))
      · exact nos ((e : h2.get? c = some o) ▸ h).symm⟩
  refine wpAny_bind (wpAny_holding (wpAny_assign_Name (wp_no (S4.storeVal (E := No) (Ext.refl _) sy rb4) fun _ s5 ⟨f5, a5⟩ => wpAny_pure ?_)))
  exact Post.from S f1 Grow.refl (Post.from S1 f4 g4 ⟨f5, a5.of (q := fun st => Q (.next st)) q⟩)
end
end Mine
end

-- part Y2
section
open PySem PySem.Calls PyProof.Rows
set_option linter.unusedVariables false
set_option maxRecDepth 100000
namespace Mine
theorem mul_ok {prog : Program} {w : World} {A : Around} {s : Shared} {E : Value → Shared → Prop} {l : Addr} {items : Array Value} {k : Nat} {x : Int} {u : Tok} {Q : Value → Shared → Prop}
    (hl : s.heap.get? l = some { cls := .type "list", dict := none, data := .seq items k, slots := #[] })
    (hlo : -(2 ^ 63 : Int) ≤ x) (hhi : x < 2 ^ 63) (hsz : items.size * x.toNat ≤ 2 ^ 24)
    (h : Q (.ref s.heap.objs.size) { s with heap := s.heap.push { cls := .type "list", data := .seq (List.foldl (fun x1 x2 => x1 ++ x2) #[] (List.replicate (if items.isEmpty = true then 0 else x.toNat) items)) } }) :
    wpAny (model prog w) A (binaryOp .Mult (.ref l) (.int x u)) Q E s :=
  wpAny_binaryOp_repeat_ref (T := "list") (U := "int") (by decide) ⟨_, hl, rfl⟩ (fun s' => typeIs_int s' x u) noFill_list_mul F.fills_int_mul F.slot_int_rmul repeat_list F.slot_int_index.lookup
    (call_meets F.slot_int_rmul (typeIs_int s x u) F.entry_int_rmul (F.args_int_rmul_2 _ _) (int___rmul___int_list x u l items k)
      ⟨hl, rfl, ⟨_, hl, rfl⟩, call_meets F.slot_list_mul ⟨_, hl, rfl⟩ F.entry_list_mul (F.args_list_mul_2 _ _)
        (AutoListH.list___mul___list_int_3 l items k x u (by simp [Builtin.List.listFitsIndex]; lia) (by lia) (by simp [Builtin.List.listTooLong, sizeLine]; lia))
        ⟨hl, h⟩⟩)
theorem foldl_app (v : Value) : ∀ (n : Nat) (acc : Array Value), (List.replicate n #[v]).foldl (fun x1 x2 => x1 ++ x2) acc = (acc.toList ++ List.replicate n v).toArray
  | 0, acc => by simp
  | n + 1, acc => by
    rw [List.replicate_succ, List.foldl_cons, foldl_app v n, List.replicate_succ]
    simp
/-- [0] * n -/
theorem zeros_ok {prog : Program} {w : World} {A : Around} {env : Env} {s : Shared} {E : Value → Shared → Prop} {n : Nat} {k1 k2 : Nat} {p1 p2 lp pos : Pos} (hn : n ≤ 1000) {QQ : Value → Shared → Prop}
    (h : ∀ s2 b vs, Ext s s2 → s.heap.get? b = none → IsL s2.heap b vs → vs.length = n → (∀ v ∈ vs, ∃ t, v = .int 0 t) → QQ (.ref b) s2) :
    wpAny (model prog w) A (eval (.BinOp (.List [.Constant (.int 0) k1 p1] lp) .Mult (.Constant (.int n) k2 p2) pos) env) QQ E s := by
  refine wpAny_BinOp (wpAny_List (Calls.spliced_cons (x := eval (.Constant (.int 0) k1 p1) env) (wpAny_Constant_int (Calls.spliced_nil ⟨Nat.le_of_ble_eq_true rfl, wpAny_Constant_int ?_⟩))))
  have e : ∀ t, (List.foldl (fun x1 x2 => x1 ++ x2) #[] (List.replicate (if (#[Value.int 0 t] : Array Value).isEmpty = true then 0 else (n : Int).toNat) #[Value.int 0 t])) = (List.replicate n (Value.int 0 t)).toArray := fun t => by
    rw [Int.toNat_natCast, if_neg (by simp), foldl_app]; rfl
  refine mul_ok (items := #[Value.int 0 s.toks]) (k := 0) (Heap.get?_push_size _ rfl) (by lia) (by lia) (by rw [Int.toNat_natCast]; show 1 * n ≤ _; lia) ?_
  rw [e]
  have x1 := Ext.push { s with toks := s.toks + 1 } { cls := .type "list", data := .seq #[Value.int 0 s.toks] } (s.toks + 1 + 1)
  refine h _ _ (List.replicate n (Value.int 0 s.toks)) (((Ext.tok s _).trans x1).trans (Ext.push _ _ _)) ?_ ⟨⟨0, Heap.get?_push_size _ rfl⟩, by rw [List.length_replicate, sl_eq]; lia⟩ (List.length_replicate ..) fun v hv => ⟨_, (List.mem_replicate.mp hv).2⟩
  refine none_of_ge ?_
  show s.heap.objs.size ≤ (s.heap.push _).objs.size
  rw [Heap.size_push]; exact Nat.le_succ _

/-! a comprehension stored on its own road -/
abbrev SwT (sc : Scope) (t e : Expr) : Prop := ∀ env l, env.scope = sc → swapsWith e (some t) l env = pure true
theorem SwT.lc {elt : Expr} {gens : List Comprehension} {s2 sc : Scope} {p : Pos} {x : Str} {xp : Pos} (h : (sc.kind == .function && sc.names.lookup x == some .local && xp.line == p.line && !(s2.names.any fun (n, k) => n == x && (k == .local || k == .cell))) = true) : SwT sc (.Name x xp) (.ListComp elt gens s2 p) := fun env l e => by
  subst e
  have hk : env.scope.kind = .function := by
    simp only [Bool.and_eq_true, beq_iff_eq] at h
    exact h.1.1.1
  have hb : env.blockKind = .function := by unfold Env.blockKind; rw [hk]; rfl
  show (pure (env.blockKind == .function && env.scope.names.lookup x == some .local && _ && _) : Sem Bool) = pure true
  rw [hb]
  rw [hk] at h
  exact congrArg pure h

section
variable {C : FC} {bad : Addr → Prop} {st : St} {Q : Out → Prop}
theorem SX.swapC {x : Str} {i : Nat} {p pos lp : Pos} {elt : Expr} {gens : List Comprehension} {scope : Scope} {PB : B → Prop} (sl : Slot1 C i x) (hc : SwT C.env.scope (.Name x p) (.ListComp elt gens scope lp)) (hg : firstAsync gens = false)
    (h : ∀ bad ad s use QQ, Sim C bad st ad s → (∀ D Cc h' tk m' b al, PB b → s.heap.get? Cc = none → h'.Ns Cc m' → Keeps s.heap h' → (∀ a ∈ al, s.heap.get? a = none ∧ Alive h' a ∧ a ≠ Cc) → al.Nodup → RepB C (fun a => bad a ∨ a ∈ [Cc]) (setAd ad i al) h' al (.ref D) b →
      compPost (model C.T.prog C.T.w) C.A No use QQ (.ref D) Cc (.ok .next) { s with heap := h', toks := tk }) →
      wpAny (model C.T.prog C.T.w) C.A (comprehension (.ListComp elt gens scope lp) scope C.env (firstIterPos gens lp) (newList []) false (firstIter gens C.env) use) QQ No s)
    (q : ∀ b, PB b → Q (.next ((i, b) :: st))) : SX C st (.Assign [.Name x p] (.ListComp elt gens scope lp) pos) Q := fun bad ad s S => by
  rw [exec_Assign]
  refine wpAny_bind (wpAny_standAt ?_)
  have hs : swapsWithSole [.Name x p] (.ListComp elt gens scope lp) pos.line C.env = pure true := hc C.env pos.line rfl
  rw [hs]
  refine wpAny_bind (wpAny_pure ?_)
  rw [if_pos rfl]
  refine wpAny_bind ?_
  rw [arm_evalThenUse_ListComp, hg]
  refine wpAny_bind (h bad ad s _ _ S fun D Cc h' tk m' b al hb hC hn hk hal hnd hr => ?_)
  show wpAny _ _ (assignAll (.ref D) [assign (.Name x p) C.env]) _ _ _
  have x1 : Ext s { s with heap := h', toks := tk } := Ext.of hk
  have aC : Alive h' Cc := let ⟨o, _, _, e, _⟩ := hn; ⟨o, e⟩
  have nC : ∀ a, Alive s.heap a → a ≠ Cc := fun a ⟨o, e⟩ h => by rw [h, hC] at e; cases e
  refine wpAny_assign_Name (wp_no (S.storeX (E := No) (ex := [Cc]) x1 sl.at' sl.kind sl.free sl.cell (fun a ha => ⟨(hal a ha).1, (hal a ha).2.1⟩) (fun a ha => by
    rw [List.mem_singleton.mp ha]; exact ⟨hC, aC, fun h => (hal Cc h).2.2 rfl⟩) hnd hr) fun _ s2 ⟨f, hx, st', ad', e', S2, g2⟩ => ?_)
  subst e'
  have hn' : s2.heap.Ns Cc m' := hn.at' fun o e => hx Cc List.mem_cons_self o e
  refine ⟨m', hn', fun h3 hs3 => wpAny_pure (wpAny_pure ?_)⟩
  refine ⟨⟨?_, fun b o e nm => hs3.extBut b o (nC b ⟨o, e⟩) (f.2 b o e nm)⟩, (i, b) :: st, ad', q b hb, ?_, g2⟩
  · obtain ⟨⟨h2, t2, e2⟩, _⟩ := f
    exact ⟨h3, t2, by rw [e2]⟩
  · exact S2.step (bad := bad) (wr := [Cc]) (h' := h3) (tk := s2.toks) (fun a h => ⟨.inl h, fun hm => absurd (List.mem_singleton.mp hm) (nC a (S.badok a h).1)⟩) (fun b hb => .inr hb) fun b o hb e => hs3.extBut b o (fun h => hb (h ▸ List.mem_cons_self)) e
theorem new_ne {ad : Ads} {s : Shared} (S : Sim C bad st ad s) {i : Nat} {D Cc : Addr} (hD : s.heap.get? D = none) (hDC : D ≠ Cc) : ¬ Bad C (fun a => bad a ∨ a ∈ [Cc]) (setAd ad i []) D := fun h => by
  have dead : ∀ a, Alive s.heap a → a ≠ D := fun a ⟨o, e⟩ h => by rw [h, hD] at e; cases e
  rcases h with (h | h) | h | ⟨n, h⟩ | ⟨j, h⟩
  · exact dead D (S.badok D h).1 rfl
  · exact hDC (List.mem_singleton.mp h)
  · exact dead _ S.locAlive h.symm
  · exact dead D (S.cellAlive h) rfl
  · unfold setAd at h; split at h
    · cases h
    · exact dead D (S.owned j D h).2.2.2.2 rfl
/-- x = [.. for ..], a local on one line -/
theorem SX.asgC {x : Str} {i : Nat} {p pos lp : Pos} {elt : Expr} {gens : List Comprehension} {scope : Scope} (sl : Slot1 C i x) (hc : SwT C.env.scope (.Name x p) (.ListComp elt gens scope lp)) (hg : firstAsync gens = false)
    (h : CJ C.T C.k C.env.scope C.names (rd st) elt gens scope lp fun us => Q (.next ((i, .val (.list us)) :: st))) : SX C st (.Assign [.Name x p] (.ListComp elt gens scope lp) pos) Q := by
  refine SX.swapC (PB := fun b => ∃ us, b = .val (.list us) ∧ Q (.next ((i, .val (.list us)) :: st))) sl hc hg (fun bad ad s use QQ S hQ => ?_) fun b ⟨us, e, q⟩ => e ▸ q
  refine h C.A C.env (Bad C bad ad) bad s use QQ C.aok S.rd fun D Cc h' tk m' ys us q hD hC hDC hn hl hr hk => ?_
  refine hQ D Cc h' tk m' (.val (.list us)) [] ⟨us, rfl, q⟩ hC hn hk (fun a h => nomatch h) List.nodup_nil ?_
  obtain ⟨⟨nn, eo⟩, hz⟩ := hl
  refine Rep.list ⟨eo, new_ne S hD hDC⟩ ⟨rfl, rfl⟩ rfl hz (hr.mono fun a o ⟨e, nb⟩ => ⟨e, fun h => nb ?_⟩)
  rcases h with (h | h) | h | h | ⟨j, h⟩
  · exact .inl (.inl h)
  · exact .inr (.inr (List.mem_singleton.mp h))
  · exact .inl (.inr (.inl h))
  · exact .inl (.inr (.inr (.inl h)))
  · unfold setAd at h; split at h
    · cases h
    · exact .inl (.inr (.inr (.inr ⟨j, h⟩)))
theorem zero_reps {p w G} {n : Nat} {vs : List Value} (hl : vs.length = n) (h : ∀ v ∈ vs, ∃ t, v = .int 0 t) : Reps p w G vs (List.replicate n (.int 0)) := by
  induction vs generalizing n with
  | nil => subst hl; exact .nil
  | cons v vs ih =>
    obtain ⟨t, rfl⟩ := h v List.mem_cons_self
    subst hl
    exact .cons (.int _ _) (ih rfl fun v hv => h v (List.mem_cons_of_mem _ hv))
inductive RowsI (own : List Str) (scope : Scope) (cs : List (Str × Addr)) (C : Addr) (zs : List Addr) (D : Addr) (fp : List Addr) (s : Shared) (len n0 : Nat) (St : Nat → Heap → Prop) (n : Nat) (s' : Shared) : Prop where
  | mk (h' : Heap) (tk : Nat) (m' : Str → Option Value) (bs : List Addr) (j : Nat) (e : s' = { s with heap := h', toks := tk }) (hj : j ≤ len) (hn : n = len + 1 - j) (st : St j h') (pl : h'.PlainList D (bs.map Value.ref).toArray)
    (hu : bs.length = j) (fm : FmC scope cs C own m' h') (nd : bs.Nodup) (hb : ∀ b ∈ bs, s.heap.get? b = none ∧ b ≠ D ∧ b ≠ C ∧ b ∉ zs ∧ b ∉ fp ∧ ∃ vs, IsL h' b vs ∧ vs.length = n0 ∧ ∀ v ∈ vs, ∃ t, v = .int 0 t) (hk : Keeps s.heap h')
/-- x = [[0] * n for y in ..] -/
theorem SX.own2c {x y : Str} {i : Nat} {p pos lp py p1 p2 l2 bp : Pos} {k1 k2 n : Nat} {iter : Expr} {scope : Scope} (hs : compSc scope C.env.scope C.names [y] = true) (hset : ∀ (env : Env) v, foldedSetIterable iter env v = pure v) (sl : Slot1 C i x)
    (hc : SwT C.env.scope (.Name x p) (.ListComp (.BinOp (.List [.Constant (.int 0) k1 p1] l2) .Mult (.Constant (.int n) k2 p2) bp) [⟨.Name y py, iter, [], 0⟩] scope lp)) (hn : n ≤ 1000)
    (h : EVC C st iter fun t d => d = 0 ∧ iterOk t ∧ ∃ items, itemsV t = some items ∧ items.length ≤ 1000 ∧ Q (.next ((i, .own2 (List.replicate items.length (List.replicate n (.int 0)))) :: st))) :
    SX C st (.Assign [.Name x p] (.ListComp (.BinOp (.List [.Constant (.int 0) k1 p1] l2) .Mult (.Constant (.int n) k2 p2) bp) [⟨.Name y py, iter, [], 0⟩] scope lp) pos) Q := by
  refine SX.swapC (PB := fun b => ∃ len, b = .own2 (List.replicate len (List.replicate n (.int 0))) ∧ Q (.next ((i, b) :: st))) sl hc rfl (fun bad ad s use QQ S hQ => ?_) fun b ⟨_, _, q⟩ => q
  have H := compSc_ok hs
  have R := S.rd
  obtain ⟨cl, hcl, hcl1, hcl2⟩ := closureFor_ok (env := C.env) (scope := scope) (fun n hn => R.cel n (H.all n _ hn).1)
  have hnames : ∀ y ∈ scope.names, y.2 = .local → scope.names.lookup y.1 = some .local := fun y hy e => by
    have := H.all y.1 y.2 hy
    rw [e] at this; exact this.2
  refine wpAny_comprehension_free rfl (hset C.env) hcl H.kind hnames (wp_no (h.run S) fun va s1 ⟨x1, t, d, ⟨hd, ho, items, hi, hlen, q⟩, rv⟩ => ?_)
  subst hd
  have R1 := R.keep x1
  have k1' := x1.keeps
  have back : ∀ a, s1.heap.get? a = none → s.heap.get? a = none := fun a e => by
    cases e' : s.heap.get? a with
    | none => rfl
    | some o => rw [k1' a o e'] at e; cases e
  refine comp_setup (RR := compPost (model C.T.prog C.T.w) C.A No use QQ) C.aok R1 H hcl1 hcl2 (iter_ok rv hi ho) fun D Cc cs zs I it sX fp wr P St bad' g tg X IT B up bb => ?_
  have W := IT.W C.A C.aok.1
  have loc : ∀ z ∈ [y], scope.names.lookup z = some .local ∨ scope.names.lookup z = some .cell := fun z hz => (X.H.loc z hz).1
  refine compLoop_go (turn1 _ iter [] scope lp py) (fun nn s' => RowsI [y] scope cs Cc zs D fp s1 items.length n St nn s') ?_ (items.length + 1) ⟨g, tg, _, [], 0, rfl, Nat.zero_le _, rfl, B.st, B.pl, rfl, B.fm, List.nodup_nil, (fun b hb => nomatch hb), B.k0⟩
  rintro nn s' ⟨h', tk, m', bs, j, rfl, hj, rfl, hst, hpl, hus, fm, nd, hb, hk⟩
  have wD : ∀ b ∈ wr, b ≠ D ∧ b ≠ Cc ∧ b ∉ zs := fun b hb => B.dis b (W.sub b hb)
  by_cases hjl : j < items.length
  · refine W.item j _ _ _ hjl hst fun v h2 tk2 hP hst2 hk2 => ?_
    have fm2 : FmC scope cs Cc [y] m' h2 := fm.keep X.K fun b hb o e => hk2 b o (fun hw => by
      rcases hb with rfl | hb
      · exact (wD b hw).2.1 rfl
      · exact (wD b hw).2.2 hb) e
    refine wpAny_assign_Name (FmC.store X.K loc (env := compEnvC scope cs Cc C.env) X.H.kind rfl rfl X.kd List.mem_cons_self fm2 fun h3 tk3 fm3 hk3 => ?_)
    have hst3 : St (j + 1) h3 := W.frame _ _ _ hst2 fun b hb o e => hk3 b o (B.dis b hb).2.1 (B.dis b hb).2.2 e
    have up3 : ∀ b o, b ∉ wr → b ≠ Cc → b ∉ zs → h'.get? b = some o → h3.get? b = some o := fun b o h1 h2 h3 e => hk3 b o h2 h3 (hk2 b o h1 e)
    have hpl3 : h3.PlainList D (bs.map Value.ref).toArray := hpl.at fun o e => up3 D o (fun h => (wD D h).1 rfl) X.dC X.dz e
    refine wpAny_tests_nil ?_
    rw [if_pos rfl]
    refine zeros_ok hn fun s5 b vs x5 hbn hbl hvl hvz => ?_
    have k5 := x5.keeps
    obtain ⟨h5, t5, e5, _⟩ := id x5
    subst e5
    have new : ∀ a, Alive h3 a → a ≠ b := fun a ⟨o, e⟩ h => by
      have hbn : h3.get? b = none := hbn
      rw [h, hbn] at e; cases e
    have aD : Alive h3 D := let ⟨_, e⟩ := hpl3; ⟨_, e⟩
    have aC : Alive h3 Cc := let ⟨_, ⟨o, _, _, e, _⟩, _⟩ := fm3.ns; ⟨o, e⟩
    have az : ∀ z ∈ zs, Alive h3 z := fun z hz => let ⟨y', hy, hya⟩ := X.K.all z hz; let ⟨o, e, _⟩ := fm3.cell y' z hy hya; ⟨o, e⟩
    have hpl5 : h5.PlainList D (bs.map Value.ref).toArray := hpl3.at fun o e => k5 _ o e
    refine wpAny_list_append_plain (hsz := by rw [List.size_toArray, List.length_map, sl_eq]; lia) hpl5 fun h6 hl6 hs6 => ?_
    have e56 : ∀ b, b ≠ D → ∀ o, h3.get? b = some o → h6.get? b = some o := fun b hb o e => hs6.extBut b o hb (k5 b o e)
    have hks : Keeps s1.heap h6 := fun c o e => by
      have ne : ∀ a, s1.heap.get? a = none → c ≠ a := fun a ha h => by rw [← h, e] at ha; cases ha
      exact e56 c (ne D (X.new D (.inl rfl))) o (up3 c o (fun h => ne c (B.nw c h) rfl) (ne Cc (X.new Cc (.inr (.inl rfl)))) (fun h => ne c (X.new c (.inr (.inr h))) rfl) (hk c o e))
    have old : ∀ c ∈ bs, ∀ o, h'.get? c = some o → h6.get? c = some o := fun c hc o e => by
      obtain ⟨_, h1, h2, h3', h4, _⟩ := hb c hc
      exact e56 c h1 o (up3 c o (fun h => h4 (W.sub c h)) h2 h3' e)
    have aold : ∀ c ∈ bs, Alive h3 c := fun c hc => by
      obtain ⟨_, h1, h2, h3', h4, vs, hv, _⟩ := hb c hc
      obtain ⟨o, e⟩ := hv.alive
      exact ⟨o, up3 c o (fun h => h4 (W.sub c h)) h2 h3' e⟩
    refine ⟨items.length + 1 - (j + 1), by lia, h6, t5, _, bs ++ [b], j + 1, rfl, hjl, rfl, W.frame _ _ _ hst3 fun c hc o e => e56 c (B.dis c hc).1 o e, by simpa using hl6, by simp [hus], fm3.keep X.K fun c hc o e => e56 c (fun h => by
        subst h
        rcases hc with h | h
        · exact X.dC h
        · exact X.dz h) o e, List.nodup_append.mpr ⟨nd, by simp, fun a ha c hc => by rw [List.mem_singleton.mp hc]; exact new a (aold a ha)⟩, fun c hc => ?_, hks⟩
    rcases List.mem_append.mp hc with hc | hc
    · obtain ⟨h1, h2, h3', h4, h5', vs', hv, r⟩ := hb c hc
      exact ⟨h1, h2, h3', h4, h5', vs', hv.at (old c hc), r⟩
    · rw [List.mem_singleton.mp hc]
      have hbD : b ≠ D := (new D aD).symm
      refine ⟨?_, hbD, (new Cc aC).symm, fun h => new b (az b h) rfl, fun h => new b (IT.alive _ _ hst3 b h) rfl, vs, hbl.at fun o e => hs6.extBut b o hbD e, hvl, hvz⟩
      cases e : s1.heap.get? b with
      | none => rfl
      | some o =>
        have ne : ∀ a, s1.heap.get? a = none → b ≠ a := fun a ha h => by rw [← h, e] at ha; cases ha
        exact (new b ⟨o, up3 b o (fun h => ne b (B.nw b h) rfl) (ne Cc (X.new Cc (.inr (.inl rfl)))) (fun h => ne b (X.new b (.inr (.inr h))) rfl) (hk b o e)⟩ rfl).elim
  · have hj' : j = items.length := by lia
    subst hj'
    refine W.done _ _ _ hst fun h2 tk2 hk2 => ?_
    have hpl2 : h2.PlainList D (bs.map Value.ref).toArray := hpl.at fun o e => hk2 _ o (fun h => (wD D h).1 rfl) e
    have fm2 : FmC scope cs Cc [y] m' h2 := fm.keep X.K fun b hb o e => hk2 b o (fun hw => by
      rcases hb with rfl | hb
      · exact (wD b hw).2.1 rfl
      · exact (wD b hw).2.2 hb) e
    obtain ⟨m0, hn0, _⟩ := fm2.ns
    have hl2 : IsL h2 D (bs.map Value.ref) := ⟨hpl2, by rw [List.length_map, sl_eq]; lia⟩
    have hb2 : ∀ b ∈ bs, s1.heap.get? b = none ∧ b ≠ D ∧ b ≠ Cc ∧ ∃ vs, IsL h2 b vs ∧ vs.length = n ∧ ∀ v ∈ vs, ∃ t, v = .int 0 t := fun b hbm => by
      obtain ⟨h1, h2', h3, h4, h5, vs, hv, r⟩ := hb b hbm
      exact ⟨h1, h2', h3, vs, hv.at fun o e => hk2 b o (fun h => h5 (W.sub b h)) e, r⟩
    obtain ⟨hh, tt, e1, _⟩ := id x1
    subst e1
    refine hQ D Cc h2 tk2 m0 (.own2 (List.replicate items.length (List.replicate n (.int 0)))) (D :: bs) ⟨_, rfl, q⟩ (back Cc (X.new Cc (.inr (.inl rfl)))) hn0 (fun b o e => hk2 b o (fun h => by
      have := B.nw b h
      rw [show hh.get? b = some o from k1' b o e] at this; cases this) (hk b o (k1' b o e))) (fun a ha => ?_) (List.nodup_cons.mpr ⟨fun h => (hb2 D h).2.1 rfl, nd⟩)
      ⟨D, bs, rfl, rfl, hl2, All2.of_get (by rw [List.length_replicate, hus]) fun l b xs hbb hx => ?_⟩
    · rcases List.mem_cons.mp ha with rfl | ha
      · exact ⟨back _ (X.new _ (.inl rfl)), hl2.alive, X.dC⟩
      · obtain ⟨h1, _, h3, vs, hv, _⟩ := hb2 a ha
        exact ⟨back a h1, hv.alive, h3⟩
    · obtain ⟨_, _, _, vs, hv, h5, h6⟩ := hb2 b (List.mem_of_getElem? hbb)
      have : xs = List.replicate n (.int 0) := (List.mem_replicate.mp (List.mem_of_getElem? hx)).2
      subst this
      exact ⟨vs, hv, zero_reps h5 h6⟩
end
end Mine
end

-- part M13
section
open PySem PySem.Calls PyProof.Rows
set_option linter.unusedVariables false
namespace Mine

noncomputable def lsW (as : List (V × Nat)) (Q : List V → Prop) : Prop := w1 as fun v => match v with
  | .rng a b c => rOk a b c ∧ Q ((rngL a b c).map .int)
  | _ => False
noncomputable def biF (b : Bi) (as : List (V × Nat)) (Q : List V → Prop) : Prop := match b with
  | .list => lsW as Q
  | _ => False
noncomputable def frW (F : Fenv) (r : Rv) (e : E) (Q : List V → Prop) : Prop :=
  match e with
  | .list es => sems F r es fun as => allZ as ∧ as.length ≤ 10000 ∧ Q (as.map (·.1))
  | .bi b es => sems F r es fun as => biF b as Q
  | _ => False

section
variable {C : FC} {bad : Addr → Prop} {st : St}

theorem EVF.list {es p} {es' : List E} {Q : List V → Prop} (g : All2 (Good C.T C.k C.env.scope C.names C.F) es es') (q : sems C.F (rd st) (toEs es') fun as => allZ as ∧ as.length ≤ 10000 ∧ Q (as.map (·.1))) :
    EVF C st (.List es p) Q := fun bad ad s S => by
  refine wpAny_List (wp_no (sp_ok g C.aok S.rd q) fun us s1 ⟨x1, as, ⟨hz, hn, q⟩, rs⟩ => ?_)
  have hl := rs.length
  have hna : ∀ {a}, Alive s1.heap a → a ≠ s1.heap.objs.size := fun h => Nat.ne_of_lt h.lt
  refine ⟨by rw [hl, sl_eq]; lia, x1.trans (Ext.push _ _ _), s1.heap.objs.size, us, _, q, rfl, ?_, ⟨⟨0, Heap.get?_push_size _ rfl⟩, by rw [hl, sl_eq]; lia⟩, (allZ_reps rs hz).mono fun a o ⟨e, n⟩ => ⟨Keeps.push _ _ _ _ e, fun h => h.elim n (hna ⟨o, e⟩)⟩⟩
  cases e : s.heap.get? s1.heap.objs.size with
  | none => rfl
  | some o => exact (hna ⟨o, x1.keeps _ _ e⟩ rfl).elim

theorem EVF.listR {x : Str} {np p : Pos} {as : List Expr} {es : List E} {Q : List V → Prop} (hb : Bi.list ∈ C.F.bis) (hx : (x == ("__debug__" : Str)) = false) (hg : C.env.scope.names.lookup x = some .globalImplicit) (hn : Bi.list.name = x)
    (g : All2 (Good C.T C.k C.env.scope C.names C.F) as es) (h0 : es ≠ []) (q : sems C.F (rd st) (toEs es) fun as => lsW as Q) : EVF C st (.Call (.Name x np) as [] p) Q := fun bad ad s S => by
  obtain ⟨h1, h2⟩ := C.FO.bis .list hb
  have R := S.rd
  refine Call_ (R.builtin hg (hn ▸ h1) (hn ▸ h2) hx ?_)
  have hplain := backTo_plain (pos := p) (env := C.env) g
  have sp := sp_ok (pos := p) g C.aok R q
  cases g with
  | nil => exact absurd rfl h0
  | cons g gs =>
    rw [g.ns] at sp hplain ⊢
    refine callWith_flat (b := .list) hplain (wp_no sp fun us s1 ⟨x1, as, q1, rs⟩ => ?_)
    refine arg1 rs (f := fun v => match v with | .rng a b c => rOk a b c ∧ Q ((rngL a b c).map .int) | _ => False) q1 fun v x d r q => ?_
    cases x with
    | rng a b c =>
      obtain ⟨ad', t, u, y, e, g⟩ := RepD.rng_inv r
      rw [e]
      obtain ⟨q1, q⟩ := q
      obtain ⟨e1, e2⟩ := rsize_le q1
      refine call_list_range C.aok.1 g.1 (small_ok q1) e1 (by clear q1; lia) fun h' tk acc' c' hk hD hI => ?_
      refine ⟨x1.trans (Ext.of hk), s1.heap.objs.size, acc'.toList, _, q, rfl, ?_, ⟨⟨c', hD⟩, by rw [Array.length_toList, hI.1, sl_eq]; lia⟩, range_reps (by rw [rngL_length]; exact hI.1) fun i v hv => ?_⟩
      · cases e : s.heap.get? s1.heap.objs.size with
        | none => rfl
        | some o => exact (Nat.lt_irrefl _ (Heap.lt_size (x1.keeps _ _ e))).elim
      · rw [rngL_at (by have := (Array.getElem?_eq_some_iff.mp hv).1; rwa [hI.1] at this)]
        exact hI.2 i v hv
    | _ => exact (show False from q).elim

end
/-- fresh lists in the small language -/
noncomputable def TrF (F : Fenv) (sc : Scope) (ns : List Str) (e : Expr) (e' : E) : Prop := ∀ C : FC, C.F = F → C.env.scope = sc → C.names = ns → ∀ st Q, frW F (rd st) e' Q → EVF C st e Q
section
variable {F : Fenv} {sc : Scope} {ns : List Str}
theorem TrF.list {es p l} (g : TrEs F sc ns es l) : TrF F sc ns (.List es p) (.list (toEs l)) := fun C h1 h2 h3 st Q q => by
  subst h1 h2 h3; exact EVF.list (g _ _ C.FO) q
theorem TrF.range {np as p es} (hb : biOk F sc ns .list = true) (g : TrEs F sc ns as es) (h0 : es ≠ []) : TrF F sc ns (.Call (.Name ("list" : Str) np) as [] p) (.bi .list (toEs es)) := fun C h1 h2 h3 st Q q => by
  subst h1 h2 h3
  simp only [biOk, Bool.and_eq_true, beq_iff_eq, List.contains_iff_mem] at hb
  exact EVF.listR hb.2 (by decide) hb.1.2 rfl (g _ _ C.FO) h0 q
end
end Mine
end

-- part M14
section
open PySem PySem.Calls PyProof.Rows
set_option linter.unusedVariables false
set_option genSizeOf false
set_option genSizeOfSpec false
set_option genInjectivity false
namespace Mine

mutual
inductive S where
  | asg (x : Nat) (e : E)
  | own (x : Nat) (e : E)
  | asg2 (x y : Nat) (e : E)
  | swap (x y : Nat)
  | aug (op : Operator) (x : Nat) (e : E)
  | sto (x : Nat) (i e : E)
  | augS (op : Operator) (x : Nat) (i e : E)
  | ifs (t : E) (a b : Ss)
  | whl (t : E) (b : Ss)
  | fr (x : Nat) (it : E) (b : Ss)
  | ret (e : E)
  | app (x : Nat) (e : E)
  | frz (x : Nat) (s : S)
  | newD (x : Nat)
  | stoD (x : Nat) (i e : E)
  | sto2 (x : Nat) (i j e : E)
  | popU (x y p : Nat)
  | own2c (x n : Nat) (it : E)
inductive Ss where
  | nil
  | cons (s : S) (ss : Ss)
end

noncomputable def contW (K : St → Prop) (Q : Out → Prop) : Out → Prop
  | .next st' => K st'
  | o => Q o
noncomputable def asVal (o : Option B) (f : V → Prop) : Prop := match o with
  | some (.val t) => f t
  | _ => False
noncomputable def asOwn (o : Option B) (f : List V → Prop) : Prop := match o with
  | some (.own xs) => f xs
  | _ => False
noncomputable def asOwn2 (o : Option B) (f : List (List V) → Prop) : Prop := match o with
  | some (.own2 xss) => f xss
  | _ => False
noncomputable def asOwnD (o : Option B) (f : List Int → List V → Prop) : Prop := match o with
  | some (.ownD ks vs) => f ks vs
  | _ => False
noncomputable def asB (o : Option B) (f : B → Prop) : Prop := match o with
  | some b => f b
  | none => False
theorem asB_inv {o : Option B} {f : B → Prop} (h : asB o f) : ∃ t, o = some t ∧ f t := by
  cases o with
  | none => exact (show False from h).elim
  | some b => exact ⟨b, rfl, h⟩
theorem asOwnD_inv {o : Option B} {f : List Int → List V → Prop} (h : asOwnD o f) : ∃ t u, o = some (.ownD t u) ∧ f t u := by
  cases o with
  | none => exact (show False from h).elim
  | some b => cases b with
    | ownD t u => exact ⟨t, u, rfl, h⟩
    | _ => exact (show False from h).elim
theorem asOwnD_of {o : Option B} {f : List Int → List V → Prop} {t u} (h : o = some (.ownD t u)) (q : f t u) : asOwnD o f := by subst h; exact q
theorem asB_of {o : Option B} {f : B → Prop} {t} (h : o = some t) (q : f t) : asB o f := by subst h; exact q
theorem asVal_inv {o : Option B} {f : V → Prop} (h : asVal o f) : ∃ t, o = some (.val t) ∧ f t := by
  cases o with
  | none => exact (show False from h).elim
  | some b => cases b with
    | val t => exact ⟨t, rfl, h⟩
    | _ => exact (show False from h).elim
theorem asOwn_inv {o : Option B} {f : List V → Prop} (h : asOwn o f) : ∃ t, o = some (.own t) ∧ f t := by
  cases o with
  | none => exact (show False from h).elim
  | some b => cases b with
    | own t => exact ⟨t, rfl, h⟩
    | _ => exact (show False from h).elim
theorem asOwn2_inv {o : Option B} {f : List (List V) → Prop} (h : asOwn2 o f) : ∃ t, o = some (.own2 t) ∧ f t := by
  cases o with
  | none => exact (show False from h).elim
  | some b => cases b with
    | own2 t => exact ⟨t, rfl, h⟩
    | _ => exact (show False from h).elim
theorem asVal_of {o : Option B} {f : V → Prop} {t : V} (h : o = some (.val t)) (q : f t) : asVal o f := by subst h; exact q
theorem asOwn_of {o : Option B} {f : List V → Prop} {t : List V} (h : o = some (.own t)) (q : f t) : asOwn o f := by subst h; exact q
theorem asOwn2_of {o : Option B} {f : List (List V) → Prop} {t : List (List V)} (h : o = some (.own2 t)) (q : f t) : asOwn2 o f := by subst h; exact q

mutual
noncomputable def ex1 (F : Fenv) : S → St → (Out → Prop) → Prop
  | .asg x e, st, Q => evW F (rd st) e fun t d => d = 0 ∧ Q (.next ((x, .val t) :: st))
  | .own x e, st, Q => frW F (rd st) e fun xs => Q (.next ((x, .own xs) :: st))
  | .asg2 x y e, st, Q => evW F (rd st) e fun t d => d = 0 ∧ t.flat = true ∧ Q (.next ((y, .val t) :: (x, .val t) :: st))
  | .swap x y, st, Q => asVal (st.lookup x) fun a => asVal (st.lookup y) fun b => a.flat = true ∧ b.flat = true ∧ Q (.next ((x, .val b) :: (y, .val a) :: st))
  | .aug op x e, st, Q => asVal (st.lookup x) fun t => augOk op t = true ∧ evW F (rd st) e fun u du => binW op t 0 u du fun w dw => dw = 0 ∧ Q (.next ((x, .val w) :: st))
  | .sto x i e, st, Q => asOwn (st.lookup x) fun xs => evW F (rd st) e fun t d => d = 0 ∧ evW F (rd st) i fun u _ => asInt u fun j => 0 ≤ j ∧ j < xs.length ∧ Q (.next ((x, .own (xs.set j.toNat t)) :: st))
  | .augS op x i e, st, Q => asOwn (st.lookup x) fun xs => evW F (rd st) i fun u _ => asInt u fun j => 0 ≤ j ∧ j < xs.length ∧ augOk op (xs.getD j.toNat .none) = true ∧ evW F (rd st) e fun w dw => binW op (xs.getD j.toNat .none) 0 w dw fun t d =>
      d = 0 ∧ Q (.next ((x, .own (xs.set j.toNat t)) :: st))
  | .ifs t a b, st, Q => tsW F (rd st) t fun c => if c = true then exs F a st Q else exs F b st Q
  | .whl t b, st, Q => ∃ I : Nat → St → Prop, (∃ n st', Sub st' st ∧ I n st') ∧ ∀ n st', I n st' →
      tsW F (rd st') t fun c => if c = true then exs F b st' (loopOut (fun st3 => ∃ m, m < n ∧ I m st3) Q) else Q (.next st')
  | .fr x it b, st, Q => evW F (rd st) it fun t d => d = 0 ∧ iterOk t ∧ ∃ items, itemsV t = some items ∧ ∃ I : Nat → St → Prop, (∃ st', Sub st' st ∧ I 0 st') ∧
      (∀ (j : Nat) st' v, items[j]? = some v → I j st' → exs F b ((x, .val v) :: st') (loopOut (I (j + 1)) Q)) ∧ ∀ st', I items.length st' → Q (.next st')
  | .ret e, st, Q => evW F (rd st) e fun t _ => Q (.ret t)
  | .app x e, st, Q => asOwn (st.lookup x) fun xs => evW F (rd st) e fun t d => d = 0 ∧ xs.length ≤ 10000 ∧ Q (.next ((x, .own (xs ++ [t])) :: st))
  | .frz x s, st, Q => asB (st.lookup x) fun b => ex1 F s ((x, .val b.frz) :: st) Q
  | .newD x, st, Q => Q (.next ((x, .ownD [] []) :: st))
  | .stoD x i e, st, Q => asOwnD (st.lookup x) fun ks vs => evW F (rd st) e fun t d => d = 0 ∧ evW F (rd st) i fun u _ => asInt u fun j => j ∉ ks ∧ ks.length ≤ 1000 ∧ Q (.next ((x, .ownD (ks ++ [j]) (vs ++ [t])) :: st))
  | .sto2 x i j e, st, Q => asOwn2 (st.lookup x) fun xss => evW F (rd st) e fun t d => d = 0 ∧ evW F (rd st) i fun u _ => asInt u fun a => 0 ≤ a ∧ a < xss.length ∧ evW F (rd st) j fun u _ => asInt u fun b => 0 ≤ b ∧ b < (xss.getD a.toNat []).length ∧
      Q (.next ((x, .own2 (xss.set a.toNat ((xss.getD a.toNat []).set b.toNat t))) :: st))
  | .popU x y p, st, Q => asOwn (st.lookup p) fun ys => ∃ xs u v, ys = xs ++ [.list [u, v]] ∧ Q (.next ((y, .val v) :: (x, .val u) :: (p, .own xs) :: st))
  | .own2c x n it, st, Q => evW F (rd st) it fun t d => d = 0 ∧ iterOk t ∧ ∃ items, itemsV t = some items ∧ items.length ≤ 1000 ∧ Q (.next ((x, .own2 (List.replicate items.length (List.replicate n (.int 0)))) :: st))
noncomputable def exs (F : Fenv) : Ss → St → (Out → Prop) → Prop
  | .nil, st, Q => Q (.next st)
  | .cons s ss, st, Q => ex1 F s st (contW (fun st' => exs F ss st' Q) Q)
end

/-! what a statement is in the small language -/
noncomputable def slotOf (sc : Scope) (names : List Str) (x : Str) : Option Nat :=
  if (x == ("__debug__" : Str)) || (x == ("__classdict__" : Str)) then none else
  match names.findIdx? (· == x) with
  | some i => if sc.names.lookup x == some .local || sc.names.lookup x == some .cell then some i else none
  | none => none
noncomputable def toSs : List S → Ss
  | [] => .nil
  | s :: ss => .cons s (toSs ss)
noncomputable def twice (owns : List Str) (x : Str) : Bool := decide (2 ≤ (owns.filter (· == x)).length)
section
variable {C : FC}
theorem slot_ok {x : Str} {i : Nat} (h : slotOf C.env.scope C.names x = some i) : Slot1 C i x ∧ (x == ("__debug__" : Str)) = false ∧ (x == ("__classdict__" : Str)) = false := by
  unfold slotOf at h
  split at h
  · cases h
  · rename_i hd
    simp only [Bool.or_eq_true, not_or, Bool.not_eq_true] at hd
    split at h
    · rename_i j hj
      obtain ⟨y, h1, h2⟩ := findIdx_some hj
      have : y = x := by simpa using h2
      subst this
      split at h
      · rename_i hk
        cases h
        have hk : C.env.kindOf y = some .local ∨ C.env.kindOf y = some .cell := by simpa [Env.kindOf] using hk
        refine ⟨⟨h1, ?_, ?_, fun e => C.cellOk _ e⟩, hd.1, hd.2⟩
        · rcases hk with e | e <;> rw [e] <;> rfl
        · rcases hk with e | e <;> rw [e] <;> simp
      · cases h
    · cases h

structure GoodS (C : FC) (s : Stmt) (s' : S) : Prop where
  ok : ∀ st Q, ex1 C.F s' st Q → SX C st s Q

theorem goodSs : ∀ {ss : List Stmt} {ss' : List S}, All2 (GoodS C) ss ss' → ∀ st Q, exs C.F (toSs ss') st Q → SW C st ss Q
  | _, _, .nil, st, Q, h => SW.nil h
  | _, _, .cons g gs, st, Q, h => by
    refine SW.cons (SX.mono (g.ok st _ h) fun o ho => ?_)
    cases o with
    | next st' => exact goodSs gs st' Q ho
    | _ => exact ho

end
noncomputable def TrS (F : Fenv) (sc : Scope) (ns : List Str) (owns : List Str) (s : Stmt) (s' : S) : Prop := ∀ C : FC, C.F = F → C.env.scope = sc → C.names = ns → GoodS C s s'
noncomputable def TrSs (F : Fenv) (sc : Scope) (ns : List Str) (owns : List Str) (ss : List Stmt) (l : List S) : Prop := ∀ C : FC, C.F = F → C.env.scope = sc → C.names = ns → All2 (GoodS C) ss l
section
variable {F : Fenv} {sc : Scope} {ns owns : List Str}
theorem TrSs.nil : TrSs F sc ns owns [] [] := fun C _ _ _ => .nil
theorem TrSs.cons {s ss a l} (h : TrS F sc ns owns s a) (hs : TrSs F sc ns owns ss l) : TrSs F sc ns owns (s :: ss) (a :: l) := fun C h1 h2 h3 => .cons (h C h1 h2 h3) (hs C h1 h2 h3)
theorem TrSs.of_all2 {ss l} (h : All2 (TrS F sc ns owns) ss l) : TrSs F sc ns owns ss l := fun C h1 h2 h3 => h.mono fun _ _ x => x C h1 h2 h3
theorem TrS.asg {x xp e p i e'} (_ : owns.contains x = false) (hc : SwE sc (.Name x xp) e) (hi : slotOf sc ns x = some i) (he : TrE F sc ns e e') : TrS F sc ns owns (.Assign [.Name x xp] e p) (.asg i e') := fun C h1 h2 h3 => by
  subst h1 h2 h3; exact ⟨fun st Q q => SX.asg (slot_ok hi).1 hc ((he _ _ C.FO).ev _ _ q)⟩
theorem TrS.own {x xp e p i e'} (_ : owns.contains x = true) (_ : twice owns x = false) (hc : SwE sc (.Name x xp) e) (hi : slotOf sc ns x = some i) (he : TrF F sc ns e e') : TrS F sc ns owns (.Assign [.Name x xp] e p) (.own i e') := fun C h1 h2 h3 => by
  subst h1 h2 h3; exact ⟨fun st Q q => SX.own (slot_ok hi).1 hc (he C rfl rfl rfl st _ q)⟩
theorem TrS.asgC {x xp elt gens scope lp p i e'} (hc : SwT sc (.Name x xp) (.ListComp elt gens scope lp)) (hi : slotOf sc ns x = some i) (he : TrC F sc ns elt gens scope lp e') : TrS F sc ns owns (.Assign [.Name x xp] (.ListComp elt gens scope lp) p) (.asg i e') := fun C h1 h2 h3 => by
  subst h1 h2 h3
  refine ⟨fun st Q q => SX.asgC (slot_ok hi).1 hc he.as (he.cj _ _ C.FO (rd st) (fun t d => d = 0 ∧ Q (.next ((i, .val t) :: st))) q |>.mono fun us q => q.2)⟩
theorem TrS.frz {x z s s'} (hz : ns.findIdx? (· == x) = some z) (h : TrS F sc ns owns s s') : TrS F sc ns owns s (.frz z s') := fun C h1 h2 h3 => by
  refine ⟨fun st Q q => ?_⟩
  obtain ⟨b, hb, q⟩ := asB_inv q
  exact SX.frz hb ((h C h1 h2 h3).ok _ _ q)
theorem TrS.frzA {x xp y yp p i z e'} (_ : owns.contains y = true) (_ : owns.contains x = false) (hz : ns.findIdx? (· == y) = some z) (hc : SwE sc (.Name x xp) (.Name y yp)) (hi : slotOf sc ns x = some i) (he : TrE F sc ns (.Name y yp) e') :
    TrS F sc ns owns (.Assign [.Name x xp] (.Name y yp) p) (.frz z (.asg i e')) := TrS.frz hz fun C h1 h2 h3 => by subst h1 h2 h3; exact ⟨fun st Q q => SX.asg (slot_ok hi).1 hc ((he _ _ C.FO).ev _ _ q)⟩
theorem TrS.newD {x xp dp p i} (hi : slotOf sc ns x = some i) : TrS F sc ns owns (.Assign [.Name x xp] (.Dict [] [] dp) p) (.newD i) := fun C h1 h2 h3 => by
  subst h1 h2 h3; exact ⟨fun st Q q => SX.newD (slot_ok hi).1 q⟩
theorem TrS.stoD {x xp ie sp e p i ie' e'} (_ : twice owns x = true) (hc : SwE sc (.Subscript (.Name x xp) ie sp) e) (hi : slotOf sc ns x = some i) (hie : TrE F sc ns ie ie') (he : TrE F sc ns e e') : TrS F sc ns owns (.Assign [.Subscript (.Name x xp) ie sp] e p) (.stoD i ie' e') := fun C h1 h2 h3 => by
  subst h1 h2 h3
  obtain ⟨sl', d1, c1⟩ := slot_ok hi
  refine ⟨fun st Q q => ?_⟩
  obtain ⟨ks, vs, hx, q⟩ := asOwnD_inv q
  exact SX.stoD sl'.at' d1 c1 hc hx (fun Q q => (hie _ _ C.FO).ev _ _ q) ((he _ _ C.FO).ev _ _ q)
theorem TrS.sto2 {x xp ie sp je sp2 e p i ie' je' e'} (hc : SwE sc (.Subscript (.Subscript (.Name x xp) ie sp) je sp2) e) (hi : slotOf sc ns x = some i) (hie : TrE F sc ns ie ie') (hje : TrE F sc ns je je') (he : TrE F sc ns e e') :
    TrS F sc ns owns (.Assign [.Subscript (.Subscript (.Name x xp) ie sp) je sp2] e p) (.sto2 i ie' je' e') := fun C h1 h2 h3 => by
  subst h1 h2 h3
  obtain ⟨sl', d1, c1⟩ := slot_ok hi
  refine ⟨fun st Q q => ?_⟩
  obtain ⟨xss, hx, q⟩ := asOwn2_inv q
  exact SX.sto2 sl'.at' d1 c1 hc hx (fun Q q => (hie _ _ C.FO).ev _ _ q) (fun Q q => (hje _ _ C.FO).ev _ _ q) ((he _ _ C.FO).ev _ _ q)
theorem TrS.popU {x xp y yp kt tp q pp ap cp p ix iy i} (hl : (ap.endLine == cp.line) = true) (hx : slotOf sc ns x = some ix) (hy : slotOf sc ns y = some iy) (hi : slotOf sc ns q = some i) :
    TrS F sc ns owns (.Assign [.Tuple [.Name x xp, .Name y yp] kt tp] (.Call (.Attribute (.Name q pp) ("pop" : Str) ap) [] [] cp) p) (.popU ix iy i) := fun C h1 h2 h3 => by
  subst h1 h2 h3
  obtain ⟨sl', d1, c1⟩ := slot_ok hi
  refine ⟨fun st Q q => ?_⟩
  obtain ⟨ys, hys, xs, u, v, e, q⟩ := asOwn_inv q
  exact SX.popU (slot_ok hx).1 (slot_ok hy).1 sl'.at' d1 c1 hl (e ▸ hys) q
theorem TrS.own2c {x y i xp pos lp py p1 p2 l2 bp k1 k2 iter scope it'} {n : Nat} {c : Int} (_ : owns.contains x = true) (hcn : c = (n : Int)) (hsc : compSc scope sc ns [y] = true) (hset : FsE iter)
    (hc : SwT sc (.Name x xp) (.ListComp (.BinOp (.List [.Constant (.int 0) k1 p1] l2) .Mult (.Constant (.int c) k2 p2) bp) [⟨.Name y py, iter, [], 0⟩] scope lp)) (hi : slotOf sc ns x = some i) (hn : n ≤ 1000) (hit : TrE F sc ns iter it') :
    TrS F sc ns owns (.Assign [.Name x xp] (.ListComp (.BinOp (.List [.Constant (.int 0) k1 p1] l2) .Mult (.Constant (.int c) k2 p2) bp) [⟨.Name y py, iter, [], 0⟩] scope lp) pos) (.own2c i n it') := fun C h1 h2 h3 => by
  subst h1 h2 h3 hcn; exact ⟨fun st Q q => SX.own2c hsc hset (slot_ok hi).1 hc hn ((hit _ _ C.FO).ev _ _ q)⟩
theorem TrS.app {x xp ap je cp p i j'} (hl : (ap.endLine == cp.line) = true) (hi : slotOf sc ns x = some i) (hj : TrE F sc ns je j') : TrS F sc ns owns (.Expr (.Call (.Attribute (.Name x xp) ("append" : Str) ap) [je] [] cp) p) (.app i j') := fun C h1 h2 h3 => by
  subst h1 h2 h3
  obtain ⟨sl', d1, c1⟩ := slot_ok hi
  refine ⟨fun st Q q => ?_⟩
  obtain ⟨xs, hx, q⟩ := asOwn_inv q
  exact SX.app sl'.at' d1 c1 hl (hj _ _ C.FO).ns hx ((hj _ _ C.FO).ev _ _ q)
theorem TrS.sto {x xp ie sp e p i ie' e'} (hc : SwE sc (.Subscript (.Name x xp) ie sp) e) (hi : slotOf sc ns x = some i) (hie : TrE F sc ns ie ie') (he : TrE F sc ns e e') : TrS F sc ns owns (.Assign [.Subscript (.Name x xp) ie sp] e p) (.sto i ie' e') := fun C h1 h2 h3 => by
  subst h1 h2 h3
  obtain ⟨sl', d1, c1⟩ := slot_ok hi
  refine ⟨fun st Q q => ?_⟩
  obtain ⟨xs, hx, q⟩ := asOwn_inv q
  exact SX.sto sl'.at' d1 c1 hc hx (fun Q q => (hie _ _ C.FO).ev _ _ q) ((he _ _ C.FO).ev _ _ q)
theorem TrS.swap {x xp y yp k1 tp p1 p2 k2 vp p i j} (hne : x ≠ y) (hkx : sc.names.lookup x = some .local) (hky : sc.names.lookup y = some .local) (hl : yp.line = xp.line) (hi : slotOf sc ns x = some i) (hj : slotOf sc ns y = some j) :
    TrS F sc ns owns (.Assign [.Tuple [.Name x xp, .Name y yp] k1 tp] (.Tuple [.Name y p1, .Name x p2] k2 vp) p) (.swap i j) := fun C h1 h2 h3 => by
  subst h1 h2 h3
  obtain ⟨sl, d1, c1⟩ := slot_ok hi
  obtain ⟨sl', d2, c2⟩ := slot_ok hj
  refine ⟨fun st Q q => ?_⟩
  obtain ⟨a, ha, q⟩ := asVal_inv q
  obtain ⟨b, hb, q⟩ := asVal_inv q
  exact SX.swap sl sl' hne hkx hky hl d1 d2 c1 c2 ha hb q.1 q.2.1 q.2.2
theorem TrS.asg2 {x xp y yp e p i j e'} (hi : slotOf sc ns x = some i) (hj : slotOf sc ns y = some j) (he : TrE F sc ns e e') : TrS F sc ns owns (.Assign [.Name x xp, .Name y yp] e p) (.asg2 i j e') := fun C h1 h2 h3 => by
  subst h1 h2 h3; exact ⟨fun st Q q => SX.asg2 (slot_ok hi).1 (slot_ok hj).1 ((he _ _ C.FO).ev _ _ q)⟩
theorem TrS.aug {x xp op e p i e'} (hi : slotOf sc ns x = some i) (he : TrE F sc ns e e') : TrS F sc ns owns (.AugAssign (.Name x xp) op e p) (.aug op i e') := fun C h1 h2 h3 => by
  subst h1 h2 h3
  obtain ⟨sl, d1, c1⟩ := slot_ok hi
  refine ⟨fun st Q q => ?_⟩
  obtain ⟨t, ht, q⟩ := asVal_inv q
  exact SX.aug sl c1 ht q.1 ((he _ _ C.FO).ev _ _ q.2)
theorem TrS.augS {x xp ie sp op e p i ie' e'} (hs : AuE ie) (hi : slotOf sc ns x = some i) (hie : TrE F sc ns ie ie') (he : TrE F sc ns e e') : TrS F sc ns owns (.AugAssign (.Subscript (.Name x xp) ie sp) op e p) (.augS op i ie' e') := fun C h1 h2 h3 => by
  subst h1 h2 h3
  obtain ⟨sl, d1, c1⟩ := slot_ok hi
  refine ⟨fun st Q q => ?_⟩
  obtain ⟨xs, hx, q⟩ := asOwn_inv q
  exact SX.augS sl.at' d1 c1 hs hx (fun Q q => (he _ _ C.FO).ev _ _ q) ((hie _ _ C.FO).ev _ _ q)
theorem TrS.ifs {t a b p t' a' b'} (ht : TrE F sc ns t t') (ha : TrSs F sc ns owns a a') (hb : TrSs F sc ns owns b b') : TrS F sc ns owns (.If t a b p) (.ifs t' (toSs a') (toSs b')) := fun C h1 h2 h3 => by
  subst h1 h2 h3
  refine ⟨fun st Q q => SX.ifs fun A env bad bc s hA R => wp_no ((ht _ _ C.FO).tv _ _ q A env bad bc s hA R) fun c s1 ⟨x1, q1⟩ => ⟨x1, ?_⟩⟩
  cases c with
  | true => exact goodSs (ha C rfl rfl rfl) _ _ q1
  | false => exact goodSs (hb C rfl rfl rfl) _ _ q1
theorem TrS.whl {t b p t' b'} (ht : TrE F sc ns t t') (hb : TrSs F sc ns owns b b') : TrS F sc ns owns (.While t b [] p) (.whl t' (toSs b')) := fun C h1 h2 h3 => by
  subst h1 h2 h3
  refine ⟨fun st Q q => ?_⟩
  obtain ⟨I, h0, turn⟩ := q
  refine SX.whl I h0 fun n st' hI A env bad bc s hA R => wp_no ((ht _ _ C.FO).tv _ _ (turn n st' hI) A env bad bc s hA R) fun c s1 ⟨x1, q1⟩ => ⟨x1, ?_⟩
  cases c with
  | true => exact goodSs (hb C rfl rfl rfl) _ _ q1
  | false => exact q1
theorem TrS.fr {x xp it b p i it' b'} (hs : FsE it) (hi : slotOf sc ns x = some i) (hit : TrE F sc ns it it') (hb : TrSs F sc ns owns b b') : TrS F sc ns owns (.For (.Name x xp) it b [] p) (.fr i it' (toSs b')) := fun C h1 h2 h3 => by
  subst h1 h2 h3
  refine ⟨fun st Q q => SX.for (slot_ok hi).1 (hs _) fun A env bad bc s hA R => wp_no ((hit _ _ C.FO).ev _ _ q A env bad bc s hA R) fun v s1 ⟨x1, t, d, ⟨hd, ho, items, hi2, I, h0, turn, fin⟩, r⟩ =>
    ⟨x1, t, d, ⟨hd, ho, items, hi2, I, h0, fun j st' v hv hI => goodSs (hb C rfl rfl rfl) _ _ (turn j st' v hv hI), fin⟩, r⟩⟩
theorem TrS.ret {e p e'} (he : TrE F sc ns e e') : TrS F sc ns owns (.Return (some e) p) (.ret e') := fun C h1 h2 h3 => by
  subst h1 h2 h3; exact ⟨fun st Q q => SX.ret ((he _ _ C.FO).ev _ _ q)⟩
end
end Mine
end

-- part M15
section
open PySem PySem.Calls PyProof.Rows
set_option linter.unusedVariables false
namespace Mine

theorem bindL_out {kd : Str → Option NameKind} {x : Str} : ∀ {ps : List Str} {vs : List Value} {m : Str → Option Value}, x ∉ ps → bindL kd (ps.zip vs) m x = m x
  | [], _, _, _ => rfl
  | p :: ps, [], _, _ => rfl
  | p :: ps, v :: vs, m, h => by
    simp only [List.zip_cons_cons, bindL]
    rw [bindL_out (fun q => h (List.mem_cons_of_mem _ q))]
    split
    · have : x ≠ p := fun e => h (e ▸ List.mem_cons_self)
      simp [this]
    · rfl
theorem bindC_out {kd : Str → Option NameKind} {x : Str} : ∀ {ps : List Str} {vs : List Value} {m : Str → Option Value}, x ∉ ps → bindC kd (ps.zip vs) m x = m x
  | [], _, _, _ => rfl
  | p :: ps, [], _, _ => rfl
  | p :: ps, v :: vs, m, h => by
    simp only [List.zip_cons_cons, bindC]
    rw [bindC_out (fun q => h (List.mem_cons_of_mem _ q))]
    split
    · rfl
    · have : x ≠ p := fun e => h (e ▸ List.mem_cons_self)
      simp [this]
theorem bindL_at {kd : Str → Option NameKind} {x : Str} (hk : kd x = some .local) : ∀ {ps : List Str} {vs : List Value} {m : Str → Option Value} {i : Nat} {v : Value}, ps.Nodup → ps[i]? = some x → vs[i]? = some v → bindL kd (ps.zip vs) m x = some v
  | [], _, _, _, _, _, h, _ => by simp at h
  | p :: ps, [], _, _, _, _, _, h => by simp at h
  | p :: ps, v :: vs, m, 0, u, hn, h1, h2 => by
    simp at h1 h2; subst h1 h2
    simp only [List.zip_cons_cons, bindL]
    rw [bindL_out (List.nodup_cons.mp hn).1, if_pos hk]; simp
  | p :: ps, v :: vs, m, i + 1, u, hn, h1, h2 => by
    simp only [List.zip_cons_cons, bindL]
    exact bindL_at hk (List.nodup_cons.mp hn).2 (by simpa using h1) (by simpa using h2)
theorem bindC_at {kd : Str → Option NameKind} {x : Str} (hk : kd x ≠ some .local) : ∀ {ps : List Str} {vs : List Value} {m : Str → Option Value} {i : Nat} {v : Value}, ps.Nodup → ps[i]? = some x → vs[i]? = some v → bindC kd (ps.zip vs) m x = some v
  | [], _, _, _, _, _, h, _ => by simp at h
  | p :: ps, [], _, _, _, _, _, h => by simp at h
  | p :: ps, v :: vs, m, 0, u, hn, h1, h2 => by
    simp at h1 h2; subst h1 h2
    simp only [List.zip_cons_cons, bindC]
    rw [bindC_out (List.nodup_cons.mp hn).1, if_neg hk]; simp
  | p :: ps, v :: vs, m, i + 1, u, hn, h1, h2 => by
    simp only [List.zip_cons_cons, bindC]
    exact bindC_at hk (List.nodup_cons.mp hn).2 (by simpa using h1) (by simpa using h2)

noncomputable def varsOf (sc : Scope) : List Str := (sc.names.filter fun p => p.2 == .local || p.2 == .cell).map (·.1)
noncomputable def initFrom : Nat → List V → St
  | _, [] => []
  | i, t :: ts => (i, .val t) :: initFrom (i + 1) ts
theorem initFrom_lookup : ∀ {ts : List V} {i j : Nat} {b : B}, (initFrom i ts).lookup j = some b → ∃ t, b = .val t ∧ i ≤ j ∧ ts[j - i]? = some t
  | [], _, _, _, h => by cases h
  | t :: ts, i, j, b, h => by
    unfold initFrom at h
    rw [List.lookup_cons] at h
    split at h
    · rename_i e
      have : j = i := by simpa using e
      subst this
      cases h
      exact ⟨t, rfl, Nat.le_refl _, by simp⟩
    · rename_i e
      have hne : j ≠ i := by simpa using e
      obtain ⟨u, h1, h2, h3⟩ := initFrom_lookup h
      refine ⟨u, h1, by omega, ?_⟩
      have : j - i = (j - (i + 1)) + 1 := by omega
      rw [this]; simpa using h3

noncomputable def retOut (Q : V → Prop) : Out → Prop
  | .ret t => Q t
  | .next _ => Q .none
  | _ => False

/-- what may be looked up about a def, by computation -/
noncomputable def defOk (fd : FuncData) (params : List Str) : Bool :=
  let names := varsOf fd.scope
  decide names.Nodup && decide (names.take params.length = params) && (params.all fun p => fd.scope.names.lookup p == some .local || fd.scope.names.lookup p == some .cell) &&
  fd.scope.kind == .function && !fd.scope.isCoroutine && !fd.scope.isGenerator && fd.closure.isEmpty && fd.globals == mainGlobals && fd.builtins == builtinsNs

theorem FnOk.of {T : GT} {k : Nat} {F : Fenv} {a : Addr} {o : Obj} {fd : FuncData} {body : List Stmt} {params owns : List Str} {ss : List S} {sp : Spec} (FO : FOk T k F)
    (ho : T.h0.get? a = some o) (hdata : o.data = .func fd) (hcd : T.h0.CodeRec fd.code fd.qualname) (hbody : fd.body = .stmts body)
    (hbind : ∀ vals : List Value, vals.length = params.length → bindArgs fd ⟨vals, []⟩ = pure (params.zip vals)) (hok : defOk fd params = true)
    (htr : TrSs F fd.scope (varsOf fd.scope) owns body ss)
    (hsp : ∀ ts Q, sp ts Q → ts.length = params.length ∧ exs F (toSs ss) (initFrom 0 ts) (retOut Q)) : FnOk T (k + 1) (.ref a) sp := by
  intro A s bad vs ts Q hA hbase hbad hr hs
  obtain ⟨hlen, hex⟩ := hsp ts Q hs
  simp only [defOk, Bool.and_eq_true, decide_eq_true_eq, beq_iff_eq, Bool.not_eq_true', List.isEmpty_iff] at hok
  obtain ⟨⟨⟨⟨⟨⟨⟨⟨hnd, htake⟩, hall⟩, hk⟩, hco⟩, hgen⟩, hclo⟩, hglo⟩, hblt⟩ := hok
  have hvl := hr.length
  have hpn : params.Nodup := by rw [← htake]; exact hnd.sublist (List.take_sublist _ _)
  have kinds : ∀ p ∈ params, fd.scope.names.lookup p = some .local ∨ fd.scope.names.lookup p = some .cell := fun p hp => by
    have := List.all_eq_true.mp hall p hp
    simpa using this
  refine wpAny_call (codeAny_call_cells (by have := hA.2.1; omega) (hbase _ _ ho) hdata (T.lim.keeps hbase) (hcd.keeps hbase) hbody (hbind vs (by omega)) hclo (fun x hx => ?_) (fun s₁ IC => ?_) hco hgen hk)
  · have hx : x.1 ∈ params := (List.of_mem_zip hx).1
    rcases kinds _ hx with h | h
    · exact .inl h
    · exact .inr ⟨h, cells_some h⟩
  obtain ⟨x0, hcell, hapart, habove⟩ := IC
  obtain ⟨⟨h1, t1, e1⟩, hns, hkeep, hfresh⟩ := x0
  let env := callEnvC fd s.heap.objs.size a
  have henv : env = callEnvC fd s.heap.objs.size a := rfl
  have hL : env.locals = s.heap.objs.size := rfl
  have hsc : env.scope = fd.scope := rfl
  let C : FC := ⟨T, k, F, env, varsOf fd.scope, A.deeper env, hA.deeper, FO, hk, hglo, hblt, hnd,
    fun n n' c h h' => name_of_addr hapart (mem_of_lookup h) (mem_of_lookup h'), fun n h => Nat.lt_irrefl _ (habove n _ (mem_of_lookup h)), fun nm h => cells_some h⟩
  have k1 : Keeps s.heap s₁.heap := fun b o e => hkeep b o e
  have newA : ∀ c, s.heap.objs.size ≤ c → T.h0.get? c = none ∧ ¬ bad c := fun c hc => by
    refine ⟨?_, fun hb => ?_⟩
    · cases e : T.h0.get? c with
      | none => rfl
      | some o => exact absurd (Heap.lt_size (hbase c o e)) (Nat.not_lt.mpr hc)
    · exact absurd (hbad c hb).1.lt (Nat.not_lt.mpr hc)
  have mutNew : ∀ c, Mut C (fun _ => []) c → s.heap.objs.size ≤ c := fun c hm => by
    rcases hm with h | ⟨n, h⟩ | ⟨i, h⟩
    · exact Nat.le_of_eq (h ▸ rfl)
    · exact Nat.le_of_lt (habove n _ (mem_of_lookup h))
    · cases h
  have S : Sim C bad (initFrom 0 ts) (fun _ => []) s₁ := by
    refine ⟨fun b o e => k1 b o (hbase b o e), fun c hc => ⟨(hbad c hc).1.keeps k1, (hbad c hc).2⟩, newA _ (Nat.le_refl _), fun n c hc => newA c (Nat.le_of_lt (habove n _ (mem_of_lookup hc))), fun i c hc => (by cases hc), fun i j _ c hc => (by cases hc), fun i => List.nodup_nil,
      _, _, ⟨hns, fun n c hc => hcell n c hc⟩, fun i b hb => ?_⟩
    obtain ⟨t, rfl, _, ht⟩ := initFrom_lookup hb
    have ht : ts[i]? = some t := by simpa using ht
    obtain ⟨v, hv, hrv⟩ := hr.get ht
    have hi : i < params.length := by have := (List.getElem?_eq_some_iff.mp ht).1; omega
    obtain ⟨p, hp⟩ : ∃ p, params[i]? = some p := ⟨_, List.getElem?_eq_getElem hi⟩
    have hnp : (varsOf fd.scope)[i]? = some p := by
      have : (varsOf fd.scope)[i]? = ((varsOf fd.scope).take params.length)[i]? := by rw [List.getElem?_take_of_lt hi]
      rw [this, htake]; exact hp
    refine ⟨p, v, hnp, ?_, hrv.mono fun c o ⟨e, n⟩ => ⟨k1 c o e, fun hb => ?_⟩⟩
    · unfold valAt
      rcases kinds p (List.mem_of_getElem? hp) with h | h
      · have h' : env.kindOf p = some .local := h
        show (match env.kindOf p with | some .local => _ | some .cell => _ | some .free => _ | _ => _) = _
        rw [h']
        exact bindL_at (kd := env.kindOf) h' hpn hp hv
      · have h' : env.kindOf p = some .cell := h
        show (match env.kindOf p with | some .local => _ | some .cell => _ | some .free => _ | _ => _) = _
        rw [h']
        have hc : (env.cells.lookup p).isSome = true := cells_some h
        show (if (env.cells.lookup p).isSome = true then _ else _) = _
        rw [if_pos hc]
        exact bindC_at (kd := env.kindOf) (by rw [h']; decide) hpn hp hv
    · rcases hb with q | q
      · exact n q
      · exact Nat.lt_irrefl _ (Nat.lt_of_lt_of_le (Heap.lt_size e) (mutNew c q))
  have W := goodSs (C := C) (htr C rfl rfl rfl) _ _ hex bad _ s₁ S
  refine wp_no W fun f s' ⟨⟨⟨h2, t2, e2⟩, fr⟩, po⟩ => ?_
  have ext : Ext s s' := by
    rw [e2, e1]
    refine ⟨h2, t2, rfl, fun b o e => ?_⟩
    have := fr b o (k1 b o e) fun hm => Nat.lt_irrefl _ (Nat.lt_of_lt_of_le (Heap.lt_size e) (mutNew b hm))
    rw [e2] at this; exact this
  cases f with
  | next => obtain ⟨st', ad', q, _, _⟩ := po; exact ⟨ext, .none, q, .none⟩
  | brk => obtain ⟨st', ad', q, _, _⟩ := po; exact q.elim
  | cont => obtain ⟨st', ad', q, _, _⟩ := po; exact q.elim
  | ret v => obtain ⟨t, q, r⟩ := po; exact ⟨ext, t, q, r⟩
end Mine
end

-- part M16
section
open PySem PySem.Calls
set_option linter.unusedVariables false
namespace Mine
theorem subOk1 {T : GT} {pa : Addr} (P : Rx.Pat T.h0 pa Rx.code1) : SubOk T pa [46, 46] (Rx.dotL true) := fun A s pos ta tb Q k h => by
  have := Rx.method_sub (prog := T.prog) (w := T.w) (A := A) (E := No) (pos := pos) (ta := ta) (tb := tb) (Q := Q) (find := Rx.find1) (r := [46, 46]) (fun t hz => Rx.finds1 t hz) rfl (by decide) (P.keeps k) (by
    refine wpAny_mono h (fun va s1 h1 => wpAny_mono h1 (fun vb s2 ⟨ru, x, u, e1, e2, hz, X, q⟩ => ⟨ru, x, u, e1, e2, hz, X, ?_⟩) fun _ _ e => e) fun _ _ e => e
    rw [Rx.sub1_ok]; exact q)
  exact this
theorem subOk2 {T : GT} {pa : Addr} (P : Rx.Pat T.h0 pa Rx.code2) : SubOk T pa [13, 10] Rx.norm2 := fun A s pos ta tb Q k h => by
  have := Rx.method_sub (prog := T.prog) (w := T.w) (A := A) (E := No) (pos := pos) (ta := ta) (tb := tb) (Q := Q) (find := Rx.find2) (r := [13, 10]) (fun t hz => Rx.finds2 t) rfl (by decide) (P.keeps k) (by
    refine wpAny_mono h (fun va s1 h1 => wpAny_mono h1 (fun vb s2 ⟨ru, x, u, e1, e2, hz, X, q⟩ => ⟨ru, x, u, e1, e2, hz, X, ?_⟩) fun _ _ e => e) fun _ _ e => e
    rw [Rx.sub2_ok]; exact q)
  exact this
end Mine
end

-- part V1
section
open PySem PySem.Calls PyProof.Rows
set_option linter.unusedVariables false
namespace Mine
/-! comprehensions in conditions -/
theorem compG_filter {α : Type} {pc : α → BP} {pe : α → VP} (p : α → Bool) (f : α → V) : ∀ (items : List α) (K : List V → Prop), (∀ v ∈ items, ∀ K', K' (p v) → pc v K') → (∀ v ∈ items, p v = true → ∀ Q : V → Nat → Prop, Q (f v) 0 → pe v Q) →
    K ((items.filter p).map f) → compG pc pe items K
  | [], K, _, _, k => k
  | v :: items, K, h1, h2, k => by
    have ih := compG_filter (pc := pc) (pe := pe) p f items
    show pc v fun b => if b = true then pe v fun u du => du = 0 ∧ compG pc pe items (fun us => K (u :: us)) else compG pc pe items K
    refine h1 v List.mem_cons_self _ ?_
    rw [List.filter_cons] at k
    cases hp : p v with
    | true =>
      rw [if_pos rfl]
      rw [if_pos hp] at k
      exact h2 v List.mem_cons_self hp _ ⟨rfl, ih _ (fun w hw => h1 w (List.mem_cons_of_mem _ hw)) (fun w hw => h2 w (List.mem_cons_of_mem _ hw)) k⟩
    | false =>
      rw [if_neg (by decide)]
      rw [if_neg (by rw [hp]; decide)] at k
      exact ih _ (fun w hw => h1 w (List.mem_cons_of_mem _ hw)) (fun w hw => h2 w (List.mem_cons_of_mem _ hw)) k
theorem compG_map {α : Type} {pc : α → BP} {pe : α → VP} (f : α → V) (items : List α) (K : List V → Prop) (h1 : ∀ v ∈ items, ∀ K', K' true → pc v K') (h2 : ∀ v ∈ items, ∀ Q : V → Nat → Prop, Q (f v) 0 → pe v Q)
    (k : K (items.map f)) : compG pc pe items K :=
  compG_filter (fun _ => true) f items K h1 (fun v hv _ => h2 v hv) (by
    have : items.filter (fun _ => true) = items := List.filter_eq_self.mpr fun _ _ => rfl
    rw [this]; exact k)

/-! lists under map -/
theorem map_getD {α β : Type} (f : α → β) (l : List α) (i : Nat) (a : α) (b : β) (h : i < l.length) : (l.map f).getD i b = f (l.getD i a) := by
  rw [List.getD_eq_getElem?_getD, List.getD_eq_getElem?_getD, List.getElem?_map, List.getElem?_eq_getElem h]; rfl
theorem range_getD {α : Type} (f : Nat → α) {n i : Nat} (h : i < n) (d : α) : ((List.range n).map f).getD i d = f i := by
  rw [List.getD_eq_getElem?_getD, List.getElem?_map, List.getElem?_range h]; rfl
abbrev vN (n : Nat) : V := .int (n : Int)
/-- in and not in, on lists of whole numbers -/
theorem strsOf_map : ∀ l : List (List Nat), strsOf (l.map .str) = some l
  | [] => rfl
  | x :: l => by
    show (some x).bind (fun s => (strsOf (l.map V.str)).map fun l => s :: l) = _
    rw [strsOf_map l]; rfl
theorem idx_map {α : Type} {f : α → V} {l : List α} {d i : Nat} {Q : V → Nat → Prop} (a : α) (h : i < l.length) (q : Q (f (l.getD i a)) (d - 1)) : idxW (.list (l.map f)) d (vN i) Q := by
  show -(((l.map f).length : Nat) : Int) ≤ (i : Int) ∧ (i : Int) < ((l.map f).length : Nat) ∧ Q ((l.map f).getD (pix (i : Int) (l.map f).length) .none) (d - 1)
  rw [List.length_map, pix_pos (by lia), Int.toNat_natCast, map_getD f l i a .none h]
  exact ⟨by lia, by lia, q⟩
end Mine
end

-- part W1
section
open PySem PySem.Calls PyProof.Rows
set_option linter.unusedVariables false
set_option linter.unusedSimpArgs false
set_option maxRecDepth 100000
namespace Mine
/-! what an expression comes to, told as a judgement -/
noncomputable def EvD (F : Fenv) (r : Rv) (e : E) (t : V) (d : Nat) : Prop := ∀ Q : V → Nat → Prop, Q t d → evW F r e Q
abbrev Ev (F : Fenv) (r : Rv) (e : E) (t : V) : Prop := EvD F r e t 0
noncomputable def Tv (F : Fenv) (r : Rv) (e : E) (b : Bool) : Prop := ∀ Q : Bool → Prop, Q b → tsW F r e Q
noncomputable def EvS (F : Fenv) (r : Rv) (es : Es) (ts : List (V × Nat)) : Prop := ∀ Q : List (V × Nat) → Prop, Q ts → sems F r es Q
section
variable {F : Fenv} {r : Rv} {st : St} {Q : Out → Prop}
theorem Ev.lit (v : V) : Ev F r (.lit v) v := fun _ q => q
theorem EvD.var {i : Nat} {t : V} {d : Nat} (h : r.lookup i = some (t, d)) : EvD F r (.var i) t d := fun Q q => by
  show (match r.lookup i with | some (t, d) => Q t d | none => False)
  rw [h]; exact q
theorem EvD.bin {op : Operator} {a b : E} {x y z : V} {dx dy dz : Nat} (ha : EvD F r a x dx) (hb : EvD F r b y dy) (h : ∀ Q : V → Nat → Prop, Q z dz → binW op x dx y dy Q) : EvD F r (.bin op a b) z dz :=
  fun Q q => ha _ (hb _ (h _ q))
theorem Ev.add {a b : E} {x y : Int} (ha : Ev F r a (.int x)) (hb : Ev F r b (.int y)) : Ev F r (.bin .Add a b) (.int (x + y)) := EvD.bin ha hb fun _ q => q
theorem Ev.sub {a b : E} {x y : Int} (ha : Ev F r a (.int x)) (hb : Ev F r b (.int y)) : Ev F r (.bin .Sub a b) (.int (x - y)) := EvD.bin ha hb fun _ q => q
theorem Ev.mul {a b : E} {x y : Int} (h : x.natAbs < 2 ^ 60) (ha : Ev F r a (.int x)) (hb : Ev F r b (.int y)) : Ev F r (.bin .Mult a b) (.int (x * y)) := EvD.bin ha hb fun _ q => ⟨h, q⟩
theorem Ev.mod {a b : E} {x y : Int} (h : 0 < y) (ha : Ev F r a (.int x)) (hb : Ev F r b (.int y)) : Ev F r (.bin .Mod a b) (.int (x % y)) := EvD.bin ha hb fun _ q => ⟨h, q⟩
theorem Ev.div {a b : E} {x y : Int} (h : 0 < y) (h' : y < 1000000000) (ha : Ev F r a (.int x)) (hb : Ev F r b (.int y)) : Ev F r (.bin .FloorDiv a b) (.int (x / y)) := EvD.bin ha hb fun _ q => ⟨h, h', q⟩
theorem Ev.cat {a b : E} {x y : List Nat} (h : x.length + y.length ≤ 1000000) (ha : Ev F r a (.str x)) (hb : Ev F r b (.str y)) : Ev F r (.bin .Add a b) (.str (x ++ y)) := EvD.bin ha hb fun _ q => ⟨h, q⟩
theorem Ev.lcat {a b : E} {x y : List V} {dx dy : Nat} (h1 : dx ≤ 1) (h2 : dy ≤ 1) (h : x.length + y.length ≤ 10000) (ha : EvD F r a (.list x) dx) (hb : EvD F r b (.list y) dy) : Ev F r (.bin .Add a b) (.list (x ++ y)) :=
  EvD.bin ha hb fun _ q => ⟨h1, h2, h, q⟩
theorem EvD.cmp {op : CmpOp} {a b : E} {x y : V} {c : Bool} {dx dy : Nat} (ha : EvD F r a x dx) (hb : EvD F r b y dy) (h : ∀ Q : V → Nat → Prop, Q (.bool c) 0 → cmpW op x y Q) : Ev F r (.cmp op a b) (.bool c) :=
  fun Q q => ha _ (hb _ (h _ q))
theorem EvD.idx {a i : E} {x y z : V} {dx dy dz : Nat} (ha : EvD F r a x dx) (hi : EvD F r i y dy) (h : ∀ Q : V → Nat → Prop, Q z dz → idxW x dx y Q) : EvD F r (.idx a i) z dz := fun Q q => ha _ (hi _ (h _ q))
theorem EvD.at {α : Type} {f : α → V} {l : List α} {a i : E} {n dx dy : Nat} (d : α) (h : n < l.length) (ha : EvD F r a (.list (l.map f)) dx) (hi : EvD F r i (vN n) dy) : EvD F r (.idx a i) (f (l.getD n d)) (dx - 1) :=
  EvD.idx ha hi fun _ q => idx_map d h q
theorem EvD.sl {a lo hi : E} {x l u z : V} {dx dl du : Nat} (ha : EvD F r a x dx) (hl : EvD F r lo l dl) (hu : EvD F r hi u du) (h : ∀ Q : V → Nat → Prop, Q z 0 → slW x dx l u Q) : Ev F r (.sl a lo hi) z :=
  fun Q q => ha _ (hl _ (hu _ (h _ q)))
theorem EvS.nil : EvS F r .nil [] := fun _ q => q
theorem EvS.cons {e : E} {es : Es} {t : V} {d : Nat} {ts : List (V × Nat)} (h : EvD F r e t d) (hs : EvS F r es ts) : EvS F r (.cons e es) ((t, d) :: ts) := fun _ q => h _ (hs _ q)
theorem Ev.list {es : Es} {ts : List (V × Nat)} (h : EvS F r es ts) (hz : allZ ts) (hl : ts.length ≤ 10000) : Ev F r (.list es) (.list (ts.map (·.1))) := fun _ q => h _ ⟨hz, hl, q⟩
theorem Ev.tup {es : Es} {ts : List (V × Nat)} (h : EvS F r es ts) (hz : allZ ts) (hl : ts.length ≤ 10000) : Ev F r (.tup es) (.tup (ts.map (·.1))) := fun _ q => h _ ⟨hz, hl, q⟩
theorem Ev.call {f : Nat} {es : Es} {ts : List (V × Nat)} {t : V} (h : EvS F r es ts) (hz : allZ ts) (hs : ∀ Q : V → Prop, Q t → specAt F f (ts.map (·.1)) Q) : Ev F r (.call f es) t := fun Q q => h _ ⟨hz, hs (fun t => Q t 0) q⟩
theorem EvD.bi {b : Bi} {es : Es} {ts : List (V × Nat)} {t : V} {d : Nat} (h : EvS F r es ts) (hs : ∀ Q : V → Nat → Prop, Q t d → biW b ts Q) : EvD F r (.bi b es) t d := fun Q q => h _ (hs _ q)
theorem EvD.me0 {m : Me} {o : E} {x t : V} {dx d : Nat} (h : EvD F r o x dx) (hs : ∀ Q : V → Nat → Prop, Q t d → me0W m x dx Q) : EvD F r (.me0 m o) t d := fun Q q => h _ (hs _ q)
theorem EvD.me1 {m : Me} {o a : E} {x y t : V} {dx dy d : Nat} (h : EvD F r o x dx) (hm : meOk m x = true) (ha : EvD F r a y dy) (hs : ∀ Q : V → Nat → Prop, Q t d → me1W m x dx y dy Q) : EvD F r (.me1 m o a) t d := fun Q q => h _ ⟨hm, ha _ (hs _ q)⟩
theorem EvD.ife {t a b : E} {c : Bool} {x : V} {d : Nat} (ht : Tv F r t c) (ha : c = true → EvD F r a x d) (hb : c = false → EvD F r b x d) : EvD F r (.ife t a b) x d := fun Q q => by
  refine ht _ ?_
  cases c with
  | true => exact ha rfl _ q
  | false => exact hb rfl _ q
theorem Ev.not {a : E} {c : Bool} (h : Tv F r a c) (ha : ∀ Q : Bool → Prop, tsW F r a Q → evW F r a fun x _ => truthW x Q) : Ev F r (.notE a) (.bool (!c)) := fun Q q => ha (fun b => Q (.bool (!b)) 0) (h _ q)
theorem Tv.not {a : E} {c : Bool} (h : Tv F r a c) : Tv F r (.notE a) (!c) := fun Q q => h _ q
theorem Tv.cmp {op : CmpOp} {a b : E} {c : Bool} (h : Ev F r (.cmp op a b) (.bool c)) : Tv F r (.cmp op a b) c := fun Q q => h (fun t _ => truthW t Q) q
theorem Tv.call {f : Nat} {es : Es} {c : Bool} (h : Ev F r (.call f es) (.bool c)) : Tv F r (.call f es) c := fun Q q => h (fun t _ => truthW t Q) q
theorem Tv.lit (c : Bool) : Tv F r (.lit (.bool c)) c := fun Q q => q
theorem Tv.and {a b : E} {x y : Bool} (ha : Tv F r a x) (hb : x = true → Tv F r b y) : Tv F r (.bop .And a b) (x && y) := fun Q q => ha _ (by
  cases x with
  | true => exact (if_pos rfl).mpr (hb rfl _ q)
  | false => exact (if_neg (by decide)).mpr q)
theorem Tv.or {a b : E} {x y : Bool} (ha : Tv F r a x) (hb : x = false → Tv F r b y) : Tv F r (.bop .Or a b) (x || y) := fun Q q => ha _ (by
  cases x with
  | false => exact (if_pos rfl).mpr (hb rfl _ q)
  | true => exact (if_neg (by decide)).mpr q)
/-- comprehensions -/
theorem Ev.compM {it c e : E} {i : Nat} {t : V} {items : List V} (f : V → V) (h : Ev F r it t) (ho : iterOk t) (hi : itemsV t = some items) (hl : items.length ≤ 10000)
    (hc : ∀ v ∈ items, Tv F ((i, v, 0) :: r) c true) (he : ∀ v ∈ items, Ev F ((i, v, 0) :: r) e (f v)) : Ev F r (.comp it i c e) (.list (items.map f)) := fun Q q =>
  h _ ⟨rfl, ho, items, hi, hl, compG_map f items (fun us => Q (.list us) 0) (fun v hv K' k => hc v hv _ k) (fun v hv Q k => he v hv _ k) q⟩
/-- a comprehension over three items -/
theorem compG_three {α : Type} {pc : α → BP} {pe : α → VP} {a b c : α} {x y z : V} {K : List V → Prop} (h1 : ∀ v K', K' true → pc v K') (ha : ∀ Q : V → Nat → Prop, Q x 0 → pe a Q) (hb : ∀ Q : V → Nat → Prop, Q y 0 → pe b Q)
    (hc : ∀ Q : V → Nat → Prop, Q z 0 → pe c Q) (k : K [x, y, z]) : compG pc pe [a, b, c] K :=
  h1 a _ ((if_pos rfl).mpr (ha _ ⟨rfl, h1 b _ ((if_pos rfl).mpr (hb _ ⟨rfl, h1 c _ ((if_pos rfl).mpr (hc _ ⟨rfl, k⟩))⟩))⟩))
theorem Ev.comp4 {it c e : E} {i : Nat} {t a1 a2 a3 a4 x y z u : V} (h : Ev F r it t) (ho : iterOk t) (hi : itemsV t = some [a1, a2, a3, a4])
    (hc : ∀ v, Tv F ((i, v, 0) :: r) c true) (h1 : Ev F ((i, a1, 0) :: r) e x) (h2 : Ev F ((i, a2, 0) :: r) e y) (h3 : Ev F ((i, a3, 0) :: r) e z) (h4 : Ev F ((i, a4, 0) :: r) e u) : Ev F r (.comp it i c e) (.list [x, y, z, u]) := fun Q q =>
  h _ ⟨rfl, ho, _, hi, Nat.le_of_ble_eq_true rfl, hc a1 _ ((if_pos rfl).mpr (h1 _ ⟨rfl, compG_three (fun v K' k => hc v _ k) (fun Q k => h2 _ k) (fun Q k => h3 _ k) (fun Q k => h4 _ k) q⟩))⟩
/-! statements -/
theorem S.asg_ok {x : Nat} {e : E} {t : V} (h : Ev F (rd st) e t) (q : Q (.next ((x, .val t) :: st))) : ex1 F (.asg x e) st Q := by
  show evW F (rd st) e fun t d => d = 0 ∧ Q (.next ((x, .val t) :: st))
  exact h _ ⟨rfl, q⟩
theorem S.sto_ok {x : Nat} {i e : E} {t : V} {xs : List V} {j d : Nat} (hx : st.lookup x = some (.own xs)) (h : Ev F (rd st) e t) (hi : EvD F (rd st) i (vN j) d) (hj : j < xs.length) (q : Q (.next ((x, .own (xs.set j t)) :: st))) : ex1 F (.sto x i e) st Q := by
  exact asOwn_of hx (h _ ⟨rfl, hi _ ⟨by lia, by lia, by rw [Int.toNat_natCast]; exact q⟩⟩)
theorem S.app_ok {x : Nat} {e : E} {t : V} {xs : List V} (hx : st.lookup x = some (.own xs)) (h : Ev F (rd st) e t) (hl : xs.length ≤ 10000) (q : Q (.next ((x, .own (xs ++ [t])) :: st))) : ex1 F (.app x e) st Q := by
  exact asOwn_of hx (h _ ⟨rfl, hl, q⟩)
theorem S.newD_ok {x : Nat} (q : Q (.next ((x, .ownD [] []) :: st))) : ex1 F (.newD x) st Q := q
theorem S.frz_ok {x : Nat} {s : S} {b : B} (hx : st.lookup x = some b) (h : ex1 F s ((x, .val b.frz) :: st) Q) : ex1 F (.frz x s) st Q := asB_of hx h
theorem S.stoD_ok {x : Nat} {i e : E} {t : V} {ks : List Int} {vs : List V} {j : Int} {d : Nat} (hx : st.lookup x = some (.ownD ks vs)) (h : Ev F (rd st) e t) (hi : EvD F (rd st) i (.int j) d) (hj : j ∉ ks) (hz : ks.length ≤ 1000)
    (q : Q (.next ((x, .ownD (ks ++ [j]) (vs ++ [t])) :: st))) : ex1 F (.stoD x i e) st Q := asOwnD_of hx (h _ ⟨rfl, hi _ ⟨hj, hz, q⟩⟩)
theorem S.sto2_ok {x : Nat} {i j e : E} {t : V} {xss : List (List V)} {a b d d' : Nat} (hx : st.lookup x = some (.own2 xss)) (h : Ev F (rd st) e t) (hi : EvD F (rd st) i (vN a) d) (ha : a < xss.length) (hj : EvD F (rd st) j (vN b) d') (hb : b < (xss.getD a []).length)
    (q : Q (.next ((x, .own2 (xss.set a ((xss.getD a []).set b t))) :: st))) : ex1 F (.sto2 x i j e) st Q := asOwn2_of hx (h _ ⟨rfl, hi _ ⟨by lia, by lia, by
  rw [Int.toNat_natCast]; exact hj _ ⟨by lia, by lia, by rw [Int.toNat_natCast]; exact q⟩⟩⟩)
theorem S.popU_ok {x y p : Nat} {xs : List V} {u v : V} (hx : st.lookup p = some (.own (xs ++ [.list [u, v]]))) (q : Q (.next ((y, .val v) :: (x, .val u) :: (p, .own xs) :: st))) : ex1 F (.popU x y p) st Q := asOwn_of hx ⟨xs, u, v, rfl, q⟩
theorem S.own2c_ok {x n : Nat} {it : E} {t : V} {items : List V} (h : Ev F (rd st) it t) (ho : iterOk t) (hi : itemsV t = some items) (hl : items.length ≤ 1000) (q : Q (.next ((x, .own2 (List.replicate items.length (List.replicate n (.int 0)))) :: st))) : ex1 F (.own2c x n it) st Q :=
  h _ ⟨rfl, ho, items, hi, hl, q⟩
theorem Ev.rev {a : E} {x z : V} {d : Nat} (h : EvD F r a x d) (hs : ∀ Q : V → Nat → Prop, Q z 0 → revW x d Q) : Ev F r (.rev a) z := fun Q q => h _ (hs _ q)
theorem Ev.isB {a : E} {i : Int} {d : Nat} (h : EvD F r a (.int i) d) : Ev F r (.isB a) (.bool false) := fun Q q => h _ q
theorem S.ifs_ok {t : E} {a b : Ss} {c : Bool} (h : Tv F (rd st) t c) (q : if c = true then exs F a st Q else exs F b st Q) : ex1 F (.ifs t a b) st Q := by
  show tsW F (rd st) t fun c => if c = true then exs F a st Q else exs F b st Q
  exact h _ q
theorem S.ret_ok {e : E} {t : V} {d : Nat} (h : EvD F (rd st) e t d) (q : Q (.ret t)) : ex1 F (.ret e) st Q := by
  show evW F (rd st) e fun t _ => Q (.ret t)
  exact h _ q
theorem S.fr_ok {x : Nat} {it : E} {b : Ss} {t : V} {items : List V} (I : Nat → St → Prop) (h : Ev F (rd st) it t) (ho : iterOk t) (hi : itemsV t = some items) (h0 : I 0 st)
    (turn : ∀ (j : Nat) st' v, items[j]? = some v → I j st' → exs F b ((x, .val v) :: st') (loopOut (I (j + 1)) Q)) (fin : ∀ st', I items.length st' → Q (.next st')) : ex1 F (.fr x it b) st Q := by
  show evW F (rd st) it fun t d => d = 0 ∧ iterOk t ∧ ∃ items, itemsV t = some items ∧ ∃ I : Nat → St → Prop, (∃ st', Sub st' st ∧ I 0 st') ∧
      (∀ (j : Nat) st' v, items[j]? = some v → I j st' → exs F b ((x, .val v) :: st') (loopOut (I (j + 1)) Q)) ∧ ∀ st', I items.length st' → Q (.next st')
  exact h _ ⟨rfl, ho, items, hi, I, ⟨st, fun _ _ e => e, h0⟩, turn, fin⟩
theorem loop_next {I : St → Prop} {Q : Out → Prop} (h : I st) : loopOut I Q (.next st) := ⟨st, fun _ _ e => e, h⟩
end
theorem exs_cons (F : Fenv) (s : S) (ss : Ss) (st : St) (Q : Out → Prop) : exs F (.cons s ss) st Q = ex1 F s st (contW (fun st' => exs F ss st' Q) Q) := rfl
theorem exs_nil (F : Fenv) (st : St) (Q : Out → Prop) : exs F .nil st Q = Q (.next st) := rfl
theorem rd_at {st : St} {i : Nat} {b : B} (h : st.lookup i = some b) : (rd st).lookup i = some b.read := by rw [rd_lookup, h]; rfl
theorem lookup_ne {st : St} {x i : Nat} {b : B} (h : (i == x) = false) : ((x, b) :: st : St).lookup i = st.lookup i := by rw [List.lookup_cons, h]
theorem exs_toSs {F : Fenv} {s : S} {l : List S} {st : St} {Q : Out → Prop} (h : ex1 F s st (contW (fun st' => exs F (toSs l) st' Q) Q)) : exs F (toSs (s :: l)) st Q := by
  show exs F (.cons s (toSs l)) st Q
  rw [exs_cons]; exact h
theorem contW_nil {F : Fenv} {st : St} {Q : Out → Prop} (h : Q (.next st)) : contW (fun st' => exs F .nil st' Q) Q (.next st) := h
section
variable {F : Fenv} {r : Rv} {st : St} {Q : Out → Prop}
theorem EvD.me2 {m : Me} {o a b : E} {x y z t : V} {dx dy dz d : Nat} (h : EvD F r o x dx) (hm : me2Ok m x = true) (ha : EvD F r a y dy) (hb : EvD F r b z dz) (hs : ∀ Q : V → Nat → Prop, Q t d → me2W m x y z dz Q) : EvD F r (.me2 m o a b) t d :=
  fun Q q => h _ ⟨hm, ha _ (hb _ (hs _ q))⟩
theorem S.aug_ok {op : Operator} {x : Nat} {e : E} {t u w : V} {du : Nat} (hx : st.lookup x = some (.val t)) (ha : augOk op t = true) (he : EvD F (rd st) e u du) (hb : ∀ Q : V → Nat → Prop, Q w 0 → binW op t 0 u du Q) (q : Q (.next ((x, .val w) :: st))) :
    ex1 F (.aug op x e) st Q := by
  exact asVal_of hx ⟨ha, he _ (hb _ ⟨rfl, q⟩)⟩
theorem S.whl_ok {t : E} {b : Ss} (I : Nat → St → Prop) (n0 : Nat) (h0 : I n0 st) (turn : ∀ n st', I n st' → ∃ c, Tv F (rd st') t c ∧ if c = true then exs F b st' (loopOut (fun st3 => ∃ m, m < n ∧ I m st3) Q) else Q (.next st')) : ex1 F (.whl t b) st Q := by
  show ∃ I : Nat → St → Prop, (∃ n st', Sub st' st ∧ I n st') ∧ ∀ n st', I n st' →
      tsW F (rd st') t fun c => if c = true then exs F b st' (loopOut (fun st3 => ∃ m, m < n ∧ I m st3) Q) else Q (.next st')
  exact ⟨I, ⟨n0, st, fun _ _ e => e, h0⟩, fun n st' hI => let ⟨c, h1, h2⟩ := turn n st' hI; h1 _ h2⟩
theorem optW_of {v : V} {q : Option Int} {f : Option Int → Prop} (h : optW v (· = q)) (hf : f q) : optW v f := by
  cases v with
  | none => exact (show f none from (show none = q from h) ▸ hf)
  | int i => exact (show f (some i) from (show some i = q from h) ▸ hf)
  | _ => exact (show False from h).elim
theorem Ev.cutS {a lo hi : E} {x : List Nat} {l u : V} {lo' hi' : Option Int} {dx dl du : Nat} (ha : EvD F r a (.str x) dx) (hl : EvD F r lo l dl) (hu : EvD F r hi u du) (h1 : optW l (· = lo')) (h2 : optW u (· = hi')) : Ev F r (.sl a lo hi) (.str (cut x lo' hi')) :=
  EvD.sl ha hl hu fun Q q => optW_of (f := fun l' => optW u fun u' => Q (.str (cut x l' u')) 0) h1 (optW_of h2 q)
end
theorem mem_getD {α : Type} (l : List α) (i : Nat) (d : α) (h : i < l.length) : l.getD i d ∈ l := by
  rw [List.getD_eq_getElem?_getD, List.getElem?_eq_getElem h]; exact List.getElem_mem h
end Mine
end

-- part T3
section
open PySem PySem.Calls PyProof.Rows
set_option linter.unusedSimpArgs false
set_option linter.unusedVariables false
namespace Mine
/-- the def that is statement n of a text -/
noncomputable def fnAt (p : Program) (n : Nat) : DefRec := match p.main.body[n]? with
  | some (.FunctionDef name args body _ _ _ scope _ _ pos) => ⟨name, args, body, scope, pos⟩
  | _ => ⟨"", ⟨[], [], none, [], [], none, []⟩, [], { kind := .module, names := [], isGenerator := false, isCoroutine := false }, ⟨0,0,0,0⟩⟩
abbrev P1 := PySem.Challenge.pw_rw0070_02
noncomputable def TrD (F : Fenv) (d : DefRec) (owns : List Str) (ss : List S) : Prop := TrSs F d.scope (varsOf d.scope) owns d.body ss
set_option maxRecDepth 100000
noncomputable def FS : Fenv := ⟨[("_CASE_COST", .int 1), ("_MOVE_COST", .int 2)], [], [], []⟩
noncomputable def dS := fnAt P1 5
noncomputable def substC (x y : List Nat) : Int := if x = y then 0 else if lowL x = lowL y then 1 else 2
noncomputable def spS : Spec := fun ts Q => ∃ x y, ts = [.str x, .str y] ∧ x.length ≤ 1000 ∧ y.length ≤ 1000 ∧ Q (.int (substC x y))
noncomputable def FL : Fenv := ⟨[("_MAX_STRING_SIZE", .int 40), ("_MOVE_COST", .int 2)], [("_substitution_cost", spS)], [.len, .list, .range, .min], []⟩
noncomputable def dL := fnAt P1 6

noncomputable def stripP : List Nat → List Nat → List Nat × List Nat
  | x :: a, y :: b => if x = y then stripP a b else (x :: a, y :: b)
  | a, b => (a, b)
noncomputable def stripB (a b : List Nat) : List Nat × List Nat :=
  let p := stripP a b
  let q := stripP p.1.reverse p.2.reverse
  (q.1.reverse, q.2.reverse)
noncomputable def rowF (c : Nat) : List Nat → List Int → Int → Int → List Int × Int
  | x :: s, r :: row, dist, res =>
    let res' := min (min res r + 2) (dist + substC [c] [x])
    let p := rowF c s row r res'
    (res' :: p.1, p.2)
  | _, _, _, res => ([], res)
noncomputable def big : Int := 9223372036854775807
noncomputable def dpF (s : List Nat) (m : Int) : List Nat → Nat → List Int → Int → Int
  | [], _, _, res => res
  | c :: t, j, row, res =>
    let p := rowF c s row (2 * j) (2 * j)
    if p.1.foldl min big > m then m + 1 else dpF s m t (j + 1) p.1 p.2
noncomputable def row0 (n : Nat) : List Int := (List.range n).map fun (k : Nat) => 2 * (k : Int) + 2
noncomputable def levS (s t : List Nat) (m : Int) : Int := if 2 * ((t.length : Int) - s.length) > m then m + 1 else dpF s m t 0 (row0 s.length) 0
noncomputable def lev (a b : List Nat) (m : Int) : Int :=
  if a = b then 0 else
  let p := stripB a b
  if p.1 = [] ∨ p.2 = [] then 2 * (p.1.length + p.2.length : Int)
  else if p.1.length > 40 ∨ p.2.length > 40 then m + 1
  else if p.2.length < p.1.length then levS p.2 p.1 m else levS p.1 p.2 m
noncomputable def spL : Spec := fun ts Q => ∃ a b m, ts = [.str a, .str b, .int m] ∧ a.length ≤ 1000 ∧ b.length ≤ 1000 ∧ Q (.int (lev a b m))


theorem cut_from (xs : List α) (p : Nat) : cut xs (some (p : Int)) none = xs.drop p := by
  unfold cut
  simp only [Option.elim, clipAt_nat]
  by_cases h : p ≤ xs.length
  · rw [Nat.min_eq_left h, List.take_of_length_le (by simp)]
  · rw [Nat.min_eq_right (by lia), List.drop_eq_nil_of_le (Nat.le_refl _), List.drop_eq_nil_of_le (by lia)]; simp
theorem cut_upto (xs : List α) (k : Nat) (h : 1 ≤ k) : cut xs none (some (-(k : Int))) = xs.take (xs.length - k) := by
  unfold cut
  simp only [Option.elim, clipAt_neg _ _ h, List.drop_zero, Nat.sub_zero]
theorem cut_all (xs : List α) : cut xs none none = xs := by
  unfold cut; simp

theorem stripP_len : ∀ (a b : List Nat), (stripP a b).1.length ≤ a.length ∧ (stripP a b).2.length ≤ b.length
  | [], b => by simp [stripP]
  | x :: a, [] => by simp [stripP]
  | x :: a, y :: b => by
    unfold stripP
    split
    · have := stripP_len a b; simp; lia
    · simp
theorem stripB_len (a b : List Nat) : (stripB a b).1.length ≤ a.length ∧ (stripB a b).2.length ≤ b.length := by
  have h1 := stripP_len a b
  have h2 := stripP_len (stripP a b).1.reverse (stripP a b).2.reverse
  unfold stripB
  simp at h2 ⊢
  lia

theorem getD_rev (l : List Nat) (k : Nat) (h : k < l.length) : l.getD (l.length - 1 - k) 0 = l.reverse.getD k 0 := by
  rw [List.getD_eq_getElem?_getD, List.getD_eq_getElem?_getD, List.getElem?_reverse h]
theorem take_rev (l : List Nat) (k : Nat) : l.take (l.length - k) = (l.reverse.drop k).reverse := by
  rw [List.reverse_drop, List.reverse_reverse, List.length_reverse]

theorem cut_get {l : List Nat} {k x : Nat} {l' : List Nat} (e : l.reverse.drop k = x :: l') : k < l.length ∧ l.getD (pix (-(k : Int) - 1) l.length) 0 = x := by
  have hl : k < l.length := by have := congrArg List.length e; simp at this; lia
  have p : pix (-(k : Int) - 1) l.length = l.length - 1 - k := by unfold pix; rw [if_pos (by clear e; lia)]; clear e; lia
  refine ⟨hl, ?_⟩
  rw [p, getD_rev l k hl]
  have : (l.reverse.drop k)[0]? = some x := by rw [e]; rfl
  rw [List.getElem?_drop] at this; simpa [List.getD_eq_getElem?_getD] using congrArg (·.getD 0) this
theorem cut_bd {l k : Nat} (h : k < l) : -(l : Int) ≤ -(k : Int) - 1 ∧ -(k : Int) - 1 < l := by lia
section
variable {F : Fenv} {r : Rv} {st : St} {Q : Out → Prop}
theorem Tv.sl {a lo hi : E} {x : List Nat} (h : Ev F r (.sl a lo hi) (.str x)) : Tv F r (.sl a lo hi) (decide (x ≠ [])) := fun Q q => h (fun t _ => truthW t Q) q
theorem EvD.or_l {a b : E} {x : V} {d : Nat} (ha : EvD F r a x d) (ht : ∀ Q : Bool → Prop, Q true → truthW x Q) : EvD F r (.bop .Or a b) x d := fun Q q => ha _ (ht _ ((if_neg (by decide)).mpr q))
theorem EvD.or_r {a b : E} {x y : V} {d dy : Nat} (ha : EvD F r a x d) (ht : ∀ Q : Bool → Prop, Q false → truthW x Q) (hb : EvD F r b y dy) : EvD F r (.bop .Or a b) y dy := fun Q q => ha _ (ht _ ((if_pos rfl).mpr (hb _ q)))
theorem Ev.strAt {a i : E} {x : List Nat} {p : Int} {da di : Nat} (ha : EvD F r a (.str x) da) (hi : EvD F r i (.int p) di) (h0 : -(x.length : Int) ≤ p) (h1 : p < x.length) : Ev F r (.idx a i) (.str [x.getD (pix p x.length) 0]) := EvD.idx ha hi fun Q q => ⟨h0, h1, q⟩
theorem eq_str {a b : E} {x y : List Nat} {da db : Nat} (ha : EvD F r a (.str x) da) (hb : EvD F r b (.str y) db) : Tv F r (.cmp .Eq a b) (decide (x = y)) := Tv.cmp (EvD.cmp ha hb fun Q q => q)
theorem Ev.lenS {a : E} {x : List Nat} {d : Nat} (h : EvD F r a (.str x) d) : Ev F r (.bi .len (.cons a .nil)) (vN x.length) := EvD.bi (.cons h .nil) fun Q q => q
theorem gt_int {a b : E} {x y : Int} {da db : Nat} (ha : EvD F r a (.int x) da) (hb : EvD F r b (.int y) db) : Tv F r (.cmp .Gt a b) (decide (y < x)) := Tv.cmp (EvD.cmp ha hb fun Q q => q)
theorem lt_int {a b : E} {x y : Int} {da db : Nat} (ha : EvD F r a (.int x) da) (hb : EvD F r b (.int y) db) : Tv F r (.cmp .Lt a b) (decide (x < y)) := Tv.cmp (EvD.cmp ha hb fun Q q => q)
theorem Ev.min {a b : E} {x y : Int} {da db : Nat} (ha : EvD F r a (.int x) da) (hb : EvD F r b (.int y) db) : Ev F r (.bi .min (.cons a (.cons b .nil))) (.int (min x y)) := EvD.bi (.cons ha (.cons hb .nil)) fun Q q => q
theorem S.swap_ok {x y : Nat} {a b : V} (hx : st.lookup x = some (.val a)) (hy : st.lookup y = some (.val b)) (ha : a.flat = true) (hb : b.flat = true) (q : Q (.next ((x, .val b) :: (y, .val a) :: st))) : ex1 F (.swap x y) st Q := by
  exact asVal_of hx (asVal_of hy ⟨ha, hb, q⟩)
theorem S.asg2_ok {x y : Nat} {e : E} {t : V} (h : Ev F (rd st) e t) (hf : t.flat = true) (q : Q (.next ((y, .val t) :: (x, .val t) :: st))) : ex1 F (.asg2 x y e) st Q := by
  show evW F (rd st) e fun t d => d = 0 ∧ t.flat = true ∧ Q (.next ((y, .val t) :: (x, .val t) :: st))
  exact h _ ⟨rfl, hf, q⟩
theorem S.ownR_ok {x : Nat} {e : E} {a b c : Int} {d : Nat} (h : EvD F (rd st) e (.rng a b c) d) (hr : rOk a b c) (q : Q (.next ((x, .own ((rngL a b c).map .int)) :: st))) : ex1 F (.own x (.bi .list (.cons e .nil))) st Q := by
  show sems F (rd st) (.cons e .nil) fun as => lsW as fun xs => Q (.next ((x, .own xs) :: st))
  exact h _ ⟨hr, q⟩
end
theorem rsize_n (n : Nat) : rsize 0 n 1 = n := by unfold rsize Builtin.Range.rangeSize; split <;> (try split) <;> lia
theorem rng_items (n : Nat) : itemsV (.rng 0 n 1) = some ((List.range n).map vN) := by
  show some ((rngL 0 n 1).map V.int) = _
  unfold rngL
  rw [rsize_n, List.map_map]
  refine congrArg some (List.map_congr_left fun k _ => ?_)
  show V.int (0 + (k : Int) * 1) = vN k
  congr 1; lia
theorem rng_ok {n : Nat} (h : n ≤ 1000) : iterOk (.rng 0 n 1) := ⟨by decide, by lia, by decide, by decide⟩
theorem range_at {n j : Nat} {v : V} (h : ((List.range n).map vN)[j]? = some v) : v = vN j ∧ j < n := by
  rw [List.getElem?_map, Option.map_eq_some_iff] at h
  obtain ⟨k, h1, h2⟩ := h
  obtain ⟨h3, h4⟩ := List.getElem?_eq_some_iff.mp h1
  rw [List.getElem_range] at h4
  rw [List.length_range] at h3
  exact ⟨by rw [← h2, ← h4], h3⟩
theorem range_len (n : Nat) : ((List.range n).map vN).length = n := by rw [List.length_map, List.length_range]
theorem Ev.range {F : Fenv} {r : Rv} {a : E} {n d : Nat} (h : EvD F r a (vN n) d) : Ev F r (.bi .range (.cons a .nil)) (.rng 0 n 1) := EvD.bi (.cons h .nil) fun Q q => q
theorem Ev.len {F : Fenv} {r : Rv} {a : E} {xs : List V} {d : Nat} (h : EvD F r a (.list xs) d) : Ev F r (.bi .len (.cons a .nil)) (vN xs.length) := EvD.bi (.cons h .nil) fun Q q => q
end Mine
end

-- part T4
section
open PySem PySem.Calls PyProof.Rows
set_option linter.unusedSimpArgs false
set_option linter.unusedVariables false
set_option maxRecDepth 100000
namespace Mine
theorem rowF_len (c : Nat) : ∀ (s : List Nat) (row : List Int) (d r : Int), row.length = s.length → (rowF c s row d r).1.length = s.length
  | [], [], _, _, _ => rfl
  | x :: s, y :: row, d, r, h => by simp only [rowF, List.length_cons]; rw [rowF_len c s row _ _ (by simpa using h)]
theorem row0_eq (n : Nat) : (rngL 2 (2 * ((n : Int) + 1)) 2).map V.int = (row0 n).map V.int := by
  have : rsize 2 (2 * ((n : Int) + 1)) 2 = n := by unfold rsize Builtin.Range.rangeSize; split <;> (try split) <;> lia
  unfold rngL row0
  rw [this]
  simp only [List.map_map]
  apply List.map_congr_left
  intro k _
  simp; lia

structure AB (a b : List Nat) (m : Int) (st : St) : Prop where
  h0 : st.lookup 0 = some (.val (.str a))
  h1 : st.lookup 1 = some (.val (.str b))
  h2 : st.lookup 2 = some (.val (.int m))
theorem AB.put {a b : List Nat} {m : Int} {st : St} (L : AB a b m st) {x : Nat} (h : 2 < x) (v : B) : AB a b m ((x, v) :: st) := by
  have ne : ∀ i, i ≤ 2 → (i == x) = false := fun i hi => by rw [beq_eq_false_iff_ne]; lia
  exact ⟨(lookup_ne (ne 0 (by lia))).trans L.h0, (lookup_ne (ne 1 (by lia))).trans L.h1, (lookup_ne (ne 2 (by lia))).trans L.h2⟩
theorem drop_get {l : List Nat} {p x : Nat} {l' : List Nat} (e : l.drop p = x :: l') : p < l.length ∧ l.getD p 0 = x ∧ l.drop (p + 1) = l' := by
  refine ⟨?_, ?_, ?_⟩
  · have := congrArg List.length e; simp at this; lia
  · have : (l.drop p)[0]? = some x := by rw [e]; rfl
    rw [List.getElem?_drop] at this; simpa [List.getD_eq_getElem?_getD] using congrArg (·.getD 0) this
  · rw [← List.drop_drop, e]; rfl
theorem dec_sing {x y : Nat} : decide ([x] = [y]) = decide (x = y) := by
  by_cases h : x = y
  · subst h; simp
  · simp [h]
abbrev W1 : S := S.whl (E.bop BoolOp.And ((E.var 0).sl (E.var 3) (E.lit V.none)) (E.bop BoolOp.And ((E.var 1).sl (E.var 3) (E.lit V.none)) (E.cmp CmpOp.Eq ((E.var 0).idx (E.var 3)) ((E.var 1).idx (E.var 3)))))
  (Ss.cons (S.aug Operator.Add 3 (E.lit (V.int 1))) Ss.nil)
theorem cut3 {r : Rv} {i p d d' : Nat} {l : List Nat} (h : r.lookup i = some (.str l, d)) (h3 : r.lookup 3 = some (vN p, d')) : Ev FL r (.sl (.var i) (.var 3) (.lit .none)) (.str (l.drop p)) := by
  have := Ev.cutS (F := FL) (EvD.var h) (EvD.var h3) (Ev.lit .none) rfl rfl
  rwa [cut_from] at this
theorem at3 {r : Rv} {i p d d' : Nat} {l : List Nat} {x : Nat} {l' : List Nat} (h : r.lookup i = some (.str l, d)) (h3 : r.lookup 3 = some (vN p, d')) (e : l.drop p = x :: l') : Ev FL r (.idx (.var i) (.var 3)) (.str [x]) := by
  obtain ⟨h1, h2, _⟩ := drop_get e
  have := Ev.strAt (F := FL) (EvD.var h) (EvD.var h3) (by lia) (by lia)
  rwa [pix_pos (by lia), Int.toNat_natCast, h2] at this
inductive L1I (a b : List Nat) (m : Int) (n : Nat) (st : St) : Prop where
  | mk (p : Nat) (hn : n = a.length - p) (ha : p ≤ a.length) (hb : p ≤ b.length) (e : stripP (a.drop p) (b.drop p) = stripP a b) (L : AB a b m st) (h3 : st.lookup 3 = some (.val (vN p)))
theorem loop1 {a b : List Nat} {m : Int} {st : St} {Q : Out → Prop} (L : AB a b m st) (h3 : st.lookup 3 = some (.val (vN 0)))
    (q : ∀ (p : Nat) st', p ≤ a.length → p ≤ b.length → stripP a b = (a.drop p, b.drop p) → AB a b m st' → st'.lookup 3 = some (.val (vN p)) → Q (.next st')) : ex1 FL W1 st Q := by
  refine S.whl_ok (L1I a b m) _ ⟨0, rfl, Nat.zero_le _, Nat.zero_le _, rfl, L, h3⟩ ?_
  rintro n st ⟨p, rfl, hpa, hpb, hp, L, h3⟩
  have A := Tv.sl (cut3 (rd_at L.h0) (rd_at h3))
  have Bb := Tv.sl (cut3 (rd_at L.h1) (rd_at h3))
  have fin : ∀ c : Bool, c = false → stripP (a.drop p) (b.drop p) = (a.drop p, b.drop p) → if c = true then exs FL (Ss.cons (S.aug Operator.Add 3 (E.lit (V.int 1))) Ss.nil) st (loopOut (fun st3 => ∃ m', m' < a.length - p ∧ L1I a b m m' st3) Q) else Q (.next st) := fun c hc e => by
    rw [if_neg (by rw [hc]; decide)]
    exact q p st hpa hpb (hp ▸ e) L h3
  cases ea : a.drop p with
  | nil =>
    refine ⟨_, Tv.and A (y := false) fun h => (by rw [ea] at h; cases h), fin _ (by rw [ea]; rfl) (by rw [ea]; unfold stripP; rfl)⟩
  | cons x a' =>
    cases eb : b.drop p with
    | nil =>
      refine ⟨_, Tv.and A fun _ => Tv.and Bb (y := false) fun h => (by rw [eb] at h; cases h), fin _ (by rw [eb]; simp) (by rw [ea, eb]; unfold stripP; rfl)⟩
    | cons y b' =>
      have C := eq_str (at3 (rd_at L.h0) (rd_at h3) ea) (at3 (rd_at L.h1) (rd_at h3) eb)
      rw [dec_sing] at C
      refine ⟨_, Tv.and A fun _ => Tv.and Bb fun _ => C, ?_⟩
      by_cases e : x = y
      · subst e
        have : (decide (a.drop p ≠ []) && (decide (b.drop p ≠ []) && decide (x = x))) = true := by rw [ea, eb]; simp
        rw [this, if_pos rfl, exs_cons]
        obtain ⟨la, _, ea'⟩ := drop_get ea
        obtain ⟨lb, _, eb'⟩ := drop_get eb
        refine S.aug_ok h3 rfl (Ev.lit _) (fun Q q => q) (contW_nil (loop_next ⟨a.length - (p + 1), by lia, p + 1, rfl, la, lb, ?_, L.put (by decide) _, rfl⟩))
        rw [← hp, ea, eb, ea', eb', stripP, if_pos rfl]
      · exact fin _ (by simp [e]) (by rw [ea, eb, stripP, if_neg e])
abbrev up4 (i : Nat) : E := E.sl (.var i) (.lit .none) (.bop .Or (.var 4) (.lit .none))
abbrev ix4 (i : Nat) : E := E.idx (.var i) (.bin .Sub (.var 4) (.lit (.int 1)))
abbrev W2 : S := S.whl (E.bop BoolOp.And (up4 0) (E.bop BoolOp.And (up4 1) (E.cmp CmpOp.Eq (ix4 0) (ix4 1)))) (Ss.cons (S.aug Operator.Sub 4 (E.lit (V.int 1))) Ss.nil)
theorem cut4 {r : Rv} {i k d d' : Nat} {l : List Nat} (h : r.lookup i = some (.str l, d)) (h4 : r.lookup 4 = some (.int (-(k : Int)), d')) : Ev FL r (up4 i) (.str (l.reverse.drop k).reverse) := by
  by_cases h0 : k = 0
  · subst h0
    have N : Ev FL r (.bop .Or (.var 4) (.lit .none)) .none := EvD.or_r (EvD.var h4) (fun Q q => q) (Ev.lit _)
    have := Ev.cutS (F := FL) (EvD.var h) (Ev.lit .none) N rfl rfl
    rw [cut_all] at this
    rwa [List.drop_zero, List.reverse_reverse]
  · have N : EvD FL r (.bop .Or (.var 4) (.lit .none)) (.int (-(k : Int))) d' := EvD.or_l (EvD.var h4) fun Q q => by
      show Q (decide (-(k : Int) ≠ 0))
      rwa [decide_eq_true (by lia)]
    have := Ev.cutS (F := FL) (EvD.var h) (Ev.lit .none) N rfl rfl
    rwa [cut_upto _ _ (by lia), take_rev] at this
theorem at4 {r : Rv} {i k d d' : Nat} {l : List Nat} {x : Nat} {l' : List Nat} (h : r.lookup i = some (.str l, d)) (h4 : r.lookup 4 = some (.int (-(k : Int)), d')) (e : l.reverse.drop k = x :: l') : Ev FL r (ix4 i) (.str [x]) := by
  obtain ⟨h1, h2⟩ := cut_get e
  have := Ev.strAt (F := FL) (i := .bin .Sub (.var 4) (.lit (.int 1))) (EvD.var h) (EvD.bin (EvD.var h4) (Ev.lit _) fun Q q => q) (cut_bd h1).1 (cut_bd h1).2
  rwa [h2] at this
inductive L2I (a b : List Nat) (m : Int) (n : Nat) (st : St) : Prop where
  | mk (k : Nat) (hn : n = a.length - k) (ha : k ≤ a.length) (hb : k ≤ b.length) (e : stripP (a.reverse.drop k) (b.reverse.drop k) = stripP a.reverse b.reverse) (L : AB a b m st) (h4 : st.lookup 4 = some (.val (.int (-(k : Int)))))
theorem loop2 {a b : List Nat} {m : Int} {st : St} {Q : Out → Prop} (L : AB a b m st) (h4 : st.lookup 4 = some (.val (.int 0)))
    (q : ∀ (k : Nat) st', k ≤ a.length → k ≤ b.length → stripP a.reverse b.reverse = (a.reverse.drop k, b.reverse.drop k) → AB a b m st' → st'.lookup 4 = some (.val (.int (-(k : Int)))) → Q (.next st')) : ex1 FL W2 st Q := by
  refine S.whl_ok (L2I a b m) _ ⟨0, rfl, Nat.zero_le _, Nat.zero_le _, rfl, L, h4⟩ ?_
  rintro n st ⟨k, rfl, hka, hkb, hk, L, h4⟩
  have A := Tv.sl (cut4 (rd_at L.h0) (rd_at h4))
  have Bb := Tv.sl (cut4 (rd_at L.h1) (rd_at h4))
  have fin : ∀ c : Bool, c = false → stripP (a.reverse.drop k) (b.reverse.drop k) = (a.reverse.drop k, b.reverse.drop k) → if c = true then exs FL (Ss.cons (S.aug Operator.Sub 4 (E.lit (V.int 1))) Ss.nil) st (loopOut (fun st3 => ∃ m', m' < a.length - k ∧ L2I a b m m' st3) Q) else Q (.next st) := fun c hc e => by
    rw [if_neg (by rw [hc]; decide)]
    exact q k st hka hkb (hk ▸ e) L h4
  cases ea : a.reverse.drop k with
  | nil =>
    refine ⟨_, Tv.and A (y := false) fun h => (by rw [ea] at h; cases h), fin _ (by rw [ea]; rfl) (by rw [ea]; unfold stripP; rfl)⟩
  | cons x a' =>
    cases eb : b.reverse.drop k with
    | nil =>
      refine ⟨_, Tv.and A fun _ => Tv.and Bb (y := false) fun h => (by rw [eb] at h; cases h), fin _ (by rw [eb]; simp) (by rw [ea, eb]; unfold stripP; rfl)⟩
    | cons y b' =>
      have C := eq_str (at4 (rd_at L.h0) (rd_at h4) ea) (at4 (rd_at L.h1) (rd_at h4) eb)
      rw [dec_sing] at C
      refine ⟨_, Tv.and A fun _ => Tv.and Bb fun _ => C, ?_⟩
      by_cases e : x = y
      · subst e
        have : (decide ((a.reverse.drop k).reverse ≠ []) && (decide ((b.reverse.drop k).reverse ≠ []) && decide (x = x))) = true := by rw [ea, eb]; simp
        rw [this, if_pos rfl, exs_cons]
        obtain ⟨la, _, ea'⟩ := drop_get ea
        obtain ⟨lb, _, eb'⟩ := drop_get eb
        rw [List.length_reverse] at la lb
        refine S.aug_ok h4 rfl (Ev.lit _) (fun Q q => q) (contW_nil (loop_next ⟨a.length - (k + 1), by lia, k + 1, rfl, la, lb, ?_, L.put (by decide) _, ?_⟩))
        · rw [← hk, ea, eb, ea', eb', stripP, if_pos rfl]
        · show some (B.val (.int (-(k : Int) - 1))) = _
          rw [show -(k : Int) - 1 = -((k + 1 : Nat) : Int) by lia]
      · exact fin _ (by simp [e]) (by rw [ea, eb, stripP, if_neg e])
/-! the table -/
abbrev innerB : Ss := (.cons (.asg 12 (.bin .Add (.var 9) (.call 0 (.cons (.var 8) (.cons (.idx (.var 0) (.var 11)) .nil)))))
  (.cons (.asg 9 (.idx (.var 5) (.var 11)))
  (.cons (.asg 13 (.bin .Add (.bi .min (.cons (.var 6) (.cons (.var 9) .nil))) (.lit (.int 2))))
  (.cons (.asg 6 (.bi .min (.cons (.var 13) (.cons (.var 12) .nil))))
  (.cons (.sto 5 (.var 11) (.var 6))
  (.cons (.ifs (.cmp .Lt (.var 6) (.var 10)) (.cons (.asg 10 (.var 6)) .nil) .nil) .nil))))))
abbrev outerB : Ss := (.cons (.asg 8 (.idx (.var 1) (.var 7))) (.cons (.asg2 9 6 (.bin .Mult (.var 7) (.lit (.int 2)))) (.cons (.asg 10 (.lit (.int 9223372036854775807)))
  (.cons (.fr 11 (.bi .range (.cons (.bi .len (.cons (.var 0) .nil)) .nil)) innerB)
  (.cons (.ifs (.cmp .Gt (.var 10) (.var 2)) (.cons (.ret (.bin .Add (.var 2) (.lit (.int 1)))) .nil) .nil) .nil)))))
structure Tb (row : List Int) (res dist mn : Int) (c : Nat) (st : St) : Prop where
  h5 : st.lookup 5 = some (.own (row.map .int))
  h6 : st.lookup 6 = some (.val (.int res))
  h9 : st.lookup 9 = some (.val (.int dist))
  h10 : st.lookup 10 = some (.val (.int mn))
  h8 : st.lookup 8 = some (.val (.str [c]))
inductive InI (s t : List Nat) (m : Int) (c : Nat) (row : List Int) (d0 r0 : Int) (i : Nat) (st : St) : Prop where
  | mk (pre : List Int) (r d : Int) (hl : pre.length = i) (hi : i ≤ s.length) (h1 : pre ++ (rowF c (s.drop i) (row.drop i) d r).1 = (rowF c s row d0 r0).1) (h2 : (rowF c (s.drop i) (row.drop i) d r).2 = (rowF c s row d0 r0).2) (L : AB s t m st) (T : Tb (pre ++ row.drop i) r d (pre.foldl min big) c st)
theorem lev_inner {s t : List Nat} {c : Nat} {row : List Int} {m r0 d0 : Int} {Q : Out → Prop} {st : St} (hs : s.length ≤ 1000) (hr : row.length = s.length) (L : AB s t m st) (T : Tb row r0 d0 big c st)
    (q : ∀ st', AB s t m st' → st'.lookup 5 = some (.own ((rowF c s row d0 r0).1.map .int)) → st'.lookup 6 = some (.val (.int (rowF c s row d0 r0).2)) → st'.lookup 10 = some (.val (.int ((rowF c s row d0 r0).1.foldl min big))) → Q (.next st')) :
    ex1 FL (.fr 11 (.bi .range (.cons (.bi .len (.cons (.var 0) .nil)) .nil)) innerB) st Q := by
  refine S.fr_ok (InI s t m c row d0 r0)
    (Ev.range (Ev.lenS (EvD.var (rd_at L.h0)))) (rng_ok hs) (rng_items _) ⟨[], r0, d0, rfl, Nat.zero_le _, rfl, rfl, L, T⟩ ?_ ?_
  · clear q L T
    rintro i st v hv ⟨pre, r, d, hpl, hile, h1, h2, L, T⟩
    obtain ⟨rfl, hi⟩ := range_at hv
    obtain ⟨x, s', hs'⟩ : ∃ x s', s.drop i = x :: s' := by
      cases e : s.drop i with
      | nil => have := congrArg List.length e; simp at this; lia
      | cons x s' => exact ⟨x, s', rfl⟩
    obtain ⟨y, row', hr'⟩ : ∃ x s', row.drop i = x :: s' := by
      cases e : row.drop i with
      | nil => have := congrArg List.length e; simp at this; lia
      | cons x s' => exact ⟨x, s', rfl⟩
    obtain ⟨_, gx, es⟩ := drop_get hs'
    have er : row.drop (i + 1) = row' := by rw [← List.drop_drop, hr']; rfl
    rw [hs', hr'] at h1 h2
    simp only [rowF] at h1 h2
    have hlen : i < (pre ++ row.drop i).length := by rw [List.length_append, hr', List.length_cons]; lia
    have gy : (pre ++ row.drop i).getD i 0 = y := by rw [hr']; simp [List.getD_eq_getElem?_getD, ← hpl]
    generalize hv' : min (min r y + 2) (d + substC [c] [x]) = v at h1 h2
    have se : (pre ++ row.drop i).set i v = (pre ++ [v]) ++ row' := by rw [hr']; simp [← hpl]
    have L := L.put (x := 11) (by decide) (B.val (vN i))
    have T : Tb (pre ++ row.drop i) r d (pre.foldl min big) c ((11, B.val (vN i)) :: st) := ⟨T.h5, T.h6, T.h9, T.h10, T.h8⟩
    have g11 : ((11, B.val (vN i)) :: st : St).lookup 11 = some (.val (vN i)) := rfl
    generalize ((11, B.val (vN i)) :: st : St) = st at L T g11 ⊢
    rw [exs_cons]
    have X : Ev FL (rd st) (.idx (.var 0) (.var 11)) (.str [x]) := by
      have := Ev.strAt (F := FL) (EvD.var (rd_at L.h0)) (EvD.var (rd_at g11)) (by lia) (by lia)
      rwa [pix_pos (by lia), Int.toNat_natCast, gx] at this
    refine S.asg_ok (Ev.add (EvD.var (rd_at T.h9)) (Ev.call (t := .int (substC [c] [x])) (.cons (EvD.var (rd_at T.h8)) (.cons X .nil)) ⟨rfl, rfl, trivial⟩ fun Q q => ⟨[c], [x], rfl, by simp, by simp, q⟩)) ?_
    have L := L.put (x := 12) (by decide) (B.val (.int (d + substC [c] [x])))
    have T : Tb (pre ++ row.drop i) r d (pre.foldl min big) c ((12, B.val (.int (d + substC [c] [x]))) :: st) := ⟨T.h5, T.h6, T.h9, T.h10, T.h8⟩
    have g11 : ((12, B.val (.int (d + substC [c] [x]))) :: st : St).lookup 11 = some (.val (vN i)) := g11
    have g12 : ((12, B.val (.int (d + substC [c] [x]))) :: st : St).lookup 12 = some (.val (.int (d + substC [c] [x]))) := rfl
    clear X
    show exs FL _ ((12, B.val (.int (d + substC [c] [x]))) :: st) _
    generalize ((12, B.val (.int (d + substC [c] [x]))) :: st : St) = st at L T g11 g12 ⊢
    rw [exs_cons]
    have Y := EvD.at (F := FL) (f := V.int) 0 hlen (EvD.var (rd_at T.h5)) (EvD.var (rd_at g11))
    rw [gy] at Y
    refine S.asg_ok Y ?_
    have L := L.put (x := 9) (by decide) (B.val (.int y))
    have T : Tb (pre ++ row.drop i) r y (pre.foldl min big) c ((9, B.val (.int y)) :: st) := ⟨T.h5, T.h6, rfl, T.h10, T.h8⟩
    have g11 : ((9, B.val (.int y)) :: st : St).lookup 11 = some (.val (vN i)) := g11
    have g12 : ((9, B.val (.int y)) :: st : St).lookup 12 = some (.val (.int (d + substC [c] [x]))) := g12
    clear Y
    show exs FL _ ((9, B.val (.int y)) :: st) _
    generalize ((9, B.val (.int y)) :: st : St) = st at L T g11 g12 ⊢
    rw [exs_cons]
    refine S.asg_ok (Ev.add (Ev.min (EvD.var (rd_at T.h6)) (EvD.var (rd_at T.h9))) (Ev.lit (.int 2))) ?_
    have L := L.put (x := 13) (by decide) (B.val (.int (min r y + 2)))
    have T : Tb (pre ++ row.drop i) r y (pre.foldl min big) c ((13, B.val (.int (min r y + 2))) :: st) := ⟨T.h5, T.h6, T.h9, T.h10, T.h8⟩
    have g11 : ((13, B.val (.int (min r y + 2))) :: st : St).lookup 11 = some (.val (vN i)) := g11
    have g12 : ((13, B.val (.int (min r y + 2))) :: st : St).lookup 12 = some (.val (.int (d + substC [c] [x]))) := g12
    have g13 : ((13, B.val (.int (min r y + 2))) :: st : St).lookup 13 = some (.val (.int (min r y + 2))) := rfl
    show exs FL _ ((13, B.val (.int (min r y + 2))) :: st) _
    generalize ((13, B.val (.int (min r y + 2))) :: st : St) = st at L T g11 g12 g13 ⊢
    rw [exs_cons]
    have M := Ev.min (F := FL) (EvD.var (rd_at g13)) (EvD.var (rd_at g12))
    rw [hv'] at M
    refine S.asg_ok M ?_
    have L := L.put (x := 6) (by decide) (B.val (.int v))
    have T : Tb (pre ++ row.drop i) v y (pre.foldl min big) c ((6, B.val (.int v)) :: st) := ⟨T.h5, rfl, T.h9, T.h10, T.h8⟩
    have g11 : ((6, B.val (.int v)) :: st : St).lookup 11 = some (.val (vN i)) := g11
    clear M
    show exs FL _ ((6, B.val (.int v)) :: st) _
    generalize ((6, B.val (.int v)) :: st : St) = st at L T g11 ⊢
    rw [exs_cons]
    refine S.sto_ok T.h5 (EvD.var (rd_at T.h6)) (EvD.var (rd_at g11)) (by rw [List.length_map]; exact hlen) ?_
    rw [← List.map_set, se]
    have L := L.put (x := 5) (by decide) (B.own (((pre ++ [v]) ++ row').map .int))
    have T : Tb ((pre ++ [v]) ++ row') v y (pre.foldl min big) c ((5, B.own (((pre ++ [v]) ++ row').map .int)) :: st) := ⟨rfl, T.h6, T.h9, T.h10, T.h8⟩
    show exs FL _ ((5, B.own (((pre ++ [v]) ++ row').map .int)) :: st) _
    generalize ((5, B.own (((pre ++ [v]) ++ row').map .int)) :: st : St) = st at L T ⊢
    have fin : ∀ st, AB s t m st → Tb ((pre ++ [v]) ++ row') v y ((pre ++ [v]).foldl min big) c st → InI s t m c row d0 r0 (i + 1) st := fun st L T =>
      ⟨pre ++ [v], v, y, by simp [hpl], hi, by rw [es, er]; simpa using h1, by rw [es, er]; exact h2, L, by rw [er]; exact T⟩
    have ef : (pre ++ [v]).foldl min big = min (pre.foldl min big) v := by rw [List.foldl_append]; rfl
    rw [exs_cons]
    refine S.ifs_ok (lt_int (EvD.var (rd_at T.h6)) (EvD.var (rd_at T.h10))) ?_
    by_cases hlt : v < pre.foldl min big
    · rw [decide_eq_true hlt, if_pos rfl, exs_cons]
      refine S.asg_ok (EvD.var (rd_at T.h6)) (contW_nil (contW_nil (loop_next (fin _ (L.put (by decide) _) ⟨T.h5, T.h6, T.h9, ?_, T.h8⟩))))
      rw [ef, Int.min_eq_right (by lia)]; rfl
    · rw [decide_eq_false hlt, if_neg (by decide)]
      refine contW_nil (loop_next (fin _ L ⟨T.h5, T.h6, T.h9, ?_, T.h8⟩))
      rw [ef, Int.min_eq_left (by lia)]; exact T.h10
  · rintro st ⟨pre, r, d, hpl, hile, h1, h2, L, T⟩
    rw [range_len] at hpl h1 h2 T
    have e1 : row.drop s.length = [] := List.drop_eq_nil_of_le (by lia)
    rw [List.drop_length, e1] at h1 h2
    simp only [rowF, List.append_nil] at h1 h2
    rw [e1, List.append_nil] at T
    refine q st L ?_ ?_ ?_
    · rw [← h1]; exact T.h5
    · rw [← h2]; exact T.h6
    · rw [← h1]; exact T.h10
theorem lev_outer {s t : List Nat} {row : List Int} {m : Int} {Q : V → Prop} {K : Out → Prop} {st : St} (hs : s.length ≤ 1000) (ht : t.length ≤ 1000) (hr : row.length = s.length) (L : AB s t m st)
    (h5 : st.lookup 5 = some (.own (row.map .int))) (h6 : st.lookup 6 = some (.val (.int 0))) (q : Q (.int (dpF s m t 0 row 0))) (hret : ∀ t, Q t → K (.ret t))
    (h : ∀ st' r, st'.lookup 6 = some (.val (.int r)) → Q (.int r) → K (.next st')) :
    ex1 FL (.fr 7 (.bi .range (.cons (.bi .len (.cons (.var 1) .nil)) .nil)) outerB) st K := by
  refine S.fr_ok (fun j st => ∃ (row' : List Int) (r : Int), row'.length = s.length ∧ j ≤ t.length ∧ dpF s m (t.drop j) j row' r = dpF s m t 0 row 0 ∧ AB s t m st ∧ st.lookup 5 = some (.own (row'.map .int)) ∧ st.lookup 6 = some (.val (.int r)))
    (Ev.range (Ev.lenS (EvD.var (rd_at L.h1)))) (rng_ok ht) (rng_items _) ⟨row, 0, hr, Nat.zero_le _, rfl, L, h5, h6⟩ ?_ ?_
  · clear L h5 h6
    rintro j st v hv ⟨row', r, hlen, hjle, h1, L, h5, h6⟩
    obtain ⟨rfl, hj⟩ := range_at hv
    obtain ⟨x, t', ht'⟩ : ∃ x s', t.drop j = x :: s' := by
      cases e : t.drop j with
      | nil => have := congrArg List.length e; simp at this; lia
      | cons x s' => exact ⟨x, s', rfl⟩
    obtain ⟨_, gx, es⟩ := drop_get ht'
    rw [ht'] at h1
    simp only [dpF] at h1
    have L := L.put (x := 7) (by decide) (B.val (vN j))
    have h5 : ((7, B.val (vN j)) :: st : St).lookup 5 = some (.own (row'.map .int)) := h5
    have g7 : ((7, B.val (vN j)) :: st : St).lookup 7 = some (.val (vN j)) := rfl
    generalize ((7, B.val (vN j)) :: st : St) = st at L h5 g7 ⊢
    rw [exs_cons]
    have X : Ev FL (rd st) (.idx (.var 1) (.var 7)) (.str [x]) := by
      have := Ev.strAt (F := FL) (EvD.var (rd_at L.h1)) (EvD.var (rd_at g7)) (by lia) (by lia)
      rwa [pix_pos (by lia), Int.toNat_natCast, gx] at this
    refine S.asg_ok X ?_
    clear X
    show exs FL _ ((8, B.val (.str [x])) :: st) _
    rw [exs_cons]
    have J : Ev FL (rd ((8, B.val (.str [x])) :: st)) (.bin .Mult (.var 7) (.lit (.int 2))) (.int (2 * j)) := by
      have := Ev.mul (F := FL) (r := rd ((8, B.val (.str [x])) :: st)) (x := (j : Int)) (y := 2) (by lia) (EvD.var (rd_at (st := (8, B.val (.str [x])) :: st) (i := 7) g7)) (Ev.lit _)
      rwa [show (j : Int) * 2 = 2 * j by lia] at this
    refine S.asg2_ok J rfl ?_
    show exs FL _ ((6, B.val (.int (2 * j))) :: (9, B.val (.int (2 * j))) :: (8, B.val (.str [x])) :: st) _
    rw [exs_cons]
    refine S.asg_ok (Ev.lit _) ?_
    have L := (((L.put (x := 8) (by decide) (B.val (.str [x]))).put (x := 9) (by decide) (B.val (.int (2 * j)))).put (x := 6) (by decide) (B.val (.int (2 * j)))).put (x := 10) (by decide) (B.val (.int big))
    have T : Tb row' (2 * j) (2 * j) big x ((10, B.val (.int big)) :: (6, B.val (.int (2 * j))) :: (9, B.val (.int (2 * j))) :: (8, B.val (.str [x])) :: st) := ⟨h5, rfl, rfl, rfl, rfl⟩
    show exs FL _ ((10, B.val (.int big)) :: (6, B.val (.int (2 * j))) :: (9, B.val (.int (2 * j))) :: (8, B.val (.str [x])) :: st) _
    clear J
    generalize ((10, B.val (.int big)) :: (6, B.val (.int (2 * j))) :: (9, B.val (.int (2 * j))) :: (8, B.val (.str [x])) :: st : St) = st at L T ⊢
    rw [exs_cons]
    refine lev_inner hs hlen L T fun st L h5 h6 h10 => ?_
    show exs FL _ st _
    rw [exs_cons]
    refine S.ifs_ok (gt_int (EvD.var (rd_at h10)) (EvD.var (rd_at L.h2))) ?_
    by_cases hm : (rowF x s row' (2 * j) (2 * j)).1.foldl min big > m
    · rw [if_pos hm] at h1
      rw [decide_eq_true hm, if_pos rfl, exs_cons]
      exact S.ret_ok (Ev.add (EvD.var (rd_at L.h2)) (Ev.lit _)) (hret _ (h1 ▸ q))
    · rw [if_neg hm] at h1
      rw [decide_eq_false hm, if_neg (by decide)]
      exact contW_nil (loop_next ⟨_, _, rowF_len _ _ _ _ _ hlen, hj, by rw [es]; exact h1, L, h5, h6⟩)
  · rintro st ⟨row', r, hlen, hjle, h1, L, h5, h6⟩
    rw [range_len, List.drop_length] at h1
    simp only [dpF] at h1
    exact h st r h6 (h1 ▸ q)
theorem truth_not {F : Fenv} {r : Rv} {i : Nat} {x : List Nat} {d : Nat} (h : r.lookup i = some (.str x, d)) : Tv F r (.notE (.var i)) (!decide (x ≠ [])) := Tv.not fun Q q => EvD.var (F := F) h (fun t _ => truthW t Q) q
/-- behind the ends -/
theorem lev_tail {s t : List Nat} {m : Int} {Q : V → Prop} {st : St} (hs : s.length ≤ 40) (ht : t.length ≤ 40) (L : AB s t m st) (q : Q (.int (levS s t m))) :
    exs FL (Ss.cons (S.ifs (E.cmp CmpOp.Gt (E.bin Operator.Mult (E.bin Operator.Sub (E.bi Bi.len (Es.cons (E.var 1) Es.nil)) (E.bi Bi.len (Es.cons (E.var 0) Es.nil))) (E.lit (V.int 2))) (E.var 2)) (Ss.cons (S.ret (E.bin Operator.Add (E.var 2) (E.lit (V.int 1)))) Ss.nil) Ss.nil)
      (Ss.cons (S.own 5 (E.bi Bi.list (Es.cons (E.bi Bi.range (Es.cons (E.lit (V.int 2)) (Es.cons (E.bin Operator.Mult (E.lit (V.int 2)) (E.bin Operator.Add (E.bi Bi.len (Es.cons (E.var 0) Es.nil)) (E.lit (V.int 1)))) (Es.cons (E.lit (V.int 2)) Es.nil)))) Es.nil)))
      (Ss.cons (S.asg 6 (E.lit (V.int 0))) (Ss.cons (S.fr 7 (E.bi Bi.range (Es.cons (E.bi Bi.len (Es.cons (E.var 1) Es.nil)) Es.nil)) outerB) (Ss.cons (S.ret (E.var 6)) Ss.nil))))) st (retOut Q) := by
  unfold levS at q
  have l0 := Ev.lenS (EvD.var (F := FL) (rd_at L.h0))
  have l1 := Ev.lenS (EvD.var (F := FL) (rd_at L.h1))
  rw [exs_cons]
  refine S.ifs_ok (gt_int (Ev.mul (by lia) (Ev.sub l1 l0) (Ev.lit _)) (EvD.var (rd_at L.h2))) ?_
  by_cases hm : 2 * ((t.length : Int) - s.length) > m
  · rw [if_pos hm] at q
    rw [decide_eq_true (by lia), if_pos rfl, exs_cons]
    exact S.ret_ok (Ev.add (EvD.var (rd_at L.h2)) (Ev.lit _)) q
  rw [if_neg hm] at q
  rw [decide_eq_false (by lia), if_neg (by decide), exs_nil]
  show exs FL _ st _
  rw [exs_cons]
  refine S.ownR_ok (a := 2) (b := 2 * ((s.length : Int) + 1)) (c := 2) (d := 0) (EvD.bi (.cons (Ev.lit _) (.cons (Ev.mul (by decide) (Ev.lit _) (Ev.add l0 (Ev.lit _))) (.cons (Ev.lit _) .nil))) fun Q q => ⟨by decide, by decide, q⟩) (by unfold rOk; lia) ?_
  rw [row0_eq]
  have L := (L.put (x := 5) (by decide) (B.own ((row0 s.length).map .int))).put (x := 6) (by decide) (B.val (.int 0))
  show exs FL _ ((5, B.own ((row0 s.length).map .int)) :: st) _
  rw [exs_cons]
  refine S.asg_ok (Ev.lit _) ?_
  show exs FL _ ((6, B.val (.int 0)) :: (5, B.own ((row0 s.length).map .int)) :: st) _
  rw [exs_cons]
  refine lev_outer (row := row0 s.length) (Q := Q) (by lia) (by lia) (by simp [row0]) L rfl rfl q (fun t h => h) fun st r h6 hq => ?_
  show exs FL _ st _
  rw [exs_cons]
  exact S.ret_ok (EvD.var (rd_at h6)) hq
theorem lev_ok : ∃ ss, TrD FL dL ["row"] ss ∧ ∀ ts Q, spL ts Q → ts.length = 3 ∧ exs FL (toSs ss) (initFrom 0 ts) (retOut Q) := by
  refine ⟨_, (by unfold TrD; with_unfolding_all (repeat' (first | ((with_reducible show TrSs _ _ _ _ _ _); first | exact TrSs.nil | refine' TrSs.cons ?_ ?_) | ((with_reducible show TrS _ _ _ _ _ _); first | refine' TrS.popU (by rfl) (by rfl) (by rfl) (by rfl) | refine' TrS.newD (by rfl) | refine' TrS.own2c (n := 4) (by rfl) (by rfl) (by rfl) (fun _ _ => by rfl) (SwT.lc rfl) (by rfl) (by decide) ?_ | refine' TrS.stoD (by rfl) (fun _ _ _ => by rfl) (by rfl) ?_ ?_ | refine' TrS.own (by rfl) (by rfl) (by first | exact fun _ _ _ => rfl | exact SwE.lc rfl) (by rfl) ?_ | refine' TrS.frzA (by rfl) (by rfl) (by rfl) (fun _ _ _ => by rfl) (by rfl) ?_ | refine' TrS.asg (by rfl) (by first | exact fun _ _ _ => rfl | exact SwE.lc rfl) (by rfl) ?_ | refine' TrS.app (by rfl) (by rfl) ?_ | refine' TrS.asgC (SwT.lc rfl) (by rfl) ?_ | refine' TrS.sto2 (fun _ _ _ => by rfl) (by rfl) ?_ ?_ ?_ | refine' TrS.sto (fun _ _ _ => by rfl) (by rfl) ?_ ?_ | refine' TrS.swap (by decide) (by rfl) (by rfl) (by rfl) (by rfl) (by rfl) | refine' TrS.asg2 (by rfl) (by rfl) ?_ | refine' TrS.aug (by rfl) ?_ | refine' TrS.augS (fun _ _ _ => by rfl) (by rfl) ?_ ?_ | refine' TrS.ifs ?_ ?_ ?_ | refine' TrS.whl ?_ ?_ | refine' TrS.fr (fun _ _ => by rfl) (by rfl) ?_ ?_ | refine' TrS.ret ?_) | ((with_reducible show TrE _ _ _ _ _); first | refine' TrE.const (by rfl) | refine' TrE.var (by rfl) (by rfl) (by rfl) (by rfl) | refine' TrE.con (by rfl) (by rfl) (by rfl) | refine' TrE.bin ?_ ?_ | refine' TrE.neg ?_ | refine' TrE.notE ?_ | refine' TrE.cmp (by rfl) ?_ ?_ | refine' TrE.bop ?_ ?_ | refine' TrE.ife ?_ ?_ ?_ | refine' TrE.rev ?_ | refine' TrE.sl ?_ ?_ ?_ | refine' TrE.idx ?_ ?_ | refine' TrE.list ?_ | refine' TrE.tup ?_ | refine' TrE.ofC ?_ | refine' TrE.isI (by rfl) (by rfl) ?_ | refine' TrE.isB (by rfl) (by rfl) ?_ | refine' TrE.callF (by rfl) (by rfl) (by rfl) ?_ ?_ | refine' TrE.callB (by rfl) (by rfl) (by rfl) ?_ ?_ | refine' TrE.sub (by rfl) (by rfl) (by rfl) (by rfl) ?_ ?_ | refine' TrE.me0 (fun _ => by rfl) (by rfl) (by rfl) ?_ | refine' TrE.me1 (fun _ => by rfl) (by rfl) (by rfl) ?_ ?_ | refine' TrE.me2 (fun _ => by rfl) (by rfl) (by rfl) ?_ ?_ ?_) | ((with_reducible show TrC _ _ _ _ _ _ _ _); first | refine' TrC.comp (by rfl) (fun _ _ => by rfl) ?_ ?_ ?_ | refine' TrC.comp2 (by rfl) (by rfl) (fun _ _ => by rfl) (fun _ _ => by rfl) ?_ ?_ ?_) | ((with_reducible show TrEs _ _ _ _ _); first | exact TrEs.nil | refine' TrEs.cons ?_ ?_) | ((with_reducible show TrO _ _ _ _ _); first | exact TrO.none | refine' TrO.some ?_) | ((with_reducible show TrI _ _ _ _ _); first | exact TrI.nil | refine' TrI.one ?_) | ((with_reducible show TrF _ _ _ _ _); first | refine' TrF.list ?_ | refine' TrF.range (by rfl) ?_ ?_) | rfl | exact List.cons_ne_nil _ _))), ?_⟩
  dsimp only [List.nil_append, List.cons_append, toSs, toEs, Nat.reduceAdd, Nat.zero_add]
  rintro _ Q ⟨a, b, m, rfl, ha, hb, q⟩
  refine ⟨rfl, ?_⟩
  have L : AB a b m (initFrom 0 [.str a, .str b, .int m]) := ⟨rfl, rfl, rfl⟩
  generalize initFrom 0 [.str a, .str b, .int m] = st at L
  unfold lev at q
  rw [exs_cons]
  refine S.ifs_ok (eq_str (EvD.var (rd_at L.h0)) (EvD.var (rd_at L.h1))) ?_
  by_cases hab : a = b
  · rw [if_pos hab] at q
    rw [decide_eq_true hab, if_pos rfl, exs_cons]
    exact S.ret_ok (Ev.lit _) q
  rw [if_neg hab] at q
  rw [decide_eq_false hab, if_neg (by decide), exs_nil]
  show exs FL _ st _
  rw [exs_cons]
  refine S.asg_ok (Ev.lit _) ?_
  have L := L.put (x := 3) (by decide) (B.val (.int 0))
  show exs FL _ ((3, B.val (.int 0)) :: st) _
  have h3 : ((3, B.val (.int 0)) :: st : St).lookup 3 = some (.val (vN 0)) := rfl
  generalize ((3, B.val (.int 0)) :: st : St) = st at L h3
  rw [exs_cons]
  refine loop1 L h3 fun p st hpa hpb hp L h3 => ?_
  show exs FL _ st _
  rw [exs_cons]
  refine S.asg_ok (cut3 (rd_at L.h0) (rd_at h3)) ?_
  show exs FL _ ((0, B.val (.str (a.drop p))) :: st) _
  have L : AB (a.drop p) b m ((0, B.val (.str (a.drop p))) :: st) := ⟨rfl, L.h1, L.h2⟩
  have h3 : ((0, B.val (.str (a.drop p))) :: st : St).lookup 3 = some (.val (vN p)) := h3
  generalize ((0, B.val (.str (a.drop p))) :: st : St) = st at L h3
  rw [exs_cons]
  refine S.asg_ok (cut3 (rd_at L.h1) (rd_at h3)) ?_
  show exs FL _ ((1, B.val (.str (b.drop p))) :: st) _
  have L : AB (a.drop p) (b.drop p) m ((1, B.val (.str (b.drop p))) :: st) := ⟨L.h0, rfl, L.h2⟩
  generalize ((1, B.val (.str (b.drop p))) :: st : St) = st at L
  rw [exs_cons]
  refine S.asg_ok (Ev.lit _) ?_
  have L := L.put (x := 4) (by decide) (B.val (.int 0))
  show exs FL _ ((4, B.val (.int 0)) :: st) _
  have h4 : ((4, B.val (.int 0)) :: st : St).lookup 4 = some (.val (.int 0)) := rfl
  clear h3
  generalize ((4, B.val (.int 0)) :: st : St) = st at L h4
  rw [exs_cons]
  refine loop2 L h4 fun k st hka hkb hk L h4 => ?_
  have sB : stripB a b = (((a.drop p).reverse.drop k).reverse, ((b.drop p).reverse.drop k).reverse) := by
    unfold stripB; simp only [hp, hk]
  have sl := stripB_len a b
  rw [sB] at q sl
  dsimp only at q sl
  show exs FL _ st _
  rw [exs_cons]
  refine S.asg_ok (cut4 (rd_at L.h0) (rd_at h4)) ?_
  generalize ((a.drop p).reverse.drop k).reverse = a' at q sl
  show exs FL _ ((0, B.val (.str a')) :: st) _
  have L : AB a' (b.drop p) m ((0, B.val (.str a')) :: st) := ⟨rfl, L.h1, L.h2⟩
  have h4 : ((0, B.val (.str a')) :: st : St).lookup 4 = some (.val (.int (-(k : Int)))) := h4
  generalize ((0, B.val (.str a')) :: st : St) = st at L h4
  rw [exs_cons]
  refine S.asg_ok (cut4 (rd_at L.h1) (rd_at h4)) ?_
  generalize ((b.drop p).reverse.drop k).reverse = b' at q sl
  show exs FL _ ((1, B.val (.str b')) :: st) _
  have L : AB a' b' m ((1, B.val (.str b')) :: st) := ⟨L.h0, rfl, L.h2⟩
  clear sB hp hk hka hkb h4
  generalize ((1, B.val (.str b')) :: st : St) = st at L
  have l0 := Ev.lenS (EvD.var (F := FL) (rd_at L.h0))
  have l1 := Ev.lenS (EvD.var (F := FL) (rd_at L.h1))
  rw [exs_cons]
  refine S.ifs_ok (Tv.or (truth_not (rd_at L.h0)) fun _ => truth_not (rd_at L.h1)) ?_
  by_cases h0 : a' = [] ∨ b' = []
  · rw [if_pos h0] at q
    have : ((!decide (a' ≠ [])) || (!decide (b' ≠ []))) = true := by rcases h0 with h | h <;> simp [h]
    rw [this, if_pos rfl, exs_cons]
    exact S.ret_ok (Ev.mul (by decide) (Ev.lit _) (Ev.add l0 l1)) q
  rw [if_neg h0] at q
  have : ((!decide (a' ≠ [])) || (!decide (b' ≠ []))) = false := by
    rw [not_or] at h0; simp [h0.1, h0.2]
  rw [this, if_neg (by decide), exs_nil]
  clear this
  show exs FL _ st _
  rw [exs_cons]
  refine S.ifs_ok (Tv.or (gt_int l0 (Ev.lit _)) fun _ => gt_int l1 (Ev.lit _)) ?_
  by_cases h4 : a'.length > 40 ∨ b'.length > 40
  · rw [if_pos h4] at q
    have : (decide ((40 : Int) < (a'.length : Nat)) || decide ((40 : Int) < (b'.length : Nat))) = true := by
      rw [Bool.or_eq_true, decide_eq_true_eq, decide_eq_true_eq]; lia
    rw [this, if_pos rfl, exs_cons]
    exact S.ret_ok (Ev.add (EvD.var (rd_at L.h2)) (Ev.lit _)) q
  rw [if_neg h4] at q
  have : (decide ((40 : Int) < (a'.length : Nat)) || decide ((40 : Int) < (b'.length : Nat))) = false := by
    rw [Bool.or_eq_false_iff, decide_eq_false_iff_not, decide_eq_false_iff_not]; lia
  rw [this, if_neg (by decide), exs_nil]
  clear this
  show exs FL _ st _
  rw [exs_cons]
  refine S.ifs_ok (lt_int l1 l0) ?_
  by_cases lab : b'.length < a'.length
  · rw [if_pos lab] at q
    rw [decide_eq_true (by lia), if_pos rfl, exs_cons]
    exact S.swap_ok L.h0 L.h1 rfl rfl (contW_nil (lev_tail (s := b') (t := a') (by lia) (by lia) ⟨rfl, rfl, L.h2⟩ q))
  · rw [if_neg lab] at q
    rw [decide_eq_false (by lia), if_neg (by decide), exs_nil]
    exact lev_tail (s := a') (t := b') (by lia) (by lia) L q
end Mine
end

-- part T5
section
open PySem PySem.Calls PyProof.Rows
set_option linter.unusedSimpArgs false
set_option linter.unusedVariables false
set_option maxRecDepth 100000
namespace Mine
noncomputable def FQ : Fenv := ⟨[("CRLF", .str [13, 10])], [], [], [("_twin_re_1", [46, 46], Rx.dotL true), ("_twin_re_2", [13, 10], Rx.norm2)]⟩
noncomputable def dQ := fnAt P1 11
noncomputable def dT := fnAt P1 64
noncomputable def dNt := fnAt P1 65
noncomputable def dE := fnAt P1 66
noncomputable def spQ : Spec := fun ts Q => ∃ x, ts = [.str x] ∧ x.length ≤ 2000 ∧ Q (.str (Rx.quoteL x))
theorem EvD.sub {F : Fenv} {r : Rv} {f : Nat} {a b : E} {n : Str} {rp x : List Nat} {g : List Nat → List Nat} {da db : Nat} (hf : F.subs[f]? = some (n, rp, g)) (ha : EvD F r a (.str rp) da) (hb : EvD F r b (.str x) db) (h1 : x.length ≤ 300000) (h2 : (g x).length ≤ 1000000) : Ev F r (.sub f a b) (.str (g x)) := fun Q q =>
  ha _ (hb _ (by
    unfold subW
    rw [hf]; exact ⟨rfl, h1, h2, q⟩))
theorem quote_ok : ∃ ss, TrD FQ dQ [] ss ∧ ∀ ts Q, spQ ts Q → ts.length = 1 ∧ exs FQ (toSs ss) (initFrom 0 ts) (retOut Q) := by
  refine ⟨_, (by unfold TrD; with_unfolding_all (repeat' (first | ((with_reducible show TrSs _ _ _ _ _ _); first | exact TrSs.nil | refine' TrSs.cons ?_ ?_) | ((with_reducible show TrS _ _ _ _ _ _); first | refine' TrS.popU (by rfl) (by rfl) (by rfl) (by rfl) | refine' TrS.newD (by rfl) | refine' TrS.own2c (n := 4) (by rfl) (by rfl) (by rfl) (fun _ _ => by rfl) (SwT.lc rfl) (by rfl) (by decide) ?_ | refine' TrS.stoD (by rfl) (fun _ _ _ => by rfl) (by rfl) ?_ ?_ | refine' TrS.own (by rfl) (by rfl) (by first | exact fun _ _ _ => rfl | exact SwE.lc rfl) (by rfl) ?_ | refine' TrS.frzA (by rfl) (by rfl) (by rfl) (fun _ _ _ => by rfl) (by rfl) ?_ | refine' TrS.asg (by rfl) (by first | exact fun _ _ _ => rfl | exact SwE.lc rfl) (by rfl) ?_ | refine' TrS.app (by rfl) (by rfl) ?_ | refine' TrS.asgC (SwT.lc rfl) (by rfl) ?_ | refine' TrS.sto2 (fun _ _ _ => by rfl) (by rfl) ?_ ?_ ?_ | refine' TrS.sto (fun _ _ _ => by rfl) (by rfl) ?_ ?_ | refine' TrS.swap (by decide) (by rfl) (by rfl) (by rfl) (by rfl) (by rfl) | refine' TrS.asg2 (by rfl) (by rfl) ?_ | refine' TrS.aug (by rfl) ?_ | refine' TrS.augS (fun _ _ _ => by rfl) (by rfl) ?_ ?_ | refine' TrS.ifs ?_ ?_ ?_ | refine' TrS.whl ?_ ?_ | refine' TrS.fr (fun _ _ => by rfl) (by rfl) ?_ ?_ | refine' TrS.ret ?_) | ((with_reducible show TrE _ _ _ _ _); first | refine' TrE.const (by rfl) | refine' TrE.var (by rfl) (by rfl) (by rfl) (by rfl) | refine' TrE.con (by rfl) (by rfl) (by rfl) | refine' TrE.bin ?_ ?_ | refine' TrE.neg ?_ | refine' TrE.notE ?_ | refine' TrE.cmp (by rfl) ?_ ?_ | refine' TrE.bop ?_ ?_ | refine' TrE.ife ?_ ?_ ?_ | refine' TrE.rev ?_ | refine' TrE.sl ?_ ?_ ?_ | refine' TrE.idx ?_ ?_ | refine' TrE.list ?_ | refine' TrE.tup ?_ | refine' TrE.ofC ?_ | refine' TrE.isI (by rfl) (by rfl) ?_ | refine' TrE.isB (by rfl) (by rfl) ?_ | refine' TrE.callF (by rfl) (by rfl) (by rfl) ?_ ?_ | refine' TrE.callB (by rfl) (by rfl) (by rfl) ?_ ?_ | refine' TrE.sub (by rfl) (by rfl) (by rfl) (by rfl) ?_ ?_ | refine' TrE.me0 (fun _ => by rfl) (by rfl) (by rfl) ?_ | refine' TrE.me1 (fun _ => by rfl) (by rfl) (by rfl) ?_ ?_ | refine' TrE.me2 (fun _ => by rfl) (by rfl) (by rfl) ?_ ?_ ?_) | ((with_reducible show TrC _ _ _ _ _ _ _ _); first | refine' TrC.comp (by rfl) (fun _ _ => by rfl) ?_ ?_ ?_ | refine' TrC.comp2 (by rfl) (by rfl) (fun _ _ => by rfl) (fun _ _ => by rfl) ?_ ?_ ?_) | ((with_reducible show TrEs _ _ _ _ _); first | exact TrEs.nil | refine' TrEs.cons ?_ ?_) | ((with_reducible show TrO _ _ _ _ _); first | exact TrO.none | refine' TrO.some ?_) | ((with_reducible show TrI _ _ _ _ _); first | exact TrI.nil | refine' TrI.one ?_) | ((with_reducible show TrF _ _ _ _ _); first | refine' TrF.list ?_ | refine' TrF.range (by rfl) ?_ ?_) | rfl | exact List.cons_ne_nil _ _))), ?_⟩
  rintro _ Q ⟨x, rfl, hx, q⟩
  refine ⟨rfl, ?_⟩
  have l1 := Rx.norm2_len x
  have l2 := Rx.dotL_len true (Rx.norm2 x)
  dsimp only [Nat.zero_add, Nat.reduceAdd, List.nil_append, List.cons_append, toSs, toEs]
  rw [exs_cons]
  exact S.ret_ok (EvD.sub (F := FQ) (n := "_twin_re_1") rfl (Ev.lit _) (EvD.sub (F := FQ) (n := "_twin_re_2") rfl (Ev.lit _) (EvD.var (i := 0) rfl) (by lia) (by lia)) (by lia) (by lia)) q
theorem subst_ok : ∃ ss, TrD FS dS [] ss ∧ ∀ ts Q, spS ts Q → ts.length = 2 ∧ exs FS (toSs ss) (initFrom 0 ts) (retOut Q) := by
  refine ⟨_, (by unfold TrD; with_unfolding_all (repeat' (first | ((with_reducible show TrSs _ _ _ _ _ _); first | exact TrSs.nil | refine' TrSs.cons ?_ ?_) | ((with_reducible show TrS _ _ _ _ _ _); first | refine' TrS.popU (by rfl) (by rfl) (by rfl) (by rfl) | refine' TrS.newD (by rfl) | refine' TrS.own2c (n := 4) (by rfl) (by rfl) (by rfl) (fun _ _ => by rfl) (SwT.lc rfl) (by rfl) (by decide) ?_ | refine' TrS.stoD (by rfl) (fun _ _ _ => by rfl) (by rfl) ?_ ?_ | refine' TrS.own (by rfl) (by rfl) (by first | exact fun _ _ _ => rfl | exact SwE.lc rfl) (by rfl) ?_ | refine' TrS.frzA (by rfl) (by rfl) (by rfl) (fun _ _ _ => by rfl) (by rfl) ?_ | refine' TrS.asg (by rfl) (by first | exact fun _ _ _ => rfl | exact SwE.lc rfl) (by rfl) ?_ | refine' TrS.app (by rfl) (by rfl) ?_ | refine' TrS.asgC (SwT.lc rfl) (by rfl) ?_ | refine' TrS.sto2 (fun _ _ _ => by rfl) (by rfl) ?_ ?_ ?_ | refine' TrS.sto (fun _ _ _ => by rfl) (by rfl) ?_ ?_ | refine' TrS.swap (by decide) (by rfl) (by rfl) (by rfl) (by rfl) (by rfl) | refine' TrS.asg2 (by rfl) (by rfl) ?_ | refine' TrS.aug (by rfl) ?_ | refine' TrS.augS (fun _ _ _ => by rfl) (by rfl) ?_ ?_ | refine' TrS.ifs ?_ ?_ ?_ | refine' TrS.whl ?_ ?_ | refine' TrS.fr (fun _ _ => by rfl) (by rfl) ?_ ?_ | refine' TrS.ret ?_) | ((with_reducible show TrE _ _ _ _ _); first | refine' TrE.const (by rfl) | refine' TrE.var (by rfl) (by rfl) (by rfl) (by rfl) | refine' TrE.con (by rfl) (by rfl) (by rfl) | refine' TrE.bin ?_ ?_ | refine' TrE.neg ?_ | refine' TrE.notE ?_ | refine' TrE.cmp (by rfl) ?_ ?_ | refine' TrE.bop ?_ ?_ | refine' TrE.ife ?_ ?_ ?_ | refine' TrE.rev ?_ | refine' TrE.sl ?_ ?_ ?_ | refine' TrE.idx ?_ ?_ | refine' TrE.list ?_ | refine' TrE.tup ?_ | refine' TrE.ofC ?_ | refine' TrE.isI (by rfl) (by rfl) ?_ | refine' TrE.isB (by rfl) (by rfl) ?_ | refine' TrE.callF (by rfl) (by rfl) (by rfl) ?_ ?_ | refine' TrE.callB (by rfl) (by rfl) (by rfl) ?_ ?_ | refine' TrE.sub (by rfl) (by rfl) (by rfl) (by rfl) ?_ ?_ | refine' TrE.me0 (fun _ => by rfl) (by rfl) (by rfl) ?_ | refine' TrE.me1 (fun _ => by rfl) (by rfl) (by rfl) ?_ ?_ | refine' TrE.me2 (fun _ => by rfl) (by rfl) (by rfl) ?_ ?_ ?_) | ((with_reducible show TrC _ _ _ _ _ _ _ _); first | refine' TrC.comp (by rfl) (fun _ _ => by rfl) ?_ ?_ ?_ | refine' TrC.comp2 (by rfl) (by rfl) (fun _ _ => by rfl) (fun _ _ => by rfl) ?_ ?_ ?_) | ((with_reducible show TrEs _ _ _ _ _); first | exact TrEs.nil | refine' TrEs.cons ?_ ?_) | ((with_reducible show TrO _ _ _ _ _); first | exact TrO.none | refine' TrO.some ?_) | ((with_reducible show TrI _ _ _ _ _); first | exact TrI.nil | refine' TrI.one ?_) | ((with_reducible show TrF _ _ _ _ _); first | refine' TrF.list ?_ | refine' TrF.range (by rfl) ?_ ?_) | rfl | exact List.cons_ne_nil _ _))), ?_⟩
  rintro _ Q ⟨x, y, rfl, hx, hy, q⟩
  refine ⟨rfl, ?_⟩
  have h0 : (initFrom 0 [.str x, .str y]).lookup 0 = some (.val (.str x)) := rfl
  have h1 : (initFrom 0 [.str x, .str y]).lookup 1 = some (.val (.str y)) := rfl
  generalize initFrom 0 [.str x, .str y] = st at h0 h1
  dsimp only [Nat.zero_add, Nat.reduceAdd, List.nil_append, List.cons_append, toSs, toEs]
  unfold substC at q
  rw [exs_cons]
  refine S.ifs_ok (eq_str (EvD.var (rd_at h0)) (EvD.var (rd_at h1))) ?_
  by_cases e : x = y
  · rw [if_pos e] at q
    rw [decide_eq_true e, if_pos rfl, exs_cons]
    exact S.ret_ok (Ev.lit _) q
  rw [if_neg e] at q
  rw [decide_eq_false e, if_neg (by decide), exs_nil]
  show exs FS _ st _
  rw [exs_cons]
  refine S.ifs_ok (eq_str (x := lowL x) (y := lowL y) (EvD.me0 (EvD.var (rd_at h0)) fun Q q => ⟨by lia, q⟩) (EvD.me0 (EvD.var (rd_at h1)) fun Q q => ⟨by lia, q⟩)) ?_
  by_cases e : lowL x = lowL y
  · rw [if_pos e] at q
    rw [decide_eq_true e, if_pos rfl, exs_cons]
    exact S.ret_ok (Ev.lit _) q
  rw [if_neg e] at q
  rw [decide_eq_false e, if_neg (by decide), exs_nil]
  show exs FS _ st _
  rw [exs_cons]
  exact S.ret_ok (Ev.lit _) q
noncomputable def FT : Fenv := ⟨[("NT_OFFSET", .int 256), ("ENDMARKER", .int 0)], [], [], []⟩
noncomputable def spT : Spec := fun ts Q => ∃ i : Int, ts = [.int i] ∧ Q (.bool (decide (i < 256)))
noncomputable def spN : Spec := fun ts Q => ∃ i : Int, ts = [.int i] ∧ Q (.bool (decide (256 ≤ i)))
noncomputable def spE : Spec := fun ts Q => ∃ i : Int, ts = [.int i] ∧ Q (.bool (decide (i = 0)))
theorem term_ok : ∃ ss, TrD FT dT [] ss ∧ ∀ ts Q, spT ts Q → ts.length = 1 ∧ exs FT (toSs ss) (initFrom 0 ts) (retOut Q) := by
  refine ⟨_, (by unfold TrD; with_unfolding_all (repeat' (first | ((with_reducible show TrSs _ _ _ _ _ _); first | exact TrSs.nil | refine' TrSs.cons ?_ ?_) | ((with_reducible show TrS _ _ _ _ _ _); first | refine' TrS.popU (by rfl) (by rfl) (by rfl) (by rfl) | refine' TrS.newD (by rfl) | refine' TrS.own2c (n := 4) (by rfl) (by rfl) (by rfl) (fun _ _ => by rfl) (SwT.lc rfl) (by rfl) (by decide) ?_ | refine' TrS.stoD (by rfl) (fun _ _ _ => by rfl) (by rfl) ?_ ?_ | refine' TrS.own (by rfl) (by rfl) (by first | exact fun _ _ _ => rfl | exact SwE.lc rfl) (by rfl) ?_ | refine' TrS.frzA (by rfl) (by rfl) (by rfl) (fun _ _ _ => by rfl) (by rfl) ?_ | refine' TrS.asg (by rfl) (by first | exact fun _ _ _ => rfl | exact SwE.lc rfl) (by rfl) ?_ | refine' TrS.app (by rfl) (by rfl) ?_ | refine' TrS.asgC (SwT.lc rfl) (by rfl) ?_ | refine' TrS.sto2 (fun _ _ _ => by rfl) (by rfl) ?_ ?_ ?_ | refine' TrS.sto (fun _ _ _ => by rfl) (by rfl) ?_ ?_ | refine' TrS.swap (by decide) (by rfl) (by rfl) (by rfl) (by rfl) (by rfl) | refine' TrS.asg2 (by rfl) (by rfl) ?_ | refine' TrS.aug (by rfl) ?_ | refine' TrS.augS (fun _ _ _ => by rfl) (by rfl) ?_ ?_ | refine' TrS.ifs ?_ ?_ ?_ | refine' TrS.whl ?_ ?_ | refine' TrS.fr (fun _ _ => by rfl) (by rfl) ?_ ?_ | refine' TrS.ret ?_) | ((with_reducible show TrE _ _ _ _ _); first | refine' TrE.const (by rfl) | refine' TrE.var (by rfl) (by rfl) (by rfl) (by rfl) | refine' TrE.con (by rfl) (by rfl) (by rfl) | refine' TrE.bin ?_ ?_ | refine' TrE.neg ?_ | refine' TrE.notE ?_ | refine' TrE.cmp (by rfl) ?_ ?_ | refine' TrE.bop ?_ ?_ | refine' TrE.ife ?_ ?_ ?_ | refine' TrE.rev ?_ | refine' TrE.sl ?_ ?_ ?_ | refine' TrE.idx ?_ ?_ | refine' TrE.list ?_ | refine' TrE.tup ?_ | refine' TrE.ofC ?_ | refine' TrE.isI (by rfl) (by rfl) ?_ | refine' TrE.isB (by rfl) (by rfl) ?_ | refine' TrE.callF (by rfl) (by rfl) (by rfl) ?_ ?_ | refine' TrE.callB (by rfl) (by rfl) (by rfl) ?_ ?_ | refine' TrE.sub (by rfl) (by rfl) (by rfl) (by rfl) ?_ ?_ | refine' TrE.me0 (fun _ => by rfl) (by rfl) (by rfl) ?_ | refine' TrE.me1 (fun _ => by rfl) (by rfl) (by rfl) ?_ ?_ | refine' TrE.me2 (fun _ => by rfl) (by rfl) (by rfl) ?_ ?_ ?_) | ((with_reducible show TrC _ _ _ _ _ _ _ _); first | refine' TrC.comp (by rfl) (fun _ _ => by rfl) ?_ ?_ ?_ | refine' TrC.comp2 (by rfl) (by rfl) (fun _ _ => by rfl) (fun _ _ => by rfl) ?_ ?_ ?_) | ((with_reducible show TrEs _ _ _ _ _); first | exact TrEs.nil | refine' TrEs.cons ?_ ?_) | ((with_reducible show TrO _ _ _ _ _); first | exact TrO.none | refine' TrO.some ?_) | ((with_reducible show TrI _ _ _ _ _); first | exact TrI.nil | refine' TrI.one ?_) | ((with_reducible show TrF _ _ _ _ _); first | refine' TrF.list ?_ | refine' TrF.range (by rfl) ?_ ?_) | rfl | exact List.cons_ne_nil _ _))), ?_⟩
  rintro _ Q ⟨x, rfl, q⟩
  refine ⟨rfl, ?_⟩
  dsimp only [Nat.zero_add, Nat.reduceAdd, List.nil_append, List.cons_append, toSs, toEs]
  rw [exs_cons]
  exact S.ret_ok (EvD.cmp (EvD.var (i := 0) rfl) (Ev.lit _) fun Q q => q) q
theorem nont_ok : ∃ ss, TrD FT dNt [] ss ∧ ∀ ts Q, spN ts Q → ts.length = 1 ∧ exs FT (toSs ss) (initFrom 0 ts) (retOut Q) := by
  refine ⟨_, (by unfold TrD; with_unfolding_all (repeat' (first | ((with_reducible show TrSs _ _ _ _ _ _); first | exact TrSs.nil | refine' TrSs.cons ?_ ?_) | ((with_reducible show TrS _ _ _ _ _ _); first | refine' TrS.popU (by rfl) (by rfl) (by rfl) (by rfl) | refine' TrS.newD (by rfl) | refine' TrS.own2c (n := 4) (by rfl) (by rfl) (by rfl) (fun _ _ => by rfl) (SwT.lc rfl) (by rfl) (by decide) ?_ | refine' TrS.stoD (by rfl) (fun _ _ _ => by rfl) (by rfl) ?_ ?_ | refine' TrS.own (by rfl) (by rfl) (by first | exact fun _ _ _ => rfl | exact SwE.lc rfl) (by rfl) ?_ | refine' TrS.frzA (by rfl) (by rfl) (by rfl) (fun _ _ _ => by rfl) (by rfl) ?_ | refine' TrS.asg (by rfl) (by first | exact fun _ _ _ => rfl | exact SwE.lc rfl) (by rfl) ?_ | refine' TrS.app (by rfl) (by rfl) ?_ | refine' TrS.asgC (SwT.lc rfl) (by rfl) ?_ | refine' TrS.sto2 (fun _ _ _ => by rfl) (by rfl) ?_ ?_ ?_ | refine' TrS.sto (fun _ _ _ => by rfl) (by rfl) ?_ ?_ | refine' TrS.swap (by decide) (by rfl) (by rfl) (by rfl) (by rfl) (by rfl) | refine' TrS.asg2 (by rfl) (by rfl) ?_ | refine' TrS.aug (by rfl) ?_ | refine' TrS.augS (fun _ _ _ => by rfl) (by rfl) ?_ ?_ | refine' TrS.ifs ?_ ?_ ?_ | refine' TrS.whl ?_ ?_ | refine' TrS.fr (fun _ _ => by rfl) (by rfl) ?_ ?_ | refine' TrS.ret ?_) | ((with_reducible show TrE _ _ _ _ _); first | refine' TrE.const (by rfl) | refine' TrE.var (by rfl) (by rfl) (by rfl) (by rfl) | refine' TrE.con (by rfl) (by rfl) (by rfl) | refine' TrE.bin ?_ ?_ | refine' TrE.neg ?_ | refine' TrE.notE ?_ | refine' TrE.cmp (by rfl) ?_ ?_ | refine' TrE.bop ?_ ?_ | refine' TrE.ife ?_ ?_ ?_ | refine' TrE.rev ?_ | refine' TrE.sl ?_ ?_ ?_ | refine' TrE.idx ?_ ?_ | refine' TrE.list ?_ | refine' TrE.tup ?_ | refine' TrE.ofC ?_ | refine' TrE.isI (by rfl) (by rfl) ?_ | refine' TrE.isB (by rfl) (by rfl) ?_ | refine' TrE.callF (by rfl) (by rfl) (by rfl) ?_ ?_ | refine' TrE.callB (by rfl) (by rfl) (by rfl) ?_ ?_ | refine' TrE.sub (by rfl) (by rfl) (by rfl) (by rfl) ?_ ?_ | refine' TrE.me0 (fun _ => by rfl) (by rfl) (by rfl) ?_ | refine' TrE.me1 (fun _ => by rfl) (by rfl) (by rfl) ?_ ?_ | refine' TrE.me2 (fun _ => by rfl) (by rfl) (by rfl) ?_ ?_ ?_) | ((with_reducible show TrC _ _ _ _ _ _ _ _); first | refine' TrC.comp (by rfl) (fun _ _ => by rfl) ?_ ?_ ?_ | refine' TrC.comp2 (by rfl) (by rfl) (fun _ _ => by rfl) (fun _ _ => by rfl) ?_ ?_ ?_) | ((with_reducible show TrEs _ _ _ _ _); first | exact TrEs.nil | refine' TrEs.cons ?_ ?_) | ((with_reducible show TrO _ _ _ _ _); first | exact TrO.none | refine' TrO.some ?_) | ((with_reducible show TrI _ _ _ _ _); first | exact TrI.nil | refine' TrI.one ?_) | ((with_reducible show TrF _ _ _ _ _); first | refine' TrF.list ?_ | refine' TrF.range (by rfl) ?_ ?_) | rfl | exact List.cons_ne_nil _ _))), ?_⟩
  rintro _ Q ⟨x, rfl, q⟩
  refine ⟨rfl, ?_⟩
  dsimp only [Nat.zero_add, Nat.reduceAdd, List.nil_append, List.cons_append, toSs, toEs]
  rw [exs_cons]
  exact S.ret_ok (EvD.cmp (EvD.var (i := 0) rfl) (Ev.lit _) fun Q q => q) q
theorem eof_ok : ∃ ss, TrD FT dE [] ss ∧ ∀ ts Q, spE ts Q → ts.length = 1 ∧ exs FT (toSs ss) (initFrom 0 ts) (retOut Q) := by
  refine ⟨_, (by unfold TrD; with_unfolding_all (repeat' (first | ((with_reducible show TrSs _ _ _ _ _ _); first | exact TrSs.nil | refine' TrSs.cons ?_ ?_) | ((with_reducible show TrS _ _ _ _ _ _); first | refine' TrS.popU (by rfl) (by rfl) (by rfl) (by rfl) | refine' TrS.newD (by rfl) | refine' TrS.own2c (n := 4) (by rfl) (by rfl) (by rfl) (fun _ _ => by rfl) (SwT.lc rfl) (by rfl) (by decide) ?_ | refine' TrS.stoD (by rfl) (fun _ _ _ => by rfl) (by rfl) ?_ ?_ | refine' TrS.own (by rfl) (by rfl) (by first | exact fun _ _ _ => rfl | exact SwE.lc rfl) (by rfl) ?_ | refine' TrS.frzA (by rfl) (by rfl) (by rfl) (fun _ _ _ => by rfl) (by rfl) ?_ | refine' TrS.asg (by rfl) (by first | exact fun _ _ _ => rfl | exact SwE.lc rfl) (by rfl) ?_ | refine' TrS.app (by rfl) (by rfl) ?_ | refine' TrS.asgC (SwT.lc rfl) (by rfl) ?_ | refine' TrS.sto2 (fun _ _ _ => by rfl) (by rfl) ?_ ?_ ?_ | refine' TrS.sto (fun _ _ _ => by rfl) (by rfl) ?_ ?_ | refine' TrS.swap (by decide) (by rfl) (by rfl) (by rfl) (by rfl) (by rfl) | refine' TrS.asg2 (by rfl) (by rfl) ?_ | refine' TrS.aug (by rfl) ?_ | refine' TrS.augS (fun _ _ _ => by rfl) (by rfl) ?_ ?_ | refine' TrS.ifs ?_ ?_ ?_ | refine' TrS.whl ?_ ?_ | refine' TrS.fr (fun _ _ => by rfl) (by rfl) ?_ ?_ | refine' TrS.ret ?_) | ((with_reducible show TrE _ _ _ _ _); first | refine' TrE.const (by rfl) | refine' TrE.var (by rfl) (by rfl) (by rfl) (by rfl) | refine' TrE.con (by rfl) (by rfl) (by rfl) | refine' TrE.bin ?_ ?_ | refine' TrE.neg ?_ | refine' TrE.notE ?_ | refine' TrE.cmp (by rfl) ?_ ?_ | refine' TrE.bop ?_ ?_ | refine' TrE.ife ?_ ?_ ?_ | refine' TrE.rev ?_ | refine' TrE.sl ?_ ?_ ?_ | refine' TrE.idx ?_ ?_ | refine' TrE.list ?_ | refine' TrE.tup ?_ | refine' TrE.ofC ?_ | refine' TrE.isI (by rfl) (by rfl) ?_ | refine' TrE.isB (by rfl) (by rfl) ?_ | refine' TrE.callF (by rfl) (by rfl) (by rfl) ?_ ?_ | refine' TrE.callB (by rfl) (by rfl) (by rfl) ?_ ?_ | refine' TrE.sub (by rfl) (by rfl) (by rfl) (by rfl) ?_ ?_ | refine' TrE.me0 (fun _ => by rfl) (by rfl) (by rfl) ?_ | refine' TrE.me1 (fun _ => by rfl) (by rfl) (by rfl) ?_ ?_ | refine' TrE.me2 (fun _ => by rfl) (by rfl) (by rfl) ?_ ?_ ?_) | ((with_reducible show TrC _ _ _ _ _ _ _ _); first | refine' TrC.comp (by rfl) (fun _ _ => by rfl) ?_ ?_ ?_ | refine' TrC.comp2 (by rfl) (by rfl) (fun _ _ => by rfl) (fun _ _ => by rfl) ?_ ?_ ?_) | ((with_reducible show TrEs _ _ _ _ _); first | exact TrEs.nil | refine' TrEs.cons ?_ ?_) | ((with_reducible show TrO _ _ _ _ _); first | exact TrO.none | refine' TrO.some ?_) | ((with_reducible show TrI _ _ _ _ _); first | exact TrI.nil | refine' TrI.one ?_) | ((with_reducible show TrF _ _ _ _ _); first | refine' TrF.list ?_ | refine' TrF.range (by rfl) ?_ ?_) | rfl | exact List.cons_ne_nil _ _))), ?_⟩
  rintro _ Q ⟨x, rfl, q⟩
  refine ⟨rfl, ?_⟩
  dsimp only [Nat.zero_add, Nat.reduceAdd, List.nil_append, List.cons_append, toSs, toEs]
  rw [exs_cons]
  exact S.ret_ok (EvD.cmp (EvD.var (i := 0) rfl) (Ev.lit _) fun Q q => q) q
end Mine
end

-- part L1
section
set_option linter.unusedVariables false
namespace Mine
/-! the distance, with no bound -/
noncomputable def DR (w : Nat → Nat → Nat) (x : Nat) (f : List Nat → Nat) : List Nat → Nat
  | [] => f [] + 2
  | y :: t => min (min (f (y :: t)) (DR w x f t) + 2) (f t + w x y)
noncomputable def D (w : Nat → Nat → Nat) : List Nat → List Nat → Nat
  | [] => fun t => 2 * t.length
  | x :: s => DR w x (D w s)
inductive Ed (w : Nat → Nat → Nat) : List Nat → List Nat → Nat → Prop where
  | nil : Ed w [] [] 0
  | del (x : Nat) {s t n} : Ed w s t n → Ed w (x :: s) t (n + 2)
  | ins (y : Nat) {s t n} : Ed w s t n → Ed w s (y :: t) (n + 2)
  | sub (x y : Nat) {s t n} : Ed w s t n → Ed w (x :: s) (y :: t) (n + w x y)
section
variable {w : Nat → Nat → Nat}
theorem D_nil (t : List Nat) : D w [] t = 2 * t.length := rfl
theorem D_cn (x : Nat) (s : List Nat) : D w (x :: s) [] = D w s [] + 2 := rfl
theorem D_cc (x : Nat) (s : List Nat) (y : Nat) (t : List Nat) : D w (x :: s) (y :: t) = min (min (D w s (y :: t)) (D w (x :: s) t) + 2) (D w s t + w x y) := rfl
theorem Ed.insAll : ∀ t : List Nat, Ed w [] t (2 * t.length)
  | [] => .nil
  | y :: t => by
    have := Ed.ins y (Ed.insAll t)
    rwa [show 2 * t.length + 2 = 2 * (y :: t).length by rw [List.length_cons]; lia] at this
theorem Ed.ofD : ∀ s t : List Nat, Ed w s t (D w s t)
  | [], t => Ed.insAll t
  | x :: s, t => by
    induction t with
    | nil => exact .del x (Ed.ofD s [])
    | cons y t ih =>
      rw [D_cc]
      have h1 := Ed.del x (Ed.ofD s (y :: t))
      have h2 := Ed.ins y ih
      have h3 := Ed.sub x y (Ed.ofD s t)
      generalize D w s (y :: t) = p at *
      generalize D w (x :: s) t = q at *
      generalize D w s t + w x y = r at *
      rcases Nat.le_total (min p q + 2) r with h | h
      · rw [Nat.min_eq_left h]
        rcases Nat.le_total p q with h' | h'
        · rw [Nat.min_eq_left h']; exact h1
        · rw [Nat.min_eq_right h']; exact h2
      · rw [Nat.min_eq_right h]; exact h3
theorem D_del (x : Nat) (s t : List Nat) : D w (x :: s) t ≤ D w s t + 2 := by
  cases t with
  | nil => exact Nat.le_refl _
  | cons y t => rw [D_cc]; exact Nat.le_trans (Nat.min_le_left _ _) (Nat.add_le_add_right (Nat.min_le_left _ _) 2)
theorem D_ins (y : Nat) (s t : List Nat) : D w s (y :: t) ≤ D w s t + 2 := by
  cases s with
  | nil => rw [D_nil, D_nil, List.length_cons]; lia
  | cons x s => rw [D_cc]; exact Nat.le_trans (Nat.min_le_left _ _) (Nat.add_le_add_right (Nat.min_le_right _ _) 2)
theorem D_sub (x y : Nat) (s t : List Nat) : D w (x :: s) (y :: t) ≤ D w s t + w x y := by
  rw [D_cc]; exact Nat.min_le_right _ _
theorem Ed.le {s t n} (h : Ed w s t n) : D w s t ≤ n := by
  induction h with
  | nil => exact Nat.le_refl _
  | del x _ ih => exact Nat.le_trans (D_del x _ _) (Nat.add_le_add_right ih 2)
  | ins y _ ih => exact Nat.le_trans (D_ins y _ _) (Nat.add_le_add_right ih 2)
  | sub x y _ ih => exact Nat.le_trans (D_sub x y _ _) (Nat.add_le_add_right ih _)
theorem Ed.cast {s t n n'} (h : Ed w s t n) (e : n = n') : Ed w s t n' := e ▸ h
theorem Ed.append {s t n s' t' n'} (h : Ed w s t n) (h' : Ed w s' t' n') : Ed w (s ++ s') (t ++ t') (n + n') := by
  induction h with
  | nil => exact h'.cast (by lia)
  | del x _ ih => exact (Ed.del x ih).cast (by lia)
  | ins y _ ih => exact (Ed.ins y ih).cast (by lia)
  | sub x y _ ih => exact (Ed.sub x y ih).cast (by lia)
theorem Ed.reverse {s t n} (h : Ed w s t n) : Ed w s.reverse t.reverse n := by
  induction h with
  | nil => exact .nil
  | del x _ ih => have := ih.append (.del x .nil); rw [List.append_nil] at this; rw [List.reverse_cons]; exact this
  | ins y _ ih => have := ih.append (.ins y .nil); rw [List.append_nil] at this; rw [List.reverse_cons]; exact this
  | sub x y _ ih => rw [List.reverse_cons, List.reverse_cons]; exact (ih.append (.sub x y .nil)).cast (by lia)
theorem Ed.symm (hw : ∀ x y, w x y = w y x) {s t n} (h : Ed w s t n) : Ed w t s n := by
  induction h with
  | nil => exact .nil
  | del x _ ih => exact .ins x ih
  | ins y _ ih => exact .del y ih
  | sub x y _ ih => rw [hw x y]; exact .sub y x ih
theorem D_rev (s t : List Nat) : D w s.reverse t.reverse = D w s t := by
  refine Nat.le_antisymm (Ed.ofD s t).reverse.le ?_
  have := (Ed.ofD (w := w) s.reverse t.reverse).reverse.le
  rwa [List.reverse_reverse, List.reverse_reverse] at this
theorem D_symm (hw : ∀ x y, w x y = w y x) (s t : List Nat) : D w s t = D w t s :=
  Nat.le_antisymm ((Ed.ofD t s).symm hw).le ((Ed.ofD s t).symm hw).le
/-- an alignment is cut where the second text is cut -/
theorem Ed.split {s t n} (h : Ed w s t n) : ∀ {t1 t2 : List Nat}, t = t1 ++ t2 → ∃ s1 s2 n1 n2, s = s1 ++ s2 ∧ Ed w s1 t1 n1 ∧ Ed w s2 t2 n2 ∧ n = n1 + n2 := by
  induction h with
  | nil =>
    intro t1 t2 e
    obtain ⟨h1, h2⟩ := List.append_eq_nil_iff.mp e.symm
    subst h1 h2
    exact ⟨[], [], 0, 0, rfl, .nil, .nil, rfl⟩
  | del x _ ih =>
    intro t1 t2 e
    obtain ⟨s1, s2, n1, n2, rfl, h1, h2, rfl⟩ := ih e
    exact ⟨x :: s1, s2, n1 + 2, n2, rfl, .del x h1, h2, by lia⟩
  | ins y h ih =>
    intro t1 t2 e
    cases t1 with
    | nil => rw [List.nil_append] at e; subst e; exact ⟨[], _, 0, _, rfl, .nil, Ed.ins y h, (Nat.zero_add _).symm⟩
    | cons y' t1 =>
      injection e with e1 e2
      subst e1
      obtain ⟨s1, s2, n1, n2, rfl, h1, h2, rfl⟩ := ih e2
      exact ⟨s1, s2, n1 + 2, n2, rfl, .ins y h1, h2, by lia⟩
  | sub x y h ih =>
    intro t1 t2 e
    cases t1 with
    | nil => rw [List.nil_append] at e; subst e; exact ⟨[], _, 0, _, rfl, .nil, Ed.sub x y h, (Nat.zero_add _).symm⟩
    | cons y' t1 =>
      injection e with e1 e2
      subst e1
      obtain ⟨s1, s2, n1, n2, rfl, h1, h2, rfl⟩ := ih e2
      exact ⟨x :: s1, s2, n1 + w x y, n2, rfl, .sub x y h1, h2, by lia⟩
theorem D_append (s s' t t' : List Nat) : D w (s ++ s') (t ++ t') ≤ D w s t + D w s' t' := ((Ed.ofD s t).append (Ed.ofD s' t')).le
theorem D_split (s t1 t2 : List Nat) : ∃ s1 s2, s = s1 ++ s2 ∧ D w s (t1 ++ t2) = D w s1 t1 + D w s2 t2 := by
  obtain ⟨s1, s2, n1, n2, e, h1, h2, h⟩ := (Ed.ofD (w := w) s (t1 ++ t2)).split rfl
  refine ⟨s1, s2, e, Nat.le_antisymm (e ▸ D_append s1 s2 t1 t2) ?_⟩
  rw [h]; exact Nat.add_le_add h1.le h2.le
theorem Ed.len {s t n} (h : Ed w s t n) : 2 * t.length ≤ n + 2 * s.length ∧ 2 * s.length ≤ n + 2 * t.length := by
  induction h with
  | nil => exact ⟨Nat.le_refl _, Nat.le_refl _⟩
  | del x _ ih => simp only [List.length_cons]; lia
  | ins y _ ih => simp only [List.length_cons]; lia
  | sub x y _ ih => simp only [List.length_cons]; lia
theorem D_nil_r (s : List Nat) : D w s [] = 2 * s.length := by
  induction s with
  | nil => rfl
  | cons x s ih => rw [D_cn, ih, List.length_cons]; lia
/-- one sign taken from the second text -/
theorem Ed.drop {s t n} (h : Ed w s t n) : ∀ {y t'}, t = y :: t' → D w s t' ≤ n + 2 := by
  induction h with
  | nil => intro y t' e; cases e
  | del x _ ih => intro y t' e; exact Nat.le_trans (D_del x _ _) (Nat.add_le_add_right (ih e) 2)
  | ins y h _ => intro y' t' e; injection e with e1 e2; subst e2; exact Nat.le_trans h.le (by lia)
  | sub x y h _ => intro y' t' e; injection e with e1 e2; subst e2; exact Nat.le_trans (D_del x _ _) (by have := h.le; lia)
theorem D_drop (y : Nat) (s t : List Nat) : D w s t ≤ D w s (y :: t) + 2 := (Ed.ofD s (y :: t)).drop rfl
theorem D_drop_l (hw : ∀ x y, w x y = w y x) (x : Nat) (s t : List Nat) : D w s t ≤ D w (x :: s) t + 2 := by
  rw [D_symm hw s t, D_symm hw (x :: s) t]; exact D_drop x t s
theorem D_same (hw : ∀ x y, w x y = w y x) (h0 : ∀ x, w x x = 0) (x : Nat) (s t : List Nat) : D w (x :: s) (x :: t) = D w s t := by
  have h1 := D_sub (w := w) x x s t
  have h2 := D_drop (w := w) x s t
  have h3 := D_drop_l hw x s t
  rw [h0] at h1
  refine Nat.le_antisymm h1 ?_
  rw [D_cc, h0]
  lia
theorem D_eq0 (h0 : ∀ x, w x x = 0) (s : List Nat) : D w s s = 0 := by
  induction s with
  | nil => rfl
  | cons x s ih => have := D_sub (w := w) x x s s; rw [h0, ih] at this; exact Nat.le_zero.mp this
theorem Ed.zero (hz : ∀ x y, w x y = 0 → x = y) {s t n} (h : Ed w s t n) : n = 0 → s = t := by
  induction h with
  | nil => intro _; rfl
  | del => intro e; lia
  | ins => intro e; lia
  | sub x y _ ih => intro e; rw [hz x y (by lia), ih (by lia)]
end
end Mine
end

-- part L2
section
open PySem
set_option linter.unusedVariables false
namespace Mine
noncomputable def wN (x y : Nat) : Nat := if x = y then 0 else if lowL [x] = lowL [y] then 1 else 2
theorem wN_eq (x y : Nat) : substC [x] [y] = (wN x y : Int) := by
  unfold substC wN
  by_cases h : x = y
  · subst h; rw [if_pos rfl, if_pos rfl]; rfl
  · rw [if_neg (by simpa using h), if_neg h]
    split <;> rfl
theorem wN_symm (x y : Nat) : wN x y = wN y x := by
  unfold wN
  by_cases h : x = y
  · subst h; rfl
  · rw [if_neg h, if_neg (c := y = x) (fun e => h e.symm)]
    by_cases h' : lowL [x] = lowL [y]
    · rw [if_pos h', if_pos h'.symm]
    · rw [if_neg h', if_neg (c := lowL [y] = lowL [x]) (fun e => h' e.symm)]
theorem wN_same (x : Nat) : wN x x = 0 := if_pos rfl
theorem wN_le (x y : Nat) : wN x y ≤ 2 := by unfold wN; split <;> (try split) <;> decide
theorem wN_zero (x y : Nat) (h : wN x y = 0) : x = y := by
  unfold wN at h
  split at h
  · assumption
  · split at h <;> cases h
noncomputable abbrev DN := D wN
theorem DN_snoc (s : List Nat) (x : Nat) (t : List Nat) (y : Nat) : DN (s ++ [x]) (t ++ [y]) = min (min (DN s (t ++ [y])) (DN (s ++ [x]) t) + 2) (DN s t + wN x y) := by
  unfold DN
  rw [← D_rev (s ++ [x]) (t ++ [y]), ← D_rev s (t ++ [y]), ← D_rev (s ++ [x]) t, ← D_rev s t, List.reverse_append, List.reverse_append]
  exact D_cc x s.reverse y t.reverse
theorem nmin (a b : Nat) : min (a : Int) b = ((min a b : Nat) : Int) := by
  rcases Nat.le_total a b with h | h
  · rw [Nat.min_eq_left h, Int.min_eq_left (Int.ofNat_le.mpr h)]
  · rw [Nat.min_eq_right h, Int.min_eq_right (Int.ofNat_le.mpr h)]
theorem min_w (a b w : Int) (h : w ≤ 2) : min (min a b + 2) (a + w) = min (min (a + 2) b + 2) (a + w) := by
  have h1 : a + w ≤ a + 2 := Int.add_le_add_left h a
  rcases Int.le_total a b with h | h
  · rw [Int.min_eq_left h, Int.min_eq_right h1]
    exact (Int.min_eq_right (Int.le_trans h1 (Int.add_le_add_right (Int.le_min.mpr ⟨Int.le_add_of_nonneg_right (by decide), h⟩) 2))).symm
  · rw [Int.min_eq_right h, Int.min_eq_right (Int.le_trans h (Int.le_add_of_nonneg_right (by decide)))]
/-- the row behind a part u of the second text -/
noncomputable def rowD (u : List Nat) : List Nat → List Nat → List Int
  | _, [] => []
  | pre, x :: s => (DN (pre ++ [x]) u : Int) :: rowD u (pre ++ [x]) s
theorem rowF_spec (c : Nat) (u : List Nat) : ∀ (s pre : List Nat), rowF c s (rowD u pre s) (DN pre u) (DN pre (u ++ [c])) = (rowD (u ++ [c]) pre s, (DN (pre ++ s) (u ++ [c]) : Int))
  | [], pre => by rw [List.append_nil]; rfl
  | x :: s, pre => by
    have e : min (min (DN pre (u ++ [c]) : Int) (DN (pre ++ [x]) u) + 2) (DN pre u + substC [c] [x]) = (DN (pre ++ [x]) (u ++ [c]) : Int) := by
      rw [DN_snoc, wN_eq, wN_symm c x, nmin]; exact nmin (min (DN pre (u ++ [c])) (DN (pre ++ [x]) u) + 2) (DN pre u + wN x c)
    have ih := rowF_spec c u s (pre ++ [x])
    unfold rowD rowF
    dsimp only
    rw [e, ih, List.append_assoc, List.singleton_append]
theorem rowF_first (c : Nat) (u : List Nat) (x : Nat) (s : List Nat) : rowF c (x :: s) (rowD u [] (x :: s)) (2 * (u.length : Int)) (2 * u.length) = (rowD (u ++ [c]) [] (x :: s), (DN (x :: s) (u ++ [c]) : Int)) := by
  have e : min (min (2 * (u.length : Int)) (DN [x] u) + 2) (2 * u.length + substC [c] [x]) = (DN [x] (u ++ [c]) : Int) := by
    have h := DN_snoc [] x u c
    rw [List.nil_append] at h
    have h1 : DN [] (u ++ [c]) = 2 * (u.length + 1) := by rw [DN, D_nil, List.length_append]; rfl
    have h2 : DN [] u = 2 * u.length := D_nil u
    have h3 := wN_le x c
    rw [h, wN_eq, wN_symm c x, h1, h2, min_w _ _ _ (Int.ofNat_le.mpr h3)]
    show min (min ((2 * (u.length + 1) : Nat) : Int) (DN [x] u) + 2) _ = _
    rw [nmin]; exact nmin (min (2 * (u.length + 1)) (DN [x] u) + 2) (2 * u.length + wN x c)
  have ih := rowF_spec c u s [x]
  show (let res' := min (min (2 * (u.length : Int)) (DN [x] u) + 2) (2 * u.length + substC [c] [x]); let p := rowF c s (rowD u [x] s) (DN [x] u) res'; ((res' :: p.1, p.2) : List Int × Int)) = _
  dsimp only
  rw [e, ih]
  rfl
theorem rowD_nil : ∀ (s pre : List Nat), rowD [] pre s = (List.range s.length).map fun (k : Nat) => 2 * ((pre.length + k : Nat) : Int) + 2
  | [], _ => rfl
  | x :: s, pre => by
    rw [rowD, rowD_nil s (pre ++ [x]), List.length_cons, List.range_succ_eq_map, List.map_cons, List.map_map, DN, D_nil_r, List.length_append]
    congr 1
    apply List.map_congr_left
    intro k _
    simp only [Function.comp, List.length_singleton]
    congr 2
    omega
theorem row0_D (s : List Nat) : row0 s.length = rowD [] [] s := by
  rw [rowD_nil]
  unfold row0
  apply List.map_congr_left
  intro k _
  rw [List.length_nil, Nat.zero_add]
theorem foldl_min (l : List Int) : ∀ b : Int, l.foldl min b ≤ b ∧ ∀ x ∈ l, l.foldl min b ≤ x := by
  induction l with
  | nil => intro b; exact ⟨Int.le_refl _, fun x h => nomatch h⟩
  | cons y l ih =>
    intro b
    obtain ⟨h1, h2⟩ := ih (min b y)
    refine ⟨Int.le_trans h1 (Int.min_le_left _ _), fun x hx => ?_⟩
    rcases List.mem_cons.mp hx with rfl | hx
    · exact Int.le_trans h1 (Int.min_le_right _ _)
    · exact h2 x hx
theorem foldl_pos (l : List Int) : ∀ b : Int, 0 < b → (∀ x ∈ l, 0 < x) → 0 < l.foldl min b := by
  induction l with
  | nil => intro b h _; exact h
  | cons y l ih =>
    intro b h h'
    refine ih _ ?_ fun x hx => h' x (List.mem_cons_of_mem _ hx)
    have := h' y List.mem_cons_self
    omega
theorem rowD_mem (u : List Nat) : ∀ (s1 s2 pre : List Nat), s1 ≠ [] → (DN (pre ++ s1) u : Int) ∈ rowD u pre (s1 ++ s2)
  | [], _, _, h => absurd rfl h
  | x :: s1, s2, pre, _ => by
    show _ ∈ (DN (pre ++ [x]) u : Int) :: rowD u (pre ++ [x]) (s1 ++ s2)
    cases s1 with
    | nil => exact List.mem_cons_self
    | cons y s1 =>
      have := rowD_mem u (y :: s1) s2 (pre ++ [x]) (List.cons_ne_nil _ _)
      rw [List.append_assoc, List.singleton_append] at this
      exact List.mem_cons_of_mem _ this
theorem rowD_all (u : List Nat) : ∀ (s pre : List Nat) (v : Int), v ∈ rowD u pre s → ∃ s1, s1 ≠ [] ∧ (∃ s2, s = s1 ++ s2) ∧ v = DN (pre ++ s1) u
  | [], _, _, h => nomatch h
  | x :: s, pre, v, h => by
    rcases List.mem_cons.mp h with rfl | h
    · exact ⟨[x], List.cons_ne_nil _ _, ⟨s, rfl⟩, rfl⟩
    · obtain ⟨s1, h1, ⟨s2, rfl⟩, rfl⟩ := rowD_all u s (pre ++ [x]) v h
      exact ⟨x :: s1, List.cons_ne_nil _ _, ⟨s2, rfl⟩, by rw [List.append_assoc, List.singleton_append]⟩
theorem row_min (x : Nat) (s : List Nat) (c : Nat) (u t : List Nat) : (rowD (u ++ [c]) [] (x :: s)).foldl min big ≤ DN (x :: s) (u ++ [c] ++ t) := by
  obtain ⟨s1, s2, e, h⟩ := D_split (w := wN) (x :: s) (u ++ [c]) t
  have F := (foldl_min (rowD (u ++ [c]) [] (x :: s)) big).2
  cases s1 with
  | cons y s1 =>
    have := F _ (e ▸ rowD_mem (u ++ [c]) (y :: s1) s2 [] (List.cons_ne_nil _ _))
    have h : DN (x :: s) (u ++ [c] ++ t) = _ := h
    rw [h]
    have : ((rowD (u ++ [c]) [] (x :: s)).foldl min big) ≤ (DN (y :: s1) (u ++ [c]) : Int) := this
    have e2 : DN (y :: s1) (u ++ [c]) = D wN (y :: s1) (u ++ [c]) := rfl
    omega
  | nil =>
    have := F _ (rowD_mem (u ++ [c]) [x] s [] (List.cons_ne_nil _ _))
    have h1 : DN [x] (u ++ [c]) ≤ DN [] u + wN x c := by
      have h := DN_snoc [] x u c
      rw [List.nil_append] at h
      rw [h]; exact Nat.min_le_right _ _
    have h2 : DN [] u = 2 * u.length := D_nil u
    have h3 := wN_le x c
    have h : DN (x :: s) (u ++ [c] ++ t) = _ := h
    rw [h, D_nil, List.length_append, List.length_singleton]
    have : ((rowD (u ++ [c]) [] (x :: s)).foldl min big) ≤ (DN [x] (u ++ [c]) : Int) := this
    omega
theorem dpF_spec (x : Nat) (s : List Nat) (m : Int) : ∀ (t u : List Nat) (res : Int), (t = [] → res = DN (x :: s) u) →
    ((DN (x :: s) (u ++ t) : Int) ≤ m → dpF (x :: s) m t u.length (rowD u [] (x :: s)) res = DN (x :: s) (u ++ t)) ∧ (m < DN (x :: s) (u ++ t) → m < dpF (x :: s) m t u.length (rowD u [] (x :: s)) res)
  | [], u, res, h => by
    rw [List.append_nil]
    unfold dpF
    rw [h rfl]
    exact ⟨fun _ => rfl, fun h => h⟩
  | c :: t, u, res, _ => by
    have ih := dpF_spec x s m t (u ++ [c]) (DN (x :: s) (u ++ [c])) (fun _ => rfl)
    have hm := row_min x s c u t
    rw [List.append_assoc, List.singleton_append, List.length_append, List.length_singleton] at ih
    rw [List.append_assoc, List.singleton_append] at hm
    unfold dpF
    rw [rowF_first]
    dsimp only
    by_cases h : (rowD (u ++ [c]) [] (x :: s)).foldl min big > m
    · rw [if_pos h]
      exact ⟨fun h' => by omega, fun _ => by omega⟩
    · rw [if_neg h]; exact ih
theorem levS_spec {s t : List Nat} (m : Int) (hs : s ≠ []) (ht : t ≠ []) : ((DN s t : Int) ≤ m → levS s t m = DN s t) ∧ (m < DN s t → m < levS s t m) := by
  cases s with
  | nil => exact absurd rfl hs
  | cons x s =>
    have := dpF_spec x s m t [] 0 (fun h => absurd h ht)
    rw [List.nil_append] at this
    have hl := (Ed.ofD (w := wN) (x :: s) t).len.1
    unfold levS
    rw [row0_D]
    by_cases h : 2 * ((t.length : Int) - (x :: s).length) > m
    · rw [if_pos h]
      exact ⟨fun h' => by have h'' : (D wN (x :: s) t : Int) ≤ m := h'; omega, fun _ => by omega⟩
    · rw [if_neg h]; exact this
theorem levS_zero {s t : List Nat} {x y : Nat} (h : x ≠ y) : levS (x :: s) (y :: t) 0 = 1 := by
  unfold levS
  split
  · rfl
  · rw [row0_D]
    unfold dpF
    have := rowF_first y [] x s
    rw [List.length_nil] at this
    rw [this]
    dsimp only
    rw [if_pos]
    · rfl
    · refine foldl_pos _ _ (by decide) fun v hv => ?_
      obtain ⟨s1, h1, ⟨s2, e⟩, rfl⟩ := rowD_all _ _ _ _ hv
      rw [List.nil_append, List.nil_append]
      have : DN s1 [y] ≠ 0 := fun e0 => by
        have := (Ed.ofD (w := wN) s1 [y]).zero wN_zero e0
        subst this
        injection e with e1 _
        exact h e1
      omega
/-! the ends taken off -/
theorem stripP_D : ∀ a b : List Nat, DN (stripP a b).1 (stripP a b).2 = DN a b
  | [], b => rfl
  | x :: a, [] => rfl
  | x :: a, y :: b => by
    unfold stripP
    by_cases h : x = y
    · subst h
      rw [if_pos rfl, stripP_D a b]
      exact (D_same wN_symm wN_same x a b).symm
    · rw [if_neg h]
theorem stripP_ne : ∀ a b : List Nat, ∀ {x y a' b'}, stripP a b = (x :: a', y :: b') → x ≠ y
  | [], b, _, _, _, _, h => by cases h
  | x :: a, [], _, _, _, _, h => by cases h
  | x :: a, y :: b, x', y', a', b', h => by
    unfold stripP at h
    by_cases e : x = y
    · rw [if_pos e] at h; exact stripP_ne a b h
    · rw [if_neg e] at h; cases h; exact e
theorem stripB_D (a b : List Nat) : DN (stripB a b).1 (stripB a b).2 = DN a b := by
  unfold stripB
  dsimp only
  rw [DN, D_rev]
  rw [show D wN _ _ = DN (stripP (stripP a b).1.reverse (stripP a b).2.reverse).1 (stripP (stripP a b).1.reverse (stripP a b).2.reverse).2 from rfl, stripP_D, DN, D_rev]
  exact stripP_D a b
end Mine
end

-- part L3
section
open PySem
set_option linter.unusedVariables false
namespace Mine
theorem stripP_drop : ∀ a b : List Nat, ∃ k, stripP a b = (a.drop k, b.drop k) ∧ k ≤ a.length ∧ k ≤ b.length
  | [], b => ⟨0, rfl, Nat.le_refl _, Nat.zero_le _⟩
  | x :: a, [] => ⟨0, rfl, Nat.zero_le _, Nat.le_refl _⟩
  | x :: a, y :: b => by
    unfold stripP
    by_cases e : x = y
    · rw [if_pos e]
      obtain ⟨k, h, h1, h2⟩ := stripP_drop a b
      exact ⟨k + 1, h, Nat.succ_le_succ h1, Nat.succ_le_succ h2⟩
    · rw [if_neg e]; exact ⟨0, rfl, Nat.zero_le _, Nat.zero_le _⟩
/-- both texts lose as many signs; what is left begins with two signs, if neither is empty -/
theorem stripB_facts (a b : List Nat) : (∃ k, (stripB a b).1.length + k = a.length ∧ (stripB a b).2.length + k = b.length) ∧ ∀ {x y a' b'}, (stripB a b).1 = x :: a' → (stripB a b).2 = y :: b' → x ≠ y := by
  obtain ⟨k, h, h1, h2⟩ := stripP_drop a b
  obtain ⟨k', h', h1', h2'⟩ := stripP_drop (stripP a b).1.reverse (stripP a b).2.reverse
  have hn := @stripP_ne a b
  rw [h] at h' h1' h2' hn
  rw [List.length_reverse, List.length_drop] at h1' h2'
  unfold stripB
  dsimp only
  rw [h, h']
  dsimp only
  refine ⟨⟨k + k', ?_, ?_⟩, fun {x y a' b'} e1 e2 => ?_⟩
  · rw [List.length_reverse, List.length_drop, List.length_reverse, List.length_drop]; lia
  · rw [List.length_reverse, List.length_drop, List.length_reverse, List.length_drop]; lia
  · rw [List.reverse_drop, List.reverse_reverse] at e1 e2
    cases ea : a.drop k with
    | nil => rw [ea, List.take_nil] at e1; cases e1
    | cons x' a2 => cases eb : b.drop k with
      | nil => rw [eb, List.take_nil] at e2; cases e2
      | cons y' b2 =>
        rw [ea, eb] at hn
        have := hn rfl
        rw [ea] at e1; rw [eb] at e2
        generalize (x' :: a2).reverse.length - k' = i at e1
        generalize (y' :: b2).reverse.length - k' = j at e2
        cases i with
        | zero => cases e1
        | succ i => cases j with
          | zero => cases e2
          | succ j =>
            rw [List.take_succ_cons] at e1 e2
            injection e1 with e1 _
            injection e2 with e2 _
            rw [← e1, ← e2]; exact this
theorem lev_spec {a b : List Nat} (m : Int) (ha : a.length ≤ 40) (hb : b.length ≤ 40) : ((DN a b : Int) ≤ m → lev a b m = DN a b) ∧ (m < DN a b → m < lev a b m) := by
  unfold lev
  by_cases hab : a = b
  · subst hab
    rw [if_pos rfl, DN, D_eq0 wN_same]
    exact ⟨fun _ => rfl, fun h => h⟩
  rw [if_neg hab]
  obtain ⟨⟨k, hk1, hk2⟩, _⟩ := stripB_facts a b
  have hD := stripB_D a b
  dsimp only
  generalize stripB a b = p at *
  obtain ⟨p, q⟩ := p
  dsimp only at *
  by_cases h0 : p = [] ∨ q = []
  · rw [if_pos h0]
    have : (2 * (p.length + q.length : Int)) = (DN a b : Int) := by
      rw [← hD]
      rcases h0 with h | h
      · subst h; rw [DN, D_nil]; simp
      · subst h; rw [DN, D_nil_r]; simp
    rw [this]
    exact ⟨fun _ => rfl, fun h => h⟩
  · rw [if_neg h0]
    have h1 : p ≠ [] := fun e => h0 (.inl e)
    have h2 : q ≠ [] := fun e => h0 (.inr e)
    rw [if_neg (by lia)]
    by_cases hl : q.length < p.length
    · rw [if_pos hl, ← hD]
      have : DN p q = DN q p := D_symm wN_symm p q
      rw [this]; exact levS_spec m h2 h1
    · rw [if_neg hl, ← hD]; exact levS_spec m h1 h2
theorem lev_zero {a b : List Nat} (ha : a.length ≤ 40) (hb : b.length ≤ 40) (h1 : DN a b + 2 * a.length ≠ 2 * b.length) (h2 : DN a b + 2 * b.length ≠ 2 * a.length) : lev a b 0 = 1 := by
  unfold lev
  by_cases hab : a = b
  · subst hab; rw [DN, D_eq0 wN_same] at h1; exact absurd (Nat.zero_add _) h1
  rw [if_neg hab]
  obtain ⟨⟨k, hk1, hk2⟩, hne⟩ := stripB_facts a b
  have hD := stripB_D a b
  dsimp only
  generalize stripB a b = p at *
  obtain ⟨p, q⟩ := p
  dsimp only at *
  rw [← hD] at h1 h2
  cases p with
  | nil =>
    rw [DN, D_nil, List.length_nil] at *
    lia
  | cons x p => cases q with
    | nil =>
      rw [DN, D_nil_r, List.length_nil] at *
      lia
    | cons y q =>
      have hxy : x ≠ y := hne rfl rfl
      rw [if_neg (fun h => h.elim (fun h => nomatch h) fun h => nomatch h), if_neg (by lia)]
      by_cases hl : (y :: q).length < (x :: p).length
      · rw [if_pos hl]; exact levS_zero hxy.symm
      · rw [if_neg hl]; exact levS_zero hxy
end Mine
end

-- part L5
section
open PySem
set_option linter.unusedVariables false
namespace Mine
open Rx
/-! rows, their ends, and how they are quoted -/
noncomputable def ndX (e : Nat) : List Nat := match e with | 0 => [10] | 1 => [13] | _ => [13, 10]
noncomputable def noNl (r : List Nat) : Prop := ∀ c ∈ r, c ≠ 13 ∧ c ≠ 10
noncomputable def mailL : List (List Nat × Nat) → List Nat → List Nat
  | [], last => last
  | p :: l, last => p.1 ++ (ndX p.2 ++ mailL l last)
noncomputable def okM : List (List Nat × Nat) → List Nat → Prop
  | [], last => noNl last
  | p :: l, last => noNl p.1 ∧ (mailL l last).head? ≠ some 10 ∧ okM l last
noncomputable def quoteRow (r : List Nat) : List Nat := if r.head? = some 46 then 46 :: r else r
theorem norm2_row : ∀ (r t : List Nat), noNl r → norm2 (r ++ t) = r ++ norm2 t
  | [], _, _ => rfl
  | c :: r, t, h => by
    have hc := h c List.mem_cons_self
    rw [List.cons_append, norm2_cons _ _ (fun x => hc.1 x.1), if_neg (fun x => x.elim hc.1 hc.2), norm2_row r t fun d hd => h d (List.mem_cons_of_mem _ hd)]
    rfl
theorem norm2_nd (e : Nat) (t : List Nat) (h : t.head? ≠ some 10) : norm2 (ndX e ++ t) = 13 :: 10 :: norm2 t := by
  match e with
  | 0 => show norm2 (10 :: t) = _; rw [norm2_cons _ _ (fun x => absurd x.1 (by decide))]; rfl
  | 1 => show norm2 (13 :: t) = _; rw [norm2_cons _ _ (fun x => h x.2)]; rfl
  | _ + 2 => rfl
theorem dotL_row : ∀ (r t : List Nat), noNl r → dotL false (r ++ 13 :: 10 :: t) = r ++ 13 :: 10 :: dotL true t
  | [], t, _ => rfl
  | c :: r, t, h => by
    have hc := h c List.mem_cons_self
    have e : (c == 10) = false := by simpa using hc.2
    rw [List.cons_append, dotL, if_neg (fun x => nomatch x.1), e, dotL_row r t fun d hd => h d (List.mem_cons_of_mem _ hd)]
    rfl
theorem dotL_last : ∀ (r : List Nat), noNl r → dotL false r = r
  | [], _ => rfl
  | c :: r, h => by
    have hc := h c List.mem_cons_self
    have e : (c == 10) = false := by simpa using hc.2
    rw [dotL, if_neg (fun x => nomatch x.1), e, dotL_last r fun d hd => h d (List.mem_cons_of_mem _ hd)]
    rfl
theorem dotL_q {r t : List Nat} (h : noNl r) (ht : ∀ r', noNl r' → dotL false (r' ++ t) = r' ++ dotL true t) (h0 : dotL true t = dotL false t) : dotL true (r ++ t) = quoteRow r ++ dotL true t := by
  cases r with
  | nil => rfl
  | cons c r =>
    have hc := h c List.mem_cons_self
    have hr : noNl r := fun d hd => h d (List.mem_cons_of_mem _ hd)
    have e : (c == 10) = false := by simpa using hc.2
    rw [List.cons_append, dotL, e, ht r hr]
    unfold quoteRow
    by_cases h46 : c = 46
    · subst h46; rfl
    · rw [if_neg (fun x => h46 x.2), if_neg (fun x => h46 (by simpa using x))]; rfl
theorem spl_row : ∀ (r t : List Nat), noNl r → spl (r ++ 13 :: 10 :: t) = r :: spl t
  | [], t, _ => rfl
  | c :: r, t, h => by
    have hc := h c List.mem_cons_self
    rw [List.cons_append, spl_cons _ _ (fun x => hc.1 x.1), spl_row r t fun d hd => h d (List.mem_cons_of_mem _ hd)]
    rfl
theorem spl_last : ∀ (r : List Nat), noNl r → spl r = [r]
  | [], _ => rfl
  | c :: r, h => by
    have hc := h c List.mem_cons_self
    rw [spl_cons _ _ (fun x => hc.1 x.1), spl_last r fun d hd => h d (List.mem_cons_of_mem _ hd)]
    rfl
theorem noNl_q {r : List Nat} (h : noNl r) : noNl (quoteRow r) := fun c hc => by
  unfold quoteRow at hc
  split at hc
  · rcases List.mem_cons.mp hc with rfl | hc
    · exact ⟨by decide, by decide⟩
    · exact h c hc
  · exact h c hc
/-- the mail, quoted -/
noncomputable def mailQ : List (List Nat × Nat) → List Nat → List Nat
  | [], last => quoteRow last
  | p :: l, last => quoteRow p.1 ++ (13 :: 10 :: mailQ l last)
theorem quote_mail : ∀ (l : List (List Nat × Nat)) (last : List Nat), okM l last → quoteL (mailL l last) = mailQ l last
  | [], last, h => by
    have h : noNl last := h
    have e : norm2 last = last := by have := norm2_row last [] h; rwa [List.append_nil, show norm2 [] = [] from rfl, List.append_nil] at this
    show dotL true (norm2 last) = quoteRow last
    rw [e]
    have := dotL_q (t := []) h (fun r' hr => by rw [List.append_nil, dotL_last r' hr, show dotL true [] = [] from rfl, List.append_nil]) rfl
    rwa [List.append_nil, show dotL true [] = [] from rfl, List.append_nil] at this
  | p :: l, last, ⟨h1, h2, h3⟩ => by
    have ih := quote_mail l last h3
    have ih : dotL true (norm2 (mailL l last)) = mailQ l last := ih
    show dotL true (norm2 (p.1 ++ (ndX p.2 ++ mailL l last))) = _
    rw [norm2_row _ _ h1, norm2_nd _ _ h2]
    rw [dotL_q h1 (fun r' hr => dotL_row r' _ hr) rfl]
    show quoteRow p.1 ++ (13 :: 10 :: dotL true (norm2 (mailL l last))) = _
    rw [ih]; rfl
theorem spl_mailQ : ∀ (l : List (List Nat × Nat)) (last : List Nat), okM l last → spl (mailQ l last) = l.map (fun p => quoteRow p.1) ++ [quoteRow last]
  | [], last, h => spl_last _ (noNl_q h)
  | p :: l, last, ⟨h1, _, h3⟩ => by
    show spl (quoteRow p.1 ++ (13 :: 10 :: mailQ l last)) = _
    rw [spl_row _ _ (noNl_q h1), spl_mailQ l last h3]; rfl
end Mine
end

-- part K0
section
open PySem PySem.Calls PyProof.Rows
set_option linter.unusedSimpArgs false
set_option linter.unusedVariables false
set_option maxRecDepth 100000
namespace Mine
noncomputable def extK : List (List Nat) := [[33], [33, 61], [37], [37, 61], [38], [38, 61], [40], [41], [42], [42, 42], [42, 42, 61], [42, 61], [43], [43, 61], [44], [45], [45, 61], [45, 62], [46], [46, 46, 46], [47], [47, 47], [47, 47, 61], [47, 61], [58], [58, 61], [59], [60], [60, 60], [60, 60, 61], [60, 61], [61], [61, 61], [62], [62, 61], [62, 62], [62, 62, 61], [64], [64, 61], [91], [93], [94], [94, 61], [123], [124], [124, 61], [125], [126]]
noncomputable def extN : List Int := [54, 28, 24, 40, 19, 41, 7, 8, 16, 35, 46, 38, 14, 36, 12, 15, 37, 51, 23, 52, 17, 47, 48, 39, 11, 53, 13, 20, 33, 44, 29, 22, 27, 21, 30, 34, 45, 49, 50, 9, 10, 32, 43, 25, 18, 42, 26, 31]
noncomputable def extT : V := .dS extK (extN.map .int)

noncomputable def dTx := fnAt P1 68
noncomputable def dPr := fnAt P1 69
noncomputable def dAh := fnAt P1 70
noncomputable def dBe := fnAt P1 71
noncomputable def dEi := fnAt P1 72
noncomputable def dBo := fnAt P1 73
noncomputable def dLw := fnAt P1 74
noncomputable def FTx : Fenv := ⟨[("EXACT_TOKEN_TYPES", extT)], [("ISEOF", spE), ("ISNONTERMINAL", spN), ("ISTERMINAL", spT)], [.len, .chr], []⟩
noncomputable def FPr : Fenv := ⟨[], [], [], []⟩
/-- what a sign costs for another one -/
noncomputable def pairs4 : List (List Nat) := [[97, 65], [65, 97], [254, 222], [222, 254]]
noncomputable def pr (x y : Nat) : Int := if x = y then 0 else if [x, y] ∈ pairs4 then 16 else 32
noncomputable def spPr : Spec := fun ts Q => ∃ x y : Nat, ts = [.str [x], .str [y]] ∧ Q (.int (pr x y))
noncomputable def FAh : Fenv := ⟨[], [("_law_price", spPr)], [.range, .min], []⟩
noncomputable def FEi : Fenv := ⟨[], [], [.range, .min], []⟩
end Mine
end

-- part K1
section
open PySem PySem.Calls PyProof.Rows
set_option linter.unusedSimpArgs false
set_option linter.unusedVariables false
set_option maxRecDepth 100000
namespace Mine
/-! words of terminals -/
noncomputable def lkW : List Int → List (List Nat) → Int → Option (List Nat)
  | k :: ks, w :: ws, x => if k = x then some w else lkW ks ws x
  | _, _, _ => none
theorem lkW_eq : ∀ (ks : List Int) (ws : List (List Nat)) (x : Int), lkI ks (ws.map .str) x = (lkW ks ws x).map .str
  | [], _, _ => rfl
  | _ :: _, [], _ => rfl
  | k :: ks, w :: ws, x => by
    show (if k = x then some (V.str w) else lkI ks (ws.map .str) x) = (if k = x then some w else lkW ks ws x).map .str
    rw [lkW_eq ks ws x]
    split <;> rfl
theorem lkW_mem : ∀ {ks : List Int} {ws : List (List Nat)} {x : Int} {w : List Nat}, lkW ks ws x = some w → w ∈ ws
  | [], _, _, _, h => nos h
  | _ :: _, [], _, _, h => nos h
  | k :: ks, v :: ws, x, w, h => by
    have h : (if k = x then some v else lkW ks ws x) = some w := h
    split at h
    · cases h; exact List.mem_cons_self
    · exact List.mem_cons_of_mem _ (lkW_mem h)
theorem lkK_nodup {K : Type} [DecidableEq K] : ∀ {ks : List K} {vs : List V} {k : Nat} {x : K} {v : V}, ks.Nodup → ks[k]? = some x → vs[k]? = some v → lkK ks vs x = some v
  | [], _, _, _, _, _, h, _ => nos h
  | y :: ks, [], _, _, _, _, _, h => nos h
  | y :: ks, u :: vs, 0, x, v, _, h1, h2 => by
    cases h1; cases h2
    exact if_pos rfl
  | y :: ks, u :: vs, k + 1, x, v, hn, h1, h2 => by
    have h1 : ks[k]? = some x := h1
    obtain ⟨a, b⟩ := List.nodup_cons.mp hn
    have : y ≠ x := fun e => a (e ▸ List.mem_of_getElem? h1)
    show (if y = x then some u else lkK ks vs x) = some v
    rw [if_neg this]
    exact lkK_nodup b h1 h2
noncomputable def wordL (t : Int) : List Nat := (lkW extN extK t).getD [t.toNat]
theorem extK_len : ∀ w ∈ extK, w.length ≤ 3 ∧ w ≠ [] := by decide
theorem wordL_len (t : Int) : (wordL t).length ≤ 3 ∧ wordL t ≠ [] := by
  unfold wordL
  cases e : lkW extN extK t with
  | none => exact ⟨by simp, by simp⟩
  | some w => exact extK_len w (lkW_mem e)
theorem extK_nodup : extK.Nodup := by decide
theorem extN_nodup : extN.Nodup := by decide
/-! what symbols lead to, in how many turns -/
inductive G (R : Nat → List Int × List Int) : Nat → List Int → List (List Nat) → Prop where
  | eof : G R 1 [0] [[]]
  | term {n t r ws} (h0 : 0 < t) (h1 : t < 256) (h : G R n r ws) : G R (n + 1) (t :: r) (ws.map (wordL t ++ ·))
  | non {n0 n1 : Nat} {k : Nat} {r ws0 ws1} (hk : k < 3) (h0 : G R n0 ((R k).1 ++ r) ws0) (h1 : G R n1 ((R k).2 ++ r) ws1) : G R (n0 + n1 + 1) ((256 + (k : Int)) :: r) (ws0 ++ ws1)
theorem G.len {R n syms ws} (h : G R n syms ws) : syms.length ≤ n ∧ 1 ≤ n := by
  induction h with
  | eof => exact ⟨Nat.le_refl _, Nat.le_refl _⟩
  | term _ _ _ ih => exact ⟨by rw [List.length_cons]; lia, by lia⟩
  | non _ _ _ ih0 ih1 => rw [List.length_append] at ih0; exact ⟨by rw [List.length_cons]; lia, by lia⟩
noncomputable def bodyV (b : List Int) : V := .list (b.map .int)
noncomputable def pairV (p : List Int × List Int) : V := .list [bodyV p.1, bodyV p.2]
noncomputable def rulesV (R : Nat → List Int × List Int) : V := .list ([0, 1, 2].map fun k => pairV (R k))
structure Ent where
  text : List Nat
  syms : List Int
  n : Nat
  ws : List (List Nat)
noncomputable def Ent.val (e : Ent) : V := .list [.str e.text, bodyV e.syms]
noncomputable def Ent.out (e : Ent) : List (List Nat) := e.ws.map (e.text ++ ·)
noncomputable def outs (ps : List Ent) : List (List Nat) := ps.reverse.flatMap Ent.out
noncomputable def turns (ps : List Ent) : Nat := (ps.map (·.n)).sum
noncomputable def EntOk (R : Nat → List Int × List Int) (N : Nat) (e : Ent) : Prop := G R e.n e.syms e.ws ∧ e.text.length + 10 * e.n ≤ 10 * N
theorem turns_len {R N} : ∀ {ps : List Ent}, (∀ e ∈ ps, EntOk R N e) → ps.length ≤ turns ps
  | [], _ => Nat.le_refl _
  | e :: ps, h => by
    have h1 := (h e List.mem_cons_self).1.len.2
    have := turns_len fun e he => h e (List.mem_cons_of_mem _ he)
    unfold turns at *
    rw [List.map_cons, List.sum_cons, List.length_cons]; lia
theorem turns_snoc (ps : List Ent) (e : Ent) : turns (ps ++ [e]) = turns ps + e.n := by unfold turns; simp
theorem outs_snoc (ps : List Ent) (e : Ent) : outs (ps ++ [e]) = e.out ++ outs ps := by unfold outs; simp
noncomputable def spTx : Spec := fun ts Q => ∃ (R : Nat → List Int × List Int) (n : Nat) (ws : List (List Nat)), ts = [rulesV R] ∧ G R n [256, 0] ws ∧ n ≤ 1000 ∧ Q (.list (ws.map .str))
structure TxS (R : Nat → List Int × List Int) (texts : List (List Nat)) (ps : List Ent) (st : St) : Prop where
  l0 : st.lookup 0 = some (.val (rulesV R))
  l1 : st.lookup 1 = some (.val (.dI extN (extK.map .str)))
  l3 : st.lookup 3 = some (.own (texts.map .str))
  l4 : st.lookup 4 = some (.own (ps.map Ent.val))
theorem TxS.put {R texts ps} {st : St} (h : TxS R texts ps st) {x : Nat} {b : B} (hx : 4 < x) : TxS R texts ps ((x, b) :: st) := by
  have e : ∀ i, i ≤ 4 → ((x, b) :: st : St).lookup i = st.lookup i := fun i hi => lookup_ne (by simp; lia)
  exact ⟨by rw [e 0 (by lia)]; exact h.l0, by rw [e 1 (by lia)]; exact h.l1, by rw [e 3 (by lia)]; exact h.l3, by rw [e 4 (by lia)]; exact h.l4⟩
theorem TxS.pile {R texts ps} {st : St} (h : TxS R texts ps st) {ps' : List Ent} {xs : List V} (e : xs = ps'.map Ent.val) : TxS R texts ps' ((4, .own xs) :: st) := ⟨h.l0, h.l1, h.l3, by rw [e]; rfl⟩
theorem TxS.text {R texts ps} {st : St} (h : TxS R texts ps st) {t' : List (List Nat)} {xs : List V} (e : xs = t'.map .str) : TxS R t' ps ((3, .own xs) :: st) := ⟨h.l0, h.l1, by rw [e]; rfl, h.l4⟩
section
variable {r : Rv}
theorem Ev.eofX {e : E} {i : Int} (h : Ev FTx r e (.int i)) : Ev FTx r (.call 0 (.cons e .nil)) (.bool (decide (i = 0))) := Ev.call (.cons h .nil) ⟨rfl, trivial⟩ fun Q q => ⟨i, rfl, q⟩
theorem Ev.nonX {e : E} {i : Int} (h : Ev FTx r e (.int i)) : Ev FTx r (.call 1 (.cons e .nil)) (.bool (decide (256 ≤ i))) := Ev.call (.cons h .nil) ⟨rfl, trivial⟩ fun Q q => ⟨i, rfl, q⟩
theorem Ev.terX {e : E} {i : Int} (h : Ev FTx r e (.int i)) : Ev FTx r (.call 2 (.cons e .nil)) (.bool (decide (i < 256))) := Ev.call (.cons h .nil) ⟨rfl, trivial⟩ fun Q q => ⟨i, rfl, q⟩
theorem Tv.isB {F : Fenv} {a : E} {x y : Bool} (h : Ev F r a (.bool x)) : Tv F r (.cmp .Is a (.lit (.bool y))) (x == y) := Tv.cmp (EvD.cmp h (Ev.lit (.bool y)) fun Q q => q)
theorem Ev.lenO {F : Fenv} {a : E} {xs : List V} {d : Nat} (h : EvD F r a (.list xs) d) : Ev F r (.bi .len (.cons a .nil)) (vN xs.length) := EvD.bi (.cons h .nil) fun Q q => q
theorem Ev.tail {F : Fenv} {a : E} {x : V} {xs : List V} (h : Ev F r a (.list (x :: xs))) : Ev F r (.sl a (.lit (.int 1)) (.lit .none)) (.list xs) := EvD.sl h (Ev.lit _) (Ev.lit _) fun Q q => by
  show (0 : Nat) ≤ 1 ∧ Q (.list (cut (x :: xs) (some 1) none)) 0
  rw [show cut (x :: xs) (some 1) none = xs from cut_from (x :: xs) 1]
  exact ⟨by decide, q⟩
end

abbrev nonB : S := (S.fr 8 ((E.var 0).idx (E.bin Operator.Sub (E.var 7) (E.lit (V.int 256)))).rev (Ss.cons (S.app 4 (E.list (Es.cons (E.var 5) (Es.cons (E.bin Operator.Add (E.var 8) ((E.var 6).sl (E.lit (V.int 1)) (E.lit V.none))) Es.nil)))) Ss.nil))
theorem body_cat {r : Rv} {a b : List Int} {t : Int} (h8 : r.lookup 8 = some (bodyV a, 0)) (h6 : r.lookup 6 = some (bodyV (t :: b), 0)) (hz : a.length + b.length ≤ 10000) : Ev FTx r (E.bin Operator.Add (E.var 8) ((E.var 6).sl (E.lit (V.int 1)) (E.lit V.none))) (bodyV (a ++ b)) := by
  have := Ev.lcat (F := FTx) (r := r) (Nat.zero_le 1) (Nat.zero_le 1) (by simpa using hz) (EvD.var h8) (Ev.tail (x := .int t) (xs := b.map .int) (EvD.var h6))
  unfold bodyV; rw [List.map_append]; exact this
theorem non_ok {R : Nat → List Int × List Int} {texts ps} {st : St} {text : List Nat} {k : Nat} {r : List Int} {e0 e1 : Ent} {Q : Out → Prop} (hk : k < 3) (T : TxS R texts ps st) (h5 : st.lookup 5 = some (.val (.str text))) (h6 : st.lookup 6 = some (.val (bodyV ((256 + (k : Int)) :: r)))) (h7 : st.lookup 7 = some (.val (.int (256 + (k : Int)))))
    (he0 : e0.val = .list [.str text, bodyV ((R k).1 ++ r)]) (he1 : e1.val = .list [.str text, bodyV ((R k).2 ++ r)]) (hz : ((R k).1 ++ r).length ≤ 1000 ∧ ((R k).2 ++ r).length ≤ 1000) (hp : ps.length ≤ 1000)
    (q : ∀ st', TxS R texts (ps ++ [e1, e0]) st' → st'.lookup 7 = some (.val (.int (256 + (k : Int)))) → Q (.next st')) : ex1 FTx nonB st Q := by
  have hI : Ev FTx (rd st) (E.bin Operator.Sub (E.var 7) (E.lit (V.int 256))) (vN k) := by
    have := Ev.sub (F := FTx) (EvD.var (rd_at h7)) (Ev.lit (.int 256))
    rwa [show (256 + (k : Int)) - 256 = k by lia] at this
  have hA : Ev FTx (rd st) ((E.var 0).idx (E.bin Operator.Sub (E.var 7) (E.lit (V.int 256)))) (pairV (R k)) := by
    have := EvD.at (F := FTx) (f := fun k => pairV (R k)) (l := [0, 1, 2]) (n := k) 0 (by simpa using hk) (EvD.var (rd_at T.l0)) hI
    have e : ([0, 1, 2] : List Nat).getD k 0 = k := range_getD (n := 3) (fun i => i) hk 0
    rwa [e] at this
  rw [List.length_append, List.length_append] at hz
  refine S.fr_ok (t := .list [bodyV (R k).2, bodyV (R k).1]) (items := [bodyV (R k).2, bodyV (R k).1]) (fun n st => TxS R texts (ps ++ [e1, e0].take n) st ∧ st.lookup 5 = some (.val (.str text)) ∧ st.lookup 6 = some (.val (bodyV ((256 + (k : Int)) :: r))) ∧ st.lookup 7 = some (.val (.int (256 + (k : Int)))))
    (Ev.rev hA fun Q q => ⟨Nat.zero_le 1, q⟩) trivial rfl ⟨by simpa using T, h5, h6, h7⟩ ?_ ?_
  · rintro n st v hv ⟨T, h5, h6, h7⟩
    have T := T.put (x := 8) (b := .val v) (by decide)
    have h5 : ((8, .val v) :: st : St).lookup 5 = _ := h5
    have h6 : ((8, .val v) :: st : St).lookup 6 = _ := h6
    have h7 : ((8, .val v) :: st : St).lookup 7 = _ := h7
    have h8 : ((8, .val v) :: st : St).lookup 8 = some (.val v) := rfl
    generalize ((8, .val v) :: st : St) = st at T h5 h6 h7 h8
    rw [exs_cons]
    have go : ∀ (b : List Int) (e : Ent), v = bodyV b → e.val = .list [.str text, bodyV (b ++ r)] → b.length + r.length ≤ 1000 → ([e1, e0].take (n + 1) = [e1, e0].take n ++ [e]) →
        ex1 FTx (S.app 4 (E.list (Es.cons (E.var 5) (Es.cons (E.bin Operator.Add (E.var 8) ((E.var 6).sl (E.lit (V.int 1)) (E.lit V.none))) Es.nil)))) st (contW (fun st' => exs FTx Ss.nil st' (loopOut (fun st => TxS R texts (ps ++ [e1, e0].take (n + 1)) st ∧ st.lookup 5 = some (.val (.str text)) ∧ st.lookup 6 = some (.val (bodyV ((256 + (k : Int)) :: r))) ∧ st.lookup 7 = some (.val (.int (256 + (k : Int))))) Q)) (loopOut (fun st => TxS R texts (ps ++ [e1, e0].take (n + 1)) st ∧ st.lookup 5 = some (.val (.str text)) ∧ st.lookup 6 = some (.val (bodyV ((256 + (k : Int)) :: r))) ∧ st.lookup 7 = some (.val (.int (256 + (k : Int))))) Q)) := by
      intro b e hv he hb ht
      subst hv
      refine S.app_ok T.l4 (Ev.list (.cons (EvD.var (rd_at h5)) (.cons (body_cat (rd_at h8) (rd_at h6) (by lia)) .nil)) ⟨rfl, rfl, trivial⟩ (Nat.le_of_ble_eq_true rfl)) ?_ (contW_nil (loop_next ⟨?_, h5, h6, h7⟩))
      · rw [List.length_map, List.length_append]
        have : ([e1, e0].take n).length ≤ 2 := by rw [List.length_take]; exact Nat.min_le_right _ _
        lia
      · rw [ht, ← List.append_assoc]
        refine T.pile ?_
        show List.map Ent.val (ps ++ [e1, e0].take n) ++ [V.list [.str text, bodyV (b ++ r)]] = _
        rw [← he, List.map_append (l₂ := [e])]; rfl
    cases n with
    | zero => exact go _ e1 (Option.some.inj hv).symm he1 (by lia) rfl
    | succ n => cases n with
      | zero => exact go _ e0 (Option.some.inj hv).symm he0 (by lia) rfl
      | succ n => cases hv
  · rintro st ⟨T, h5, h6, h7⟩
    exact q st T h7
theorem S.ownL_ok {F : Fenv} {st : St} {Q : Out → Prop} {x : Nat} {es : Es} {ts : List (V × Nat)} (h : EvS F (rd st) es ts) (hz : allZ ts) (hl : ts.length ≤ 10000) (q : Q (.next ((x, .own (ts.map (·.1))) :: st))) : ex1 F (.own x (.list es)) st Q := h _ ⟨hz, hl, q⟩
abbrev turnB : Ss := (Ss.cons (S.asg 7 ((E.var 6).idx (E.lit (V.int 0)))) (Ss.cons (S.ifs (E.call 0 (Es.cons (E.var 7) Es.nil)) (Ss.cons (S.app 3 (E.var 5)) Ss.nil) (Ss.cons (S.ifs (E.cmp CmpOp.Is (E.call 1 (Es.cons (E.var 7) Es.nil)) (E.lit (V.bool true))) (Ss.cons nonB Ss.nil) Ss.nil)
            (Ss.cons (S.ifs (E.cmp CmpOp.Is (E.call 2 (Es.cons (E.var 7) Es.nil)) (E.lit (V.bool true))) (Ss.cons (S.app 4 (E.list (Es.cons (E.bin Operator.Add (E.var 5) (E.me2 Me.get (E.var 1) (E.var 7) (E.bi Bi.chr (Es.cons (E.var 7) Es.nil)))) (Es.cons ((E.var 6).sl (E.lit (V.int 1)) (E.lit V.none)) Es.nil)))) Ss.nil) Ss.nil) Ss.nil))) Ss.nil))
theorem word_ev {r : Rv} {t : Int} (h1 : r.lookup 1 = some (.dI extN (extK.map .str), 0)) (h7 : r.lookup 7 = some (.int t, 0)) (h0 : 0 < t) (ht : t < 256) : Ev FTx r (E.me2 Me.get (E.var 1) (E.var 7) (E.bi Bi.chr (Es.cons (E.var 7) Es.nil))) (.str (wordL t)) := by
  have hc : Ev FTx r (E.bi Bi.chr (Es.cons (E.var 7) Es.nil)) (.str [t.toNat]) := EvD.bi (.cons (EvD.var h7) .nil) fun Q q => ⟨by lia, by lia, q⟩
  refine EvD.me2 (EvD.var h1) rfl (EvD.var h7) hc fun Q q => ⟨rfl, ?_⟩
  show getW (lkI extN (extK.map .str) t) (.str [t.toNat]) Q
  rw [lkW_eq]
  unfold wordL at q
  cases e : lkW extN extK t with
  | none => rw [e] at q; exact q
  | some w => rw [e] at q; exact q
theorem turn_ok {R : Nat → List Int × List Int} {N : Nat} {texts : List (List Nat)} {ps : List Ent} {text : List Nat} {syms : List Int} {n : Nat} {ws1 : List (List Nat)} {st : St} {Q : Out → Prop} (hN : N ≤ 1000) (T : TxS R texts ps st) (h5 : st.lookup 5 = some (.val (.str text))) (h6 : st.lookup 6 = some (.val (bodyV syms)))
    (hg : G R n syms ws1) (htx : text.length + 10 * n ≤ 10 * N) (hoks : ∀ x ∈ ps, EntOk R N x) (hlen : texts.length + (turns ps + n) ≤ N)
    (q : ∀ st' texts' ps', TxS R texts' ps' st' → turns ps' < turns ps + n → (∀ e ∈ ps', EntOk R N e) → texts'.length + turns ps' ≤ N → texts' ++ outs ps' = texts ++ (ws1.map (text ++ ·) ++ outs ps) → Q (.next st')) : exs FTx turnB st Q := by
  have hpl := turns_len hoks
  have hgl := hg.len
  have start : ∀ (t : Int) (r : List Int), syms = t :: r → (∀ st, TxS R texts ps st → st.lookup 5 = some (.val (.str text)) → st.lookup 6 = some (.val (bodyV (t :: r))) → st.lookup 7 = some (.val (.int t)) →
      exs FTx (Ss.cons (S.ifs (E.call 0 (Es.cons (E.var 7) Es.nil)) (Ss.cons (S.app 3 (E.var 5)) Ss.nil) (Ss.cons (S.ifs (E.cmp CmpOp.Is (E.call 1 (Es.cons (E.var 7) Es.nil)) (E.lit (V.bool true))) (Ss.cons nonB Ss.nil) Ss.nil)
            (Ss.cons (S.ifs (E.cmp CmpOp.Is (E.call 2 (Es.cons (E.var 7) Es.nil)) (E.lit (V.bool true))) (Ss.cons (S.app 4 (E.list (Es.cons (E.bin Operator.Add (E.var 5) (E.me2 Me.get (E.var 1) (E.var 7) (E.bi Bi.chr (Es.cons (E.var 7) Es.nil)))) (Es.cons ((E.var 6).sl (E.lit (V.int 1)) (E.lit V.none)) Es.nil)))) Ss.nil) Ss.nil) Ss.nil))) Ss.nil) st Q) → exs FTx turnB st Q := fun t r e h => by
    subst e
    rw [exs_cons]
    refine S.asg_ok (t := .int t) ?_ (h _ (T.put (by decide)) h5 h6 rfl)
    exact EvD.at (F := FTx) (f := V.int) (l := t :: r) (n := 0) 0 (Nat.succ_pos _) (EvD.var (rd_at h6)) (Ev.lit (.int 0))
  clear h5 h6 T
  cases hg with
  | eof =>
    refine start 0 [] rfl fun st T h5 h6 h7 => ?_
    rw [exs_cons]
    refine S.ifs_ok (c := true) (Tv.call (Ev.eofX (EvD.var (rd_at h7)))) ?_
    rw [if_pos rfl, exs_cons]
    refine S.app_ok T.l3 (EvD.var (rd_at h5)) (by rw [List.length_map]; lia) (contW_nil (contW_nil (q _ (texts ++ [text]) ps (T.text (by rw [List.map_append]; rfl)) (by lia) hoks (by rw [List.length_append, List.length_singleton]; lia) ?_)))
    show texts ++ [text] ++ outs ps = texts ++ ([text ++ []] ++ outs ps)
    rw [List.append_nil, List.append_assoc]
  | @term n t r ws h0 h1 hg =>
    refine start t r rfl fun st T h5 h6 h7 => ?_
    rw [exs_cons]
    refine S.ifs_ok (Tv.call (Ev.eofX (EvD.var (rd_at h7)))) ?_
    rw [if_neg (by simp; lia), exs_cons]
    refine S.ifs_ok (Tv.isB (Ev.nonX (EvD.var (rd_at h7)))) ?_
    rw [show decide (256 ≤ t) = false from decide_eq_false (by lia), if_neg (by decide), exs_nil]
    show exs FTx _ st _
    rw [exs_cons]
    refine S.ifs_ok (Tv.isB (Ev.terX (EvD.var (rd_at h7)))) ?_
    rw [show decide (t < 256) = true from decide_eq_true h1, if_pos (by decide), exs_cons]
    have wl := (wordL_len t).1
    have hr := hg.len
    refine S.app_ok T.l4 (Ev.list (.cons (Ev.cat (by lia) (EvD.var (rd_at h5)) (word_ev (rd_at T.l1) (rd_at h7) h0 h1)) (.cons (Ev.tail (x := .int t) (xs := r.map .int) (EvD.var (rd_at h6))) .nil)) ⟨rfl, rfl, trivial⟩ (Nat.le_of_ble_eq_true rfl)) (by rw [List.length_map]; lia)
      (contW_nil (contW_nil (contW_nil (q _ texts (ps ++ [⟨text ++ wordL t, r, n, ws⟩]) (T.pile (by rw [List.map_append]; rfl)) ?_ ?_ ?_ ?_))))
    · rw [turns_snoc]; show turns ps + n < turns ps + (n + 1); lia
    · intro e he
      rcases List.mem_append.mp he with he | he
      · exact hoks e he
      · rw [List.mem_singleton.mp he]
        refine ⟨hg, ?_⟩
        show (text ++ wordL t).length + 10 * n ≤ 10 * N
        rw [List.length_append]; lia
    · rw [turns_snoc]; show texts.length + (turns ps + n) ≤ N; lia
    · rw [outs_snoc]
      show texts ++ (ws.map (text ++ wordL t ++ ·) ++ outs ps) = texts ++ ((ws.map (wordL t ++ ·)).map (text ++ ·) ++ outs ps)
      rw [List.map_map]
      congr 2
      exact List.map_congr_left fun w _ => List.append_assoc ..
  | @non n0 n1 k r ws0 ws1 hk hg0 hg1 =>
    refine start _ r rfl fun st T h5 h6 h7 => ?_
    rw [exs_cons]
    refine S.ifs_ok (Tv.call (Ev.eofX (EvD.var (rd_at h7)))) ?_
    rw [if_neg (by simp; lia), exs_cons]
    refine S.ifs_ok (Tv.isB (Ev.nonX (EvD.var (rd_at h7)))) ?_
    rw [show decide (256 ≤ 256 + (k : Int)) = true from decide_eq_true (by lia), if_pos (by decide), exs_cons]
    have l0 := hg0.len
    have l1 := hg1.len
    refine non_ok (e0 := ⟨text, (R k).1 ++ r, n0, ws0⟩) (e1 := ⟨text, (R k).2 ++ r, n1, ws1⟩) hk T h5 h6 h7 rfl rfl ⟨by lia, by lia⟩ (by lia) fun st' T' h7' => contW_nil ?_
    show exs FTx _ st' _
    rw [exs_cons]
    refine S.ifs_ok (Tv.isB (Ev.terX (EvD.var (rd_at h7')))) ?_
    rw [show decide (256 + (k : Int) < 256) = false from decide_eq_false (by lia), if_neg (by decide), exs_nil]
    refine contW_nil (contW_nil (q _ texts _ T' ?_ ?_ ?_ ?_))
    all_goals rw [show ps ++ [⟨text, (R k).2 ++ r, n1, ws1⟩, ⟨text, (R k).1 ++ r, n0, ws0⟩] = ps ++ [⟨text, (R k).2 ++ r, n1, ws1⟩] ++ [⟨text, (R k).1 ++ r, n0, ws0⟩] by rw [List.append_assoc]; rfl]
    · rw [turns_snoc, turns_snoc]; show turns ps + n1 + n0 < turns ps + (n0 + n1 + 1); lia
    · intro e he
      rcases List.mem_append.mp he with he | he
      · rcases List.mem_append.mp he with he | he
        · exact hoks e he
        · rw [List.mem_singleton.mp he]
          exact ⟨hg1, by show text.length + 10 * n1 ≤ _; lia⟩
      · rw [List.mem_singleton.mp he]
        exact ⟨hg0, by show text.length + 10 * n0 ≤ _; lia⟩
    · rw [turns_snoc, turns_snoc]; show texts.length + (turns ps + n1 + n0) ≤ N; lia
    · rw [outs_snoc, outs_snoc]
      show texts ++ (ws0.map (text ++ ·) ++ (ws1.map (text ++ ·) ++ outs ps)) = texts ++ ((ws0 ++ ws1).map (text ++ ·) ++ outs ps)
      rw [List.map_append, List.append_assoc]
theorem texts_ok : ∃ ss, TrD FTx dTx ["written", "written", "texts", "pile"] ss ∧ ∀ ts Q, spTx ts Q → ts.length = 1 ∧ exs FTx (toSs ss) (initFrom 0 ts) (retOut Q) := by
  refine ⟨_, (by unfold TrD; exact TrSs.cons (by with_unfolding_all (repeat' (first | ((with_reducible show TrSs _ _ _ _ _ _); first | exact TrSs.nil | refine' TrSs.cons ?_ ?_) | ((with_reducible show TrS _ _ _ _ _ _); first | refine' TrS.popU (by rfl) (by rfl) (by rfl) (by rfl) | refine' TrS.newD (by rfl) | refine' TrS.own2c (n := 4) (by rfl) (by rfl) (by rfl) (fun _ _ => by rfl) (SwT.lc rfl) (by rfl) (by decide) ?_ | refine' TrS.stoD (by rfl) (fun _ _ _ => by rfl) (by rfl) ?_ ?_ | refine' TrS.own (by rfl) (by rfl) (by first | exact fun _ _ _ => rfl | exact SwE.lc rfl) (by rfl) ?_ | refine' TrS.frzA (by rfl) (by rfl) (by rfl) (fun _ _ _ => by rfl) (by rfl) ?_ | refine' TrS.asg (by rfl) (by first | exact fun _ _ _ => rfl | exact SwE.lc rfl) (by rfl) ?_ | refine' TrS.app (by rfl) (by rfl) ?_ | refine' TrS.asgC (SwT.lc rfl) (by rfl) ?_ | refine' TrS.sto2 (fun _ _ _ => by rfl) (by rfl) ?_ ?_ ?_ | refine' TrS.sto (fun _ _ _ => by rfl) (by rfl) ?_ ?_ | refine' TrS.swap (by decide) (by rfl) (by rfl) (by rfl) (by rfl) (by rfl) | refine' TrS.asg2 (by rfl) (by rfl) ?_ | refine' TrS.aug (by rfl) ?_ | refine' TrS.augS (fun _ _ _ => by rfl) (by rfl) ?_ ?_ | refine' TrS.ifs ?_ ?_ ?_ | refine' TrS.whl ?_ ?_ | refine' TrS.fr (fun _ _ => by rfl) (by rfl) ?_ ?_ | refine' TrS.ret ?_) | ((with_reducible show TrE _ _ _ _ _); first | refine' TrE.const (by rfl) | refine' TrE.var (by rfl) (by rfl) (by rfl) (by rfl) | refine' TrE.con (by rfl) (by rfl) (by rfl) | refine' TrE.bin ?_ ?_ | refine' TrE.neg ?_ | refine' TrE.notE ?_ | refine' TrE.cmp (by rfl) ?_ ?_ | refine' TrE.bop ?_ ?_ | refine' TrE.ife ?_ ?_ ?_ | refine' TrE.rev ?_ | refine' TrE.sl ?_ ?_ ?_ | refine' TrE.idx ?_ ?_ | refine' TrE.list ?_ | refine' TrE.tup ?_ | refine' TrE.ofC ?_ | refine' TrE.isI (by rfl) (by rfl) ?_ | refine' TrE.isB (by rfl) (by rfl) ?_ | refine' TrE.callF (by rfl) (by rfl) (by rfl) ?_ ?_ | refine' TrE.callB (by rfl) (by rfl) (by rfl) ?_ ?_ | refine' TrE.sub (by rfl) (by rfl) (by rfl) (by rfl) ?_ ?_ | refine' TrE.me0 (fun _ => by rfl) (by rfl) (by rfl) ?_ | refine' TrE.me1 (fun _ => by rfl) (by rfl) (by rfl) ?_ ?_ | refine' TrE.me2 (fun _ => by rfl) (by rfl) (by rfl) ?_ ?_ ?_) | ((with_reducible show TrC _ _ _ _ _ _ _ _); first | refine' TrC.comp (by rfl) (fun _ _ => by rfl) ?_ ?_ ?_ | refine' TrC.comp2 (by rfl) (by rfl) (fun _ _ => by rfl) (fun _ _ => by rfl) ?_ ?_ ?_) | ((with_reducible show TrEs _ _ _ _ _); first | exact TrEs.nil | refine' TrEs.cons ?_ ?_) | ((with_reducible show TrO _ _ _ _ _); first | exact TrO.none | refine' TrO.some ?_) | ((with_reducible show TrI _ _ _ _ _); first | exact TrI.nil | refine' TrI.one ?_) | ((with_reducible show TrF _ _ _ _ _); first | refine' TrF.list ?_ | refine' TrF.range (by rfl) ?_ ?_) | rfl | exact List.cons_ne_nil _ _))) (TrSs.cons (by with_unfolding_all (repeat' (first | ((with_reducible show TrSs _ _ _ _ _ _); first | exact TrSs.nil | refine' TrSs.cons ?_ ?_) | ((with_reducible show TrS _ _ _ _ _ _); first | refine' TrS.popU (by rfl) (by rfl) (by rfl) (by rfl) | refine' TrS.newD (by rfl) | refine' TrS.own2c (n := 4) (by rfl) (by rfl) (by rfl) (fun _ _ => by rfl) (SwT.lc rfl) (by rfl) (by decide) ?_ | refine' TrS.stoD (by rfl) (fun _ _ _ => by rfl) (by rfl) ?_ ?_ | refine' TrS.own (by rfl) (by rfl) (by first | exact fun _ _ _ => rfl | exact SwE.lc rfl) (by rfl) ?_ | refine' TrS.frzA (by rfl) (by rfl) (by rfl) (fun _ _ _ => by rfl) (by rfl) ?_ | refine' TrS.asg (by rfl) (by first | exact fun _ _ _ => rfl | exact SwE.lc rfl) (by rfl) ?_ | refine' TrS.app (by rfl) (by rfl) ?_ | refine' TrS.asgC (SwT.lc rfl) (by rfl) ?_ | refine' TrS.sto2 (fun _ _ _ => by rfl) (by rfl) ?_ ?_ ?_ | refine' TrS.sto (fun _ _ _ => by rfl) (by rfl) ?_ ?_ | refine' TrS.swap (by decide) (by rfl) (by rfl) (by rfl) (by rfl) (by rfl) | refine' TrS.asg2 (by rfl) (by rfl) ?_ | refine' TrS.aug (by rfl) ?_ | refine' TrS.augS (fun _ _ _ => by rfl) (by rfl) ?_ ?_ | refine' TrS.ifs ?_ ?_ ?_ | refine' TrS.whl ?_ ?_ | refine' TrS.fr (fun _ _ => by rfl) (by rfl) ?_ ?_ | refine' TrS.ret ?_) | ((with_reducible show TrE _ _ _ _ _); first | refine' TrE.const (by rfl) | refine' TrE.var (by rfl) (by rfl) (by rfl) (by rfl) | refine' TrE.con (by rfl) (by rfl) (by rfl) | refine' TrE.bin ?_ ?_ | refine' TrE.neg ?_ | refine' TrE.notE ?_ | refine' TrE.cmp (by rfl) ?_ ?_ | refine' TrE.bop ?_ ?_ | refine' TrE.ife ?_ ?_ ?_ | refine' TrE.rev ?_ | refine' TrE.sl ?_ ?_ ?_ | refine' TrE.idx ?_ ?_ | refine' TrE.list ?_ | refine' TrE.tup ?_ | refine' TrE.ofC ?_ | refine' TrE.isI (by rfl) (by rfl) ?_ | refine' TrE.isB (by rfl) (by rfl) ?_ | refine' TrE.callF (by rfl) (by rfl) (by rfl) ?_ ?_ | refine' TrE.callB (by rfl) (by rfl) (by rfl) ?_ ?_ | refine' TrE.sub (by rfl) (by rfl) (by rfl) (by rfl) ?_ ?_ | refine' TrE.me0 (fun _ => by rfl) (by rfl) (by rfl) ?_ | refine' TrE.me1 (fun _ => by rfl) (by rfl) (by rfl) ?_ ?_ | refine' TrE.me2 (fun _ => by rfl) (by rfl) (by rfl) ?_ ?_ ?_) | ((with_reducible show TrC _ _ _ _ _ _ _ _); first | refine' TrC.comp (by rfl) (fun _ _ => by rfl) ?_ ?_ ?_ | refine' TrC.comp2 (by rfl) (by rfl) (fun _ _ => by rfl) (fun _ _ => by rfl) ?_ ?_ ?_) | ((with_reducible show TrEs _ _ _ _ _); first | exact TrEs.nil | refine' TrEs.cons ?_ ?_) | ((with_reducible show TrO _ _ _ _ _); first | exact TrO.none | refine' TrO.some ?_) | ((with_reducible show TrI _ _ _ _ _); first | exact TrI.nil | refine' TrI.one ?_) | ((with_reducible show TrF _ _ _ _ _); first | refine' TrF.list ?_ | refine' TrF.range (by rfl) ?_ ?_) | rfl | exact List.cons_ne_nil _ _))) (TrSs.cons (TrS.frz (x := "written") (by rfl) (by with_unfolding_all (repeat' (first | ((with_reducible show TrSs _ _ _ _ _ _); first | exact TrSs.nil | refine' TrSs.cons ?_ ?_) | ((with_reducible show TrS _ _ _ _ _ _); first | refine' TrS.popU (by rfl) (by rfl) (by rfl) (by rfl) | refine' TrS.newD (by rfl) | refine' TrS.own2c (n := 4) (by rfl) (by rfl) (by rfl) (fun _ _ => by rfl) (SwT.lc rfl) (by rfl) (by decide) ?_ | refine' TrS.stoD (by rfl) (fun _ _ _ => by rfl) (by rfl) ?_ ?_ | refine' TrS.own (by rfl) (by rfl) (by first | exact fun _ _ _ => rfl | exact SwE.lc rfl) (by rfl) ?_ | refine' TrS.frzA (by rfl) (by rfl) (by rfl) (fun _ _ _ => by rfl) (by rfl) ?_ | refine' TrS.asg (by rfl) (by first | exact fun _ _ _ => rfl | exact SwE.lc rfl) (by rfl) ?_ | refine' TrS.app (by rfl) (by rfl) ?_ | refine' TrS.asgC (SwT.lc rfl) (by rfl) ?_ | refine' TrS.sto2 (fun _ _ _ => by rfl) (by rfl) ?_ ?_ ?_ | refine' TrS.sto (fun _ _ _ => by rfl) (by rfl) ?_ ?_ | refine' TrS.swap (by decide) (by rfl) (by rfl) (by rfl) (by rfl) (by rfl) | refine' TrS.asg2 (by rfl) (by rfl) ?_ | refine' TrS.aug (by rfl) ?_ | refine' TrS.augS (fun _ _ _ => by rfl) (by rfl) ?_ ?_ | refine' TrS.ifs ?_ ?_ ?_ | refine' TrS.whl ?_ ?_ | refine' TrS.fr (fun _ _ => by rfl) (by rfl) ?_ ?_ | refine' TrS.ret ?_) | ((with_reducible show TrE _ _ _ _ _); first | refine' TrE.const (by rfl) | refine' TrE.var (by rfl) (by rfl) (by rfl) (by rfl) | refine' TrE.con (by rfl) (by rfl) (by rfl) | refine' TrE.bin ?_ ?_ | refine' TrE.neg ?_ | refine' TrE.notE ?_ | refine' TrE.cmp (by rfl) ?_ ?_ | refine' TrE.bop ?_ ?_ | refine' TrE.ife ?_ ?_ ?_ | refine' TrE.rev ?_ | refine' TrE.sl ?_ ?_ ?_ | refine' TrE.idx ?_ ?_ | refine' TrE.list ?_ | refine' TrE.tup ?_ | refine' TrE.ofC ?_ | refine' TrE.isI (by rfl) (by rfl) ?_ | refine' TrE.isB (by rfl) (by rfl) ?_ | refine' TrE.callF (by rfl) (by rfl) (by rfl) ?_ ?_ | refine' TrE.callB (by rfl) (by rfl) (by rfl) ?_ ?_ | refine' TrE.sub (by rfl) (by rfl) (by rfl) (by rfl) ?_ ?_ | refine' TrE.me0 (fun _ => by rfl) (by rfl) (by rfl) ?_ | refine' TrE.me1 (fun _ => by rfl) (by rfl) (by rfl) ?_ ?_ | refine' TrE.me2 (fun _ => by rfl) (by rfl) (by rfl) ?_ ?_ ?_) | ((with_reducible show TrC _ _ _ _ _ _ _ _); first | refine' TrC.comp (by rfl) (fun _ _ => by rfl) ?_ ?_ ?_ | refine' TrC.comp2 (by rfl) (by rfl) (fun _ _ => by rfl) (fun _ _ => by rfl) ?_ ?_ ?_) | ((with_reducible show TrEs _ _ _ _ _); first | exact TrEs.nil | refine' TrEs.cons ?_ ?_) | ((with_reducible show TrO _ _ _ _ _); first | exact TrO.none | refine' TrO.some ?_) | ((with_reducible show TrI _ _ _ _ _); first | exact TrI.nil | refine' TrI.one ?_) | ((with_reducible show TrF _ _ _ _ _); first | refine' TrF.list ?_ | refine' TrF.range (by rfl) ?_ ?_) | rfl | exact List.cons_ne_nil _ _)))) (by with_unfolding_all (repeat' (first | ((with_reducible show TrSs _ _ _ _ _ _); first | exact TrSs.nil | refine' TrSs.cons ?_ ?_) | ((with_reducible show TrS _ _ _ _ _ _); first | refine' TrS.popU (by rfl) (by rfl) (by rfl) (by rfl) | refine' TrS.newD (by rfl) | refine' TrS.own2c (n := 4) (by rfl) (by rfl) (by rfl) (fun _ _ => by rfl) (SwT.lc rfl) (by rfl) (by decide) ?_ | refine' TrS.stoD (by rfl) (fun _ _ _ => by rfl) (by rfl) ?_ ?_ | refine' TrS.own (by rfl) (by rfl) (by first | exact fun _ _ _ => rfl | exact SwE.lc rfl) (by rfl) ?_ | refine' TrS.frzA (by rfl) (by rfl) (by rfl) (fun _ _ _ => by rfl) (by rfl) ?_ | refine' TrS.asg (by rfl) (by first | exact fun _ _ _ => rfl | exact SwE.lc rfl) (by rfl) ?_ | refine' TrS.app (by rfl) (by rfl) ?_ | refine' TrS.asgC (SwT.lc rfl) (by rfl) ?_ | refine' TrS.sto2 (fun _ _ _ => by rfl) (by rfl) ?_ ?_ ?_ | refine' TrS.sto (fun _ _ _ => by rfl) (by rfl) ?_ ?_ | refine' TrS.swap (by decide) (by rfl) (by rfl) (by rfl) (by rfl) (by rfl) | refine' TrS.asg2 (by rfl) (by rfl) ?_ | refine' TrS.aug (by rfl) ?_ | refine' TrS.augS (fun _ _ _ => by rfl) (by rfl) ?_ ?_ | refine' TrS.ifs ?_ ?_ ?_ | refine' TrS.whl ?_ ?_ | refine' TrS.fr (fun _ _ => by rfl) (by rfl) ?_ ?_ | refine' TrS.ret ?_) | ((with_reducible show TrE _ _ _ _ _); first | refine' TrE.const (by rfl) | refine' TrE.var (by rfl) (by rfl) (by rfl) (by rfl) | refine' TrE.con (by rfl) (by rfl) (by rfl) | refine' TrE.bin ?_ ?_ | refine' TrE.neg ?_ | refine' TrE.notE ?_ | refine' TrE.cmp (by rfl) ?_ ?_ | refine' TrE.bop ?_ ?_ | refine' TrE.ife ?_ ?_ ?_ | refine' TrE.rev ?_ | refine' TrE.sl ?_ ?_ ?_ | refine' TrE.idx ?_ ?_ | refine' TrE.list ?_ | refine' TrE.tup ?_ | refine' TrE.ofC ?_ | refine' TrE.isI (by rfl) (by rfl) ?_ | refine' TrE.isB (by rfl) (by rfl) ?_ | refine' TrE.callF (by rfl) (by rfl) (by rfl) ?_ ?_ | refine' TrE.callB (by rfl) (by rfl) (by rfl) ?_ ?_ | refine' TrE.sub (by rfl) (by rfl) (by rfl) (by rfl) ?_ ?_ | refine' TrE.me0 (fun _ => by rfl) (by rfl) (by rfl) ?_ | refine' TrE.me1 (fun _ => by rfl) (by rfl) (by rfl) ?_ ?_ | refine' TrE.me2 (fun _ => by rfl) (by rfl) (by rfl) ?_ ?_ ?_) | ((with_reducible show TrC _ _ _ _ _ _ _ _); first | refine' TrC.comp (by rfl) (fun _ _ => by rfl) ?_ ?_ ?_ | refine' TrC.comp2 (by rfl) (by rfl) (fun _ _ => by rfl) (fun _ _ => by rfl) ?_ ?_ ?_) | ((with_reducible show TrEs _ _ _ _ _); first | exact TrEs.nil | refine' TrEs.cons ?_ ?_) | ((with_reducible show TrO _ _ _ _ _); first | exact TrO.none | refine' TrO.some ?_) | ((with_reducible show TrI _ _ _ _ _); first | exact TrI.nil | refine' TrI.one ?_) | ((with_reducible show TrF _ _ _ _ _); first | refine' TrF.list ?_ | refine' TrF.range (by rfl) ?_ ?_) | rfl | exact List.cons_ne_nil _ _)))))), ?_⟩
  rintro _ Q ⟨R, N, ws, rfl, hG, hN, q⟩
  refine ⟨rfl, ?_⟩
  show exs FTx _ [(0, .val (rulesV R))] _
  dsimp only [List.nil_append, List.cons_append, toSs, toEs]
  rw [exs_cons]
  refine S.newD_ok ?_
  show exs FTx _ [(1, .ownD [] []), (0, .val (rulesV R))] _
  rw [exs_cons]
  refine S.fr_ok (t := extT) (items := extK.map .str) (fun n st => st.lookup 0 = some (.val (rulesV R)) ∧ st.lookup 1 = some (.ownD (extN.take n) ((extK.take n).map .str))) (Ev.lit _) trivial rfl ⟨rfl, rfl⟩ ?_ ?_
  · rintro n st v hv ⟨h0, h1⟩
    rw [List.getElem?_map] at hv
    obtain ⟨w, hw, rfl⟩ := Option.map_eq_some_iff.mp hv
    have hn : n < extK.length := (List.getElem?_eq_some_iff.mp hw).1
    have hn' : n < extN.length := hn
    obtain ⟨j, hj⟩ : ∃ j, extN[n]? = some j := ⟨_, List.getElem?_eq_getElem hn'⟩
    have hlk : lkS extK (extN.map .int) w = some (.int j) := lkK_nodup extK_nodup hw (by rw [List.getElem?_map, hj]; rfl)
    have hnew : j ∉ extN.take n := fun hm => by
      obtain ⟨i, hi⟩ := List.mem_iff_getElem?.mp hm
      have hin : i < n := by have := (List.getElem?_eq_some_iff.mp hi).1; rw [List.length_take] at this; lia
      rw [List.getElem?_take_of_lt hin] at hi
      exact absurd (nodup_idx extN_nodup hi hj) (Nat.ne_of_lt hin)
    have h1' : ((2, .val (.str w)) :: st : St).lookup 1 = _ := h1
    have h2' : ((2, .val (.str w)) :: st : St).lookup 2 = some (.val (.str w)) := rfl
    have hi : Ev FTx (rd ((2, .val (.str w)) :: st)) ((E.lit extT).idx (E.var 2)) (.int j) := EvD.idx (Ev.lit extT) (EvD.var (rd_at h2')) fun Q q => by
      show atW (lkS extK (extN.map .int) w) Q
      rw [hlk]; exact q
    rw [exs_cons]
    refine S.stoD_ok h1' (EvD.var (rd_at h2')) hi hnew (by rw [List.length_take]; have : extN.length = 48 := rfl; lia) (contW_nil (loop_next ⟨h0, ?_⟩))
    show some (B.ownD (extN.take n ++ [j]) ((extK.take n).map .str ++ [.str w])) = _
    have e1 : extN.take (n + 1) = extN.take n ++ [j] := by rw [List.take_add_one, hj]; rfl
    have e2 : extK.take (n + 1) = extK.take n ++ [w] := by rw [List.take_add_one, hw]; rfl
    rw [e1, e2, List.map_append]; rfl
  · rintro st ⟨h0, h1⟩
    rw [show (extK.map V.str).length = 48 from rfl] at h1
    have h1 : st.lookup 1 = some (.ownD extN (extK.map .str)) := h1
    show exs FTx _ st _
    rw [exs_cons]
    refine S.frz_ok h1 ?_
    have h0 : ((1, .val (.dI extN (extK.map .str))) :: st : St).lookup 0 = _ := h0
    have h1 : ((1, .val (.dI extN (extK.map .str))) :: st : St).lookup 1 = some (.val (.dI extN (extK.map .str))) := rfl
    show ex1 FTx _ ((1, .val (.dI extN (extK.map .str))) :: st) _
    generalize ((1, .val (.dI extN (extK.map .str))) :: st : St) = st at h0 h1
    refine S.ownL_ok (F := FTx) .nil trivial (Nat.zero_le _) ?_
    show exs FTx _ ((3, .own []) :: st) _
    rw [exs_cons]
    refine S.ownL_ok (F := FTx) (.cons (Ev.list (.cons (Ev.lit _) (.cons (Ev.list (.cons (Ev.lit (.int 256)) (.cons (Ev.lit (.int 0)) .nil)) ⟨rfl, rfl, trivial⟩ (Nat.le_of_ble_eq_true rfl)) .nil)) ⟨rfl, rfl, trivial⟩ (Nat.le_of_ble_eq_true rfl)) .nil) ⟨rfl, trivial⟩ (Nat.le_of_ble_eq_true rfl) ?_
    show exs FTx _ ((4, .own [.list [.str [], bodyV [256, 0]]]) :: (3, .own []) :: st) _
    have e0 : ∃ e : Ent, e.val = .list [.str [], bodyV [256, 0]] ∧ EntOk R N e ∧ e.n = N ∧ e.out = ws := ⟨⟨[], [256, 0], N, ws⟩, rfl, ⟨hG, Nat.le_of_eq (Nat.zero_add _)⟩, rfl, by show ws.map ([] ++ ·) = ws; simp⟩
    obtain ⟨e0, he, hok, hn, hout⟩ := e0
    have T : TxS R [] [e0] ((4, .own [.list [.str [], bodyV [256, 0]]]) :: (3, .own []) :: st) := ⟨h0, h1, rfl, by rw [← he]; rfl⟩
    generalize ((4, .own [.list [.str [], bodyV [256, 0]]]) :: (3, .own []) :: st : St) = st at T
    rw [exs_cons]
    refine S.whl_ok (fun m st => ∃ texts ps, TxS R texts ps st ∧ m = turns ps ∧ (∀ e ∈ ps, EntOk R N e) ∧ texts.length + turns ps ≤ N ∧ texts ++ outs ps = ws) N ⟨[], [e0], T, by unfold turns; simp [hn], fun e he => by rw [List.mem_singleton.mp he]; exact hok, by unfold turns; simp [hn], by unfold outs; simpa using hout⟩ ?_
    rintro m st ⟨texts, ps, T, rfl, hok, hlen, hws⟩
    refine ⟨_, Tv.isB (Ev.eofX (Ev.lenO (EvD.var (rd_at T.l4)))), ?_⟩
    rw [List.length_map]
    rcases List.eq_nil_or_concat ps with rfl | ⟨ps, e, rfl⟩
    · rw [if_neg (by decide)]
      show exs FTx _ st _
      rw [exs_cons]
      refine S.ret_ok (EvD.var (rd_at T.l3)) ?_
      have : texts = ws := by rw [← hws]; unfold outs; simp
      rw [this]; exact q
    · rw [if_pos (by simp; lia)]
      have hok1 := hok e (by simp)
      have hoks : ∀ x ∈ ps, EntOk R N x := fun x hx => hok x (by simp [hx])
      rw [List.concat_eq_append, turns_snoc] at hlen
      rw [List.concat_eq_append, outs_snoc] at hws
      have hpl := turns_len hoks
      have T := T
      rw [List.concat_eq_append] at T
      obtain ⟨text, syms, n, ws1⟩ := e
      obtain ⟨hg, htx⟩ := hok1
      have hg : G R n syms ws1 := hg
      have htx : text.length + 10 * n ≤ 10 * N := htx
      have hlen : texts.length + (turns ps + n) ≤ N := hlen
      have hws : texts ++ (ws1.map (text ++ ·) ++ outs ps) = ws := hws
      have hgl := hg.len
      rw [exs_cons]
      refine S.popU_ok (xs := ps.map Ent.val) (u := .str text) (v := bodyV syms) (by rw [T.l4, List.map_append]; rfl) ?_
      show exs FTx _ ((6, .val (bodyV syms)) :: (5, .val (.str text)) :: (4, .own (ps.map Ent.val)) :: st) _
      have T1 : TxS R texts ps ((6, .val (bodyV syms)) :: (5, .val (.str text)) :: (4, .own (ps.map Ent.val)) :: st) := ((T.pile rfl).put (by decide)).put (by decide)
      have h5 : ((6, .val (bodyV syms)) :: (5, .val (.str text)) :: (4, .own (ps.map Ent.val)) :: st : St).lookup 5 = some (.val (.str text)) := rfl
      have h6 : ((6, .val (bodyV syms)) :: (5, .val (.str text)) :: (4, .own (ps.map Ent.val)) :: st : St).lookup 6 = some (.val (bodyV syms)) := rfl
      generalize ((6, .val (bodyV syms)) :: (5, .val (.str text)) :: (4, .own (ps.map Ent.val)) :: st : St) = st at T1 h5 h6
      refine turn_ok hN T1 h5 h6 hg htx hoks hlen fun st' texts' ps' T' h1 h2 h3 h4 => loop_next ⟨turns ps', ?_, texts', ps', T', rfl, h2, h3, h4.trans hws⟩
      rw [List.concat_eq_append, turns_snoc]; exact h1
end Mine
end

-- part K2
section
open PySem PySem.Calls PyProof.Rows
set_option linter.unusedSimpArgs false
set_option linter.unusedVariables false
set_option maxRecDepth 100000
namespace Mine

theorem anyEq_strs (x : List Nat) : ∀ l : List (List Nat), anyEq (.str x) (l.map .str) = some (decide (x ∈ l))
  | [] => rfl
  | y :: l => by
    show (some (decide (y = x))).bind (fun b => (anyEq (.str x) (l.map V.str)).map fun c => b || c) = _
    rw [anyEq_strs x l]
    show some (decide (y = x) || decide (x ∈ l)) = _
    congr 1
    by_cases h : y = x
    · subst h; simp
    · have h2 : ¬ x = y := fun e => h e.symm
      simp [h, h2]
theorem price_ok : ∃ ss, TrD FPr dPr [] ss ∧ ∀ ts Q, spPr ts Q → ts.length = 2 ∧ exs FPr (toSs ss) (initFrom 0 ts) (retOut Q) := by
  refine ⟨_, (by unfold TrD; with_unfolding_all (repeat' (first | ((with_reducible show TrSs _ _ _ _ _ _); first | exact TrSs.nil | refine' TrSs.cons ?_ ?_) | ((with_reducible show TrS _ _ _ _ _ _); first | refine' TrS.popU (by rfl) (by rfl) (by rfl) (by rfl) | refine' TrS.newD (by rfl) | refine' TrS.own2c (n := 4) (by rfl) (by rfl) (by rfl) (fun _ _ => by rfl) (SwT.lc rfl) (by rfl) (by decide) ?_ | refine' TrS.stoD (by rfl) (fun _ _ _ => by rfl) (by rfl) ?_ ?_ | refine' TrS.own (by rfl) (by rfl) (by first | exact fun _ _ _ => rfl | exact SwE.lc rfl) (by rfl) ?_ | refine' TrS.frzA (by rfl) (by rfl) (by rfl) (fun _ _ _ => by rfl) (by rfl) ?_ | refine' TrS.asg (by rfl) (by first | exact fun _ _ _ => rfl | exact SwE.lc rfl) (by rfl) ?_ | refine' TrS.app (by rfl) (by rfl) ?_ | refine' TrS.asgC (SwT.lc rfl) (by rfl) ?_ | refine' TrS.sto2 (fun _ _ _ => by rfl) (by rfl) ?_ ?_ ?_ | refine' TrS.sto (fun _ _ _ => by rfl) (by rfl) ?_ ?_ | refine' TrS.swap (by decide) (by rfl) (by rfl) (by rfl) (by rfl) (by rfl) | refine' TrS.asg2 (by rfl) (by rfl) ?_ | refine' TrS.aug (by rfl) ?_ | refine' TrS.augS (fun _ _ _ => by rfl) (by rfl) ?_ ?_ | refine' TrS.ifs ?_ ?_ ?_ | refine' TrS.whl ?_ ?_ | refine' TrS.fr (fun _ _ => by rfl) (by rfl) ?_ ?_ | refine' TrS.ret ?_) | ((with_reducible show TrE _ _ _ _ _); first | refine' TrE.const (by rfl) | refine' TrE.var (by rfl) (by rfl) (by rfl) (by rfl) | refine' TrE.con (by rfl) (by rfl) (by rfl) | refine' TrE.bin ?_ ?_ | refine' TrE.neg ?_ | refine' TrE.notE ?_ | refine' TrE.cmp (by rfl) ?_ ?_ | refine' TrE.bop ?_ ?_ | refine' TrE.ife ?_ ?_ ?_ | refine' TrE.rev ?_ | refine' TrE.sl ?_ ?_ ?_ | refine' TrE.idx ?_ ?_ | refine' TrE.list ?_ | refine' TrE.tup ?_ | refine' TrE.ofC ?_ | refine' TrE.isI (by rfl) (by rfl) ?_ | refine' TrE.isB (by rfl) (by rfl) ?_ | refine' TrE.callF (by rfl) (by rfl) (by rfl) ?_ ?_ | refine' TrE.callB (by rfl) (by rfl) (by rfl) ?_ ?_ | refine' TrE.sub (by rfl) (by rfl) (by rfl) (by rfl) ?_ ?_ | refine' TrE.me0 (fun _ => by rfl) (by rfl) (by rfl) ?_ | refine' TrE.me1 (fun _ => by rfl) (by rfl) (by rfl) ?_ ?_ | refine' TrE.me2 (fun _ => by rfl) (by rfl) (by rfl) ?_ ?_ ?_) | ((with_reducible show TrC _ _ _ _ _ _ _ _); first | refine' TrC.comp (by rfl) (fun _ _ => by rfl) ?_ ?_ ?_ | refine' TrC.comp2 (by rfl) (by rfl) (fun _ _ => by rfl) (fun _ _ => by rfl) ?_ ?_ ?_) | ((with_reducible show TrEs _ _ _ _ _); first | exact TrEs.nil | refine' TrEs.cons ?_ ?_) | ((with_reducible show TrO _ _ _ _ _); first | exact TrO.none | refine' TrO.some ?_) | ((with_reducible show TrI _ _ _ _ _); first | exact TrI.nil | refine' TrI.one ?_) | ((with_reducible show TrF _ _ _ _ _); first | refine' TrF.list ?_ | refine' TrF.range (by rfl) ?_ ?_) | rfl | exact List.cons_ne_nil _ _))), ?_⟩
  rintro _ Q ⟨x, y, rfl, q⟩
  refine ⟨rfl, ?_⟩
  show exs FPr _ [(0, .val (.str [x])), (1, .val (.str [y]))] _
  dsimp only [List.nil_append, List.cons_append, toSs, toEs]
  have h0 : (rd [(0, .val (.str [x])), (1, .val (.str [y]))]).lookup 0 = some (.str [x], 0) := rfl
  have h1 : (rd [(0, .val (.str [x])), (1, .val (.str [y]))]).lookup 1 = some (.str [y], 0) := rfl
  rw [exs_cons]
  refine S.ifs_ok (Tv.cmp (EvD.cmp (EvD.var h0) (EvD.var h1) (c := decide ([x] = [y])) fun Q q => q)) ?_
  unfold pr at q
  by_cases e : x = y
  · rw [if_pos e] at q
    rw [if_pos (decide_eq_true (by rw [e]))]
    exact S.ret_ok (Ev.lit _) q
  · rw [if_neg e] at q
    rw [if_neg (by simpa using e), exs_nil]
    show exs FPr _ [(0, .val (.str [x])), (1, .val (.str [y]))] _
    have T : Tv FPr (rd [(0, .val (.str [x])), (1, .val (.str [y]))]) (E.cmp CmpOp.In (E.bin Operator.Add (E.var 0) (E.var 1)) (E.tup (Es.cons (E.lit (V.str (Str.ofString "aA").cps.toList)) (Es.cons (E.lit (V.str (Str.ofString "Aa").cps.toList)) (Es.cons (E.lit (V.str (Str.ofString "þÞ").cps.toList)) (Es.cons (E.lit (V.str (Str.ofString "Þþ").cps.toList)) Es.nil)))))) (decide ([x, y] ∈ pairs4)) := by
      refine Tv.cmp (EvD.cmp (Ev.cat (by simp) (EvD.var h0) (EvD.var h1)) (Ev.tup (.cons (Ev.lit _) (.cons (Ev.lit _) (.cons (Ev.lit _) (.cons (Ev.lit _) .nil)))) ⟨rfl, rfl, rfl, rfl, trivial⟩ (by decide)) fun Q q => ?_)
      show oW (anyEq (.str [x, y]) (pairs4.map .str)) Q
      rw [anyEq_strs]; exact q
    refine S.ret_ok (d := 0) (t := .int (if [x, y] ∈ pairs4 then 16 else 32)) (EvD.ife T (fun h => ?_) fun h => ?_) q
    · rw [if_pos (of_decide_eq_true h)]; exact Ev.lit _
    · rw [if_neg (of_decide_eq_false h)]; exact Ev.lit _
end Mine
end

-- part K3
section
open PySem PySem.Calls PyProof.Rows
set_option linter.unusedSimpArgs false
set_option linter.unusedVariables false
set_option maxRecDepth 100000
namespace Mine

/-! tables -/
noncomputable def r4 {α : Type} (f : Nat → α) : List α := [f 0, f 1, f 2, f 3]
noncomputable def tabX (T : Nat → Nat → Int) : List (List V) := r4 fun i => r4 fun j => .int (T i j)
noncomputable def tabV (T : Nat → Nat → Int) : V := .list (r4 fun i => .list (r4 fun j => .int (T i j)))
noncomputable def upd2 (N : Nat → Nat → Int) (i j : Nat) (v : Int) : Nat → Nat → Int := fun a b => if a = i ∧ b = j then v else N a b
theorem r4_getD {α : Type} (f : Nat → α) {i : Nat} (h : i < 4) (d : α) : (r4 f).getD i d = f i := range_getD (n := 4) f h d
theorem r4_set {α : Type} (f g : Nat → α) {i : Nat} (h : i < 4) (v : α) (hv : g i = v) (ho : ∀ j, j ≠ i → g j = f j) : (r4 f).set i v = r4 g := by
  refine List.ext_getElem? fun j => ?_
  rw [List.getElem?_set]
  by_cases e : i = j
  · subst e
    rw [if_pos rfl, if_pos (show i < (r4 f).length from h), ← hv]
    exact (List.getElem?_map .. |>.trans (by rw [List.getElem?_range h]; rfl) : ((List.range 4).map g)[i]? = some (g i)).symm
  · rw [if_neg e]
    show ((List.range 4).map f)[j]? = ((List.range 4).map g)[j]?
    rw [List.getElem?_map, List.getElem?_map]
    by_cases h4 : j < 4
    · rw [List.getElem?_range h4]
      show some (f j) = some (g j)
      rw [ho j fun x => e x.symm]
    · rw [List.getElem?_eq_none (by rw [List.length_range]; exact Nat.not_lt.mp h4)]; rfl
theorem tabX_set (N : Nat → Nat → Int) {i j : Nat} (hi : i < 4) (hj : j < 4) (v : Int) : (tabX N).set i (((tabX N).getD i []).set j (.int v)) = tabX (upd2 N i j v) := by
  unfold tabX
  rw [r4_getD _ hi]
  refine r4_set _ _ hi _ ?_ fun a ha => ?_
  · refine (r4_set _ _ hj _ ?_ fun b hb => ?_).symm
    · exact congrArg V.int (if_pos ⟨rfl, rfl⟩)
    · exact congrArg V.int (if_neg fun h => hb h.2)
  · exact congrArg r4 (funext fun b => congrArg V.int (if_neg fun h => ha h.1))
theorem r4_congr {α : Type} {f g : Nat → α} (h : ∀ i, i < 4 → f i = g i) : r4 f = r4 g := by
  show [f 0, f 1, f 2, f 3] = [g 0, g 1, g 2, g 3]
  rw [h 0 (by decide), h 1 (by decide), h 2 (by decide), h 3 (by decide)]
theorem tab_congr {T T' : Nat → Nat → Int} (h : ∀ i j, i < 4 → j < 4 → T i j = T' i j) : tabX T = tabX T' := r4_congr fun i hi => r4_congr fun j hj => congrArg V.int (h i j hi hj)
theorem tabX_val (T : Nat → Nat → Int) : V.list ((tabX T).map .list) = tabV T := rfl
theorem tab_zero : List.replicate 4 (List.replicate 4 (.int 0)) = tabX fun _ _ => 0 := rfl
section
variable {F : Fenv} {r : Rv}
/-- an item of a table, frozen or own -/
theorem Ev.tab {a i j : E} {T : Nat → Nat → Int} {x y d di dj : Nat} (ha : EvD F r a (tabV T) d) (hd : d = 0 ∨ d = 2) (hi : EvD F r i (vN x) di) (hx : x < 4) (hj : EvD F r j (vN y) dj) (hy : y < 4) : Ev F r (.idx (.idx a i) j) (.int (T x y)) := by
  have h1 : EvD F r (.idx a i) (.list (r4 fun j => .int (T x j))) (d - 1) := by
    refine EvD.idx ha hi fun Q q => ?_
    show -((4 : Nat) : Int) ≤ (x : Int) ∧ (x : Int) < (4 : Nat) ∧ Q ((r4 fun i => V.list (r4 fun j => .int (T i j))).getD (pix (x : Int) 4) .none) (d - 1)
    rw [pix_pos (by lia), Int.toNat_natCast, r4_getD _ hx]
    exact ⟨by lia, by lia, q⟩
  refine EvD.idx h1 hj fun Q q => ?_
  show -((4 : Nat) : Int) ≤ (y : Int) ∧ (y : Int) < (4 : Nat) ∧ Q ((r4 fun j => V.int (T x j)).getD (pix (y : Int) 4) .none) (d - 1 - 1)
  rw [pix_pos (by lia), Int.toNat_natCast, r4_getD _ hy]
  refine ⟨by lia, by lia, ?_⟩
  rcases hd with rfl | rfl <;> exact q
theorem Ev.min3 {a b c : E} {x y z : Int} (ha : Ev F r a (.int x)) (hb : Ev F r b (.int y)) (hc : Ev F r c (.int z)) : Ev F r (.bi .min (.cons a (.cons b (.cons c .nil)))) (.int (Min.min (Min.min x y) z)) := EvD.bi (.cons ha (.cons hb (.cons hc .nil))) fun Q q => q
theorem Ev.min2 {a b : E} {x y : Int} (ha : Ev F r a (.int x)) (hb : Ev F r b (.int y)) : Ev F r (.bi .min (.cons a (.cons b .nil))) (.int (Min.min x y)) := EvD.bi (.cons ha (.cons hb .nil)) fun Q q => q
theorem Ev.sign {a i : E} {l : List Nat} {x d di : Nat} (ha : EvD F r a (.str l) d) (hi : EvD F r i (vN x) di) (hx : x < l.length) : Ev F r (.idx a i) (.str [l.getD x 0]) := EvD.idx ha hi fun Q q => by
  show -((l.length : Nat) : Int) ≤ (x : Int) ∧ (x : Int) < (l.length : Nat) ∧ Q (.str [l.getD (pix (x : Int) l.length) 0]) 0
  rw [pix_pos (by lia), Int.toNat_natCast]
  exact ⟨by lia, by lia, q⟩
theorem Ev.lt {a b : E} {x y : Int} {da db : Nat} (ha : EvD F r a (.int x) da) (hb : EvD F r b (.int y) db) : Tv F r (.cmp .Lt a b) (decide (x < y)) := Tv.cmp (EvD.cmp ha hb fun Q q => q)
theorem Ev.range1 {a : E} {n : Int} (h : Ev F r a (.int n)) : Ev F r (.bi .range (.cons a .nil)) (.rng 0 n 1) := EvD.bi (.cons h .nil) fun Q q => q
theorem Ev.range2 {a b : E} {m n : Int} (h : Ev F r a (.int m)) (h' : Ev F r b (.int n)) : Ev F r (.bi .range (.cons a (.cons b .nil))) (.rng m n 1) := EvD.bi (.cons h (.cons h' .nil)) fun Q q => q
theorem Ev.range3 {a b c : E} {x y z : Int} (ha : Ev F r a (.int x)) (hb : Ev F r b (.int y)) (hc : Ev F r c (.int z)) (hz : z ≠ 0 ∧ z.natAbs ≤ 1000) : Ev F r (.bi .range (.cons a (.cons b (.cons c .nil)))) (.rng x y z) := EvD.bi (.cons ha (.cons hb (.cons hc .nil))) fun Q q => ⟨hz.1, hz.2, q⟩
theorem Ev.neg1 : Ev F r (.neg (.lit (.int 1))) (.int (-1)) := fun Q q => q
end
theorem rng_up (m n : Nat) (h : m ≤ n) : rngL m n 1 = (List.range (n - m)).map fun (k : Nat) => ((m + k : Nat) : Int) := by
  unfold rngL
  have : rsize (m : Int) n 1 = n - m := by unfold rsize Builtin.Range.rangeSize; split <;> (try split) <;> lia
  rw [this]
  exact List.map_congr_left fun k _ => by lia
theorem rng4 : (rngL 0 4 1).map V.int = (List.range 4).map vN := rfl
theorem rng4_at {j : Nat} {v : V} (h : ((rngL 0 4 1).map V.int)[j]? = some v) : v = vN j ∧ j < 4 := by
  rw [rng4, List.getElem?_map] at h
  obtain ⟨j', hj', rfl⟩ := Option.map_eq_some_iff.mp h
  obtain ⟨h4, e⟩ := List.getElem?_eq_some_iff.mp hj'
  rw [List.getElem_range] at e
  subst e
  exact ⟨rfl, by simpa using h4⟩
theorem rng_down (j : Nat) : rngL j (-1) (-1) = (List.range (j + 1)).map fun (k : Nat) => (j : Int) - k := by
  unfold rngL
  have : rsize (j : Int) (-1) (-1) = j + 1 := by unfold rsize Builtin.Range.rangeSize; split <;> (try split) <;> lia
  rw [this]
  exact List.map_congr_left fun k _ => by lia
/-! a sign put ahead of what a table stands for -/
noncomputable def ahD (typed : List Nat) (s : Nat) (T : Nat → Nat → Int) : Nat → Nat → Int
  | 0, i => T i i + 32
  | d + 1, i => min (min (T i (i + d + 1) + 32) (ahD typed s T d (i + 1) + 32)) (T (i + 1) (i + d + 1) + pr s (typed.getD i 0))
noncomputable def ahead1 (typed : List Nat) (s : Nat) (T : Nat → Nat → Int) (i j : Nat) : Int := if i ≤ j then ahD typed s T (j - i) i else 0
theorem ahead1_eq (typed : List Nat) (s : Nat) (T : Nat → Nat → Int) {i : Nat} : ahead1 typed s T i i = T i i + 32 := by
  unfold ahead1; rw [if_pos (Nat.le_refl _), Nat.sub_self]; rfl
theorem ahead1_lt (typed : List Nat) (s : Nat) (T : Nat → Nat → Int) {i j : Nat} (h : i < j) : ahead1 typed s T i j = min (min (T i j + 32) (ahead1 typed s T (i + 1) j + 32)) (T (i + 1) j + pr s (typed.getD i 0)) := by
  unfold ahead1
  rw [if_pos (Nat.le_of_lt h), if_pos (show i + 1 ≤ j from h)]
  obtain ⟨d, rfl⟩ : ∃ d, j = i + d + 1 := ⟨j - i - 1, by lia⟩
  rw [show i + d + 1 - i = d + 1 by lia, show i + d + 1 - (i + 1) = d by lia]
  rfl
noncomputable def aheadT (typed : List Nat) : List Nat → (Nat → Nat → Int) → Nat → Nat → Int
  | [], T => T
  | s :: l, T => aheadT typed l (ahead1 typed s T)
noncomputable def spAh : Spec := fun ts Q => ∃ (piece typed : List Nat) (T : Nat → Nat → Int), ts = [.str piece, tabV T, .str typed] ∧ typed.length = 3 ∧ Q (tabV (aheadT typed piece.reverse T))
structure AhS (typed : List Nat) (T : Nat → Nat → Int) (st : St) : Prop where
  l1 : st.lookup 1 = some (.val (tabV T))
  l2 : st.lookup 2 = some (.val (.str typed))
structure AhI (typed : List Nat) (T : Nat → Nat → Int) (s : Nat) (N : Nat → Nat → Int) (st : St) : Prop extends AhS typed T st where
  l3 : st.lookup 3 = some (.val (.str [s]))
  l5 : st.lookup 5 = some (.own2 (tabX N))
theorem AhI.put {typed T s N} {st : St} (h : AhI typed T s N st) {x : Nat} {b : B} (hx : x = 4 ∨ x = 6 ∨ x = 7) : AhI typed T s N ((x, b) :: st) := by
  rcases hx with rfl | rfl | rfl <;> exact ⟨⟨h.l1, h.l2⟩, h.l3, h.l5⟩
theorem AhI.new {typed T s N N'} {st : St} (h : AhI typed T s N st) : AhI typed T s N' ((5, .own2 (tabX N')) :: st) := ⟨⟨h.l1, h.l2⟩, h.l3, rfl⟩
noncomputable def nfA (typed : List Nat) (s : Nat) (T : Nat → Nat → Int) (j k : Nat) : Nat → Nat → Int := fun a b => if a ≤ b ∧ (b < j ∨ (b = j ∧ j < a + k)) then ahead1 typed s T a b else 0
theorem nfA_next (typed : List Nat) (s : Nat) (T : Nat → Nat → Int) (j : Nat) : nfA typed s T j (j + 1) = nfA typed s T (j + 1) 0 := by
  funext a b
  unfold nfA
  have : (a ≤ b ∧ (b < j ∨ (b = j ∧ j < a + (j + 1)))) ↔ (a ≤ b ∧ (b < j + 1 ∨ (b = j + 1 ∧ j + 1 < a + 0))) := by lia
  simp only [this]
theorem nfA_step (typed : List Nat) (s : Nat) (T : Nat → Nat → Int) (j k : Nat) (h : k ≤ j) : upd2 (nfA typed s T j k) (j - k) j (ahead1 typed s T (j - k) j) = nfA typed s T j (k + 1) := by
  funext a b
  unfold upd2
  by_cases e : a = j - k ∧ b = j
  · obtain ⟨rfl, rfl⟩ := e
    rw [if_pos ⟨rfl, rfl⟩]; unfold nfA; rw [if_pos (by lia)]
  · rw [if_neg e]; unfold nfA
    have : (a ≤ b ∧ (b < j ∨ (b = j ∧ j < a + k))) ↔ (a ≤ b ∧ (b < j ∨ (b = j ∧ j < a + (k + 1)))) := by lia
    simp only [this]
theorem nfA_end (typed : List Nat) (s : Nat) (T : Nat → Nat → Int) : tabX (nfA typed s T 4 0) = tabX (ahead1 typed s T) := tab_congr fun i j _ hj => by
  unfold nfA
  by_cases h : i ≤ j
  · rw [if_pos ⟨h, .inl hj⟩]
  · rw [if_neg fun q => h q.1]; unfold ahead1; rw [if_neg h]
abbrev bodyA : Ss := Ss.cons (S.asg 7 (E.bin Operator.Add (((E.var 1).idx (E.var 4)).idx (E.var 6)) (E.lit (V.int 32)))) (Ss.cons (S.ifs (E.cmp CmpOp.Lt (E.var 4) (E.var 6)) (Ss.cons (S.asg 7 (E.bi Bi.min (Es.cons (E.var 7) (Es.cons (E.bin Operator.Add (((E.var 5).idx (E.bin Operator.Add (E.var 4) (E.lit (V.int 1)))).idx (E.var 6)) (E.lit (V.int 32))) (Es.cons (E.bin Operator.Add (((E.var 1).idx (E.bin Operator.Add (E.var 4) (E.lit (V.int 1)))).idx (E.var 6)) (E.call 0 (Es.cons (E.var 3) (Es.cons ((E.var 2).idx (E.var 4)) Es.nil)))) Es.nil))))) Ss.nil) Ss.nil) (Ss.cons (S.sto2 5 (E.var 4) (E.var 6) (E.var 7)) Ss.nil))
theorem price_ev {r : Rv} {a b : E} {x y : Nat} (ha : Ev FAh r a (.str [x])) (hb : Ev FAh r b (.str [y])) : Ev FAh r (.call 0 (.cons a (.cons b .nil))) (.int (pr x y)) := Ev.call (.cons ha (.cons hb .nil)) ⟨rfl, rfl, trivial⟩ fun Q q => ⟨x, y, rfl, q⟩
theorem bodyA_ok {typed : List Nat} {T N : Nat → Nat → Int} {s i j : Nat} {st : St} {Q : Out → Prop} (ht : typed.length = 3) (I : AhI typed T s N st) (h4 : st.lookup 4 = some (.val (vN i))) (h6 : st.lookup 6 = some (.val (vN j))) (hij : i ≤ j) (hj : j < 4)
    (q : ∀ st', AhI typed T s (upd2 N i j (if i < j then min (min (T i j + 32) (N (i + 1) j + 32)) (T (i + 1) j + pr s (typed.getD i 0)) else T i j + 32)) st' → st'.lookup 6 = some (.val (vN j)) → Q (.next st')) : exs FAh bodyA st Q := by
  have hi : i < 4 := Nat.lt_of_le_of_lt hij hj
  rw [exs_cons]
  refine S.asg_ok (Ev.add (Ev.tab (EvD.var (rd_at I.l1)) (.inl rfl) (EvD.var (rd_at h4)) hi (EvD.var (rd_at h6)) hj) (Ev.lit _)) ?_
  show exs FAh _ ((7, .val (.int (T i j + 32))) :: st) _
  have I := I.put (x := 7) (b := .val (.int (T i j + 32))) (.inr (.inr rfl))
  have h4 : ((7, .val (.int (T i j + 32))) :: st : St).lookup 4 = _ := h4
  have h6 : ((7, .val (.int (T i j + 32))) :: st : St).lookup 6 = _ := h6
  have h7 : ((7, .val (.int (T i j + 32))) :: st : St).lookup 7 = some (.val (.int (T i j + 32))) := rfl
  generalize ((7, .val (.int (T i j + 32))) :: st : St) = st at I h4 h6 h7
  rw [exs_cons]
  refine S.ifs_ok (Ev.lt (EvD.var (rd_at h4)) (EvD.var (rd_at h6))) ?_
  have fin : ∀ st v, AhI typed T s N st → st.lookup 4 = some (.val (vN i)) → st.lookup 6 = some (.val (vN j)) → st.lookup 7 = some (.val (.int v)) → v = (if i < j then min (min (T i j + 32) (N (i + 1) j + 32)) (T (i + 1) j + pr s (typed.getD i 0)) else T i j + 32) →
      exs FAh (Ss.cons (S.sto2 5 (E.var 4) (E.var 6) (E.var 7)) Ss.nil) st Q := fun st v I h4 h6 h7 e => by
    rw [exs_cons]
    refine S.sto2_ok I.l5 (EvD.var (rd_at h7)) (EvD.var (rd_at h4)) hi (EvD.var (rd_at h6)) ?_ (contW_nil ?_)
    · show j < ((tabX N).getD i []).length
      rw [show (tabX N).getD i [] = _ from r4_getD _ hi []]; exact hj
    · rw [tabX_set N hi hj]
      exact q _ (e ▸ I.new) h6
  by_cases hlt : i < j
  · rw [if_pos (decide_eq_true (by lia)), exs_cons]
    have e1 : Ev FAh (rd st) (E.bin Operator.Add (E.var 4) (E.lit (V.int 1))) (vN (i + 1)) := Ev.add (EvD.var (rd_at h4)) (Ev.lit _)
    have A := Ev.add (Ev.tab (T := N) (EvD.var (rd_at I.l5)) (.inr rfl) e1 (by lia) (EvD.var (rd_at h6)) hj) (Ev.lit (.int 32))
    have P := Ev.add (Ev.tab (EvD.var (rd_at I.l1)) (.inl rfl) e1 (by lia) (EvD.var (rd_at h6)) hj) (price_ev (EvD.var (rd_at I.l3)) (Ev.sign (EvD.var (rd_at I.l2)) (EvD.var (rd_at h4)) (by lia)))
    refine S.asg_ok (Ev.min3 (EvD.var (rd_at h7)) A P) (contW_nil ?_)
    exact fin _ _ (I.put (.inr (.inr rfl))) h4 h6 rfl (if_pos hlt).symm
  · rw [if_neg (by simp; lia), exs_nil]
    exact fin _ _ I h4 h6 h7 (if_neg hlt).symm
theorem ahead_ok : ∃ ss, TrD FAh dAh ["new"] ss ∧ ∀ ts Q, spAh ts Q → ts.length = 3 ∧ exs FAh (toSs ss) (initFrom 0 ts) (retOut Q) := by
  refine ⟨_, (by unfold TrD; with_unfolding_all (repeat' (first | ((with_reducible show TrSs _ _ _ _ _ _); first | exact TrSs.nil | refine' TrSs.cons ?_ ?_) | ((with_reducible show TrS _ _ _ _ _ _); first | refine' TrS.popU (by rfl) (by rfl) (by rfl) (by rfl) | refine' TrS.newD (by rfl) | refine' TrS.own2c (n := 4) (by rfl) (by rfl) (by rfl) (fun _ _ => by rfl) (SwT.lc rfl) (by rfl) (by decide) ?_ | refine' TrS.stoD (by rfl) (fun _ _ _ => by rfl) (by rfl) ?_ ?_ | refine' TrS.own (by rfl) (by rfl) (by first | exact fun _ _ _ => rfl | exact SwE.lc rfl) (by rfl) ?_ | refine' TrS.frzA (by rfl) (by rfl) (by rfl) (fun _ _ _ => by rfl) (by rfl) ?_ | refine' TrS.asg (by rfl) (by first | exact fun _ _ _ => rfl | exact SwE.lc rfl) (by rfl) ?_ | refine' TrS.app (by rfl) (by rfl) ?_ | refine' TrS.asgC (SwT.lc rfl) (by rfl) ?_ | refine' TrS.sto2 (fun _ _ _ => by rfl) (by rfl) ?_ ?_ ?_ | refine' TrS.sto (fun _ _ _ => by rfl) (by rfl) ?_ ?_ | refine' TrS.swap (by decide) (by rfl) (by rfl) (by rfl) (by rfl) (by rfl) | refine' TrS.asg2 (by rfl) (by rfl) ?_ | refine' TrS.aug (by rfl) ?_ | refine' TrS.augS (fun _ _ _ => by rfl) (by rfl) ?_ ?_ | refine' TrS.ifs ?_ ?_ ?_ | refine' TrS.whl ?_ ?_ | refine' TrS.fr (fun _ _ => by rfl) (by rfl) ?_ ?_ | refine' TrS.ret ?_) | ((with_reducible show TrE _ _ _ _ _); first | refine' TrE.const (by rfl) | refine' TrE.var (by rfl) (by rfl) (by rfl) (by rfl) | refine' TrE.con (by rfl) (by rfl) (by rfl) | refine' TrE.bin ?_ ?_ | refine' TrE.neg ?_ | refine' TrE.notE ?_ | refine' TrE.cmp (by rfl) ?_ ?_ | refine' TrE.bop ?_ ?_ | refine' TrE.ife ?_ ?_ ?_ | refine' TrE.rev ?_ | refine' TrE.sl ?_ ?_ ?_ | refine' TrE.idx ?_ ?_ | refine' TrE.list ?_ | refine' TrE.tup ?_ | refine' TrE.ofC ?_ | refine' TrE.isI (by rfl) (by rfl) ?_ | refine' TrE.isB (by rfl) (by rfl) ?_ | refine' TrE.callF (by rfl) (by rfl) (by rfl) ?_ ?_ | refine' TrE.callB (by rfl) (by rfl) (by rfl) ?_ ?_ | refine' TrE.sub (by rfl) (by rfl) (by rfl) (by rfl) ?_ ?_ | refine' TrE.me0 (fun _ => by rfl) (by rfl) (by rfl) ?_ | refine' TrE.me1 (fun _ => by rfl) (by rfl) (by rfl) ?_ ?_ | refine' TrE.me2 (fun _ => by rfl) (by rfl) (by rfl) ?_ ?_ ?_) | ((with_reducible show TrC _ _ _ _ _ _ _ _); first | refine' TrC.comp (by rfl) (fun _ _ => by rfl) ?_ ?_ ?_ | refine' TrC.comp2 (by rfl) (by rfl) (fun _ _ => by rfl) (fun _ _ => by rfl) ?_ ?_ ?_) | ((with_reducible show TrEs _ _ _ _ _); first | exact TrEs.nil | refine' TrEs.cons ?_ ?_) | ((with_reducible show TrO _ _ _ _ _); first | exact TrO.none | refine' TrO.some ?_) | ((with_reducible show TrI _ _ _ _ _); first | exact TrI.nil | refine' TrI.one ?_) | ((with_reducible show TrF _ _ _ _ _); first | refine' TrF.list ?_ | refine' TrF.range (by rfl) ?_ ?_) | rfl | exact List.cons_ne_nil _ _))), ?_⟩
  rintro _ Q ⟨piece, typed, T, rfl, ht, q⟩
  refine ⟨rfl, ?_⟩
  show exs FAh _ [(0, .val (.str piece)), (1, .val (tabV T)), (2, .val (.str typed))] _
  dsimp only [List.nil_append, List.cons_append, toSs, toEs]
  rw [exs_cons]
  refine S.fr_ok (t := .str piece.reverse) (fun n st => ∃ T', AhS typed T' st ∧ aheadT typed (piece.reverse.drop n) T' = aheadT typed piece.reverse T) (Ev.rev (EvD.var (t := .str piece) rfl) fun Q q => q) trivial rfl ⟨T, ⟨rfl, rfl⟩, rfl⟩ ?_ ?_
  · rintro n st v hv ⟨T', A, hT⟩
    rw [List.getElem?_map] at hv
    obtain ⟨s, hs, rfl⟩ := Option.map_eq_some_iff.mp hv
    have hd : piece.reverse.drop n = s :: piece.reverse.drop (n + 1) := by
      obtain ⟨h1, h2⟩ := List.getElem?_eq_some_iff.mp hs
      rw [← h2]; exact List.drop_eq_getElem_cons h1
    rw [hd] at hT
    rw [exs_cons]
    refine S.own2c_ok (Ev.range1 (Ev.lit _)) (by unfold iterOk rOk; decide) rfl (by decide) ?_
    rw [show (List.map V.int (rngL 0 4 1)).length = 4 from rfl, tab_zero]
    show exs FAh _ ((5, .own2 (tabX fun _ _ => 0)) :: (3, .val (.str [s])) :: st) _
    have I : AhI typed T' s (nfA typed s T' 0 0) ((5, .own2 (tabX fun _ _ => 0)) :: (3, .val (.str [s])) :: st) := ⟨⟨A.l1, A.l2⟩, rfl, by
      have : (fun _ _ => 0 : Nat → Nat → Int) = nfA typed s T' 0 0 := by funext a b; unfold nfA; rw [if_neg (by lia)]
      rw [this]; rfl⟩
    generalize ((5, .own2 (tabX fun _ _ => 0)) :: (3, .val (.str [s])) :: st : St) = st at I
    rw [exs_cons]
    refine S.fr_ok (fun j st => AhI typed T' s (nfA typed s T' j 0) st) (Ev.range1 (Ev.lit _)) (by unfold iterOk rOk; decide) rfl I ?_ ?_
    · rintro j st v hv I
      obtain ⟨rfl, hj4⟩ := rng4_at hv
      have I := I.put (x := 6) (b := .val (vN j)) (.inr (.inl rfl))
      have h6 : ((6, .val (vN j)) :: st : St).lookup 6 = some (.val (vN j)) := rfl
      generalize ((6, .val (vN j)) :: st : St) = st at I h6
      rw [exs_cons]
      refine S.fr_ok (t := .rng j (-1) (-1)) (fun k st => AhI typed T' s (nfA typed s T' j k) st ∧ st.lookup 6 = some (.val (vN j))) (Ev.range3 (EvD.var (rd_at h6)) Ev.neg1 Ev.neg1 (by decide)) (by unfold iterOk rOk; refine ⟨?_, ?_, ?_, ?_⟩ <;> lia) rfl ⟨I, h6⟩ ?_ ?_
      · rintro k st v hv ⟨I, h6⟩
        rw [rng_down, List.map_map, List.getElem?_map] at hv
        obtain ⟨k', hk', rfl⟩ := Option.map_eq_some_iff.mp hv
        obtain ⟨hk4, e⟩ := List.getElem?_eq_some_iff.mp hk'
        rw [List.getElem_range] at e
        subst e
        have hk : k ≤ j := by simp at hk4; lia
        show exs FAh bodyA ((4, .val (.int ((j : Int) - k))) :: st) _
        rw [show (j : Int) - k = ((j - k : Nat) : Int) by lia]
        refine bodyA_ok ht (I.put (.inl rfl)) rfl h6 (Nat.sub_le _ _) hj4 fun st' I' h6' => loop_next ⟨?_, h6'⟩
        have : (if j - k < j then min (min (T' (j - k) j + 32) (nfA typed s T' j k (j - k + 1) j + 32)) (T' (j - k + 1) j + pr s (typed.getD (j - k) 0)) else T' (j - k) j + 32) = ahead1 typed s T' (j - k) j := by
          by_cases h : j - k < j
          · rw [if_pos h, ahead1_lt _ _ _ h]
            have : nfA typed s T' j k (j - k + 1) j = ahead1 typed s T' (j - k + 1) j := by unfold nfA; rw [if_pos (by lia)]
            rw [this]
          · have : j - k = j := by lia
            rw [if_neg h, this, ahead1_eq]
        rw [this, nfA_step _ _ _ _ _ hk] at I'
        exact I'
      · rintro st ⟨I, h6⟩
        refine contW_nil (loop_next ?_)
        rw [rng_down, List.length_map, List.length_map, List.length_range, nfA_next] at I
        exact I
    · intro st I
      rw [show (List.map V.int (rngL 0 4 1)).length = 4 from rfl] at I
      have h5 := I.l5
      rw [nfA_end] at h5
      show exs FAh _ st _
      rw [exs_cons]
      refine S.frz_ok h5 ?_
      refine S.asg_ok (t := tabV (ahead1 typed s T')) (EvD.var rfl) (contW_nil (loop_next ⟨_, ⟨rfl, I.l2⟩, hT⟩))
  · rintro st ⟨T', A, hT⟩
    rw [List.length_map, List.drop_length] at hT
    show exs FAh _ st _
    rw [exs_cons]
    refine S.ret_ok (EvD.var (rd_at A.l1)) ?_
    have hT : T' = aheadT typed piece.reverse T := hT
    rw [hT]; exact q
end Mine
end

-- part K3b
section
open PySem PySem.Calls PyProof.Rows
set_option linter.unusedSimpArgs false
set_option linter.unusedVariables false
set_option maxRecDepth 100000
namespace Mine
/-! a sign put behind what a table stands for -/
noncomputable def beD (typed : List Nat) (s : Nat) (T : Nat → Nat → Int) : Nat → Nat → Int
  | 0, i => T i i + 32
  | d + 1, i => min (min (T i (i + d + 1) + 32) (beD typed s T d i + 32)) (T i (i + d) + pr s (typed.getD (i + d) 0))
noncomputable def behind1 (typed : List Nat) (s : Nat) (T : Nat → Nat → Int) (i j : Nat) : Int := if i ≤ j then beD typed s T (j - i) i else 0
theorem behind1_eq (typed : List Nat) (s : Nat) (T : Nat → Nat → Int) {i : Nat} : behind1 typed s T i i = T i i + 32 := by
  unfold behind1; rw [if_pos (Nat.le_refl _), Nat.sub_self]; rfl
theorem behind1_lt (typed : List Nat) (s : Nat) (T : Nat → Nat → Int) {i j : Nat} (h : i < j) : behind1 typed s T i j = min (min (T i j + 32) (behind1 typed s T i (j - 1) + 32)) (T i (j - 1) + pr s (typed.getD (j - 1) 0)) := by
  unfold behind1
  rw [if_pos (Nat.le_of_lt h), if_pos (show i ≤ j - 1 by lia)]
  obtain ⟨d, rfl⟩ : ∃ d, j = i + d + 1 := ⟨j - i - 1, by lia⟩
  rw [show i + d + 1 - i = d + 1 by lia, show i + d + 1 - 1 - i = d by lia, show i + d + 1 - 1 = i + d by lia]
  rfl
noncomputable def behindT (typed : List Nat) : List Nat → (Nat → Nat → Int) → Nat → Nat → Int
  | [], T => T
  | s :: l, T => behindT typed l (behind1 typed s T)
noncomputable def spBe : Spec := fun ts Q => ∃ (piece typed : List Nat) (T : Nat → Nat → Int), ts = [.str piece, tabV T, .str typed] ∧ typed.length = 3 ∧ Q (tabV (behindT typed piece T))
noncomputable def nfB (typed : List Nat) (s : Nat) (T : Nat → Nat → Int) (i k : Nat) : Nat → Nat → Int := fun a b => if a ≤ b ∧ b < 4 ∧ (a < i ∨ (a = i ∧ b < i + k)) then behind1 typed s T a b else 0
theorem nfB_next (typed : List Nat) (s : Nat) (T : Nat → Nat → Int) {i : Nat} (h : i < 4) : nfB typed s T i (4 - i) = nfB typed s T (i + 1) 0 := by
  funext a b
  unfold nfB
  have : (a ≤ b ∧ b < 4 ∧ (a < i ∨ (a = i ∧ b < i + (4 - i)))) ↔ (a ≤ b ∧ b < 4 ∧ (a < i + 1 ∨ (a = i + 1 ∧ b < i + 1 + 0))) := by lia
  simp only [this]
theorem nfB_step (typed : List Nat) (s : Nat) (T : Nat → Nat → Int) (i k : Nat) (h : i + k < 4) : upd2 (nfB typed s T i k) i (i + k) (behind1 typed s T i (i + k)) = nfB typed s T i (k + 1) := by
  funext a b
  unfold upd2
  by_cases e : a = i ∧ b = i + k
  · obtain ⟨rfl, rfl⟩ := e
    rw [if_pos ⟨rfl, rfl⟩]; unfold nfB; rw [if_pos (by lia)]
  · rw [if_neg e]; unfold nfB
    have : (a ≤ b ∧ b < 4 ∧ (a < i ∨ (a = i ∧ b < i + k))) ↔ (a ≤ b ∧ b < 4 ∧ (a < i ∨ (a = i ∧ b < i + (k + 1)))) := by lia
    simp only [this]
theorem nfB_end (typed : List Nat) (s : Nat) (T : Nat → Nat → Int) : tabX (nfB typed s T 4 0) = tabX (behind1 typed s T) := tab_congr fun i j hi hj => by
  unfold nfB
  by_cases h : i ≤ j
  · rw [if_pos ⟨h, hj, .inl hi⟩]
  · rw [if_neg fun q => h q.1]; unfold behind1; rw [if_neg h]
abbrev bodyB : Ss := Ss.cons (S.asg 7 (E.bin Operator.Add (((E.var 1).idx (E.var 4)).idx (E.var 6)) (E.lit (V.int 32)))) (Ss.cons (S.ifs (E.cmp CmpOp.Lt (E.var 4) (E.var 6)) (Ss.cons (S.asg 7 (E.bi Bi.min (Es.cons (E.var 7) (Es.cons (E.bin Operator.Add (((E.var 5).idx (E.var 4)).idx (E.bin Operator.Sub (E.var 6) (E.lit (V.int 1)))) (E.lit (V.int 32))) (Es.cons (E.bin Operator.Add (((E.var 1).idx (E.var 4)).idx (E.bin Operator.Sub (E.var 6) (E.lit (V.int 1)))) (E.call 0 (Es.cons (E.var 3) (Es.cons ((E.var 2).idx (E.bin Operator.Sub (E.var 6) (E.lit (V.int 1)))) Es.nil)))) Es.nil))))) Ss.nil) Ss.nil) (Ss.cons (S.sto2 5 (E.var 4) (E.var 6) (E.var 7)) Ss.nil))
theorem bodyB_ok {typed : List Nat} {T N : Nat → Nat → Int} {s i j : Nat} {st : St} {Q : Out → Prop} (ht : typed.length = 3) (I : AhI typed T s N st) (h4 : st.lookup 4 = some (.val (vN i))) (h6 : st.lookup 6 = some (.val (vN j))) (hij : i ≤ j) (hj : j < 4)
    (q : ∀ st', AhI typed T s (upd2 N i j (if i < j then min (min (T i j + 32) (N i (j - 1) + 32)) (T i (j - 1) + pr s (typed.getD (j - 1) 0)) else T i j + 32)) st' → st'.lookup 4 = some (.val (vN i)) → Q (.next st')) : exs FAh bodyB st Q := by
  have hi : i < 4 := Nat.lt_of_le_of_lt hij hj
  rw [exs_cons]
  refine S.asg_ok (Ev.add (Ev.tab (EvD.var (rd_at I.l1)) (.inl rfl) (EvD.var (rd_at h4)) hi (EvD.var (rd_at h6)) hj) (Ev.lit _)) ?_
  show exs FAh _ ((7, .val (.int (T i j + 32))) :: st) _
  have I := I.put (x := 7) (b := .val (.int (T i j + 32))) (.inr (.inr rfl))
  have h4 : ((7, .val (.int (T i j + 32))) :: st : St).lookup 4 = _ := h4
  have h6 : ((7, .val (.int (T i j + 32))) :: st : St).lookup 6 = _ := h6
  have h7 : ((7, .val (.int (T i j + 32))) :: st : St).lookup 7 = some (.val (.int (T i j + 32))) := rfl
  generalize ((7, .val (.int (T i j + 32))) :: st : St) = st at I h4 h6 h7
  rw [exs_cons]
  refine S.ifs_ok (Ev.lt (EvD.var (rd_at h4)) (EvD.var (rd_at h6))) ?_
  have fin : ∀ st v, AhI typed T s N st → st.lookup 4 = some (.val (vN i)) → st.lookup 6 = some (.val (vN j)) → st.lookup 7 = some (.val (.int v)) → v = (if i < j then min (min (T i j + 32) (N i (j - 1) + 32)) (T i (j - 1) + pr s (typed.getD (j - 1) 0)) else T i j + 32) →
      exs FAh (Ss.cons (S.sto2 5 (E.var 4) (E.var 6) (E.var 7)) Ss.nil) st Q := fun st v I h4 h6 h7 e => by
    rw [exs_cons]
    refine S.sto2_ok I.l5 (EvD.var (rd_at h7)) (EvD.var (rd_at h4)) hi (EvD.var (rd_at h6)) ?_ (contW_nil ?_)
    · show j < ((tabX N).getD i []).length
      rw [show (tabX N).getD i [] = _ from r4_getD _ hi []]; exact hj
    · rw [tabX_set N hi hj]
      exact q _ (e ▸ I.new) h4
  by_cases hlt : i < j
  · rw [if_pos (decide_eq_true (by lia)), exs_cons]
    have e1 : Ev FAh (rd st) (E.bin Operator.Sub (E.var 6) (E.lit (V.int 1))) (vN (j - 1)) := by
      have := Ev.sub (F := FAh) (EvD.var (rd_at h6)) (Ev.lit (.int 1))
      rwa [show (j : Int) - 1 = ((j - 1 : Nat) : Int) by lia] at this
    have A := Ev.add (Ev.tab (T := N) (EvD.var (rd_at I.l5)) (.inr rfl) (EvD.var (rd_at h4)) hi e1 (by lia)) (Ev.lit (.int 32))
    have P := Ev.add (Ev.tab (EvD.var (rd_at I.l1)) (.inl rfl) (EvD.var (rd_at h4)) hi e1 (by lia)) (price_ev (EvD.var (rd_at I.l3)) (Ev.sign (EvD.var (rd_at I.l2)) e1 (by lia)))
    refine S.asg_ok (Ev.min3 (EvD.var (rd_at h7)) A P) (contW_nil ?_)
    exact fin _ _ (I.put (.inr (.inr rfl))) h4 h6 rfl (if_pos hlt).symm
  · rw [if_neg (by simp; lia), exs_nil]
    exact fin _ _ I h4 h6 h7 (if_neg hlt).symm
theorem behind_ok : ∃ ss, TrD FAh dBe ["new"] ss ∧ ∀ ts Q, spBe ts Q → ts.length = 3 ∧ exs FAh (toSs ss) (initFrom 0 ts) (retOut Q) := by
  refine ⟨_, (by unfold TrD; with_unfolding_all (repeat' (first | ((with_reducible show TrSs _ _ _ _ _ _); first | exact TrSs.nil | refine' TrSs.cons ?_ ?_) | ((with_reducible show TrS _ _ _ _ _ _); first | refine' TrS.popU (by rfl) (by rfl) (by rfl) (by rfl) | refine' TrS.newD (by rfl) | refine' TrS.own2c (n := 4) (by rfl) (by rfl) (by rfl) (fun _ _ => by rfl) (SwT.lc rfl) (by rfl) (by decide) ?_ | refine' TrS.stoD (by rfl) (fun _ _ _ => by rfl) (by rfl) ?_ ?_ | refine' TrS.own (by rfl) (by rfl) (by first | exact fun _ _ _ => rfl | exact SwE.lc rfl) (by rfl) ?_ | refine' TrS.frzA (by rfl) (by rfl) (by rfl) (fun _ _ _ => by rfl) (by rfl) ?_ | refine' TrS.asg (by rfl) (by first | exact fun _ _ _ => rfl | exact SwE.lc rfl) (by rfl) ?_ | refine' TrS.app (by rfl) (by rfl) ?_ | refine' TrS.asgC (SwT.lc rfl) (by rfl) ?_ | refine' TrS.sto2 (fun _ _ _ => by rfl) (by rfl) ?_ ?_ ?_ | refine' TrS.sto (fun _ _ _ => by rfl) (by rfl) ?_ ?_ | refine' TrS.swap (by decide) (by rfl) (by rfl) (by rfl) (by rfl) (by rfl) | refine' TrS.asg2 (by rfl) (by rfl) ?_ | refine' TrS.aug (by rfl) ?_ | refine' TrS.augS (fun _ _ _ => by rfl) (by rfl) ?_ ?_ | refine' TrS.ifs ?_ ?_ ?_ | refine' TrS.whl ?_ ?_ | refine' TrS.fr (fun _ _ => by rfl) (by rfl) ?_ ?_ | refine' TrS.ret ?_) | ((with_reducible show TrE _ _ _ _ _); first | refine' TrE.const (by rfl) | refine' TrE.var (by rfl) (by rfl) (by rfl) (by rfl) | refine' TrE.con (by rfl) (by rfl) (by rfl) | refine' TrE.bin ?_ ?_ | refine' TrE.neg ?_ | refine' TrE.notE ?_ | refine' TrE.cmp (by rfl) ?_ ?_ | refine' TrE.bop ?_ ?_ | refine' TrE.ife ?_ ?_ ?_ | refine' TrE.rev ?_ | refine' TrE.sl ?_ ?_ ?_ | refine' TrE.idx ?_ ?_ | refine' TrE.list ?_ | refine' TrE.tup ?_ | refine' TrE.ofC ?_ | refine' TrE.isI (by rfl) (by rfl) ?_ | refine' TrE.isB (by rfl) (by rfl) ?_ | refine' TrE.callF (by rfl) (by rfl) (by rfl) ?_ ?_ | refine' TrE.callB (by rfl) (by rfl) (by rfl) ?_ ?_ | refine' TrE.sub (by rfl) (by rfl) (by rfl) (by rfl) ?_ ?_ | refine' TrE.me0 (fun _ => by rfl) (by rfl) (by rfl) ?_ | refine' TrE.me1 (fun _ => by rfl) (by rfl) (by rfl) ?_ ?_ | refine' TrE.me2 (fun _ => by rfl) (by rfl) (by rfl) ?_ ?_ ?_) | ((with_reducible show TrC _ _ _ _ _ _ _ _); first | refine' TrC.comp (by rfl) (fun _ _ => by rfl) ?_ ?_ ?_ | refine' TrC.comp2 (by rfl) (by rfl) (fun _ _ => by rfl) (fun _ _ => by rfl) ?_ ?_ ?_) | ((with_reducible show TrEs _ _ _ _ _); first | exact TrEs.nil | refine' TrEs.cons ?_ ?_) | ((with_reducible show TrO _ _ _ _ _); first | exact TrO.none | refine' TrO.some ?_) | ((with_reducible show TrI _ _ _ _ _); first | exact TrI.nil | refine' TrI.one ?_) | ((with_reducible show TrF _ _ _ _ _); first | refine' TrF.list ?_ | refine' TrF.range (by rfl) ?_ ?_) | rfl | exact List.cons_ne_nil _ _))), ?_⟩
  rintro _ Q ⟨piece, typed, T, rfl, ht, q⟩
  refine ⟨rfl, ?_⟩
  show exs FAh _ [(0, .val (.str piece)), (1, .val (tabV T)), (2, .val (.str typed))] _
  dsimp only [List.nil_append, List.cons_append, toSs, toEs]
  rw [exs_cons]
  refine S.fr_ok (t := .str piece) (fun n st => ∃ T', AhS typed T' st ∧ behindT typed (piece.drop n) T' = behindT typed piece T) (EvD.var (t := .str piece) rfl) trivial rfl ⟨T, ⟨rfl, rfl⟩, rfl⟩ ?_ ?_
  · rintro n st v hv ⟨T', A, hT⟩
    rw [List.getElem?_map] at hv
    obtain ⟨s, hs, rfl⟩ := Option.map_eq_some_iff.mp hv
    have hd : piece.drop n = s :: piece.drop (n + 1) := by
      obtain ⟨h1, h2⟩ := List.getElem?_eq_some_iff.mp hs
      rw [← h2]; exact List.drop_eq_getElem_cons h1
    rw [hd] at hT
    rw [exs_cons]
    refine S.own2c_ok (Ev.range1 (Ev.lit _)) (by unfold iterOk rOk; decide) rfl (by decide) ?_
    rw [show (List.map V.int (rngL 0 4 1)).length = 4 from rfl, tab_zero]
    show exs FAh _ ((5, .own2 (tabX fun _ _ => 0)) :: (3, .val (.str [s])) :: st) _
    have I : AhI typed T' s (nfB typed s T' 0 0) ((5, .own2 (tabX fun _ _ => 0)) :: (3, .val (.str [s])) :: st) := ⟨⟨A.l1, A.l2⟩, rfl, by
      have : (fun _ _ => 0 : Nat → Nat → Int) = nfB typed s T' 0 0 := by funext a b; unfold nfB; rw [if_neg (by lia)]
      rw [this]; rfl⟩
    generalize ((5, .own2 (tabX fun _ _ => 0)) :: (3, .val (.str [s])) :: st : St) = st at I
    rw [exs_cons]
    refine S.fr_ok (fun i st => AhI typed T' s (nfB typed s T' i 0) st) (Ev.range1 (Ev.lit _)) (by unfold iterOk rOk; decide) rfl I ?_ ?_
    · rintro i st v hv I
      obtain ⟨rfl, hi4⟩ := rng4_at hv
      have I := I.put (x := 4) (b := .val (vN i)) (.inl rfl)
      have h4 : ((4, .val (vN i)) :: st : St).lookup 4 = some (.val (vN i)) := rfl
      generalize ((4, .val (vN i)) :: st : St) = st at I h4
      rw [exs_cons]
      refine S.fr_ok (t := .rng i 4 1) (fun k st => AhI typed T' s (nfB typed s T' i k) st ∧ st.lookup 4 = some (.val (vN i))) (Ev.range2 (EvD.var (rd_at h4)) (Ev.lit _)) (by unfold iterOk rOk; refine ⟨?_, ?_, ?_, ?_⟩ <;> lia) rfl ⟨I, h4⟩ ?_ ?_
      · rintro k st v hv ⟨I, h4⟩
        rw [show ((4 : Int)) = ((4 : Nat) : Int) from rfl, rng_up i 4 (Nat.le_of_lt hi4), List.map_map, List.getElem?_map] at hv
        obtain ⟨k', hk', rfl⟩ := Option.map_eq_some_iff.mp hv
        obtain ⟨hk4, e⟩ := List.getElem?_eq_some_iff.mp hk'
        rw [List.getElem_range] at e
        subst e
        have hk : i + k < 4 := by simp at hk4; lia
        show exs FAh bodyB ((6, .val (vN (i + k))) :: st) _
        refine bodyB_ok ht (I.put (.inr (.inl rfl))) h4 rfl (Nat.le_add_right _ _) hk fun st' I' h4' => loop_next ⟨?_, h4'⟩
        have : (if i < i + k then min (min (T' i (i + k) + 32) (nfB typed s T' i k i (i + k - 1) + 32)) (T' i (i + k - 1) + pr s (typed.getD (i + k - 1) 0)) else T' i (i + k) + 32) = behind1 typed s T' i (i + k) := by
          by_cases h : i < i + k
          · rw [if_pos h, behind1_lt _ _ _ h]
            have : nfB typed s T' i k i (i + k - 1) = behind1 typed s T' i (i + k - 1) := by unfold nfB; rw [if_pos (by lia)]
            rw [this]
          · have : k = 0 := by lia
            subst this
            rw [if_neg h]; exact (behind1_eq ..).symm
        rw [this, nfB_step _ _ _ _ _ hk] at I'
        exact I'
      · rintro st ⟨I, h4⟩
        refine contW_nil (loop_next ?_)
        rw [show ((4 : Int)) = ((4 : Nat) : Int) from rfl, rng_up i 4 (Nat.le_of_lt hi4), List.length_map, List.length_map, List.length_range, nfB_next _ _ _ hi4] at I
        exact I
    · intro st I
      rw [show (List.map V.int (rngL 0 4 1)).length = 4 from rfl] at I
      have h5 := I.l5
      rw [nfB_end] at h5
      show exs FAh _ st _
      rw [exs_cons]
      refine S.frz_ok h5 ?_
      refine S.asg_ok (t := tabV (behind1 typed s T')) (EvD.var rfl) (contW_nil (loop_next ⟨_, ⟨rfl, I.l2⟩, hT⟩))
  · rintro st ⟨T', A, hT⟩
    rw [List.length_map, List.drop_length] at hT
    show exs FAh _ st _
    rw [exs_cons]
    refine S.ret_ok (EvD.var (rd_at A.l1)) ?_
    have hT : T' = behindT typed piece T := hT
    rw [hT]; exact q
end Mine
end

-- part K4
section
open PySem PySem.Calls PyProof.Rows
set_option linter.unusedSimpArgs false
set_option linter.unusedVariables false
set_option maxRecDepth 100000
namespace Mine
theorem rng4_ok : iterOk (.rng 0 4 1) := by unfold iterOk rOk; decide
section
variable {F : Fenv} {r : Rv}
theorem Ev.compR4 {it c e : E} {i : Nat} {f : Nat → V} (h : Ev F r it (.rng 0 4 1)) (hc : ∀ v, Tv F ((i, v, 0) :: r) c true) (he : ∀ n, n < 4 → Ev F ((i, vN n, 0) :: r) e (f n)) : Ev F r (.comp it i c e) (.list (r4 f)) :=
  Ev.comp4 h rng4_ok (a1 := vN 0) (a2 := vN 1) (a3 := vN 2) (a4 := vN 3) rfl hc (he 0 (by decide)) (he 1 (by decide)) (he 2 (by decide)) (he 3 (by decide))
end
noncomputable def spEi : Spec := fun ts Q => ∃ (A B : Nat → Nat → Int) (m : Int), ts = [tabV A, tabV B, .int m] ∧ Q (tabV fun i j => min (A i j) (B i j + m))
theorem either_ok : ∃ ss, TrD FEi dEi [] ss ∧ ∀ ts Q, spEi ts Q → ts.length = 3 ∧ exs FEi (toSs ss) (initFrom 0 ts) (retOut Q) := by
  refine ⟨_, (by unfold TrD; with_unfolding_all (repeat' (first | ((with_reducible show TrSs _ _ _ _ _ _); first | exact TrSs.nil | refine' TrSs.cons ?_ ?_) | ((with_reducible show TrS _ _ _ _ _ _); first | refine' TrS.popU (by rfl) (by rfl) (by rfl) (by rfl) | refine' TrS.newD (by rfl) | refine' TrS.own2c (n := 4) (by rfl) (by rfl) (by rfl) (fun _ _ => by rfl) (SwT.lc rfl) (by rfl) (by decide) ?_ | refine' TrS.stoD (by rfl) (fun _ _ _ => by rfl) (by rfl) ?_ ?_ | refine' TrS.own (by rfl) (by rfl) (by first | exact fun _ _ _ => rfl | exact SwE.lc rfl) (by rfl) ?_ | refine' TrS.frzA (by rfl) (by rfl) (by rfl) (fun _ _ _ => by rfl) (by rfl) ?_ | refine' TrS.asg (by rfl) (by first | exact fun _ _ _ => rfl | exact SwE.lc rfl) (by rfl) ?_ | refine' TrS.app (by rfl) (by rfl) ?_ | refine' TrS.asgC (SwT.lc rfl) (by rfl) ?_ | refine' TrS.sto2 (fun _ _ _ => by rfl) (by rfl) ?_ ?_ ?_ | refine' TrS.sto (fun _ _ _ => by rfl) (by rfl) ?_ ?_ | refine' TrS.swap (by decide) (by rfl) (by rfl) (by rfl) (by rfl) (by rfl) | refine' TrS.asg2 (by rfl) (by rfl) ?_ | refine' TrS.aug (by rfl) ?_ | refine' TrS.augS (fun _ _ _ => by rfl) (by rfl) ?_ ?_ | refine' TrS.ifs ?_ ?_ ?_ | refine' TrS.whl ?_ ?_ | refine' TrS.fr (fun _ _ => by rfl) (by rfl) ?_ ?_ | refine' TrS.ret ?_) | ((with_reducible show TrE _ _ _ _ _); first | refine' TrE.const (by rfl) | refine' TrE.var (by rfl) (by rfl) (by rfl) (by rfl) | refine' TrE.con (by rfl) (by rfl) (by rfl) | refine' TrE.bin ?_ ?_ | refine' TrE.neg ?_ | refine' TrE.notE ?_ | refine' TrE.cmp (by rfl) ?_ ?_ | refine' TrE.bop ?_ ?_ | refine' TrE.ife ?_ ?_ ?_ | refine' TrE.rev ?_ | refine' TrE.sl ?_ ?_ ?_ | refine' TrE.idx ?_ ?_ | refine' TrE.list ?_ | refine' TrE.tup ?_ | refine' TrE.ofC ?_ | refine' TrE.isI (by rfl) (by rfl) ?_ | refine' TrE.isB (by rfl) (by rfl) ?_ | refine' TrE.callF (by rfl) (by rfl) (by rfl) ?_ ?_ | refine' TrE.callB (by rfl) (by rfl) (by rfl) ?_ ?_ | refine' TrE.sub (by rfl) (by rfl) (by rfl) (by rfl) ?_ ?_ | refine' TrE.me0 (fun _ => by rfl) (by rfl) (by rfl) ?_ | refine' TrE.me1 (fun _ => by rfl) (by rfl) (by rfl) ?_ ?_ | refine' TrE.me2 (fun _ => by rfl) (by rfl) (by rfl) ?_ ?_ ?_) | ((with_reducible show TrC _ _ _ _ _ _ _ _); first | refine' TrC.comp (by rfl) (fun _ _ => by rfl) ?_ ?_ ?_ | refine' TrC.comp2 (by rfl) (by rfl) (fun _ _ => by rfl) (fun _ _ => by rfl) ?_ ?_ ?_) | ((with_reducible show TrEs _ _ _ _ _); first | exact TrEs.nil | refine' TrEs.cons ?_ ?_) | ((with_reducible show TrO _ _ _ _ _); first | exact TrO.none | refine' TrO.some ?_) | ((with_reducible show TrI _ _ _ _ _); first | exact TrI.nil | refine' TrI.one ?_) | ((with_reducible show TrF _ _ _ _ _); first | refine' TrF.list ?_ | refine' TrF.range (by rfl) ?_ ?_) | rfl | exact List.cons_ne_nil _ _))), ?_⟩
  rintro _ Q ⟨A, B, m, rfl, q⟩
  refine ⟨rfl, ?_⟩
  show exs FEi _ [(0, .val (tabV A)), (1, .val (tabV B)), (2, .val (.int m))] _
  dsimp only [List.nil_append, List.cons_append, toSs, toEs]
  rw [exs_cons, show (varsOf dEi.scope).length = 3 from rfl, show (compNs (varsOf dEi.scope) [Str.ofString "i"]).length = 4 from rfl]
  refine S.ret_ok (Ev.compR4 (f := fun i => .list (r4 fun j => .int (min (A i j) (B i j + m)))) (Ev.range1 (Ev.lit _)) (fun v => Tv.lit true) fun i hi => ?_) q
  refine Ev.compR4 (f := fun j => .int (min (A i j) (B i j + m))) (Ev.range1 (Ev.lit _)) (fun v => Tv.lit true) fun j hj => ?_
  exact Ev.min2 (Ev.tab (EvD.var (t := tabV A) (d := 0) rfl) (.inl rfl) (EvD.var (t := vN i) (d := 0) rfl) hi (EvD.var (t := vN j) (d := 0) rfl) hj)
    (Ev.add (Ev.tab (EvD.var (t := tabV B) (d := 0) rfl) (.inl rfl) (EvD.var (t := vN i) (d := 0) rfl) hi (EvD.var (t := vN j) (d := 0) rfl) hj) (EvD.var (t := .int m) rfl))
/-! what two tables, one behind the other, come to -/
noncomputable def bothL (A B : Nat → Nat → Int) (i j : Nat) : List Int := (List.range (j + 1 - i)).map fun k => A i (i + k) + B (i + k) j
noncomputable def bothT (A B : Nat → Nat → Int) (i j : Nat) : Int := if i ≤ j then (minL (bothL A B i j)).getD 0 else 0
noncomputable def spBo : Spec := fun ts Q => ∃ (A B : Nat → Nat → Int), ts = [tabV A, tabV B] ∧ Q (tabV (bothT A B))
theorem intsOf_map : ∀ l : List Int, intsOf (l.map .int) = some l
  | [] => rfl
  | x :: l => by
    show (some x).bind (fun i => (intsOf (l.map V.int)).map fun l => i :: l) = _
    rw [intsOf_map l]; rfl
theorem bothL_min (A B : Nat → Nat → Int) {i j : Nat} (h : i ≤ j) : minL (bothL A B i j) = some (bothT A B i j) := by
  unfold bothT
  rw [if_pos h]
  cases e : bothL A B i j with
  | nil =>
    have := congrArg List.length e
    unfold bothL at this
    rw [List.length_map, List.length_range] at this
    simp at this; omega
  | cons n l => rfl
theorem both_ok : ∃ ss, TrD FEi dBo [] ss ∧ ∀ ts Q, spBo ts Q → ts.length = 2 ∧ exs FEi (toSs ss) (initFrom 0 ts) (retOut Q) := by
  refine ⟨_, (by unfold TrD; with_unfolding_all (repeat' (first | ((with_reducible show TrSs _ _ _ _ _ _); first | exact TrSs.nil | refine' TrSs.cons ?_ ?_) | ((with_reducible show TrS _ _ _ _ _ _); first | refine' TrS.popU (by rfl) (by rfl) (by rfl) (by rfl) | refine' TrS.newD (by rfl) | refine' TrS.own2c (n := 4) (by rfl) (by rfl) (by rfl) (fun _ _ => by rfl) (SwT.lc rfl) (by rfl) (by decide) ?_ | refine' TrS.stoD (by rfl) (fun _ _ _ => by rfl) (by rfl) ?_ ?_ | refine' TrS.own (by rfl) (by rfl) (by first | exact fun _ _ _ => rfl | exact SwE.lc rfl) (by rfl) ?_ | refine' TrS.frzA (by rfl) (by rfl) (by rfl) (fun _ _ _ => by rfl) (by rfl) ?_ | refine' TrS.asg (by rfl) (by first | exact fun _ _ _ => rfl | exact SwE.lc rfl) (by rfl) ?_ | refine' TrS.app (by rfl) (by rfl) ?_ | refine' TrS.asgC (SwT.lc rfl) (by rfl) ?_ | refine' TrS.sto2 (fun _ _ _ => by rfl) (by rfl) ?_ ?_ ?_ | refine' TrS.sto (fun _ _ _ => by rfl) (by rfl) ?_ ?_ | refine' TrS.swap (by decide) (by rfl) (by rfl) (by rfl) (by rfl) (by rfl) | refine' TrS.asg2 (by rfl) (by rfl) ?_ | refine' TrS.aug (by rfl) ?_ | refine' TrS.augS (fun _ _ _ => by rfl) (by rfl) ?_ ?_ | refine' TrS.ifs ?_ ?_ ?_ | refine' TrS.whl ?_ ?_ | refine' TrS.fr (fun _ _ => by rfl) (by rfl) ?_ ?_ | refine' TrS.ret ?_) | ((with_reducible show TrE _ _ _ _ _); first | refine' TrE.const (by rfl) | refine' TrE.var (by rfl) (by rfl) (by rfl) (by rfl) | refine' TrE.con (by rfl) (by rfl) (by rfl) | refine' TrE.bin ?_ ?_ | refine' TrE.neg ?_ | refine' TrE.notE ?_ | refine' TrE.cmp (by rfl) ?_ ?_ | refine' TrE.bop ?_ ?_ | refine' TrE.ife ?_ ?_ ?_ | refine' TrE.rev ?_ | refine' TrE.sl ?_ ?_ ?_ | refine' TrE.idx ?_ ?_ | refine' TrE.list ?_ | refine' TrE.tup ?_ | refine' TrE.ofC ?_ | refine' TrE.isI (by rfl) (by rfl) ?_ | refine' TrE.isB (by rfl) (by rfl) ?_ | refine' TrE.callF (by rfl) (by rfl) (by rfl) ?_ ?_ | refine' TrE.callB (by rfl) (by rfl) (by rfl) ?_ ?_ | refine' TrE.sub (by rfl) (by rfl) (by rfl) (by rfl) ?_ ?_ | refine' TrE.me0 (fun _ => by rfl) (by rfl) (by rfl) ?_ | refine' TrE.me1 (fun _ => by rfl) (by rfl) (by rfl) ?_ ?_ | refine' TrE.me2 (fun _ => by rfl) (by rfl) (by rfl) ?_ ?_ ?_) | ((with_reducible show TrC _ _ _ _ _ _ _ _); first | refine' TrC.comp (by rfl) (fun _ _ => by rfl) ?_ ?_ ?_ | refine' TrC.comp2 (by rfl) (by rfl) (fun _ _ => by rfl) (fun _ _ => by rfl) ?_ ?_ ?_) | ((with_reducible show TrEs _ _ _ _ _); first | exact TrEs.nil | refine' TrEs.cons ?_ ?_) | ((with_reducible show TrO _ _ _ _ _); first | exact TrO.none | refine' TrO.some ?_) | ((with_reducible show TrI _ _ _ _ _); first | exact TrI.nil | refine' TrI.one ?_) | ((with_reducible show TrF _ _ _ _ _); first | refine' TrF.list ?_ | refine' TrF.range (by rfl) ?_ ?_) | rfl | exact List.cons_ne_nil _ _))), ?_⟩
  rintro _ Q ⟨A, B, rfl, q⟩
  refine ⟨rfl, ?_⟩
  show exs FEi _ [(0, .val (tabV A)), (1, .val (tabV B))] _
  dsimp only [List.nil_append, List.cons_append, toSs, toEs]
  rw [exs_cons, show (varsOf dBo.scope).length = 2 from rfl, show (compNs (varsOf dBo.scope) [Str.ofString "i"]).length = 3 from rfl, show (compNs (compNs (varsOf dBo.scope) [Str.ofString "i"]) [Str.ofString "j"]).length = 4 from rfl]
  refine S.ret_ok (Ev.compR4 (f := fun i => .list (r4 fun j => .int (bothT A B i j))) (Ev.range1 (Ev.lit _)) (fun v => Tv.lit true) fun i hi => ?_) q
  refine Ev.compR4 (f := fun j => .int (bothT A B i j)) (Ev.range1 (Ev.lit _)) (fun v => Tv.lit true) fun j hj => ?_
  have gi : ∀ (k : V), Ev FEi ((4, k, 0) :: (3, vN j, 0) :: (2, vN i, 0) :: rd [(0, .val (tabV A)), (1, .val (tabV B))]) (.var 2) (vN i) := fun k => EvD.var rfl
  have gj : ∀ (k : V), Ev FEi ((4, k, 0) :: (3, vN j, 0) :: (2, vN i, 0) :: rd [(0, .val (tabV A)), (1, .val (tabV B))]) (.var 3) (vN j) := fun k => EvD.var rfl
  have hi' : Ev FEi ((3, vN j, 0) :: (2, vN i, 0) :: rd [(0, .val (tabV A)), (1, .val (tabV B))]) (.var 2) (vN i) := EvD.var rfl
  have hj' : Ev FEi ((3, vN j, 0) :: (2, vN i, 0) :: rd [(0, .val (tabV A)), (1, .val (tabV B))]) (.var 3) (vN j) := EvD.var rfl
  refine EvD.ife (c := decide ((i : Int) ≤ j)) (Tv.cmp (EvD.cmp hi' hj' fun Q q => q)) (fun h => ?_) fun h => ?_
  · have hij : i ≤ j := by have := of_decide_eq_true h; omega
    have e1 : Ev FEi ((3, vN j, 0) :: (2, vN i, 0) :: rd [(0, .val (tabV A)), (1, .val (tabV B))]) (E.bin Operator.Add (E.var 3) (E.lit (V.int 1))) (vN (j + 1)) := Ev.add hj' (Ev.lit _)
    have er : rngL (i : Int) ((j + 1 : Nat) : Int) 1 = (List.range (j + 1 - i)).map fun (k : Nat) => ((i + k : Nat) : Int) := rng_up i (j + 1) (by omega)
    have C := Ev.compM (F := FEi) (it := E.bi Bi.range (Es.cons (E.var 2) (Es.cons (E.bin Operator.Add (E.var 3) (E.lit (V.int 1))) Es.nil))) (c := E.lit (V.bool true)) (e := E.bin Operator.Add (((E.var 0).idx (E.var 2)).idx (E.var 4)) (((E.var 1).idx (E.var 4)).idx (E.var 3))) (i := 4)
      (fun v => match v with | .int k => .int (A i k.toNat + B k.toNat j) | _ => .none) (Ev.range2 hi' e1) (by unfold iterOk rOk; refine ⟨?_, ?_, ?_, ?_⟩ <;> omega) rfl (by rw [er]; simp; omega) (fun v _ => Tv.lit true) (fun v hv => by
        rw [er, List.map_map] at hv
        obtain ⟨k, hk, rfl⟩ := List.mem_map.mp hv
        have hk := List.mem_range.mp hk
        show Ev FEi _ _ (.int (A i ((i + k : Nat) : Int).toNat + B ((i + k : Nat) : Int).toNat j))
        rw [Int.toNat_natCast]
        exact Ev.add (Ev.tab (EvD.var (t := tabV A) (d := 0) rfl) (.inl rfl) (gi _) hi (EvD.var (t := vN (i + k)) (d := 0) rfl) (by omega)) (Ev.tab (EvD.var (t := tabV B) (d := 0) rfl) (.inl rfl) (EvD.var (t := vN (i + k)) (d := 0) rfl) (by omega) (gj _) hj))
    refine EvD.bi (.cons C .nil) fun Q q => ?_
    show minLW (intsOf _) Q
    rw [er, List.map_map, List.map_map]
    have : (List.range (j + 1 - i)).map (((fun v => match v with | .int k => V.int (A i k.toNat + B k.toNat j) | _ => .none) ∘ V.int) ∘ fun (k : Nat) => ((i + k : Nat) : Int)) = (bothL A B i j).map .int := by
      unfold bothL; rw [List.map_map]
      refine List.map_congr_left fun k _ => ?_
      show V.int (A i ((i + k : Nat) : Int).toNat + B ((i + k : Nat) : Int).toNat j) = _
      rw [Int.toNat_natCast]; rfl
    refine Eq.mpr (congrArg (fun l => minLW (intsOf l) Q) this) ?_
    show minLW (intsOf ((bothL A B i j).map .int)) Q
    rw [intsOf_map]
    unfold minLW
    show match minL (bothL A B i j) with | some i => Q (.int i) 0 | none => False
    rw [bothL_min A B hij]; exact q
  · have hij : ¬ i ≤ j := by have := of_decide_eq_false h; omega
    have : bothT A B i j = 0 := if_neg hij
    rw [this]; exact Ev.lit _
end Mine
end

-- part N1
section
open PySem
set_option linter.unusedVariables false
set_option genSizeOf false
set_option genSizeOfSpec false
namespace Mine
/-! the least of what a list's entries come to -/
abbrev Txs := List (List Nat × Int)
noncomputable def IsMin (X : Txs) (f : List Nat × Int → Int) (v : Int) : Prop := (∃ p ∈ X, f p = v) ∧ ∀ p ∈ X, v ≤ f p
theorem IsMin.congr {X f g v} (h : IsMin X f v) (e : ∀ p ∈ X, g p = f p) : IsMin X g v := ⟨let ⟨p, hp, q⟩ := h.1; ⟨p, hp, (e p hp).trans q⟩, fun p hp => by rw [e p hp]; exact h.2 p hp⟩
theorem IsMin.map {X f v} (g : List Nat × Int → List Nat × Int) (h : IsMin X (fun p => f (g p)) v) : IsMin (X.map g) f v :=
  ⟨let ⟨p, hp, q⟩ := h.1; ⟨g p, List.mem_map_of_mem hp, q⟩, fun p hp => let ⟨p', hp', e⟩ := List.mem_map.mp hp; e ▸ h.2 p' hp'⟩
theorem IsMin.app {X Y f v w} (h : IsMin X f v) (h' : IsMin Y f w) : IsMin (X ++ Y) f (min v w) := by
  refine ⟨?_, fun p hp => ?_⟩
  · obtain ⟨p, hp, e⟩ := h.1
    obtain ⟨p', hp', e'⟩ := h'.1
    by_cases c : v ≤ w
    · exact ⟨p, List.mem_append_left _ hp, by lia⟩
    · exact ⟨p', List.mem_append_right _ hp', by lia⟩
  · rcases List.mem_append.mp hp with hp | hp
    · have := h.2 p hp; lia
    · have := h'.2 p hp; lia
theorem IsMin.shift {X f a} (h : IsMin X f a) (c : Int) : IsMin X (fun p => f p + c) (a + c) :=
  ⟨let ⟨p, hp, e⟩ := h.1; ⟨p, hp, congrArg (· + c) e⟩, fun p hp => Int.add_le_add_right (h.2 p hp) c⟩
theorem IsMin.two {X f g a b} (ha : IsMin X f a) (hb : IsMin X g b) : IsMin X (fun p => min (f p) (g p)) (min a b) := by
  refine ⟨?_, fun p hp => Int.le_min.mpr ⟨Int.le_trans (Int.min_le_left ..) (ha.2 p hp), Int.le_trans (Int.min_le_right ..) (hb.2 p hp)⟩⟩
  obtain ⟨⟨p, hp, rfl⟩, ha⟩ := ha
  obtain ⟨⟨q, hq, rfl⟩, hb⟩ := hb
  rcases Int.le_total (f p) (g q) with h | h
  · exact ⟨p, hp, by show min (f p) (g p) = min (f p) (g q); rw [Int.min_eq_left (Int.le_trans h (hb p hp)), Int.min_eq_left h]⟩
  · exact ⟨q, hq, by show min (f q) (g q) = min (f p) (g q); rw [Int.min_eq_right (Int.le_trans h (ha q hq)), Int.min_eq_right h]⟩
theorem IsMin.three {X f g h a b c k} (ha : IsMin X f a) (hb : IsMin X g b) (hc : IsMin X h c) : IsMin X (fun p => min (min (f p + 32) (g p + 32)) (h p + k)) (min (min (a + 32) (b + 32)) (c + k)) :=
  ((ha.shift 32).two (hb.shift 32)).two (hc.shift k)
theorem fmin (m n : Nat) (x : Int) : 16 * ((min m n : Nat) : Int) + x = min (16 * (m : Int) + x) (16 * (n : Int) + x) := by
  have mono : ∀ {a b : Nat}, a ≤ b → 16 * (a : Int) + x ≤ 16 * (b : Int) + x := fun h => Int.add_le_add_right (Int.mul_le_mul_of_nonneg_left (Int.ofNat_le.mpr h) (by decide)) x
  rcases Nat.le_total m n with h | h
  · rw [Nat.min_eq_left h, Int.min_eq_left (mono h)]
  · rw [Nat.min_eq_right h, Int.min_eq_right (mono h)]
theorem fadd (m w : Nat) (x : Int) : 16 * ((m + w : Nat) : Int) + x = 16 * (m : Int) + x + 16 * (w : Int) := by
  rw [Int.natCast_add, Int.mul_add, Int.add_assoc, Int.add_comm (16 * (w : Int)) x, Int.add_assoc]
theorem amin (p q : Int) : min p q + 32 = min (p + 32) (q + 32) := by
  rcases Int.le_total p q with h | h
  · rw [Int.min_eq_left h, Int.min_eq_left (Int.add_le_add_right h 32)]
  · rw [Int.min_eq_right h, Int.min_eq_right (Int.add_le_add_right h 32)]
theorem min_cast (a b c w : Nat) (x : Int) : 16 * ((min (min a b + 2) (c + w) : Nat) : Int) + x = min (min (16 * (a : Int) + x + 32) (16 * (b : Int) + x + 32)) (16 * (c : Int) + x + 16 * w) := by
  rw [fmin, fadd c, fadd (min a b) 2, fmin, show 16 * ((2 : Nat) : Int) = 32 from rfl, amin]
/-! stretches of the typed text -/
noncomputable def seg (l : List Nat) (i j : Nat) : List Nat := (l.drop i).take (j - i)
theorem seg_nil (l : List Nat) (i : Nat) : seg l i i = [] := by unfold seg; rw [Nat.sub_self, List.take_zero]
theorem seg_len (l : List Nat) {i j : Nat} (h : i ≤ j) (hj : j ≤ l.length) : (seg l i j).length = j - i := by
  unfold seg; rw [List.length_take, List.length_drop]; lia
theorem seg_cons (l : List Nat) {i j : Nat} (h : i < j) (hj : j ≤ l.length) : seg l i j = l.getD i 0 :: seg l (i + 1) j := by
  unfold seg
  have hi : i < l.length := by lia
  rw [List.drop_eq_getElem_cons hi, show j - i = (j - (i + 1)) + 1 by lia, List.take_succ_cons, List.getD_eq_getElem?_getD, List.getElem?_eq_getElem hi]; rfl
theorem seg_app (l : List Nat) {i k j : Nat} (h : i ≤ k) (h' : k ≤ j) : seg l i j = seg l i k ++ seg l k j := by
  unfold seg
  obtain ⟨a, rfl⟩ := Nat.exists_eq_add_of_le h
  obtain ⟨b, rfl⟩ := Nat.exists_eq_add_of_le h'
  rw [show i + a + b - i = a + b by lia, show i + a - i = a by lia, show i + a + b - (i + a) = b by lia, List.take_add, List.drop_drop]
theorem seg_snoc (l : List Nat) {i j : Nat} (h : i < j) (hj : j ≤ l.length) : seg l i j = seg l i (j - 1) ++ [l.getD (j - 1) 0] := by
  have h1 := seg_app l (i := i) (k := j - 1) (j := j) (by lia) (by lia)
  have h2 := seg_cons l (i := j - 1) (j := j) (by lia) hj
  rw [show j - 1 + 1 = j by lia, seg_nil] at h2
  rw [h1, h2]
theorem seg_all (l : List Nat) : seg l 0 l.length = l := by unfold seg; simp
/-- T tells of each stretch the least that it costs to make of it one of the texts, and its number -/
noncomputable def Tab (l : List Nat) (X : Txs) (T : Nat → Nat → Int) : Prop := ∀ i j, i ≤ j → j ≤ l.length → IsMin X (fun p => 16 * (DN p.1 (seg l i j) : Int) + p.2) (T i j)
section
variable {l : List Nat} {X Y : Txs} {T A B : Nat → Nat → Int}
theorem tab_plain : Tab l [([], 0)] (fun i j => 32 * ((j : Int) - i)) := fun i j h hj => by
  have e : 16 * ((DN [] (seg l i j) : Nat) : Int) + 0 = 32 * ((j : Int) - i) := by
    rw [show DN [] (seg l i j) = 2 * (seg l i j).length from rfl, seg_len l h hj]; lia
  exact ⟨⟨_, List.mem_cons_self, e⟩, fun p hp => by rw [List.mem_singleton.mp hp]; exact Int.le_of_eq e.symm⟩
theorem tab_ahead {s : Nat} (hs : ∀ c ∈ l, pr s c = 16 * wN s c) (h : Tab l X T) : Tab l (X.map fun p => (s :: p.1, p.2)) (ahead1 l s T) := by
  have key : ∀ d i, i + d ≤ l.length → IsMin X (fun p => 16 * (DN (s :: p.1) (seg l i (i + d)) : Int) + p.2) (ahead1 l s T i (i + d)) := by
    intro d
    induction d with
    | zero =>
      intro i hi
      have h0 := h i i (Nat.le_refl _) hi
      rw [Nat.add_zero, ahead1_eq]
      rw [seg_nil] at h0 ⊢
      refine ⟨?_, fun p hp => ?_⟩
      · obtain ⟨p, hp, e⟩ := h0.1
        refine ⟨p, hp, ?_⟩
        dsimp only at e ⊢
        rw [show DN (s :: p.1) [] = DN p.1 [] + 2 from rfl]; lia
      · have := h0.2 p hp
        dsimp only at this ⊢
        rw [show DN (s :: p.1) [] = DN p.1 [] + 2 from rfl]; lia
    | succ d ih =>
      intro i hi
      have h1 := h i (i + (d + 1)) (by lia) hi
      have h2 := ih (i + 1) (by lia)
      have h3 := h (i + 1) (i + (d + 1)) (by lia) hi
      rw [show i + 1 + d = i + (d + 1) by lia] at h2
      rw [ahead1_lt _ _ _ (show i < i + (d + 1) by lia)]
      refine (h1.three h2 h3 (k := pr s (l.getD i 0))).congr fun p hp => ?_
      have hc : l.getD i 0 ∈ l := by
        rw [List.getD_eq_getElem?_getD, List.getElem?_eq_getElem (by lia)]; exact List.getElem_mem _
      rw [seg_cons l (show i < i + (d + 1) by lia) hi, show DN (s :: p.1) (l.getD i 0 :: seg l (i + 1) (i + (d + 1))) = _ from D_cc s p.1 (l.getD i 0) _, hs _ hc]
      show 16 * ((min (min (DN p.1 (l.getD i 0 :: seg l (i + 1) (i + (d + 1)))) (DN (s :: p.1) (seg l (i + 1) (i + (d + 1)))) + 2) (DN p.1 (seg l (i + 1) (i + (d + 1))) + wN s (l.getD i 0)) : Nat) : Int) + p.2 = _
      exact min_cast ..
  intro i j hij hj
  obtain ⟨d, rfl⟩ := Nat.exists_eq_add_of_le hij
  exact IsMin.map (f := fun p => 16 * (DN p.1 (seg l i (i + d)) : Int) + p.2) (fun p => (s :: p.1, p.2)) (key d i hj)
theorem tab_behind {s : Nat} (hs : ∀ c ∈ l, pr s c = 16 * wN s c) (h : Tab l X T) : Tab l (X.map fun p => (p.1 ++ [s], p.2)) (behind1 l s T) := by
  have key : ∀ d i, i + d ≤ l.length → IsMin X (fun p => 16 * (DN (p.1 ++ [s]) (seg l i (i + d)) : Int) + p.2) (behind1 l s T i (i + d)) := by
    intro d
    induction d with
    | zero =>
      intro i hi
      have h0 := h i i (Nat.le_refl _) hi
      rw [Nat.add_zero, behind1_eq]
      rw [seg_nil] at h0 ⊢
      have e : ∀ x : List Nat, DN (x ++ [s]) [] = DN x [] + 2 := fun x => by
        rw [show DN (x ++ [s]) [] = _ from D_nil_r _, show DN x [] = _ from D_nil_r _, List.length_append, List.length_singleton]; lia
      refine ⟨?_, fun p hp => ?_⟩
      · obtain ⟨p, hp, q⟩ := h0.1
        refine ⟨p, hp, ?_⟩
        dsimp only at q ⊢
        rw [e]; lia
      · have := h0.2 p hp
        dsimp only at this ⊢
        rw [e]; lia
    | succ d ih =>
      intro i hi
      have h1 := h i (i + (d + 1)) (by lia) hi
      have h2 := ih i (by lia)
      have h3 := h i (i + d) (by lia) (by lia)
      rw [behind1_lt _ _ _ (show i < i + (d + 1) by lia), show i + (d + 1) - 1 = i + d by lia]
      refine (h1.three h2 h3 (k := pr s (l.getD (i + d) 0))).congr fun p hp => ?_
      have hc : l.getD (i + d) 0 ∈ l := by
        rw [List.getD_eq_getElem?_getD, List.getElem?_eq_getElem (by lia)]; exact List.getElem_mem _
      rw [seg_snoc l (show i < i + (d + 1) by lia) hi, show i + (d + 1) - 1 = i + d by lia, DN_snoc, hs _ hc]
      exact min_cast ..
  intro i j hij hj
  obtain ⟨d, rfl⟩ := Nat.exists_eq_add_of_le hij
  exact IsMin.map (f := fun p => 16 * (DN p.1 (seg l i (i + d)) : Int) + p.2) (fun p => (p.1 ++ [s], p.2)) (key d i hj)
theorem tab_either {m : Int} (h : Tab l X A) (h' : Tab l Y B) : Tab l (X ++ Y.map fun p => (p.1, p.2 + m)) (fun i j => min (A i j) (B i j + m)) := fun i j hij hj => by
  refine (h i j hij hj).app (IsMin.map (f := fun p => 16 * (DN p.1 (seg l i j) : Int) + p.2) _ ?_)
  obtain ⟨⟨p, hp, e⟩, h2⟩ := h' i j hij hj
  exact ⟨⟨p, hp, by dsimp only at e ⊢; lia⟩, fun p hp => by have := h2 p hp; dsimp only at this ⊢; lia⟩
theorem minL_spec {l : List Int} {v : Int} (h : minL l = some v) : v ∈ l ∧ ∀ a ∈ l, v ≤ a := by
  have aux : ∀ (l : List Int) (n : Int), (l.foldl min n = n ∨ l.foldl min n ∈ l) ∧ l.foldl min n ≤ n ∧ ∀ a ∈ l, l.foldl min n ≤ a := by
    intro l
    induction l with
    | nil => exact fun n => ⟨.inl rfl, Int.le_refl _, fun _ h => nomatch h⟩
    | cons x l ih =>
      intro n
      obtain ⟨h1, h2, h3⟩ := ih (min n x)
      show (l.foldl min (min n x) = n ∨ _) ∧ _
      refine ⟨?_, by show l.foldl min (min n x) ≤ n; lia, fun a ha => ?_⟩
      · rcases h1 with h1 | h1
        · by_cases c : n ≤ x
          · exact .inl (by show l.foldl min (min n x) = n; lia)
          · exact .inr (by show l.foldl min (min n x) ∈ _; rw [h1, show min n x = x by lia]; exact List.mem_cons_self)
        · exact .inr (List.mem_cons_of_mem _ h1)
      · rcases List.mem_cons.mp ha with rfl | ha
        · show l.foldl min (min n a) ≤ a; lia
        · exact h3 a ha
  cases l with
  | nil => exact nos h
  | cons n l =>
    have h : some (l.foldl min n) = some v := h
    cases h
    obtain ⟨h1, h2, h3⟩ := aux l n
    refine ⟨?_, fun a ha => ?_⟩
    · rcases h1 with h1 | h1
      · rw [h1]; exact List.mem_cons_self
      · exact List.mem_cons_of_mem _ h1
    · rcases List.mem_cons.mp ha with rfl | ha
      · exact h2
      · exact h3 a ha
theorem DN_cut (s t z : List Nat) : ∃ z1 z2, z = z1 ++ z2 ∧ DN (s ++ t) z = DN s z1 + DN t z2 := by
  obtain ⟨z1, z2, h1, h2⟩ := D_split (w := wN) z s t
  refine ⟨z1, z2, h1, ?_⟩
  rw [show DN (s ++ t) z = DN z (s ++ t) from D_symm wN_symm _ _, show DN s z1 = DN z1 s from D_symm wN_symm _ _, show DN t z2 = DN z2 t from D_symm wN_symm _ _]
  exact h2
theorem tab_both (h : Tab l X A) (h' : Tab l Y B) : Tab l (X.flatMap fun p => Y.map fun q => (p.1 ++ q.1, p.2 + q.2)) (bothT A B) := fun i j hij hj => by
  obtain ⟨m1, m2⟩ := minL_spec (bothL_min A B hij)
  have lower : ∀ p ∈ X, ∀ q ∈ Y, bothT A B i j ≤ 16 * (DN (p.1 ++ q.1) (seg l i j) : Int) + (p.2 + q.2) := fun p hp q hq => by
    obtain ⟨z1, z2, e1, e2⟩ := DN_cut p.1 q.1 (seg l i j)
    have hl := congrArg List.length e1
    rw [seg_len l hij hj, List.length_append] at hl
    have e3 := seg_app l (i := i) (k := i + z1.length) (j := j) (by lia) (by lia)
    have hz : z1 = seg l i (i + z1.length) ∧ z2 = seg l (i + z1.length) j := by
      have := e1.symm.trans e3
      exact List.append_inj this (by rw [seg_len l (by lia) (by lia)]; lia)
    rw [e2]
    have a1 := (h i (i + z1.length) (by lia) (by lia)).2 p hp
    have a2 := (h' (i + z1.length) j (by lia) hj).2 q hq
    dsimp only at a1 a2
    rw [← hz.1] at a1
    rw [← hz.2] at a2
    have a3 := m2 (A i (i + z1.length) + B (i + z1.length) j) (List.mem_map.mpr ⟨z1.length, List.mem_range.mpr (by lia), rfl⟩)
    lia
  refine ⟨?_, fun r hr => ?_⟩
  · obtain ⟨k, hk, e⟩ := List.mem_map.mp m1
    have hk := List.mem_range.mp hk
    obtain ⟨p, hp, e1⟩ := (h i (i + k) (by lia) (by lia)).1
    obtain ⟨q, hq, e2⟩ := (h' (i + k) j (by lia) hj).1
    refine ⟨(p.1 ++ q.1, p.2 + q.2), List.mem_flatMap.mpr ⟨p, hp, List.mem_map.mpr ⟨q, hq, rfl⟩⟩, ?_⟩
    have lo := lower p hp q hq
    have hi : DN (p.1 ++ q.1) (seg l i j) ≤ DN p.1 (seg l i (i + k)) + DN q.1 (seg l (i + k) j) := by
      rw [seg_app l (i := i) (k := i + k) (j := j) (by lia) (by lia)]
      exact D_append ..
    dsimp only at e1 e2 ⊢
    lia
  · obtain ⟨p, hp, hr⟩ := List.mem_flatMap.mp hr
    obtain ⟨q, hq, rfl⟩ := List.mem_map.mp hr
    exact lower p hp q hq
theorem tab_aheadT : ∀ (ss : List Nat) {X : Txs} {T : Nat → Nat → Int}, (∀ s ∈ ss, ∀ c ∈ l, pr s c = 16 * wN s c) → Tab l X T → Tab l (X.map fun p => (ss.reverse ++ p.1, p.2)) (aheadT l ss T)
  | [], X, T, _, h => by
    show Tab l (X.map fun p => ([] ++ p.1, p.2)) T
    have : X.map (fun p => (([] : List Nat) ++ p.1, p.2)) = X := by simp
    rw [this]; exact h
  | s :: ss, X, T, hs, h => by
    have := tab_aheadT ss (fun s' h' => hs s' (List.mem_cons_of_mem _ h')) (tab_ahead (hs s List.mem_cons_self) h)
    rw [List.map_map] at this
    have e : X.map ((fun p : List Nat × Int => (ss.reverse ++ p.1, p.2)) ∘ fun p => (s :: p.1, p.2)) = X.map fun p => ((s :: ss).reverse ++ p.1, p.2) := List.map_congr_left fun p _ => by simp
    rw [e] at this; exact this
theorem tab_behindT : ∀ (ss : List Nat) {X : Txs} {T : Nat → Nat → Int}, (∀ s ∈ ss, ∀ c ∈ l, pr s c = 16 * wN s c) → Tab l X T → Tab l (X.map fun p => (p.1 ++ ss, p.2)) (behindT l ss T)
  | [], X, T, _, h => by
    show Tab l (X.map fun p => (p.1 ++ [], p.2)) T
    have : X.map (fun p => (p.1 ++ ([] : List Nat), p.2)) = X := by simp
    rw [this]; exact h
  | s :: ss, X, T, hs, h => by
    have := tab_behindT ss (fun s' h' => hs s' (List.mem_cons_of_mem _ h')) (tab_behind (hs s List.mem_cons_self) h)
    rw [List.map_map] at this
    have e : X.map ((fun p : List Nat × Int => (p.1 ++ ss, p.2)) ∘ fun p => (p.1 ++ [s], p.2)) = X.map fun p => (p.1 ++ s :: ss, p.2) := List.map_congr_left fun p _ => by simp
    rw [e] at this; exact this
end
end Mine
end

-- part N2
section
open PySem
set_option linter.unusedVariables false
set_option maxRecDepth 100000
set_option genSizeOf false
set_option genSizeOfSpec false
namespace Mine
/-! the distance with any cost -/
noncomputable def rowG (w : Nat → Nat → Int) (c : Nat) : List Nat → List Int → Int → Int → List Int × Int
  | x :: s, r :: row, dist, res =>
    let res' := min (min res r + 2) (dist + w c x)
    let p := rowG w c s row r res'
    (res' :: p.1, p.2)
  | _, _, _, res => ([], res)
noncomputable def dpG (w : Nat → Nat → Int) (s : List Nat) (m : Int) : List Nat → Nat → List Int → Int → Int
  | [], _, _, res => res
  | c :: t, j, row, res =>
    let p := rowG w c s row (2 * j) (2 * j)
    if p.1.foldl min big > m then m + 1 else dpG w s m t (j + 1) p.1 p.2
noncomputable def levSG (w : Nat → Nat → Int) (s t : List Nat) (m : Int) : Int := if 2 * ((t.length : Int) - s.length) > m then m + 1 else dpG w s m t 0 (row0 s.length) 0
noncomputable def levG (w : Nat → Nat → Int) (a b : List Nat) (m : Int) : Int :=
  if a = b then 0 else
  let p := stripB a b
  if p.1 = [] ∨ p.2 = [] then 2 * (p.1.length + p.2.length : Int)
  else if p.1.length > 40 ∨ p.2.length > 40 then m + 1
  else if p.2.length < p.1.length then levSG w p.2 p.1 m else levSG w p.1 p.2 m

theorem rowG_eq {w : Nat → Nat → Int} (c : Nat) : ∀ (s : List Nat) (row : List Int) (d r : Int), (∀ x ∈ s, w c x = substC [c] [x]) → rowF c s row d r = rowG w c s row d r
  | [], _, _, _, _ => by unfold rowF rowG; rfl
  | x :: s, [], _, _, _ => by unfold rowF rowG; rfl
  | x :: s, y :: row, d, r, h => by
    unfold rowF rowG
    dsimp only
    rw [h x List.mem_cons_self, rowG_eq c s row _ _ fun z hz => h z (List.mem_cons_of_mem _ hz)]
theorem dpG_eq {w : Nat → Nat → Int} (s : List Nat) (m : Int) : ∀ (t : List Nat) (j : Nat) (row : List Int) (res : Int), (∀ c ∈ t, ∀ x ∈ s, w c x = substC [c] [x]) → dpF s m t j row res = dpG w s m t j row res
  | [], _, _, _, _ => by unfold dpF dpG; rfl
  | c :: t, j, row, res, h => by
    unfold dpF dpG
    dsimp only
    rw [rowG_eq c s row _ _ (h c List.mem_cons_self)]
    split
    · rfl
    · exact dpG_eq s m t _ _ _ fun z hz => h z (List.mem_cons_of_mem _ hz)
theorem stripP_sub : ∀ (a b : List Nat), (∀ x ∈ (stripP a b).1, x ∈ a) ∧ (∀ x ∈ (stripP a b).2, x ∈ b)
  | [], b => by simp [stripP]
  | x :: a, [] => by simp [stripP]
  | x :: a, y :: b => by
    unfold stripP
    split
    · have := stripP_sub a b
      exact ⟨fun z hz => List.mem_cons_of_mem _ (this.1 z hz), fun z hz => List.mem_cons_of_mem _ (this.2 z hz)⟩
    · exact ⟨fun z hz => hz, fun z hz => hz⟩
theorem stripB_sub (a b : List Nat) : (∀ x ∈ (stripB a b).1, x ∈ a) ∧ (∀ x ∈ (stripB a b).2, x ∈ b) := by
  have h1 := stripP_sub a b
  have h2 := stripP_sub (stripP a b).1.reverse (stripP a b).2.reverse
  unfold stripB
  exact ⟨fun x hx => h1.1 x (List.mem_reverse.mp (h2.1 x (List.mem_reverse.mp hx))), fun x hx => h1.2 x (List.mem_reverse.mp (h2.2 x (List.mem_reverse.mp hx)))⟩
theorem levG_eq {w : Nat → Nat → Int} (a b : List Nat) (m : Int) (h : ∀ c ∈ a ++ b, ∀ x ∈ a ++ b, w c x = substC [c] [x]) : lev a b m = levG w a b m := by
  have hs := stripB_sub a b
  have h1 : ∀ c ∈ (stripB a b).1, ∀ x ∈ (stripB a b).2, w c x = substC [c] [x] := fun c hc x hx => h c (List.mem_append_left _ (hs.1 c hc)) x (List.mem_append_right _ (hs.2 x hx))
  have h2 : ∀ c ∈ (stripB a b).2, ∀ x ∈ (stripB a b).1, w c x = substC [c] [x] := fun c hc x hx => h c (List.mem_append_right _ (hs.2 c hc)) x (List.mem_append_left _ (hs.1 x hx))
  unfold lev levG levS levSG
  dsimp only
  rw [dpG_eq (stripB a b).2 m (stripB a b).1 0 _ 0 h1, dpG_eq (stripB a b).1 m (stripB a b).2 0 _ 0 h2]


/-! the signs that rows and typed texts are made of -/
noncomputable def ten : List Nat := [97, 65, 255, 254, 222, 46, 60, 61, 223, 123]
noncomputable def allS : List Nat := [97, 65, 255, 254, 222, 46, 60, 61, 223, 123, 33, 37, 38, 40, 41, 42, 43, 44, 45, 47, 58, 59, 62, 64, 91, 93, 94, 124, 125, 126, 100, 101, 102]
noncomputable def lowN (x : Nat) : Nat := if x = 65 then 97 else if x = 222 then 254 else x
noncomputable def wq (x y : Nat) : Nat := if x = y then 0 else if lowN x = lowN y then 1 else 2
theorem low_all : ∀ x ∈ allS, lowL [x] = [lowN x] := by decide +kernel
theorem wq_wN {x y : Nat} (hx : x ∈ allS) (hy : y ∈ allS) : wq x y = wN x y := by
  unfold wq wN
  rw [low_all x hx, low_all y hy]
  by_cases h : x = y
  · rw [if_pos h, if_pos h]
  · rw [if_neg h, if_neg h]
    by_cases e : lowN x = lowN y
    · rw [if_pos e, if_pos (by rw [e])]
    · rw [if_neg e, if_neg (by simpa using e)]
theorem pr_wq : ∀ x ∈ allS, ∀ y ∈ allS, pr x y = 16 * (wq x y : Int) := by decide +kernel
theorem pr_wN {x y : Nat} (hx : x ∈ allS) (hy : y ∈ allS) : pr x y = 16 * wN x y := by rw [← wq_wN hx hy]; exact pr_wq x hx y hy
theorem ten_all : ∀ x ∈ ten, x ∈ allS := by decide
theorem de_97 : ∀ y ∈ ten, ∀ z ∈ ten, levG (fun a b => (wq a b : Int)) [97, y, z, 100, 101] [100, 97, y, z, 102] 6 = 6 := by decide +kernel
theorem de_65 : ∀ y ∈ ten, ∀ z ∈ ten, levG (fun a b => (wq a b : Int)) [65, y, z, 100, 101] [100, 65, y, z, 102] 6 = 6 := by decide +kernel
theorem de_255 : ∀ y ∈ ten, ∀ z ∈ ten, levG (fun a b => (wq a b : Int)) [255, y, z, 100, 101] [100, 255, y, z, 102] 6 = 6 := by decide +kernel
theorem de_254 : ∀ y ∈ ten, ∀ z ∈ ten, levG (fun a b => (wq a b : Int)) [254, y, z, 100, 101] [100, 254, y, z, 102] 6 = 6 := by decide +kernel
theorem de_222 : ∀ y ∈ ten, ∀ z ∈ ten, levG (fun a b => (wq a b : Int)) [222, y, z, 100, 101] [100, 222, y, z, 102] 6 = 6 := by decide +kernel
theorem de_46 : ∀ y ∈ ten, ∀ z ∈ ten, levG (fun a b => (wq a b : Int)) [46, y, z, 100, 101] [100, 46, y, z, 102] 6 = 6 := by decide +kernel
theorem de_60 : ∀ y ∈ ten, ∀ z ∈ ten, levG (fun a b => (wq a b : Int)) [60, y, z, 100, 101] [100, 60, y, z, 102] 6 = 6 := by decide +kernel
theorem de_61 : ∀ y ∈ ten, ∀ z ∈ ten, levG (fun a b => (wq a b : Int)) [61, y, z, 100, 101] [100, 61, y, z, 102] 6 = 6 := by decide +kernel
theorem de_223 : ∀ y ∈ ten, ∀ z ∈ ten, levG (fun a b => (wq a b : Int)) [223, y, z, 100, 101] [100, 223, y, z, 102] 6 = 6 := by decide +kernel
theorem de_123 : ∀ y ∈ ten, ∀ z ∈ ten, levG (fun a b => (wq a b : Int)) [123, y, z, 100, 101] [100, 123, y, z, 102] 6 = 6 := by decide +kernel
theorem de_tab : ∀ x ∈ ten, ∀ y ∈ ten, ∀ z ∈ ten, levG (fun a b => (wq a b : Int)) [x, y, z, 100, 101] [100, x, y, z, 102] 6 = 6 := fun x hx => by
  simp only [ten, List.mem_cons, List.not_mem_nil, or_false] at hx
  rcases hx with rfl | rfl | rfl | rfl | rfl | rfl | rfl | rfl | rfl | rfl
  · exact de_97
  · exact de_65
  · exact de_255
  · exact de_254
  · exact de_222
  · exact de_46
  · exact de_60
  · exact de_61
  · exact de_223
  · exact de_123
theorem de_ok {l : List Nat} (hl : l.length = 3) (h : ∀ c ∈ l, c ∈ ten) : lev (l ++ [100, 101]) ([100] ++ l ++ [102]) 6 = 6 := by
  match l, hl with
  | [x, y, z], _ =>
    have hs : ∀ c ∈ ([x, y, z] ++ [100, 101]) ++ ([100] ++ [x, y, z] ++ [102]), c ∈ allS := fun c hc => by
      simp only [List.mem_append, List.mem_cons, List.not_mem_nil, or_false] at hc
      have hx := ten_all x (h x (by simp))
      have hy := ten_all y (h y (by simp))
      have hz := ten_all z (h z (by simp))
      rcases hc with ((rfl | rfl | rfl) | rfl | rfl) | (rfl | rfl | rfl | rfl) | rfl <;> first | assumption | decide
    rw [levG_eq (w := fun a b => (wq a b : Int)) _ _ _ fun c hc x hx => by rw [wN_eq, wq_wN (hs c hc) (hs x hx)]]
    exact de_tab x (h x (by simp)) y (h y (by simp)) z (h z (by simp))
/-! terminals -/
noncomputable def tset : List Int := [97, 65, 255, 254, 222, 23, 52] ++ (List.range 48).map fun (k : Nat) => 7 + (k : Int)
theorem tset_ok : ∀ t ∈ tset, 0 < t ∧ t < 256 ∧ (∀ c ∈ wordL t, c ∈ allS) ∧ (∀ c ∈ wordL t, c ≠ 13 ∧ c ≠ 10) := by decide +kernel
noncomputable def signsS : List Nat := (Str.ofString "( ) [ ] : , ; + - * / | & < > = . % { } == != <= >= ~ ^ << >> ** += -= *= /= %= &= |= ^= <<= >>= **= // //= @ @= -> ... := !").cps.toList
noncomputable def signsL : List (List Nat) := (List.range 48).map fun (k : Nat) => wordL (7 + (k : Int))
theorem signs_split : splitL signsS [32] = signsL := by decide +kernel
theorem signs_at {t : Int} (h : t ∈ tset) (h1 : t < 55) : 7 ≤ t ∧ signsL.getD (t - 7).toNat [] = wordL t := by
  have : ∀ t ∈ tset, t < 55 → 7 ≤ t ∧ signsL.getD (t - 7).toNat [] = wordL t := by decide +kernel
  exact this t h h1
theorem chr_at {t : Int} (h : t ∈ tset) (h1 : ¬ t < 55) : wordL t = [t.toNat] := by
  have : ∀ t ∈ tset, ¬ t < 55 → wordL t = [t.toNat] := by decide +kernel
  exact this t h h1
end Mine
end

-- part N3
section
open PySem
set_option linter.unusedVariables false
set_option maxRecDepth 100000
set_option genSizeOf false
set_option genSizeOfSpec false
namespace Mine
/-! words and rows -/
noncomputable def Wl (n : Nat) (w : List Nat) : Prop := w.length ≤ n ∧ w ≠ [] ∧ (∀ c ∈ w, c ∈ allS) ∧ noNl w
theorem Wl.app {n m : Nat} {a b : List Nat} (h : Wl n a) (h' : Wl m b) : Wl (n + m) (a ++ b) := by
  obtain ⟨h1, h2, h3, h4⟩ := h
  obtain ⟨g1, g2, g3, g4⟩ := h'
  refine ⟨by rw [List.length_append]; lia, fun e => h2 (List.append_eq_nil_iff.mp e).1, fun c hc => ?_, fun c hc => ?_⟩
  · rcases List.mem_append.mp hc with hc | hc
    · exact h3 c hc
    · exact g3 c hc
  · rcases List.mem_append.mp hc with hc | hc
    · exact h4 c hc
    · exact g4 c hc
theorem Wl.up {n m : Nat} {a : List Nat} (h : Wl n a) (hn : n ≤ m) : Wl m a := ⟨Nat.le_trans h.1 hn, h.2⟩
theorem Wl.quote {n : Nat} {a : List Nat} (h : Wl n a) : Wl (n + 1) (quoteRow a) := by
  obtain ⟨h1, h2, h3, h4⟩ := h
  refine ⟨?_, ?_, ?_, noNl_q h4⟩
  · unfold quoteRow; split
    · rw [List.length_cons]; lia
    · lia
  · unfold quoteRow; split
    · exact fun e => nomatch e
    · exact h2
  · unfold quoteRow; split
    · intro c hc
      rcases List.mem_cons.mp hc with rfl | hc
      · decide
      · exact h3 c hc
    · exact h3
theorem word_ok {t : Int} (h : t ∈ tset) : Wl 3 (wordL t) := ⟨(wordL_len t).1, (wordL_len t).2, (tset_ok t h).2.2.1, (tset_ok t h).2.2.2⟩
theorem quote_app {a : List Nat} (h : a ≠ []) (b : List Nat) : quoteRow (a ++ b) = quoteRow a ++ b := by
  cases a with
  | nil => exact absurd rfl h
  | cons c a =>
    unfold quoteRow
    by_cases e : c = 46
    · subst e; rfl
    · rw [if_neg (by simpa using e), if_neg (by simpa using e)]
noncomputable def r8 {α : Type} (f : Nat → α) : List α := [f 0, f 1, f 2, f 3, f 4, f 5, f 6, f 7]
noncomputable def row8 (p : Nat → List Nat) : Nat → List Nat
  | 0 => p 0 ++ (p 2 ++ p 5 ++ p 3) ++ p 5
  | 1 => p 0 ++ (p 2 ++ p 5 ++ p 3) ++ p 6
  | 2 => p 0 ++ (p 2 ++ p 6 ++ p 3) ++ p 5
  | 3 => p 0 ++ (p 2 ++ p 6 ++ p 3) ++ p 6
  | 4 => p 0 ++ p 4 ++ p 5
  | 5 => p 0 ++ p 4 ++ p 6
  | 6 => p 1 ++ p 5
  | _ => p 1 ++ p 6
theorem row8_ok {p : Nat → List Nat} (h : ∀ i, Wl 3 (p i)) : ∀ k, Wl 15 (row8 p k) := by
  have a : ∀ x y z u, Wl 15 (p x ++ (p y ++ p z ++ p u) ++ p z) := fun x y z u => ((h x).app (((h y).app (h z)).app (h u))).app (h z)
  have b : ∀ x y z u v, Wl 15 (p x ++ (p y ++ p z ++ p u) ++ p v) := fun x y z u v => ((h x).app (((h y).app (h z)).app (h u))).app (h v)
  have c : ∀ x y z, Wl 15 (p x ++ p y ++ p z) := fun x y z => (((h x).app (h y)).app (h z)).up (by decide)
  have d : ∀ x y, Wl 15 (p x ++ p y) := fun x y => ((h x).app (h y)).up (by decide)
  intro k
  unfold row8
  split
  · exact b ..
  · exact b ..
  · exact b ..
  · exact b ..
  · exact c ..
  · exact c ..
  · exact d ..
  · exact d ..
/-! the tables -/
noncomputable def plainT : Nat → Nat → Int := fun i j => 32 * ((j : Int) - i)
noncomputable def eithT (A B : Nat → Nat → Int) (m : Int) : Nat → Nat → Int := fun i j => min (A i j) (B i j + m)
section
variable (l : List Nat) (p : Nat → List Nat)
noncomputable def tLast := aheadT l (p 5).reverse plainT
noncomputable def tOther := aheadT l (p 6).reverse plainT
noncomputable def tHeld := aheadT l (p 2).reverse (behindT l (p 3) (eithT (tLast l p) (tOther l p) 2))
noncomputable def tMiddle := eithT (tHeld l p) (aheadT l (p 4).reverse plainT) 4
noncomputable def tEither := eithT (tLast l p) (tOther l p) 1
noncomputable def tFirst : Int := aheadT l (quoteRow (p 0)).reverse (bothT (tMiddle l p) (tEither l p)) 0 3
noncomputable def tSecond : Int := aheadT l (quoteRow (p 1)).reverse (tEither l p) 0 3 + 6
end
theorem Tab.cast {l : List Nat} {X Y : Txs} {T : Nat → Nat → Int} (h : Tab l X T) (e : X = Y) : Tab l Y T := e ▸ h
theorem table_min {l : List Nat} {p : Nat → List Nat} (hl : l.length = 3) (ht : ∀ c ∈ l, c ∈ ten) (hp : ∀ i, Wl 3 (p i)) :
    IsMin ((List.range 8).map fun k => (quoteRow (row8 p k), (k : Int))) (fun q => 16 * (DN q.1 l : Int) + q.2) (min (tFirst l p) (tSecond l p)) := by
  have sg : ∀ {n} {w : List Nat}, Wl n w → ∀ s ∈ w, ∀ c ∈ l, pr s c = 16 * wN s c := fun h s hs c hc => pr_wN (h.2.2.1 s hs) (ten_all c (ht c hc))
  have sr : ∀ {n} {w : List Nat}, Wl n w → ∀ s ∈ w.reverse, ∀ c ∈ l, pr s c = 16 * wN s c := fun h s hs => sg h s (List.mem_reverse.mp hs)
  have T0 : Tab l [([], 0)] plainT := tab_plain
  have a5 : Tab l [(p 5, 0)] (tLast l p) := (tab_aheadT _ (sr (hp 5)) T0).cast (by simp)
  have a6 : Tab l [(p 6, 0)] (tOther l p) := (tab_aheadT _ (sr (hp 6)) T0).cast (by simp)
  have a4 : Tab l [(p 4, 0)] (aheadT l (p 4).reverse plainT) := (tab_aheadT _ (sr (hp 4)) T0).cast (by simp)
  have e2 : Tab l [(p 5, 0), (p 6, 2)] (eithT (tLast l p) (tOther l p) 2) := (tab_either a5 a6).cast (by simp)
  have e1 : Tab l [(p 5, 0), (p 6, 1)] (tEither l p) := (tab_either a5 a6).cast (by simp)
  have b3 : Tab l [(p 5 ++ p 3, 0), (p 6 ++ p 3, 2)] (behindT l (p 3) (eithT (tLast l p) (tOther l p) 2)) := tab_behindT _ (sg (hp 3)) e2
  have a2 : Tab l [(p 2 ++ p 5 ++ p 3, 0), (p 2 ++ p 6 ++ p 3, 2)] (tHeld l p) := (tab_aheadT _ (sr (hp 2)) b3).cast (by simp)
  have mi : Tab l [(p 2 ++ p 5 ++ p 3, 0), (p 2 ++ p 6 ++ p 3, 2), (p 4, 4)] (tMiddle l p) := (tab_either a2 a4).cast (by simp)
  have bo := tab_both mi e1
  have f := (tab_aheadT _ (sr (hp 0).quote) bo 0 3 (by decide) (by lia))
  have s := (tab_aheadT _ (sr (hp 1).quote) e1 0 3 (by decide) (by lia))
  rw [show seg l 0 3 = l by rw [← hl]; exact seg_all l] at f s
  have s6 : IsMin [(quoteRow (row8 p 6), 6), (quoteRow (row8 p 7), 7)] (fun q => 16 * (DN q.1 l : Int) + q.2) (tSecond l p) := by
    have n1 := (hp 1).2.1
    have e : ((([(p 5, 0), (p 6, 1)] : Txs).map fun q => ((quoteRow (p 1)).reverse.reverse ++ q.1, q.2))) = [(quoteRow (row8 p 6), 0), (quoteRow (row8 p 7), 1)] := by
      show _ = [(quoteRow (p 1 ++ p 5), (0 : Int)), (quoteRow (p 1 ++ p 6), 1)]
      rw [quote_app n1, quote_app n1]; simp
    rw [e] at s
    refine IsMin.map (X := [(quoteRow (row8 p 6), 0), (quoteRow (row8 p 7), 1)]) (fun q => (q.1, q.2 + 6)) ?_
    obtain ⟨⟨q, hq, h1⟩, h2⟩ := s
    exact ⟨⟨q, hq, by unfold tSecond; dsimp only at h1 ⊢; lia⟩, fun q hq => by have := h2 q hq; unfold tSecond; dsimp only at this ⊢; lia⟩
  have n0 := (hp 0).2.1
  have e : (([(p 2 ++ p 5 ++ p 3, 0), (p 2 ++ p 6 ++ p 3, 2), (p 4, 4)] : Txs).flatMap fun q => ([(p 5, 0), (p 6, 1)] : Txs).map fun q' => (q.1 ++ q'.1, q.2 + q'.2)).map (fun q => ((quoteRow (p 0)).reverse.reverse ++ q.1, q.2))
      = [(quoteRow (row8 p 0), 0), (quoteRow (row8 p 1), 1), (quoteRow (row8 p 2), 2), (quoteRow (row8 p 3), 3), (quoteRow (row8 p 4), 4), (quoteRow (row8 p 5), 5)] := by
    show _ = [(quoteRow (p 0 ++ (p 2 ++ p 5 ++ p 3) ++ p 5), (0 : Int)), (quoteRow (p 0 ++ (p 2 ++ p 5 ++ p 3) ++ p 6), 1), (quoteRow (p 0 ++ (p 2 ++ p 6 ++ p 3) ++ p 5), 2), (quoteRow (p 0 ++ (p 2 ++ p 6 ++ p 3) ++ p 6), 3), (quoteRow (p 0 ++ p 4 ++ p 5), 4), (quoteRow (p 0 ++ p 4 ++ p 6), 5)]
    simp only [List.append_assoc, quote_app n0]
    simp
  rw [e] at f
  exact f.app s6
/-! the nearest row -/
noncomputable def Found (l : List Nat) (R : Nat → List Nat) (j : Nat) (best : Int) (near : Nat) : Prop := ((near < j ∧ best = DN l (R near)) ∨ (j = 0 ∧ best = 99 ∧ near = 0)) ∧ ∀ k, k < j → best ≤ DN l (R k) ∧ (k < near → best < DN l (R k))
theorem DN_le (s t : List Nat) : DN s t ≤ 2 * s.length + 2 * t.length := by
  have := D_append (w := wN) s [] [] t
  rw [List.append_nil, List.nil_append, D_nil, D_nil_r] at this
  exact this
theorem found0 (l : List Nat) (R : Nat → List Nat) : Found l R 0 99 0 := ⟨.inr ⟨rfl, rfl, rfl⟩, fun k h => nomatch h⟩
theorem found_step {l : List Nat} {R : Nat → List Nat} {j : Nat} {best : Int} {near : Nat} (hl : l.length = 3) (hr : ∀ k, (R k).length ≤ 16) (h : Found l R j best near) :
    (lev l (R j) (best - 1) < best → Found l R (j + 1) (lev l (R j) (best - 1)) j) ∧ (¬ lev l (R j) (best - 1) < best → Found l R (j + 1) best near) := by
  obtain ⟨h1, h2⟩ := h
  have hs := lev_spec (a := l) (b := R j) (best - 1) (by lia) (by have := hr j; lia)
  have hd := DN_le l (R j)
  have hrj := hr j
  constructor
  · intro hb
    have e : lev l (R j) (best - 1) = DN l (R j) := by
      by_cases c : (DN l (R j) : Int) ≤ best - 1
      · exact hs.1 c
      · have := hs.2 (by lia); lia
    rw [e] at hb ⊢
    refine ⟨.inl ⟨Nat.lt_succ_self j, rfl⟩, fun k hk => ?_⟩
    by_cases c : k = j
    · subst c; exact ⟨Int.le_refl _, fun h => absurd h (Nat.lt_irrefl _)⟩
    · have := (h2 k (by lia)).1
      exact ⟨by lia, fun _ => by lia⟩
  · intro hb
    have e : best ≤ DN l (R j) := by
      by_cases c : (DN l (R j) : Int) ≤ best - 1
      · have := hs.1 c; lia
      · lia
    refine ⟨?_, fun k hk => ?_⟩
    · rcases h1 with h1 | h1
      · exact .inl ⟨by lia, h1.2⟩
      · lia
    · by_cases c : k = j
      · subst c
        exact ⟨e, fun h => by rcases h1 with h1 | h1 <;> lia⟩
      · exact h2 k (by lia)
theorem found_min {l : List Nat} {R : Nat → List Nat} {best v : Int} {near : Nat} (h : Found l R 8 best near) (hm : IsMin ((List.range 8).map fun k => (R k, (k : Int))) (fun q => 16 * (DN q.1 l : Int) + q.2) v) : 16 * best + near = v := by
  obtain ⟨h1, h2⟩ := h
  obtain ⟨hn, hb⟩ : near < 8 ∧ best = DN l (R near) := by
    rcases h1 with h1 | h1
    · exact h1
    · exact absurd h1.1 (by decide)
  obtain ⟨⟨q, hq, e⟩, lo⟩ := hm
  obtain ⟨k, hk, rfl⟩ := List.mem_map.mp hq
  have hk := List.mem_range.mp hk
  have := lo _ (List.mem_map.mpr ⟨near, List.mem_range.mpr hn, rfl⟩)
  have h3 := h2 k hk
  have sy : ∀ k, DN (R k) l = DN l (R k) := fun k => D_symm wN_symm _ _
  dsimp only at e this
  rw [sy] at e this
  by_cases c : k < near
  · have := h3.2 c; lia
  · have := h3.1; lia
theorem found_len {l : List Nat} {R : Nat → List Nat} {best : Int} {near : Nat} (hl : l.length = 3) (hr : ∀ k, (R k).length ≤ 16) (h : Found l R 8 best near) :
    near < 8 ∧ lev (R near) l best = best ∧ (best ≠ 2 * (((3 : Int) - (R near).length).natAbs : Int) → lev (R near) l 0 = 1) := by
  obtain ⟨h1, _⟩ := h
  obtain ⟨hn, hb⟩ : near < 8 ∧ best = DN l (R near) := by
    rcases h1 with h1 | h1
    · exact h1
    · exact absurd h1.1 (by decide)
  have sy : DN (R near) l = DN l (R near) := D_symm wN_symm _ _
  have hrn := hr near
  refine ⟨hn, ?_, fun hne => lev_zero (by lia) (by lia) (by rw [sy, hl]; lia) (by rw [sy, hl]; lia)⟩
  have := (lev_spec (a := R near) (b := l) best (by lia) (by lia)).1 (by rw [sy, hb]; exact Int.le_refl _)
  rw [this, sy, hb]
end Mine
end

-- part K5
section
open PySem PySem.Calls PyProof.Rows
set_option linter.unusedSimpArgs false
set_option linter.unusedVariables false
set_option maxRecDepth 100000
namespace Mine

noncomputable def FLw : Fenv := ⟨[], [("quotedata", spQ), ("_levenshtein_distance", spL), ("_law_texts", spTx), ("_law_ahead", spAh), ("_law_behind", spBe), ("_law_either", spEi), ("_law_both", spBo)], [.len, .range, .abs, .isinstance, .int, .bool, .chr, .min], []⟩
noncomputable def ownsL : List Str := ["heaps"]
abbrev nthL (n : Nat) (s : S) : Prop := ∃ st, dLw.body[n]? = some st ∧ TrS FLw dLw.scope (varsOf dLw.scope) ownsL st s
theorem vl : (varsOf dLw.scope).length = 26 := by rfl
theorem compG_via {α β : Type} {pc : β → BP} {pe : β → VP} (g : α → β) : ∀ (l : List α) (K : List V → Prop), compG (fun x => pc (g x)) (fun x => pe (g x)) l K = compG pc pe (l.map g) K
  | [], K => rfl
  | y :: l, K => by
    show (pc (g y) fun b => if b = true then pe (g y) fun u du => du = 0 ∧ compG (fun x => pc (g x)) (fun x => pe (g x)) l (fun us => K (u :: us)) else compG (fun x => pc (g x)) (fun x => pe (g x)) l K) = _
    simp only [compG_via g l]
    rfl
theorem comp2G_map {α β : Type} {pq : V → VP} {pe : V → V → VP} (g : α → V) (g2 : β → V) (l2 : List β) (f : α → β → V) (tq : V) (hoq : iterOk tq) (hiq : itemsV tq = some (l2.map g2)) (hl2 : l2.length ≤ 100) : ∀ (l : List α) (K : List V → Prop),
    (∀ x ∈ l, ∀ Q : V → Nat → Prop, Q tq 0 → pq (g x) Q) → (∀ x ∈ l, ∀ y ∈ l2, ∀ Q : V → Nat → Prop, Q (f x y) 0 → pe (g x) (g2 y) Q) → K (l.flatMap fun x => l2.map (f x)) → comp2G pq pe (l.map g) K
  | [], K, _, _, k => k
  | x :: l, K, h1, h2, k => by
    have ih := comp2G_map (pq := pq) (pe := pe) g g2 l2 f tq hoq hiq hl2 l
    refine h1 x List.mem_cons_self _ ⟨rfl, hoq, _, hiq, by rw [List.length_map]; exact hl2, ?_⟩
    refine (compG_via (pc := fun _ Q => Q true) (pe := pe (g x)) g2 l2 _).mp (compG_map (f x) l2 _ (fun _ _ _ k => k) (fun y hy Q q => h2 x List.mem_cons_self y hy Q q) ?_)
    refine ih _ (fun x hx => h1 x (List.mem_cons_of_mem _ hx)) (fun x hx => h2 x (List.mem_cons_of_mem _ hx)) ?_
    rw [List.flatMap_cons] at k; exact k
section
variable {F : Fenv} {r : Rv} {st : St} {Q : Out → Prop}
theorem Ev.compLM {α : Type} {it c e : E} {i : Nat} {t : V} (g : α → V) (l : List α) (f : α → V) (h : Ev F r it t) (ho : iterOk t) (hi : itemsV t = some (l.map g)) (hl : l.length ≤ 10000)
    (hc : ∀ x ∈ l, Tv F ((i, g x, 0) :: r) c true) (he : ∀ x ∈ l, Ev F ((i, g x, 0) :: r) e (f x)) : Ev F r (.comp it i c e) (.list (l.map f)) := fun Q q =>
  h _ ⟨rfl, ho, _, hi, by rw [List.length_map]; exact hl, (compG_via g l _).mp (compG_map f l (fun us => Q (.list us) 0) (fun v hv K' k => hc v hv _ k) (fun v hv Q k => he v hv _ k) q)⟩
theorem Ev.comp2L {α β : Type} {p q e : E} {i : Nat} {t : V} (g : α → V) (l : List α) (g2 : β → V) (l2 : List β) (f : α → β → V) (tq : V) (h : Ev F r p t) (ho : iterOk t) (hi : itemsV t = some (l.map g)) (hl : l.length ≤ 100)
    (hq : ∀ x ∈ l, Ev F ((i, g x, 0) :: r) q tq) (hoq : iterOk tq) (hiq : itemsV tq = some (l2.map g2)) (hl2 : l2.length ≤ 100) (he : ∀ x ∈ l, ∀ y ∈ l2, Ev F ((i + 1, g2 y, 0) :: (i, g x, 0) :: r) e (f x y)) :
    Ev F r (.comp2 p q i e) (.list (l.flatMap fun x => l2.map (f x))) := fun Q k =>
  h _ ⟨rfl, ho, _, hi, by rw [List.length_map]; exact hl, comp2G_map g g2 l2 f tq hoq hiq hl2 l (fun us => Q (.list us) 0) (fun x hx Q q => hq x hx _ q) (fun x hx y hy Q q => he x hx y hy _ q) k⟩
theorem EvD.atI {α : Type} {f : α → V} {l : List α} {a i : E} {x : Int} {dx di : Nat} (d : α) (h0 : 0 ≤ x) (h1 : x < l.length) (ha : EvD F r a (.list (l.map f)) dx) (hi : EvD F r i (.int x) di) : EvD F r (.idx a i) (f (l.getD x.toNat d)) (dx - 1) := by
  obtain ⟨n, rfl⟩ := Int.eq_ofNat_of_zero_le h0
  rw [Int.toNat_natCast]; exact EvD.at d (by lia) ha hi
theorem Ev.chrI {a i : E} {s : List Nat} {x : Int} {dx di : Nat} (h0 : 0 ≤ x) (h1 : x < s.length) (ha : EvD F r a (.str s) dx) (hi : EvD F r i (.int x) di) : Ev F r (.idx a i) (.str [s.getD x.toNat 0]) := by
  obtain ⟨n, rfl⟩ := Int.eq_ofNat_of_zero_le h0
  rw [Int.toNat_natCast]; exact Ev.sign ha hi (by lia)
theorem S.augAdd_ok {x : Nat} {i e : E} {xs : List V} {j d d' : Nat} {a b : Int} (hx : st.lookup x = some (.own xs)) (hi : EvD F (rd st) i (vN j) d) (hj : j < xs.length) (ha : xs.getD j .none = .int a) (he : EvD F (rd st) e (.int b) d')
    (q : Q (.next ((x, .own (xs.set j (.int (a + b)))) :: st))) : ex1 F (.augS .Add x i e) st Q := by
  exact asOwn_of hx (hi _ ⟨by lia, by lia, by
    rw [Int.toNat_natCast, ha]
    exact ⟨rfl, he _ ⟨rfl, q⟩⟩⟩)
theorem ne_str {a b : E} {x y : List Nat} (ha : Ev F r a (.str x)) (hb : Ev F r b (.str y)) : Tv F r (.cmp .NotEq a b) (!decide (x = y)) := Tv.cmp (EvD.cmp ha hb fun Q q => q)
theorem ne_int {a b : E} {x y : Int} (ha : Ev F r a (.int x)) (hb : Ev F r b (.int y)) : Tv F r (.cmp .NotEq a b) (!decide (x = y)) := Tv.cmp (EvD.cmp ha hb fun Q q => q)
theorem Ev.joinS {a b : E} {sp : List Nat} {l : List (List Nat)} (ha : Ev F r a (.str sp)) (hb : Ev F r b (.list (l.map .str))) (hz : l.flatten.length + l.length * sp.length ≤ 1000000) : Ev F r (.me1 .join a b) (.str (joinL sp l)) :=
  EvD.me1 ha rfl hb fun Q q => by
    show joinW sp (strsOf (l.map .str)) Q
    rw [strsOf_map]; exact ⟨hz, q⟩
theorem Ev.splS {a b : E} {s c : List Nat} {l : List (List Nat)} (ha : Ev F r a (.str s)) (hb : Ev F r b (.str c)) (hc : c ≠ []) (e : splitL s c = l) (hl : l.length ≤ 10000) (hz : ∀ p ∈ l, p.length ≤ 1000000) : Ev F r (.me1 .split a b) (.list (l.map .str)) :=
  EvD.me1 ha rfl hb fun Q q => by
    subst e
    exact ⟨hc, hl, hz, q⟩
theorem ifs_no {t : E} {a : Ss} (h : Tv F (rd st) t false) (q : Q (.next st)) : ex1 F (.ifs t a .nil) st Q := S.ifs_ok h (by rw [if_neg (by decide), exs_nil]; exact q)
end
noncomputable def r7 {α : Type} (f : Nat → α) : List α := [f 0, f 1, f 2, f 3, f 4, f 5, f 6]
noncomputable def r10 (f : Nat → Int) : List Int := [f 0, f 1, f 2, f 3, f 4, f 5, f 6, f 7, f 8, f 9]
theorem r10_of {l : List Int} (h : l.length = 10) : ∃ f, l = r10 f := ⟨fun i => l.getD i 0, by
  show l = (List.range 10).map fun i => l.getD i 0
  refine List.ext_getElem? fun j => ?_
  rw [List.getElem?_map]
  by_cases hj : j < 10
  · rw [List.getElem?_range hj, List.getElem?_eq_getElem (h.symm ▸ hj)]
    show _ = some (l.getD j 0)
    rw [List.getD_eq_getElem?_getD, List.getElem?_eq_getElem (h.symm ▸ hj)]; rfl
  · rw [List.getElem?_eq_none (by rw [h]; exact Nat.not_lt.mp hj), List.getElem?_eq_none (by rw [List.length_range]; exact Nat.not_lt.mp hj)]; rfl⟩
theorem r7_at {α : Type} (f : Nat → α) (d : α) (n : Nat) (h : n < 7) : (r7 f).getD n d = f n := range_getD (n := 7) f h d
theorem r8_at {α : Type} (f : Nat → α) (d : α) (n : Nat) (h : n < 8) : (r8 f).getD n d = f n := range_getD (n := 8) f h d
section
variable {r : Rv} {d : Nat}
theorem at7 {x : Nat} {α : Type} {f : α → V} {t : Nat → α} (h : r.lookup x = some (.list ((r7 t).map f), 0)) (n : Nat) (hn : n < 7) : Ev FLw r ((E.var x).idx (E.lit (V.int (n : Int)))) (f (t n)) := by
  have := EvD.at (F := FLw) (f := f) (l := r7 t) (n := n) (t 0) hn (EvD.var h) (Ev.lit _)
  rwa [r7_at t (t 0) n hn] at this
end
noncomputable def tOf (v : Int) : Int := ([97, 65, 255, 254, 222, 23, 52, 7 + v / 8 % 48] : List Int).getD (v % 8).toNat 0
noncomputable def cOf (v : Int) : Nat := ten.getD (v % 10).toNat 0
theorem tOf_mem (v : Int) : tOf v ∈ tset := by
  unfold tOf
  have h0 : 0 ≤ v % 8 := Int.emod_nonneg _ (by decide)
  have h1 : v % 8 < 8 := Int.emod_lt_of_pos _ (by decide)
  obtain ⟨n, e⟩ := Int.eq_ofNat_of_zero_le h0
  rw [e] at h1 ⊢
  rw [Int.toNat_natCast]
  match n, h1 with
  | 0, _ => exact List.mem_append_left _ (show (97 : Int) ∈ _ by decide)
  | 1, _ => exact List.mem_append_left _ (show (65 : Int) ∈ _ by decide)
  | 2, _ => exact List.mem_append_left _ (show (255 : Int) ∈ _ by decide)
  | 3, _ => exact List.mem_append_left _ (show (254 : Int) ∈ _ by decide)
  | 4, _ => exact List.mem_append_left _ (show (222 : Int) ∈ _ by decide)
  | 5, _ => exact List.mem_append_left _ (show (23 : Int) ∈ _ by decide)
  | 6, _ => exact List.mem_append_left _ (show (52 : Int) ∈ _ by decide)
  | 7, _ =>
    refine List.mem_append_right _ (List.mem_map.mpr ⟨(v / 8 % 48).toNat, List.mem_range.mpr (by lia), ?_⟩)
    show 7 + (((v / 8 % 48).toNat : Nat) : Int) = 7 + v / 8 % 48
    lia
  | n + 8, h => lia
theorem cOf_mem (v : Int) : cOf v ∈ ten := by
  unfold cOf
  have h1 : v % 10 < 10 := Int.emod_lt_of_pos _ (by decide)
  have h0 : 0 ≤ v % 10 := Int.emod_nonneg _ (by decide)
  exact mem_getD _ _ _ (by show (v % 10).toNat < 10; lia)
theorem st0 : ∃ s, nthL 0 s ∧ ∀ st Q, Q (.next ((1, .own (([5, 0, 3, 5, 2, 1, 231, 5, 4, 0] : List Int).map .int)) :: st)) → ex1 FLw s st Q := by
  refine ⟨_, ⟨_, (by with_unfolding_all rfl), (by with_unfolding_all (repeat' (first | ((with_reducible show TrSs _ _ _ _ _ _); first | exact TrSs.nil | refine' TrSs.cons ?_ ?_) | ((with_reducible show TrS _ _ _ _ _ _); first | refine' TrS.popU (by rfl) (by rfl) (by rfl) (by rfl) | refine' TrS.newD (by rfl) | refine' TrS.own2c (n := 4) (by rfl) (by rfl) (by rfl) (fun _ _ => by rfl) (SwT.lc rfl) (by rfl) (by decide) ?_ | refine' TrS.stoD (by rfl) (fun _ _ _ => by rfl) (by rfl) ?_ ?_ | refine' TrS.own (by rfl) (by rfl) (by first | exact fun _ _ _ => rfl | exact SwE.lc rfl) (by rfl) ?_ | refine' TrS.frzA (by rfl) (by rfl) (by rfl) (fun _ _ _ => by rfl) (by rfl) ?_ | refine' TrS.asg (by rfl) (by first | exact fun _ _ _ => rfl | exact SwE.lc rfl) (by rfl) ?_ | refine' TrS.app (by rfl) (by rfl) ?_ | refine' TrS.asgC (SwT.lc rfl) (by rfl) ?_ | refine' TrS.sto2 (fun _ _ _ => by rfl) (by rfl) ?_ ?_ ?_ | refine' TrS.sto (fun _ _ _ => by rfl) (by rfl) ?_ ?_ | refine' TrS.swap (by decide) (by rfl) (by rfl) (by rfl) (by rfl) (by rfl) | refine' TrS.asg2 (by rfl) (by rfl) ?_ | refine' TrS.aug (by rfl) ?_ | refine' TrS.augS (fun _ _ _ => by rfl) (by rfl) ?_ ?_ | refine' TrS.ifs ?_ ?_ ?_ | refine' TrS.whl ?_ ?_ | refine' TrS.fr (fun _ _ => by rfl) (by rfl) ?_ ?_ | refine' TrS.ret ?_) | ((with_reducible show TrE _ _ _ _ _); first | refine' TrE.const (by rfl) | refine' TrE.var (by rfl) (by rfl) (by rfl) (by rfl) | refine' TrE.con (by rfl) (by rfl) (by rfl) | refine' TrE.bin ?_ ?_ | refine' TrE.neg ?_ | refine' TrE.notE ?_ | refine' TrE.cmp (by rfl) ?_ ?_ | refine' TrE.bop ?_ ?_ | refine' TrE.ife ?_ ?_ ?_ | refine' TrE.rev ?_ | refine' TrE.sl ?_ ?_ ?_ | refine' TrE.idx ?_ ?_ | refine' TrE.list ?_ | refine' TrE.tup ?_ | refine' TrE.ofC ?_ | refine' TrE.isI (by rfl) (by rfl) ?_ | refine' TrE.isB (by rfl) (by rfl) ?_ | refine' TrE.callF (by rfl) (by rfl) (by rfl) ?_ ?_ | refine' TrE.callB (by rfl) (by rfl) (by rfl) ?_ ?_ | refine' TrE.sub (by rfl) (by rfl) (by rfl) (by rfl) ?_ ?_ | refine' TrE.me0 (fun _ => by rfl) (by rfl) (by rfl) ?_ | refine' TrE.me1 (fun _ => by rfl) (by rfl) (by rfl) ?_ ?_ | refine' TrE.me2 (fun _ => by rfl) (by rfl) (by rfl) ?_ ?_ ?_) | ((with_reducible show TrC _ _ _ _ _ _ _ _); first | refine' TrC.comp (by rfl) (fun _ _ => by rfl) ?_ ?_ ?_ | refine' TrC.comp2 (by rfl) (by rfl) (fun _ _ => by rfl) (fun _ _ => by rfl) ?_ ?_ ?_) | ((with_reducible show TrEs _ _ _ _ _); first | exact TrEs.nil | refine' TrEs.cons ?_ ?_) | ((with_reducible show TrO _ _ _ _ _); first | exact TrO.none | refine' TrO.some ?_) | ((with_reducible show TrI _ _ _ _ _); first | exact TrI.nil | refine' TrI.one ?_) | ((with_reducible show TrF _ _ _ _ _); first | refine' TrF.list ?_ | refine' TrF.range (by rfl) ?_ ?_) | rfl | exact List.cons_ne_nil _ _)))⟩, ?_⟩
  intro st Q q
  dsimp only [Nat.zero_add, Nat.reduceAdd, toEs, toSs]
  exact S.ownL_ok (.cons (Ev.lit _) (.cons (Ev.lit _) (.cons (Ev.lit _) (.cons (Ev.lit _) (.cons (Ev.lit _) (.cons (Ev.lit _) (.cons (Ev.lit _) (.cons (Ev.lit _) (.cons (Ev.lit _) (.cons (Ev.lit _) .nil)))))))))) ⟨rfl, rfl, rfl, rfl, rfl, rfl, rfl, rfl, rfl, rfl, trivial⟩ (Nat.le_of_ble_eq_true rfl) q
noncomputable def HeapI (ns : List Int) (st : St) : Prop := ∃ hs : List Int, hs.length = 10 ∧ st.lookup 1 = some (.own (hs.map .int)) ∧ st.lookup 0 = some (.val (.list (ns.map .int)))
theorem st1 : ∃ s, nthL 1 s ∧ ∀ (ns : List Int) st Q, ns.length ≤ 1000 → HeapI ns st → (∀ st', HeapI ns st' → Q (.next st')) → ex1 FLw s st Q := by
  refine ⟨_, ⟨_, (by with_unfolding_all rfl), (by with_unfolding_all (repeat' (first | ((with_reducible show TrSs _ _ _ _ _ _); first | exact TrSs.nil | refine' TrSs.cons ?_ ?_) | ((with_reducible show TrS _ _ _ _ _ _); first | refine' TrS.popU (by rfl) (by rfl) (by rfl) (by rfl) | refine' TrS.newD (by rfl) | refine' TrS.own2c (n := 4) (by rfl) (by rfl) (by rfl) (fun _ _ => by rfl) (SwT.lc rfl) (by rfl) (by decide) ?_ | refine' TrS.stoD (by rfl) (fun _ _ _ => by rfl) (by rfl) ?_ ?_ | refine' TrS.own (by rfl) (by rfl) (by first | exact fun _ _ _ => rfl | exact SwE.lc rfl) (by rfl) ?_ | refine' TrS.frzA (by rfl) (by rfl) (by rfl) (fun _ _ _ => by rfl) (by rfl) ?_ | refine' TrS.asg (by rfl) (by first | exact fun _ _ _ => rfl | exact SwE.lc rfl) (by rfl) ?_ | refine' TrS.app (by rfl) (by rfl) ?_ | refine' TrS.asgC (SwT.lc rfl) (by rfl) ?_ | refine' TrS.sto2 (fun _ _ _ => by rfl) (by rfl) ?_ ?_ ?_ | refine' TrS.sto (fun _ _ _ => by rfl) (by rfl) ?_ ?_ | refine' TrS.swap (by decide) (by rfl) (by rfl) (by rfl) (by rfl) (by rfl) | refine' TrS.asg2 (by rfl) (by rfl) ?_ | refine' TrS.aug (by rfl) ?_ | refine' TrS.augS (fun _ _ _ => by rfl) (by rfl) ?_ ?_ | refine' TrS.ifs ?_ ?_ ?_ | refine' TrS.whl ?_ ?_ | refine' TrS.fr (fun _ _ => by rfl) (by rfl) ?_ ?_ | refine' TrS.ret ?_) | ((with_reducible show TrE _ _ _ _ _); first | refine' TrE.const (by rfl) | refine' TrE.var (by rfl) (by rfl) (by rfl) (by rfl) | refine' TrE.con (by rfl) (by rfl) (by rfl) | refine' TrE.bin ?_ ?_ | refine' TrE.neg ?_ | refine' TrE.notE ?_ | refine' TrE.cmp (by rfl) ?_ ?_ | refine' TrE.bop ?_ ?_ | refine' TrE.ife ?_ ?_ ?_ | refine' TrE.rev ?_ | refine' TrE.sl ?_ ?_ ?_ | refine' TrE.idx ?_ ?_ | refine' TrE.list ?_ | refine' TrE.tup ?_ | refine' TrE.ofC ?_ | refine' TrE.isI (by rfl) (by rfl) ?_ | refine' TrE.isB (by rfl) (by rfl) ?_ | refine' TrE.callF (by rfl) (by rfl) (by rfl) ?_ ?_ | refine' TrE.callB (by rfl) (by rfl) (by rfl) ?_ ?_ | refine' TrE.sub (by rfl) (by rfl) (by rfl) (by rfl) ?_ ?_ | refine' TrE.me0 (fun _ => by rfl) (by rfl) (by rfl) ?_ | refine' TrE.me1 (fun _ => by rfl) (by rfl) (by rfl) ?_ ?_ | refine' TrE.me2 (fun _ => by rfl) (by rfl) (by rfl) ?_ ?_ ?_) | ((with_reducible show TrC _ _ _ _ _ _ _ _); first | refine' TrC.comp (by rfl) (fun _ _ => by rfl) ?_ ?_ ?_ | refine' TrC.comp2 (by rfl) (by rfl) (fun _ _ => by rfl) (fun _ _ => by rfl) ?_ ?_ ?_) | ((with_reducible show TrEs _ _ _ _ _); first | exact TrEs.nil | refine' TrEs.cons ?_ ?_) | ((with_reducible show TrO _ _ _ _ _); first | exact TrO.none | refine' TrO.some ?_) | ((with_reducible show TrI _ _ _ _ _); first | exact TrI.nil | refine' TrI.one ?_) | ((with_reducible show TrF _ _ _ _ _); first | refine' TrF.list ?_ | refine' TrF.range (by rfl) ?_ ?_) | rfl | exact List.cons_ne_nil _ _)))⟩, ?_⟩
  intro ns st Q hn H q
  dsimp only [Nat.zero_add, Nat.reduceAdd, toEs, toSs]
  refine S.fr_ok (t := .rng 0 ns.length 1) (items := (List.range ns.length).map vN) (fun _ st' => HeapI ns st') ?_ (rng_ok hn) (rng_items _) H ?_ q
  · obtain ⟨hs, h6, h1, h0⟩ := H
    have := Ev.range (Ev.len (EvD.var (F := FLw) (rd_at h0)))
    rwa [List.length_map] at this
  · clear H q
    rintro j st v hv ⟨hs, h6, h1, h0⟩
    obtain ⟨rfl, hj⟩ := range_at hv
    have g1 : ((2, B.val (vN j)) :: st : St).lookup 1 = some (.own (hs.map .int)) := h1
    have g0 : ((2, B.val (vN j)) :: st : St).lookup 0 = some (.val (.list (ns.map .int))) := h0
    have g2 : ((2, B.val (vN j)) :: st : St).lookup 2 = some (.val (vN j)) := rfl
    generalize ((2, B.val (vN j)) :: st : St) = st at g1 g0 g2 ⊢
    rw [exs_cons]
    have I : Ev FLw (rd st) (E.bin Operator.Mod (E.bin Operator.Mult (E.var 2) (E.lit (V.int 7))) (E.lit (V.int 10))) (vN (j * 7 % 10)) := by
      have := Ev.mod (F := FLw) (x := (j : Int) * 7) (y := 10) (by decide) (Ev.mul (by lia) (EvD.var (rd_at g2)) (Ev.lit _)) (Ev.lit _)
      rwa [show (j : Int) * 7 % 10 = ((j * 7 % 10 : Nat) : Int) by lia] at this
    have A : Ev FLw (rd st) ((E.var 0).idx (E.var 2)) (.int (ns.getD j 0)) := EvD.at (F := FLw) (f := V.int) 0 hj (EvD.var (rd_at g0)) (EvD.var (rd_at g2))
    have hj6 : j * 7 % 10 < hs.length := by lia
    refine S.augAdd_ok g1 I (by rw [List.length_map]; exact hj6) (map_getD V.int hs (j * 7 % 10) 0 .none hj6) (Ev.mod (by decide) A (Ev.lit _)) ?_
    refine contW_nil (loop_next ⟨hs.set (j * 7 % 10) (hs.getD (j * 7 % 10) 0 + ns.getD j 0 % 1000000), by rw [List.length_set]; exact h6, ?_, g0⟩)
    show some (B.own ((hs.map V.int).set (j * 7 % 10) _)) = _
    rw [List.map_set]
theorem st2 : ∃ s, nthL 2 s ∧ ∀ (h : Nat → Int) st Q, st.lookup 1 = some (.own ((r10 h).map .int)) → Q (.next ((3, .val (.list ((r7 fun i => tOf (h i)).map .int))) :: st)) → ex1 FLw s st Q := by
  refine ⟨_, ⟨_, (by with_unfolding_all rfl), (by with_unfolding_all (repeat' (first | ((with_reducible show TrSs _ _ _ _ _ _); first | exact TrSs.nil | refine' TrSs.cons ?_ ?_) | ((with_reducible show TrS _ _ _ _ _ _); first | refine' TrS.popU (by rfl) (by rfl) (by rfl) (by rfl) | refine' TrS.newD (by rfl) | refine' TrS.own2c (n := 4) (by rfl) (by rfl) (by rfl) (fun _ _ => by rfl) (SwT.lc rfl) (by rfl) (by decide) ?_ | refine' TrS.stoD (by rfl) (fun _ _ _ => by rfl) (by rfl) ?_ ?_ | refine' TrS.own (by rfl) (by rfl) (by first | exact fun _ _ _ => rfl | exact SwE.lc rfl) (by rfl) ?_ | refine' TrS.frzA (by rfl) (by rfl) (by rfl) (fun _ _ _ => by rfl) (by rfl) ?_ | refine' TrS.asg (by rfl) (by first | exact fun _ _ _ => rfl | exact SwE.lc rfl) (by rfl) ?_ | refine' TrS.app (by rfl) (by rfl) ?_ | refine' TrS.asgC (SwT.lc rfl) (by rfl) ?_ | refine' TrS.sto2 (fun _ _ _ => by rfl) (by rfl) ?_ ?_ ?_ | refine' TrS.sto (fun _ _ _ => by rfl) (by rfl) ?_ ?_ | refine' TrS.swap (by decide) (by rfl) (by rfl) (by rfl) (by rfl) (by rfl) | refine' TrS.asg2 (by rfl) (by rfl) ?_ | refine' TrS.aug (by rfl) ?_ | refine' TrS.augS (fun _ _ _ => by rfl) (by rfl) ?_ ?_ | refine' TrS.ifs ?_ ?_ ?_ | refine' TrS.whl ?_ ?_ | refine' TrS.fr (fun _ _ => by rfl) (by rfl) ?_ ?_ | refine' TrS.ret ?_) | ((with_reducible show TrE _ _ _ _ _); first | refine' TrE.const (by rfl) | refine' TrE.var (by rfl) (by rfl) (by rfl) (by rfl) | refine' TrE.con (by rfl) (by rfl) (by rfl) | refine' TrE.bin ?_ ?_ | refine' TrE.neg ?_ | refine' TrE.notE ?_ | refine' TrE.cmp (by rfl) ?_ ?_ | refine' TrE.bop ?_ ?_ | refine' TrE.ife ?_ ?_ ?_ | refine' TrE.rev ?_ | refine' TrE.sl ?_ ?_ ?_ | refine' TrE.idx ?_ ?_ | refine' TrE.list ?_ | refine' TrE.tup ?_ | refine' TrE.ofC ?_ | refine' TrE.isI (by rfl) (by rfl) ?_ | refine' TrE.isB (by rfl) (by rfl) ?_ | refine' TrE.callF (by rfl) (by rfl) (by rfl) ?_ ?_ | refine' TrE.callB (by rfl) (by rfl) (by rfl) ?_ ?_ | refine' TrE.sub (by rfl) (by rfl) (by rfl) (by rfl) ?_ ?_ | refine' TrE.me0 (fun _ => by rfl) (by rfl) (by rfl) ?_ | refine' TrE.me1 (fun _ => by rfl) (by rfl) (by rfl) ?_ ?_ | refine' TrE.me2 (fun _ => by rfl) (by rfl) (by rfl) ?_ ?_ ?_) | ((with_reducible show TrC _ _ _ _ _ _ _ _); first | refine' TrC.comp (by rfl) (fun _ _ => by rfl) ?_ ?_ ?_ | refine' TrC.comp2 (by rfl) (by rfl) (fun _ _ => by rfl) (fun _ _ => by rfl) ?_ ?_ ?_) | ((with_reducible show TrEs _ _ _ _ _); first | exact TrEs.nil | refine' TrEs.cons ?_ ?_) | ((with_reducible show TrO _ _ _ _ _); first | exact TrO.none | refine' TrO.some ?_) | ((with_reducible show TrI _ _ _ _ _); first | exact TrI.nil | refine' TrI.one ?_) | ((with_reducible show TrF _ _ _ _ _); first | refine' TrF.list ?_ | refine' TrF.range (by rfl) ?_ ?_) | rfl | exact List.cons_ne_nil _ _)))⟩, ?_⟩
  intro h st Q h1 q
  dsimp only [Nat.zero_add, Nat.reduceAdd, toEs, toSs]
  rw [vl]
  have A : Ev FLw (rd st) ((E.var 1).sl (E.lit V.none) (E.lit (V.int 7))) (.list ((r7 h).map .int)) := EvD.sl (EvD.var (rd_at h1)) (Ev.lit _) (Ev.lit _) fun Q q => ⟨Nat.le_refl 1, q⟩
  refine S.asg_ok (Ev.compLM V.int (r7 h) (fun v => .int (tOf v)) A trivial rfl (Nat.le_of_ble_eq_true rfl) (fun _ _ => Tv.lit true) fun v _ => ?_) q
  have H : Ev FLw ((26, .int v, 0) :: rd st) (E.var 26) (.int v) := EvD.var rfl
  have L := Ev.list (F := FLw) (.cons (Ev.lit (.int 97)) (.cons (Ev.lit (.int 65)) (.cons (Ev.lit (.int 255)) (.cons (Ev.lit (.int 254)) (.cons (Ev.lit (.int 222)) (.cons (Ev.lit (.int 23)) (.cons (Ev.lit (.int 52)) (.cons (Ev.add (Ev.lit (.int 7)) (Ev.mod (y := 48) (by decide) (Ev.div (y := 8) (by decide) (by decide) H (Ev.lit (.int 8))) (Ev.lit (.int 48)))) .nil)))))))) ⟨rfl, rfl, rfl, rfl, rfl, rfl, rfl, rfl, trivial⟩ (Nat.le_of_ble_eq_true rfl)
  exact EvD.atI (f := V.int) (x := v % 8) (l := [97, 65, 255, 254, 222, 23, 52, 7 + v / 8 % 48]) 0 (Int.emod_nonneg _ (by decide)) (show v % 8 < 8 from Int.emod_lt_of_pos _ (by decide)) L (Ev.mod (by decide) H (Ev.lit _))
theorem st3 : ∃ s, nthL 3 s ∧ ∀ (h : Nat → Int) st Q, st.lookup 1 = some (.own ((r10 h).map .int)) → Q (.next ((4, .val (.str [cOf (h 7), cOf (h 8), cOf (h 9)])) :: st)) → ex1 FLw s st Q := by
  refine ⟨_, ⟨_, (by with_unfolding_all rfl), (by with_unfolding_all (repeat' (first | ((with_reducible show TrSs _ _ _ _ _ _); first | exact TrSs.nil | refine' TrSs.cons ?_ ?_) | ((with_reducible show TrS _ _ _ _ _ _); first | refine' TrS.popU (by rfl) (by rfl) (by rfl) (by rfl) | refine' TrS.newD (by rfl) | refine' TrS.own2c (n := 4) (by rfl) (by rfl) (by rfl) (fun _ _ => by rfl) (SwT.lc rfl) (by rfl) (by decide) ?_ | refine' TrS.stoD (by rfl) (fun _ _ _ => by rfl) (by rfl) ?_ ?_ | refine' TrS.own (by rfl) (by rfl) (by first | exact fun _ _ _ => rfl | exact SwE.lc rfl) (by rfl) ?_ | refine' TrS.frzA (by rfl) (by rfl) (by rfl) (fun _ _ _ => by rfl) (by rfl) ?_ | refine' TrS.asg (by rfl) (by first | exact fun _ _ _ => rfl | exact SwE.lc rfl) (by rfl) ?_ | refine' TrS.app (by rfl) (by rfl) ?_ | refine' TrS.asgC (SwT.lc rfl) (by rfl) ?_ | refine' TrS.sto2 (fun _ _ _ => by rfl) (by rfl) ?_ ?_ ?_ | refine' TrS.sto (fun _ _ _ => by rfl) (by rfl) ?_ ?_ | refine' TrS.swap (by decide) (by rfl) (by rfl) (by rfl) (by rfl) (by rfl) | refine' TrS.asg2 (by rfl) (by rfl) ?_ | refine' TrS.aug (by rfl) ?_ | refine' TrS.augS (fun _ _ _ => by rfl) (by rfl) ?_ ?_ | refine' TrS.ifs ?_ ?_ ?_ | refine' TrS.whl ?_ ?_ | refine' TrS.fr (fun _ _ => by rfl) (by rfl) ?_ ?_ | refine' TrS.ret ?_) | ((with_reducible show TrE _ _ _ _ _); first | refine' TrE.const (by rfl) | refine' TrE.var (by rfl) (by rfl) (by rfl) (by rfl) | refine' TrE.con (by rfl) (by rfl) (by rfl) | refine' TrE.bin ?_ ?_ | refine' TrE.neg ?_ | refine' TrE.notE ?_ | refine' TrE.cmp (by rfl) ?_ ?_ | refine' TrE.bop ?_ ?_ | refine' TrE.ife ?_ ?_ ?_ | refine' TrE.rev ?_ | refine' TrE.sl ?_ ?_ ?_ | refine' TrE.idx ?_ ?_ | refine' TrE.list ?_ | refine' TrE.tup ?_ | refine' TrE.ofC ?_ | refine' TrE.isI (by rfl) (by rfl) ?_ | refine' TrE.isB (by rfl) (by rfl) ?_ | refine' TrE.callF (by rfl) (by rfl) (by rfl) ?_ ?_ | refine' TrE.callB (by rfl) (by rfl) (by rfl) ?_ ?_ | refine' TrE.sub (by rfl) (by rfl) (by rfl) (by rfl) ?_ ?_ | refine' TrE.me0 (fun _ => by rfl) (by rfl) (by rfl) ?_ | refine' TrE.me1 (fun _ => by rfl) (by rfl) (by rfl) ?_ ?_ | refine' TrE.me2 (fun _ => by rfl) (by rfl) (by rfl) ?_ ?_ ?_) | ((with_reducible show TrC _ _ _ _ _ _ _ _); first | refine' TrC.comp (by rfl) (fun _ _ => by rfl) ?_ ?_ ?_ | refine' TrC.comp2 (by rfl) (by rfl) (fun _ _ => by rfl) (fun _ _ => by rfl) ?_ ?_ ?_) | ((with_reducible show TrEs _ _ _ _ _); first | exact TrEs.nil | refine' TrEs.cons ?_ ?_) | ((with_reducible show TrO _ _ _ _ _); first | exact TrO.none | refine' TrO.some ?_) | ((with_reducible show TrI _ _ _ _ _); first | exact TrI.nil | refine' TrI.one ?_) | ((with_reducible show TrF _ _ _ _ _); first | refine' TrF.list ?_ | refine' TrF.range (by rfl) ?_ ?_) | rfl | exact List.cons_ne_nil _ _)))⟩, ?_⟩
  intro h st Q h1 q
  dsimp only [Nat.zero_add, Nat.reduceAdd, toEs, toSs]
  rw [vl]
  have A : Ev FLw (rd st) ((E.var 1).sl (E.lit (V.int 7)) (E.lit V.none)) (.list (([h 7, h 8, h 9] : List Int).map .int)) := EvD.sl (EvD.var (rd_at h1)) (Ev.lit _) (Ev.lit _) fun Q q => ⟨Nat.le_refl 1, q⟩
  refine S.asg_ok (Ev.joinS (sp := []) (l := [[cOf (h 7)], [cOf (h 8)], [cOf (h 9)]]) (Ev.lit _) (Ev.compLM V.int [h 7, h 8, h 9] (fun v => .str [cOf v]) A trivial rfl (Nat.le_of_ble_eq_true rfl) (fun _ _ => Tv.lit true) fun v _ => ?_) (Nat.le_of_ble_eq_true rfl)) q
  have H : Ev FLw ((26, .int v, 0) :: rd st) (E.var 26) (.int v) := EvD.var rfl
  exact Ev.chrI (x := v % 10) (s := ten) (Int.emod_nonneg _ (by decide)) (show v % 10 < 10 from Int.emod_lt_of_pos _ (by decide)) (Ev.lit _) (Ev.mod (y := 10) (by decide) H (Ev.lit _))
end Mine
end

-- part K6
section
open PySem PySem.Calls PyProof.Rows
set_option linter.unusedSimpArgs false
set_option linter.unusedVariables false
set_option maxRecDepth 100000
namespace Mine

noncomputable def ruleR (t : Nat → Int) : Nat → List Int × List Int
  | 0 => ([t 0, 257, 258], [t 1, 258])
  | 1 => ([t 2, 258, t 3], [t 4])
  | _ => ([t 5], [t 6])
theorem gram {t : Nat → Int} (ht : ∀ i, 0 < t i ∧ t i < 256) : ∃ n, G (ruleR t) n [256, 0] (r8 (row8 fun i => wordL (t i))) ∧ n ≤ 1000 := by
  have T : ∀ i {n r ws}, G (ruleR t) n r ws → G (ruleR t) (n + 1) (t i :: r) (ws.map (wordL (t i) ++ ·)) := fun i n r ws h => .term (ht i).1 (ht i).2 h
  have g58 : ∀ {n r ws}, G (ruleR t) n r ws → G (ruleR t) (n + 1 + (n + 1) + 1) (258 :: r) (ws.map (wordL (t 5) ++ ·) ++ ws.map (wordL (t 6) ++ ·)) := fun h => G.non (k := 2) (by decide) (T 5 h) (T 6 h)
  have g1 := g58 (G.eof (R := ruleR t))
  have g2 := G.non (k := 1) (by decide) (T 2 (g58 (T 3 g1))) (T 4 g1)
  have g3 := G.non (k := 0) (by decide) (T 0 g2) (T 1 g1)
  have e : ∀ {a b : List (List Nat)}, a = b → G (ruleR t) 31 [256, 0] a → G (ruleR t) 31 [256, 0] b := fun e h => e ▸ h
  refine ⟨31, e ?_ g3, by decide⟩
  unfold r8 row8
  simp
section
variable {t : Nat → Int} {p w : Nat → List Nat} {r : Rv} {st : St} {Q : Out → Prop}
theorem t7 (h : r.lookup 3 = some (.list ((r7 t).map .int), 0)) (n : Nat) (hn : n < 7) : Ev FLw r ((E.var 3).idx (E.lit (V.int (n : Int)))) (.int (t n)) := at7 h n hn
theorem p7 (h : r.lookup 10 = some (.list ((r7 p).map .str), 0)) (n : Nat) (hn : n < 7) : Ev FLw r ((E.var 10).idx (E.lit (V.int (n : Int)))) (.str (p n)) := at7 h n hn
end
theorem st4 : ∃ s, nthL 4 s ∧ ∀ (t : Nat → Int) st Q, st.lookup 3 = some (.val (.list ((r7 t).map .int))) → Q (.next ((5, .val (rulesV (ruleR t))) :: st)) → ex1 FLw s st Q := by
  refine ⟨_, ⟨_, (by with_unfolding_all rfl), (by with_unfolding_all (repeat' (first | ((with_reducible show TrSs _ _ _ _ _ _); first | exact TrSs.nil | refine' TrSs.cons ?_ ?_) | ((with_reducible show TrS _ _ _ _ _ _); first | refine' TrS.popU (by rfl) (by rfl) (by rfl) (by rfl) | refine' TrS.newD (by rfl) | refine' TrS.own2c (n := 4) (by rfl) (by rfl) (by rfl) (fun _ _ => by rfl) (SwT.lc rfl) (by rfl) (by decide) ?_ | refine' TrS.stoD (by rfl) (fun _ _ _ => by rfl) (by rfl) ?_ ?_ | refine' TrS.own (by rfl) (by rfl) (by first | exact fun _ _ _ => rfl | exact SwE.lc rfl) (by rfl) ?_ | refine' TrS.frzA (by rfl) (by rfl) (by rfl) (fun _ _ _ => by rfl) (by rfl) ?_ | refine' TrS.asg (by rfl) (by first | exact fun _ _ _ => rfl | exact SwE.lc rfl) (by rfl) ?_ | refine' TrS.app (by rfl) (by rfl) ?_ | refine' TrS.asgC (SwT.lc rfl) (by rfl) ?_ | refine' TrS.sto2 (fun _ _ _ => by rfl) (by rfl) ?_ ?_ ?_ | refine' TrS.sto (fun _ _ _ => by rfl) (by rfl) ?_ ?_ | refine' TrS.swap (by decide) (by rfl) (by rfl) (by rfl) (by rfl) (by rfl) | refine' TrS.asg2 (by rfl) (by rfl) ?_ | refine' TrS.aug (by rfl) ?_ | refine' TrS.augS (fun _ _ _ => by rfl) (by rfl) ?_ ?_ | refine' TrS.ifs ?_ ?_ ?_ | refine' TrS.whl ?_ ?_ | refine' TrS.fr (fun _ _ => by rfl) (by rfl) ?_ ?_ | refine' TrS.ret ?_) | ((with_reducible show TrE _ _ _ _ _); first | refine' TrE.const (by rfl) | refine' TrE.var (by rfl) (by rfl) (by rfl) (by rfl) | refine' TrE.con (by rfl) (by rfl) (by rfl) | refine' TrE.bin ?_ ?_ | refine' TrE.neg ?_ | refine' TrE.notE ?_ | refine' TrE.cmp (by rfl) ?_ ?_ | refine' TrE.bop ?_ ?_ | refine' TrE.ife ?_ ?_ ?_ | refine' TrE.rev ?_ | refine' TrE.sl ?_ ?_ ?_ | refine' TrE.idx ?_ ?_ | refine' TrE.list ?_ | refine' TrE.tup ?_ | refine' TrE.ofC ?_ | refine' TrE.isI (by rfl) (by rfl) ?_ | refine' TrE.isB (by rfl) (by rfl) ?_ | refine' TrE.callF (by rfl) (by rfl) (by rfl) ?_ ?_ | refine' TrE.callB (by rfl) (by rfl) (by rfl) ?_ ?_ | refine' TrE.sub (by rfl) (by rfl) (by rfl) (by rfl) ?_ ?_ | refine' TrE.me0 (fun _ => by rfl) (by rfl) (by rfl) ?_ | refine' TrE.me1 (fun _ => by rfl) (by rfl) (by rfl) ?_ ?_ | refine' TrE.me2 (fun _ => by rfl) (by rfl) (by rfl) ?_ ?_ ?_) | ((with_reducible show TrC _ _ _ _ _ _ _ _); first | refine' TrC.comp (by rfl) (fun _ _ => by rfl) ?_ ?_ ?_ | refine' TrC.comp2 (by rfl) (by rfl) (fun _ _ => by rfl) (fun _ _ => by rfl) ?_ ?_ ?_) | ((with_reducible show TrEs _ _ _ _ _); first | exact TrEs.nil | refine' TrEs.cons ?_ ?_) | ((with_reducible show TrO _ _ _ _ _); first | exact TrO.none | refine' TrO.some ?_) | ((with_reducible show TrI _ _ _ _ _); first | exact TrI.nil | refine' TrI.one ?_) | ((with_reducible show TrF _ _ _ _ _); first | refine' TrF.list ?_ | refine' TrF.range (by rfl) ?_ ?_) | rfl | exact List.cons_ne_nil _ _)))⟩, ?_⟩
  intro t st Q h3 q
  dsimp only [Nat.zero_add, Nat.reduceAdd, toEs, toSs]
  have T := t7 (rd_at h3)
  have l1 : ∀ {a : E} {x : Int}, Ev FLw (rd st) a (.int x) → Ev FLw (rd st) (.list (.cons a .nil)) (bodyV [x]) := fun h => Ev.list (.cons h .nil) ⟨rfl, trivial⟩ (Nat.le_of_ble_eq_true rfl)
  have l2 : ∀ {a b : E} {x y : Int}, Ev FLw (rd st) a (.int x) → Ev FLw (rd st) b (.int y) → Ev FLw (rd st) (.list (.cons a (.cons b .nil))) (bodyV [x, y]) := fun h h' => Ev.list (.cons h (.cons h' .nil)) ⟨rfl, rfl, trivial⟩ (Nat.le_of_ble_eq_true rfl)
  have l3 : ∀ {a b c : E} {x y z : Int}, Ev FLw (rd st) a (.int x) → Ev FLw (rd st) b (.int y) → Ev FLw (rd st) c (.int z) → Ev FLw (rd st) (.list (.cons a (.cons b (.cons c .nil)))) (bodyV [x, y, z]) := fun h h' h2 => Ev.list (.cons h (.cons h' (.cons h2 .nil))) ⟨rfl, rfl, rfl, trivial⟩ (Nat.le_of_ble_eq_true rfl)
  have pr : ∀ {a b : E} {x y : V}, Ev FLw (rd st) a x → Ev FLw (rd st) b y → Ev FLw (rd st) (.list (.cons a (.cons b .nil))) (.list [x, y]) := fun h h' => Ev.list (.cons h (.cons h' .nil)) ⟨rfl, rfl, trivial⟩ (Nat.le_of_ble_eq_true rfl)
  exact S.asg_ok (Ev.list (.cons (pr (l3 (T 0 (by decide)) (Ev.lit _) (Ev.lit _)) (l2 (T 1 (by decide)) (Ev.lit _))) (.cons (pr (l3 (T 2 (by decide)) (Ev.lit _) (T 3 (by decide))) (l1 (T 4 (by decide)))) (.cons (pr (l1 (T 5 (by decide))) (l1 (T 6 (by decide)))) .nil))) ⟨rfl, rfl, rfl, trivial⟩ (Nat.le_of_ble_eq_true rfl)) q
theorem st5 : ∃ s, nthL 5 s ∧ ∀ (t : Nat → Int) st Q, (∀ i, 0 < t i ∧ t i < 256) → st.lookup 5 = some (.val (rulesV (ruleR t))) → Q (.next ((6, .val (.list ((r8 (row8 fun i => wordL (t i))).map .str))) :: st)) → ex1 FLw s st Q := by
  refine ⟨_, ⟨_, (by with_unfolding_all rfl), (by with_unfolding_all (repeat' (first | ((with_reducible show TrSs _ _ _ _ _ _); first | exact TrSs.nil | refine' TrSs.cons ?_ ?_) | ((with_reducible show TrS _ _ _ _ _ _); first | refine' TrS.popU (by rfl) (by rfl) (by rfl) (by rfl) | refine' TrS.newD (by rfl) | refine' TrS.own2c (n := 4) (by rfl) (by rfl) (by rfl) (fun _ _ => by rfl) (SwT.lc rfl) (by rfl) (by decide) ?_ | refine' TrS.stoD (by rfl) (fun _ _ _ => by rfl) (by rfl) ?_ ?_ | refine' TrS.own (by rfl) (by rfl) (by first | exact fun _ _ _ => rfl | exact SwE.lc rfl) (by rfl) ?_ | refine' TrS.frzA (by rfl) (by rfl) (by rfl) (fun _ _ _ => by rfl) (by rfl) ?_ | refine' TrS.asg (by rfl) (by first | exact fun _ _ _ => rfl | exact SwE.lc rfl) (by rfl) ?_ | refine' TrS.app (by rfl) (by rfl) ?_ | refine' TrS.asgC (SwT.lc rfl) (by rfl) ?_ | refine' TrS.sto2 (fun _ _ _ => by rfl) (by rfl) ?_ ?_ ?_ | refine' TrS.sto (fun _ _ _ => by rfl) (by rfl) ?_ ?_ | refine' TrS.swap (by decide) (by rfl) (by rfl) (by rfl) (by rfl) (by rfl) | refine' TrS.asg2 (by rfl) (by rfl) ?_ | refine' TrS.aug (by rfl) ?_ | refine' TrS.augS (fun _ _ _ => by rfl) (by rfl) ?_ ?_ | refine' TrS.ifs ?_ ?_ ?_ | refine' TrS.whl ?_ ?_ | refine' TrS.fr (fun _ _ => by rfl) (by rfl) ?_ ?_ | refine' TrS.ret ?_) | ((with_reducible show TrE _ _ _ _ _); first | refine' TrE.const (by rfl) | refine' TrE.var (by rfl) (by rfl) (by rfl) (by rfl) | refine' TrE.con (by rfl) (by rfl) (by rfl) | refine' TrE.bin ?_ ?_ | refine' TrE.neg ?_ | refine' TrE.notE ?_ | refine' TrE.cmp (by rfl) ?_ ?_ | refine' TrE.bop ?_ ?_ | refine' TrE.ife ?_ ?_ ?_ | refine' TrE.rev ?_ | refine' TrE.sl ?_ ?_ ?_ | refine' TrE.idx ?_ ?_ | refine' TrE.list ?_ | refine' TrE.tup ?_ | refine' TrE.ofC ?_ | refine' TrE.isI (by rfl) (by rfl) ?_ | refine' TrE.isB (by rfl) (by rfl) ?_ | refine' TrE.callF (by rfl) (by rfl) (by rfl) ?_ ?_ | refine' TrE.callB (by rfl) (by rfl) (by rfl) ?_ ?_ | refine' TrE.sub (by rfl) (by rfl) (by rfl) (by rfl) ?_ ?_ | refine' TrE.me0 (fun _ => by rfl) (by rfl) (by rfl) ?_ | refine' TrE.me1 (fun _ => by rfl) (by rfl) (by rfl) ?_ ?_ | refine' TrE.me2 (fun _ => by rfl) (by rfl) (by rfl) ?_ ?_ ?_) | ((with_reducible show TrC _ _ _ _ _ _ _ _); first | refine' TrC.comp (by rfl) (fun _ _ => by rfl) ?_ ?_ ?_ | refine' TrC.comp2 (by rfl) (by rfl) (fun _ _ => by rfl) (fun _ _ => by rfl) ?_ ?_ ?_) | ((with_reducible show TrEs _ _ _ _ _); first | exact TrEs.nil | refine' TrEs.cons ?_ ?_) | ((with_reducible show TrO _ _ _ _ _); first | exact TrO.none | refine' TrO.some ?_) | ((with_reducible show TrI _ _ _ _ _); first | exact TrI.nil | refine' TrI.one ?_) | ((with_reducible show TrF _ _ _ _ _); first | refine' TrF.list ?_ | refine' TrF.range (by rfl) ?_ ?_) | rfl | exact List.cons_ne_nil _ _)))⟩, ?_⟩
  intro t st Q ht h5 q
  dsimp only [Nat.zero_add, Nat.reduceAdd, toEs, toSs]
  obtain ⟨n, hg, hn⟩ := gram ht
  exact S.asg_ok (Ev.call (.cons (EvD.var (rd_at h5)) .nil) ⟨rfl, trivial⟩ fun Q q => ⟨ruleR t, n, _, rfl, hg, hn, q⟩) q
theorem st6 : ∃ s, nthL 6 s ∧ ∀ st Q, Q (.next ((7, .val (.list (([0, 1, 2] : List Nat).map fun k => .str (ndX k)))) :: st)) → ex1 FLw s st Q := by
  refine ⟨_, ⟨_, (by with_unfolding_all rfl), (by with_unfolding_all (repeat' (first | ((with_reducible show TrSs _ _ _ _ _ _); first | exact TrSs.nil | refine' TrSs.cons ?_ ?_) | ((with_reducible show TrS _ _ _ _ _ _); first | refine' TrS.popU (by rfl) (by rfl) (by rfl) (by rfl) | refine' TrS.newD (by rfl) | refine' TrS.own2c (n := 4) (by rfl) (by rfl) (by rfl) (fun _ _ => by rfl) (SwT.lc rfl) (by rfl) (by decide) ?_ | refine' TrS.stoD (by rfl) (fun _ _ _ => by rfl) (by rfl) ?_ ?_ | refine' TrS.own (by rfl) (by rfl) (by first | exact fun _ _ _ => rfl | exact SwE.lc rfl) (by rfl) ?_ | refine' TrS.frzA (by rfl) (by rfl) (by rfl) (fun _ _ _ => by rfl) (by rfl) ?_ | refine' TrS.asg (by rfl) (by first | exact fun _ _ _ => rfl | exact SwE.lc rfl) (by rfl) ?_ | refine' TrS.app (by rfl) (by rfl) ?_ | refine' TrS.asgC (SwT.lc rfl) (by rfl) ?_ | refine' TrS.sto2 (fun _ _ _ => by rfl) (by rfl) ?_ ?_ ?_ | refine' TrS.sto (fun _ _ _ => by rfl) (by rfl) ?_ ?_ | refine' TrS.swap (by decide) (by rfl) (by rfl) (by rfl) (by rfl) (by rfl) | refine' TrS.asg2 (by rfl) (by rfl) ?_ | refine' TrS.aug (by rfl) ?_ | refine' TrS.augS (fun _ _ _ => by rfl) (by rfl) ?_ ?_ | refine' TrS.ifs ?_ ?_ ?_ | refine' TrS.whl ?_ ?_ | refine' TrS.fr (fun _ _ => by rfl) (by rfl) ?_ ?_ | refine' TrS.ret ?_) | ((with_reducible show TrE _ _ _ _ _); first | refine' TrE.const (by rfl) | refine' TrE.var (by rfl) (by rfl) (by rfl) (by rfl) | refine' TrE.con (by rfl) (by rfl) (by rfl) | refine' TrE.bin ?_ ?_ | refine' TrE.neg ?_ | refine' TrE.notE ?_ | refine' TrE.cmp (by rfl) ?_ ?_ | refine' TrE.bop ?_ ?_ | refine' TrE.ife ?_ ?_ ?_ | refine' TrE.rev ?_ | refine' TrE.sl ?_ ?_ ?_ | refine' TrE.idx ?_ ?_ | refine' TrE.list ?_ | refine' TrE.tup ?_ | refine' TrE.ofC ?_ | refine' TrE.isI (by rfl) (by rfl) ?_ | refine' TrE.isB (by rfl) (by rfl) ?_ | refine' TrE.callF (by rfl) (by rfl) (by rfl) ?_ ?_ | refine' TrE.callB (by rfl) (by rfl) (by rfl) ?_ ?_ | refine' TrE.sub (by rfl) (by rfl) (by rfl) (by rfl) ?_ ?_ | refine' TrE.me0 (fun _ => by rfl) (by rfl) (by rfl) ?_ | refine' TrE.me1 (fun _ => by rfl) (by rfl) (by rfl) ?_ ?_ | refine' TrE.me2 (fun _ => by rfl) (by rfl) (by rfl) ?_ ?_ ?_) | ((with_reducible show TrC _ _ _ _ _ _ _ _); first | refine' TrC.comp (by rfl) (fun _ _ => by rfl) ?_ ?_ ?_ | refine' TrC.comp2 (by rfl) (by rfl) (fun _ _ => by rfl) (fun _ _ => by rfl) ?_ ?_ ?_) | ((with_reducible show TrEs _ _ _ _ _); first | exact TrEs.nil | refine' TrEs.cons ?_ ?_) | ((with_reducible show TrO _ _ _ _ _); first | exact TrO.none | refine' TrO.some ?_) | ((with_reducible show TrI _ _ _ _ _); first | exact TrI.nil | refine' TrI.one ?_) | ((with_reducible show TrF _ _ _ _ _); first | refine' TrF.list ?_ | refine' TrF.range (by rfl) ?_ ?_) | rfl | exact List.cons_ne_nil _ _)))⟩, ?_⟩
  intro st Q q
  dsimp only [Nat.zero_add, Nat.reduceAdd, toEs, toSs]
  exact S.asg_ok (Ev.list (.cons (Ev.lit _) (.cons (Ev.lit _) (.cons (Ev.lit _) .nil))) ⟨rfl, rfl, rfl, trivial⟩ (Nat.le_of_ble_eq_true rfl)) q
/-! the mail -/
noncomputable def mailR (w : Nat → List Nat) : List (List Nat × Nat) := [([], 0), ([46], 1), ([], 1), (w 0, 0), (w 1, 1), (w 2, 2), (w 3, 0), (w 4, 1), (w 5, 2), (w 6, 0)]
theorem head_ne {w : List Nat} (h : w ≠ []) (hn : noNl w) (t : List Nat) : (w ++ t).head? ≠ some 10 := by
  cases w with
  | nil => exact absurd rfl h
  | cons c w => exact fun e => (hn c List.mem_cons_self).2 (Option.some.inj e)
theorem mailR_ok {w : Nat → List Nat} (h : ∀ k, Wl 15 (w k)) : okM (mailR w) (w 7) := by
  have n : ∀ k, noNl (w k) := fun k => (h k).2.2.2
  have hd : ∀ k t, (w k ++ t).head? ≠ some 10 := fun k t => head_ne (h k).2.1 (n k) t
  have n0 : noNl [] := fun c hc => nomatch hc
  refine ⟨n0, (show (some 46 : Option Nat) ≠ some 10 by decide), ⟨fun c hc => by rw [List.mem_singleton.mp hc]; decide, (show (some 13 : Option Nat) ≠ some 10 by decide), ⟨n0, hd 0 _, ⟨n 0, hd 1 _, ⟨n 1, hd 2 _, ⟨n 2, hd 3 _, ⟨n 3, hd 4 _, ⟨n 4, hd 5 _, ⟨n 5, hd 6 _, ⟨n 6, ?_, n 7⟩⟩⟩⟩⟩⟩⟩⟩⟩⟩
  have := hd 7 []
  rwa [List.append_nil] at this
noncomputable def inL (w : Nat → List Nat) : List (List Nat) := (List.range 8).map fun n => w n ++ ndX (n % 3)
theorem inL_flat (w : Nat → List Nat) : ∃ u, (inL w).flatten = u ++ [13] ∧ [10, 46, 13, 13] ++ u = mailL (mailR w) (w 7) := by
  refine ⟨w 0 ++ ([10] ++ (w 1 ++ ([13] ++ (w 2 ++ ([13, 10] ++ (w 3 ++ ([10] ++ (w 4 ++ ([13] ++ (w 5 ++ ([13, 10] ++ (w 6 ++ ([10] ++ w 7))))))))))))), ?_, rfl⟩
  show (w 0 ++ [10]) ++ ((w 1 ++ [13]) ++ ((w 2 ++ [13, 10]) ++ ((w 3 ++ [10]) ++ ((w 4 ++ [13]) ++ ((w 5 ++ [13, 10]) ++ ((w 6 ++ [10]) ++ ((w 7 ++ [13]) ++ []))))))) = _
  simp only [List.append_assoc, List.append_nil]
theorem flatn_len {n : Nat} : ∀ {l : List (List Nat)}, (∀ x ∈ l, x.length ≤ n) → l.flatten.length ≤ n * l.length
  | [], _ => Nat.zero_le _
  | x :: l, h => by
    have := flatn_len fun y hy => h y (List.mem_cons_of_mem x hy)
    have := h x List.mem_cons_self
    rw [List.flatten_cons, List.length_append, List.length_cons, Nat.mul_succ]; lia
theorem inL_len {w : Nat → List Nat} (h : ∀ k, Wl 15 (w k)) : (inL w).flatten.length ≤ 17 * 8 := flatn_len fun x hx => by
  obtain ⟨n, _, rfl⟩ := List.mem_map.mp hx
  have h1 := (h n).1
  have h2 : (ndX (n % 3)).length ≤ 2 := by unfold ndX; split <;> decide
  rw [List.length_append]; lia
theorem st7 : ∃ s, nthL 7 s ∧ ∀ (w : Nat → List Nat) st Q, (∀ k, Wl 15 (w k)) → st.lookup 6 = some (.val (.list ((r8 w).map .str))) → st.lookup 7 = some (.val (.list (([0, 1, 2] : List Nat).map fun k => .str (ndX k)))) →
    Q (.next ((8, .val (.str (mailQ (mailR w) (w 7)))) :: st)) → ex1 FLw s st Q := by
  refine ⟨_, ⟨_, (by with_unfolding_all rfl), (by with_unfolding_all (repeat' (first | ((with_reducible show TrSs _ _ _ _ _ _); first | exact TrSs.nil | refine' TrSs.cons ?_ ?_) | ((with_reducible show TrS _ _ _ _ _ _); first | refine' TrS.popU (by rfl) (by rfl) (by rfl) (by rfl) | refine' TrS.newD (by rfl) | refine' TrS.own2c (n := 4) (by rfl) (by rfl) (by rfl) (fun _ _ => by rfl) (SwT.lc rfl) (by rfl) (by decide) ?_ | refine' TrS.stoD (by rfl) (fun _ _ _ => by rfl) (by rfl) ?_ ?_ | refine' TrS.own (by rfl) (by rfl) (by first | exact fun _ _ _ => rfl | exact SwE.lc rfl) (by rfl) ?_ | refine' TrS.frzA (by rfl) (by rfl) (by rfl) (fun _ _ _ => by rfl) (by rfl) ?_ | refine' TrS.asg (by rfl) (by first | exact fun _ _ _ => rfl | exact SwE.lc rfl) (by rfl) ?_ | refine' TrS.app (by rfl) (by rfl) ?_ | refine' TrS.asgC (SwT.lc rfl) (by rfl) ?_ | refine' TrS.sto2 (fun _ _ _ => by rfl) (by rfl) ?_ ?_ ?_ | refine' TrS.sto (fun _ _ _ => by rfl) (by rfl) ?_ ?_ | refine' TrS.swap (by decide) (by rfl) (by rfl) (by rfl) (by rfl) (by rfl) | refine' TrS.asg2 (by rfl) (by rfl) ?_ | refine' TrS.aug (by rfl) ?_ | refine' TrS.augS (fun _ _ _ => by rfl) (by rfl) ?_ ?_ | refine' TrS.ifs ?_ ?_ ?_ | refine' TrS.whl ?_ ?_ | refine' TrS.fr (fun _ _ => by rfl) (by rfl) ?_ ?_ | refine' TrS.ret ?_) | ((with_reducible show TrE _ _ _ _ _); first | refine' TrE.const (by rfl) | refine' TrE.var (by rfl) (by rfl) (by rfl) (by rfl) | refine' TrE.con (by rfl) (by rfl) (by rfl) | refine' TrE.bin ?_ ?_ | refine' TrE.neg ?_ | refine' TrE.notE ?_ | refine' TrE.cmp (by rfl) ?_ ?_ | refine' TrE.bop ?_ ?_ | refine' TrE.ife ?_ ?_ ?_ | refine' TrE.rev ?_ | refine' TrE.sl ?_ ?_ ?_ | refine' TrE.idx ?_ ?_ | refine' TrE.list ?_ | refine' TrE.tup ?_ | refine' TrE.ofC ?_ | refine' TrE.isI (by rfl) (by rfl) ?_ | refine' TrE.isB (by rfl) (by rfl) ?_ | refine' TrE.callF (by rfl) (by rfl) (by rfl) ?_ ?_ | refine' TrE.callB (by rfl) (by rfl) (by rfl) ?_ ?_ | refine' TrE.sub (by rfl) (by rfl) (by rfl) (by rfl) ?_ ?_ | refine' TrE.me0 (fun _ => by rfl) (by rfl) (by rfl) ?_ | refine' TrE.me1 (fun _ => by rfl) (by rfl) (by rfl) ?_ ?_ | refine' TrE.me2 (fun _ => by rfl) (by rfl) (by rfl) ?_ ?_ ?_) | ((with_reducible show TrC _ _ _ _ _ _ _ _); first | refine' TrC.comp (by rfl) (fun _ _ => by rfl) ?_ ?_ ?_ | refine' TrC.comp2 (by rfl) (by rfl) (fun _ _ => by rfl) (fun _ _ => by rfl) ?_ ?_ ?_) | ((with_reducible show TrEs _ _ _ _ _); first | exact TrEs.nil | refine' TrEs.cons ?_ ?_) | ((with_reducible show TrO _ _ _ _ _); first | exact TrO.none | refine' TrO.some ?_) | ((with_reducible show TrI _ _ _ _ _); first | exact TrI.nil | refine' TrI.one ?_) | ((with_reducible show TrF _ _ _ _ _); first | refine' TrF.list ?_ | refine' TrF.range (by rfl) ?_ ?_) | rfl | exact List.cons_ne_nil _ _)))⟩, ?_⟩
  intro w st Q hw h6 h7 q
  dsimp only [Nat.zero_add, Nat.reduceAdd, toEs, toSs]
  rw [vl]
  have hR : Ev FLw (rd st) (E.bi Bi.range (Es.cons (E.bi Bi.len (Es.cons (E.var 6) Es.nil)) Es.nil)) (.rng 0 8 1) := Ev.range (n := 8) (Ev.len (EvD.var (rd_at h6)))
  have C : Ev FLw (rd st) ((E.bi Bi.range (Es.cons (E.bi Bi.len (Es.cons (E.var 6) Es.nil)) Es.nil)).comp 26 (E.lit (V.bool true)) (E.bin Operator.Add ((E.var 6).idx (E.var 26)) ((E.var 7).idx (E.bin Operator.Mod (E.var 26) (E.lit (V.int 3)))))) (.list ((inL w).map .str)) := by
    have := Ev.compLM (F := FLw) vN (List.range 8) (fun n => .str (w n ++ ndX (n % 3))) (c := E.lit (V.bool true)) (i := 26) (e := E.bin Operator.Add ((E.var 6).idx (E.var 26)) ((E.var 7).idx (E.bin Operator.Mod (E.var 26) (E.lit (V.int 3))))) hR (rng_ok (n := 8) (by decide)) (rng_items 8) (by decide) (fun _ _ => Tv.lit true) fun n hn => ?_
    · unfold inL; rw [List.map_map]; exact this
    · have hn := List.mem_range.mp hn
      have h6' : ((26, vN n, 0) :: rd st).lookup 6 = some (.list ((r8 w).map .str), 0) := rd_at h6
      have h7' : ((26, vN n, 0) :: rd st).lookup 7 = some (.list (([0, 1, 2] : List Nat).map fun k => .str (ndX k)), 0) := rd_at h7
      have H : Ev FLw ((26, vN n, 0) :: rd st) (E.var 26) (vN n) := EvD.var rfl
      have a := EvD.at (F := FLw) (f := V.str) (l := r8 w) (n := n) [] hn (EvD.var h6') H
      rw [r8_at w [] n hn] at a
      have M := Ev.mod (F := FLw) (y := 3) (by decide) H (Ev.lit (.int 3))
      rw [show (n : Int) % 3 = ((n % 3 : Nat) : Int) by lia] at M
      have b := EvD.at (F := FLw) (f := fun k => V.str (ndX k)) (l := [0, 1, 2]) (n := n % 3) 0 (by show n % 3 < 3; lia) (EvD.var h7') M
      have e : ([0, 1, 2] : List Nat).getD (n % 3) 0 = n % 3 := range_getD (n := 3) (fun i => i) (Nat.mod_lt _ (by decide)) 0
      rw [e] at b
      refine Ev.cat ?_ a b
      have h1 := (hw n).1
      have h2 : (ndX (n % 3)).length ≤ 2 := by unfold ndX; split <;> decide
      lia
  have hz := inL_len hw
  have J := Ev.joinS (F := FLw) (r := rd st) (sp := []) (Ev.lit _) C (by show (inL w).flatten.length + 8 * 0 ≤ _; lia)
  rw [Rx.joinL_nil] at J
  obtain ⟨u, e1, e2⟩ := inL_flat w
  rw [e1] at J hz
  rw [List.length_append, List.length_singleton] at hz
  have K : Ev FLw (rd st) (E.sl (E.me1 Me.join (E.lit (V.str [])) _) (E.lit V.none) (E.neg (E.lit (V.int 1)))) (.str u) := EvD.sl J (Ev.lit V.none) Ev.neg1 fun Q q => by
    show Q (.str (cut (u ++ [13]) none (some (-((1 : Nat) : Int))))) 0
    rw [cut_upto _ _ (Nat.le_refl 1), List.length_append, List.length_singleton, Nat.add_sub_cancel, List.take_left']
    · exact q
    · rfl
  have Cc := Ev.cat (F := FLw) (r := rd st) (x := [10, 46, 13, 13]) (y := u) (by show 4 + _ ≤ _; lia) (Ev.lit _) K
  rw [e2] at Cc
  have hm : (mailL (mailR w) (w 7)).length ≤ 2000 := by rw [← e2, List.length_append]; show 4 + _ ≤ _; lia
  refine S.asg_ok (t := .str (mailQ (mailR w) (w 7))) (Ev.call (.cons Cc .nil) ⟨rfl, trivial⟩ fun Q q => ⟨_, rfl, hm, ?_⟩) q
  rw [quote_mail _ _ (mailR_ok hw)]; exact q
theorem st8 : ∃ s, nthL 8 s ∧ ∀ st Q, Q (.next ((9, .val (.list (signsL.map .str))) :: st)) → ex1 FLw s st Q := by
  refine ⟨_, ⟨_, (by with_unfolding_all rfl), (by with_unfolding_all (repeat' (first | ((with_reducible show TrSs _ _ _ _ _ _); first | exact TrSs.nil | refine' TrSs.cons ?_ ?_) | ((with_reducible show TrS _ _ _ _ _ _); first | refine' TrS.popU (by rfl) (by rfl) (by rfl) (by rfl) | refine' TrS.newD (by rfl) | refine' TrS.own2c (n := 4) (by rfl) (by rfl) (by rfl) (fun _ _ => by rfl) (SwT.lc rfl) (by rfl) (by decide) ?_ | refine' TrS.stoD (by rfl) (fun _ _ _ => by rfl) (by rfl) ?_ ?_ | refine' TrS.own (by rfl) (by rfl) (by first | exact fun _ _ _ => rfl | exact SwE.lc rfl) (by rfl) ?_ | refine' TrS.frzA (by rfl) (by rfl) (by rfl) (fun _ _ _ => by rfl) (by rfl) ?_ | refine' TrS.asg (by rfl) (by first | exact fun _ _ _ => rfl | exact SwE.lc rfl) (by rfl) ?_ | refine' TrS.app (by rfl) (by rfl) ?_ | refine' TrS.asgC (SwT.lc rfl) (by rfl) ?_ | refine' TrS.sto2 (fun _ _ _ => by rfl) (by rfl) ?_ ?_ ?_ | refine' TrS.sto (fun _ _ _ => by rfl) (by rfl) ?_ ?_ | refine' TrS.swap (by decide) (by rfl) (by rfl) (by rfl) (by rfl) (by rfl) | refine' TrS.asg2 (by rfl) (by rfl) ?_ | refine' TrS.aug (by rfl) ?_ | refine' TrS.augS (fun _ _ _ => by rfl) (by rfl) ?_ ?_ | refine' TrS.ifs ?_ ?_ ?_ | refine' TrS.whl ?_ ?_ | refine' TrS.fr (fun _ _ => by rfl) (by rfl) ?_ ?_ | refine' TrS.ret ?_) | ((with_reducible show TrE _ _ _ _ _); first | refine' TrE.const (by rfl) | refine' TrE.var (by rfl) (by rfl) (by rfl) (by rfl) | refine' TrE.con (by rfl) (by rfl) (by rfl) | refine' TrE.bin ?_ ?_ | refine' TrE.neg ?_ | refine' TrE.notE ?_ | refine' TrE.cmp (by rfl) ?_ ?_ | refine' TrE.bop ?_ ?_ | refine' TrE.ife ?_ ?_ ?_ | refine' TrE.rev ?_ | refine' TrE.sl ?_ ?_ ?_ | refine' TrE.idx ?_ ?_ | refine' TrE.list ?_ | refine' TrE.tup ?_ | refine' TrE.ofC ?_ | refine' TrE.isI (by rfl) (by rfl) ?_ | refine' TrE.isB (by rfl) (by rfl) ?_ | refine' TrE.callF (by rfl) (by rfl) (by rfl) ?_ ?_ | refine' TrE.callB (by rfl) (by rfl) (by rfl) ?_ ?_ | refine' TrE.sub (by rfl) (by rfl) (by rfl) (by rfl) ?_ ?_ | refine' TrE.me0 (fun _ => by rfl) (by rfl) (by rfl) ?_ | refine' TrE.me1 (fun _ => by rfl) (by rfl) (by rfl) ?_ ?_ | refine' TrE.me2 (fun _ => by rfl) (by rfl) (by rfl) ?_ ?_ ?_) | ((with_reducible show TrC _ _ _ _ _ _ _ _); first | refine' TrC.comp (by rfl) (fun _ _ => by rfl) ?_ ?_ ?_ | refine' TrC.comp2 (by rfl) (by rfl) (fun _ _ => by rfl) (fun _ _ => by rfl) ?_ ?_ ?_) | ((with_reducible show TrEs _ _ _ _ _); first | exact TrEs.nil | refine' TrEs.cons ?_ ?_) | ((with_reducible show TrO _ _ _ _ _); first | exact TrO.none | refine' TrO.some ?_) | ((with_reducible show TrI _ _ _ _ _); first | exact TrI.nil | refine' TrI.one ?_) | ((with_reducible show TrF _ _ _ _ _); first | refine' TrF.list ?_ | refine' TrF.range (by rfl) ?_ ?_) | rfl | exact List.cons_ne_nil _ _)))⟩, ?_⟩
  intro st Q q
  dsimp only [Nat.zero_add, Nat.reduceAdd, toEs, toSs]
  refine S.asg_ok (Ev.splS (s := signsS) (c := [32]) (Ev.lit _) (Ev.lit _) (fun e => nomatch e) signs_split (by unfold signsL; rw [List.length_map, List.length_range]; decide) fun p hp => ?_) q
  obtain ⟨k, _, rfl⟩ := List.mem_map.mp hp
  exact Nat.le_trans (wordL_len _).1 (by decide)
theorem st9 : ∃ s, nthL 9 s ∧ ∀ (t : Nat → Int) st Q, (∀ i, t i ∈ tset) → st.lookup 3 = some (.val (.list ((r7 t).map .int))) → st.lookup 9 = some (.val (.list (signsL.map .str))) →
    Q (.next ((10, .val (.list ((r7 fun i => wordL (t i)).map .str))) :: st)) → ex1 FLw s st Q := by
  refine ⟨_, ⟨_, (by with_unfolding_all rfl), (by with_unfolding_all (repeat' (first | ((with_reducible show TrSs _ _ _ _ _ _); first | exact TrSs.nil | refine' TrSs.cons ?_ ?_) | ((with_reducible show TrS _ _ _ _ _ _); first | refine' TrS.popU (by rfl) (by rfl) (by rfl) (by rfl) | refine' TrS.newD (by rfl) | refine' TrS.own2c (n := 4) (by rfl) (by rfl) (by rfl) (fun _ _ => by rfl) (SwT.lc rfl) (by rfl) (by decide) ?_ | refine' TrS.stoD (by rfl) (fun _ _ _ => by rfl) (by rfl) ?_ ?_ | refine' TrS.own (by rfl) (by rfl) (by first | exact fun _ _ _ => rfl | exact SwE.lc rfl) (by rfl) ?_ | refine' TrS.frzA (by rfl) (by rfl) (by rfl) (fun _ _ _ => by rfl) (by rfl) ?_ | refine' TrS.asg (by rfl) (by first | exact fun _ _ _ => rfl | exact SwE.lc rfl) (by rfl) ?_ | refine' TrS.app (by rfl) (by rfl) ?_ | refine' TrS.asgC (SwT.lc rfl) (by rfl) ?_ | refine' TrS.sto2 (fun _ _ _ => by rfl) (by rfl) ?_ ?_ ?_ | refine' TrS.sto (fun _ _ _ => by rfl) (by rfl) ?_ ?_ | refine' TrS.swap (by decide) (by rfl) (by rfl) (by rfl) (by rfl) (by rfl) | refine' TrS.asg2 (by rfl) (by rfl) ?_ | refine' TrS.aug (by rfl) ?_ | refine' TrS.augS (fun _ _ _ => by rfl) (by rfl) ?_ ?_ | refine' TrS.ifs ?_ ?_ ?_ | refine' TrS.whl ?_ ?_ | refine' TrS.fr (fun _ _ => by rfl) (by rfl) ?_ ?_ | refine' TrS.ret ?_) | ((with_reducible show TrE _ _ _ _ _); first | refine' TrE.const (by rfl) | refine' TrE.var (by rfl) (by rfl) (by rfl) (by rfl) | refine' TrE.con (by rfl) (by rfl) (by rfl) | refine' TrE.bin ?_ ?_ | refine' TrE.neg ?_ | refine' TrE.notE ?_ | refine' TrE.cmp (by rfl) ?_ ?_ | refine' TrE.bop ?_ ?_ | refine' TrE.ife ?_ ?_ ?_ | refine' TrE.rev ?_ | refine' TrE.sl ?_ ?_ ?_ | refine' TrE.idx ?_ ?_ | refine' TrE.list ?_ | refine' TrE.tup ?_ | refine' TrE.ofC ?_ | refine' TrE.isI (by rfl) (by rfl) ?_ | refine' TrE.isB (by rfl) (by rfl) ?_ | refine' TrE.callF (by rfl) (by rfl) (by rfl) ?_ ?_ | refine' TrE.callB (by rfl) (by rfl) (by rfl) ?_ ?_ | refine' TrE.sub (by rfl) (by rfl) (by rfl) (by rfl) ?_ ?_ | refine' TrE.me0 (fun _ => by rfl) (by rfl) (by rfl) ?_ | refine' TrE.me1 (fun _ => by rfl) (by rfl) (by rfl) ?_ ?_ | refine' TrE.me2 (fun _ => by rfl) (by rfl) (by rfl) ?_ ?_ ?_) | ((with_reducible show TrC _ _ _ _ _ _ _ _); first | refine' TrC.comp (by rfl) (fun _ _ => by rfl) ?_ ?_ ?_ | refine' TrC.comp2 (by rfl) (by rfl) (fun _ _ => by rfl) (fun _ _ => by rfl) ?_ ?_ ?_) | ((with_reducible show TrEs _ _ _ _ _); first | exact TrEs.nil | refine' TrEs.cons ?_ ?_) | ((with_reducible show TrO _ _ _ _ _); first | exact TrO.none | refine' TrO.some ?_) | ((with_reducible show TrI _ _ _ _ _); first | exact TrI.nil | refine' TrI.one ?_) | ((with_reducible show TrF _ _ _ _ _); first | refine' TrF.list ?_ | refine' TrF.range (by rfl) ?_ ?_) | rfl | exact List.cons_ne_nil _ _)))⟩, ?_⟩
  intro t st Q ht h3 h9 q
  dsimp only [Nat.zero_add, Nat.reduceAdd, toEs, toSs]
  rw [vl]
  refine S.asg_ok (Ev.compLM V.int (r7 t) (fun v => .str (wordL v)) (EvD.var (rd_at h3)) trivial rfl (Nat.le_of_ble_eq_true rfl) (fun _ _ => Tv.lit true) fun v hv => ?_) q
  have hv : v ∈ tset := by
    have : v = t 0 ∨ v = t 1 ∨ v = t 2 ∨ v = t 3 ∨ v = t 4 ∨ v = t 5 ∨ v = t 6 := by simpa [r7] using hv
    rcases this with rfl | rfl | rfl | rfl | rfl | rfl | rfl <;> exact ht _
  have H : Ev FLw ((26, .int v, 0) :: rd st) (E.var 26) (.int v) := EvD.var rfl
  have b := tset_ok v hv
  refine EvD.ife (c := decide (v < 55)) (Ev.lt H (Ev.lit (.int 55))) (fun h => ?_) fun h => ?_
  · obtain ⟨h7, e⟩ := signs_at hv (of_decide_eq_true h)
    have h9' : ((26, .int v, 0) :: rd st).lookup 9 = some (.list (signsL.map .str), 0) := rd_at h9
    have hs : signsL.length = 48 := by unfold signsL; rw [List.length_map, List.length_range]
    have h55 := of_decide_eq_true h
    have := EvD.atI (F := FLw) (f := V.str) (l := signsL) (x := v - 7) [] (by lia) (by lia) (EvD.var h9') (Ev.sub H (Ev.lit (.int 7)))
    rw [e] at this; exact this
  · rw [chr_at hv (of_decide_eq_false h)]
    exact EvD.bi (.cons H .nil) fun Q q => ⟨by lia, by lia, q⟩
end Mine
end

-- part K7
section
open PySem PySem.Calls PyProof.Rows
set_option linter.unusedSimpArgs false
set_option linter.unusedVariables false
set_option maxRecDepth 100000
namespace Mine

theorem cat15 {r : Rv} {a b : E} {x y : List Nat} (hx : x.length ≤ 300) (hy : y.length ≤ 300) (ha : Ev FLw r a (.str x)) (hb : Ev FLw r b (.str y)) : Ev FLw r (.bin .Add a b) (.str (x ++ y)) := Ev.cat (by lia) ha hb
theorem st10 : ∃ s, nthL 10 s ∧ ∀ (p : Nat → List Nat) st Q, (∀ k, Wl 3 (p k)) → st.lookup 10 = some (.val (.list ((r7 p).map .str))) → Q (.next ((11, .val (.list (([p 2 ++ p 5 ++ p 3, p 2 ++ p 6 ++ p 3, p 4] : List (List Nat)).map .str))) :: st)) → ex1 FLw s st Q := by
  refine ⟨_, ⟨_, (by with_unfolding_all rfl), (by with_unfolding_all (repeat' (first | ((with_reducible show TrSs _ _ _ _ _ _); first | exact TrSs.nil | refine' TrSs.cons ?_ ?_) | ((with_reducible show TrS _ _ _ _ _ _); first | refine' TrS.popU (by rfl) (by rfl) (by rfl) (by rfl) | refine' TrS.newD (by rfl) | refine' TrS.own2c (n := 4) (by rfl) (by rfl) (by rfl) (fun _ _ => by rfl) (SwT.lc rfl) (by rfl) (by decide) ?_ | refine' TrS.stoD (by rfl) (fun _ _ _ => by rfl) (by rfl) ?_ ?_ | refine' TrS.own (by rfl) (by rfl) (by first | exact fun _ _ _ => rfl | exact SwE.lc rfl) (by rfl) ?_ | refine' TrS.frzA (by rfl) (by rfl) (by rfl) (fun _ _ _ => by rfl) (by rfl) ?_ | refine' TrS.asg (by rfl) (by first | exact fun _ _ _ => rfl | exact SwE.lc rfl) (by rfl) ?_ | refine' TrS.app (by rfl) (by rfl) ?_ | refine' TrS.asgC (SwT.lc rfl) (by rfl) ?_ | refine' TrS.sto2 (fun _ _ _ => by rfl) (by rfl) ?_ ?_ ?_ | refine' TrS.sto (fun _ _ _ => by rfl) (by rfl) ?_ ?_ | refine' TrS.swap (by decide) (by rfl) (by rfl) (by rfl) (by rfl) (by rfl) | refine' TrS.asg2 (by rfl) (by rfl) ?_ | refine' TrS.aug (by rfl) ?_ | refine' TrS.augS (fun _ _ _ => by rfl) (by rfl) ?_ ?_ | refine' TrS.ifs ?_ ?_ ?_ | refine' TrS.whl ?_ ?_ | refine' TrS.fr (fun _ _ => by rfl) (by rfl) ?_ ?_ | refine' TrS.ret ?_) | ((with_reducible show TrE _ _ _ _ _); first | refine' TrE.const (by rfl) | refine' TrE.var (by rfl) (by rfl) (by rfl) (by rfl) | refine' TrE.con (by rfl) (by rfl) (by rfl) | refine' TrE.bin ?_ ?_ | refine' TrE.neg ?_ | refine' TrE.notE ?_ | refine' TrE.cmp (by rfl) ?_ ?_ | refine' TrE.bop ?_ ?_ | refine' TrE.ife ?_ ?_ ?_ | refine' TrE.rev ?_ | refine' TrE.sl ?_ ?_ ?_ | refine' TrE.idx ?_ ?_ | refine' TrE.list ?_ | refine' TrE.tup ?_ | refine' TrE.ofC ?_ | refine' TrE.isI (by rfl) (by rfl) ?_ | refine' TrE.isB (by rfl) (by rfl) ?_ | refine' TrE.callF (by rfl) (by rfl) (by rfl) ?_ ?_ | refine' TrE.callB (by rfl) (by rfl) (by rfl) ?_ ?_ | refine' TrE.sub (by rfl) (by rfl) (by rfl) (by rfl) ?_ ?_ | refine' TrE.me0 (fun _ => by rfl) (by rfl) (by rfl) ?_ | refine' TrE.me1 (fun _ => by rfl) (by rfl) (by rfl) ?_ ?_ | refine' TrE.me2 (fun _ => by rfl) (by rfl) (by rfl) ?_ ?_ ?_) | ((with_reducible show TrC _ _ _ _ _ _ _ _); first | refine' TrC.comp (by rfl) (fun _ _ => by rfl) ?_ ?_ ?_ | refine' TrC.comp2 (by rfl) (by rfl) (fun _ _ => by rfl) (fun _ _ => by rfl) ?_ ?_ ?_) | ((with_reducible show TrEs _ _ _ _ _); first | exact TrEs.nil | refine' TrEs.cons ?_ ?_) | ((with_reducible show TrO _ _ _ _ _); first | exact TrO.none | refine' TrO.some ?_) | ((with_reducible show TrI _ _ _ _ _); first | exact TrI.nil | refine' TrI.one ?_) | ((with_reducible show TrF _ _ _ _ _); first | refine' TrF.list ?_ | refine' TrF.range (by rfl) ?_ ?_) | rfl | exact List.cons_ne_nil _ _)))⟩, ?_⟩
  intro p st Q hp h10 q
  dsimp only [Nat.zero_add, Nat.reduceAdd, toEs, toSs]
  have P := p7 (rd_at h10)
  have z : ∀ k, (p k).length ≤ 300 := fun k => Nat.le_trans (hp k).1 (by decide)
  have z2 : ∀ k k', (p k ++ p k').length ≤ 300 := fun k k' => Nat.le_trans ((hp k).app (hp k')).1 (by decide)
  exact S.asg_ok (Ev.list (.cons (cat15 (z2 _ _) (z _) (cat15 (z _) (z _) (P 2 (by decide)) (P 5 (by decide))) (P 3 (by decide))) (.cons (cat15 (z2 _ _) (z _) (cat15 (z _) (z _) (P 2 (by decide)) (P 6 (by decide))) (P 3 (by decide))) (.cons (P 4 (by decide)) .nil))) ⟨rfl, rfl, rfl, trivial⟩ (Nat.le_of_ble_eq_true rfl)) q
theorem st11 : ∃ s, nthL 11 s ∧ ∀ (p : Nat → List Nat) st Q, (∀ k, Wl 3 (p k)) → st.lookup 10 = some (.val (.list ((r7 p).map .str))) → st.lookup 11 = some (.val (.list (([p 2 ++ p 5 ++ p 3, p 2 ++ p 6 ++ p 3, p 4] : List (List Nat)).map .str))) →
    Q (.next ((12, .val (.list ((r8 (row8 p)).map .str))) :: st)) → ex1 FLw s st Q := by
  refine ⟨_, ⟨_, (by with_unfolding_all rfl), (by with_unfolding_all (repeat' (first | ((with_reducible show TrSs _ _ _ _ _ _); first | exact TrSs.nil | refine' TrSs.cons ?_ ?_) | ((with_reducible show TrS _ _ _ _ _ _); first | refine' TrS.popU (by rfl) (by rfl) (by rfl) (by rfl) | refine' TrS.newD (by rfl) | refine' TrS.own2c (n := 4) (by rfl) (by rfl) (by rfl) (fun _ _ => by rfl) (SwT.lc rfl) (by rfl) (by decide) ?_ | refine' TrS.stoD (by rfl) (fun _ _ _ => by rfl) (by rfl) ?_ ?_ | refine' TrS.own (by rfl) (by rfl) (by first | exact fun _ _ _ => rfl | exact SwE.lc rfl) (by rfl) ?_ | refine' TrS.frzA (by rfl) (by rfl) (by rfl) (fun _ _ _ => by rfl) (by rfl) ?_ | refine' TrS.asg (by rfl) (by first | exact fun _ _ _ => rfl | exact SwE.lc rfl) (by rfl) ?_ | refine' TrS.app (by rfl) (by rfl) ?_ | refine' TrS.asgC (SwT.lc rfl) (by rfl) ?_ | refine' TrS.sto2 (fun _ _ _ => by rfl) (by rfl) ?_ ?_ ?_ | refine' TrS.sto (fun _ _ _ => by rfl) (by rfl) ?_ ?_ | refine' TrS.swap (by decide) (by rfl) (by rfl) (by rfl) (by rfl) (by rfl) | refine' TrS.asg2 (by rfl) (by rfl) ?_ | refine' TrS.aug (by rfl) ?_ | refine' TrS.augS (fun _ _ _ => by rfl) (by rfl) ?_ ?_ | refine' TrS.ifs ?_ ?_ ?_ | refine' TrS.whl ?_ ?_ | refine' TrS.fr (fun _ _ => by rfl) (by rfl) ?_ ?_ | refine' TrS.ret ?_) | ((with_reducible show TrE _ _ _ _ _); first | refine' TrE.const (by rfl) | refine' TrE.var (by rfl) (by rfl) (by rfl) (by rfl) | refine' TrE.con (by rfl) (by rfl) (by rfl) | refine' TrE.bin ?_ ?_ | refine' TrE.neg ?_ | refine' TrE.notE ?_ | refine' TrE.cmp (by rfl) ?_ ?_ | refine' TrE.bop ?_ ?_ | refine' TrE.ife ?_ ?_ ?_ | refine' TrE.rev ?_ | refine' TrE.sl ?_ ?_ ?_ | refine' TrE.idx ?_ ?_ | refine' TrE.list ?_ | refine' TrE.tup ?_ | refine' TrE.ofC ?_ | refine' TrE.isI (by rfl) (by rfl) ?_ | refine' TrE.isB (by rfl) (by rfl) ?_ | refine' TrE.callF (by rfl) (by rfl) (by rfl) ?_ ?_ | refine' TrE.callB (by rfl) (by rfl) (by rfl) ?_ ?_ | refine' TrE.sub (by rfl) (by rfl) (by rfl) (by rfl) ?_ ?_ | refine' TrE.me0 (fun _ => by rfl) (by rfl) (by rfl) ?_ | refine' TrE.me1 (fun _ => by rfl) (by rfl) (by rfl) ?_ ?_ | refine' TrE.me2 (fun _ => by rfl) (by rfl) (by rfl) ?_ ?_ ?_) | ((with_reducible show TrC _ _ _ _ _ _ _ _); first | refine' TrC.comp (by rfl) (fun _ _ => by rfl) ?_ ?_ ?_ | refine' TrC.comp2 (by rfl) (by rfl) (fun _ _ => by rfl) (fun _ _ => by rfl) ?_ ?_ ?_) | ((with_reducible show TrEs _ _ _ _ _); first | exact TrEs.nil | refine' TrEs.cons ?_ ?_) | ((with_reducible show TrO _ _ _ _ _); first | exact TrO.none | refine' TrO.some ?_) | ((with_reducible show TrI _ _ _ _ _); first | exact TrI.nil | refine' TrI.one ?_) | ((with_reducible show TrF _ _ _ _ _); first | refine' TrF.list ?_ | refine' TrF.range (by rfl) ?_ ?_) | rfl | exact List.cons_ne_nil _ _)))⟩, ?_⟩
  intro p st Q hp h10 h11 q
  dsimp only [Nat.zero_add, Nat.reduceAdd, toEs, toSs]
  rw [vl]
  have P := p7 (rd_at h10)
  have z : ∀ k, (p k).length ≤ 300 := fun k => Nat.le_trans (hp k).1 (by decide)
  have T := Ev.tup (F := FLw) (r := rd st) (.cons (P 5 (by decide)) (.cons (P 6 (by decide)) .nil)) ⟨rfl, rfl, trivial⟩ (Nat.le_of_ble_eq_true rfl)
  have C := Ev.comp2L (F := FLw) (r := rd st) (i := 26) (q := E.tup (Es.cons ((E.var 10).idx (E.lit (V.int 5))) (Es.cons ((E.var 10).idx (E.lit (V.int 6))) Es.nil))) (e := E.bin Operator.Add (E.bin Operator.Add ((E.var 10).idx (E.lit (V.int 0))) (E.var 26)) (E.var 27)) V.str ([p 2 ++ p 5 ++ p 3, p 2 ++ p 6 ++ p 3, p 4] : List (List Nat)) V.str [p 5, p 6] (fun x y => .str (p 0 ++ x ++ y)) (.tup [.str (p 5), .str (p 6)])
    (EvD.var (rd_at h11)) trivial rfl (Nat.le_of_ble_eq_true rfl) (fun x _ => ?_) trivial rfl (Nat.le_of_ble_eq_true rfl) (fun x hx y hy => ?_)
  rotate_left
  · have h10' : ((26, .str x, 0) :: rd st).lookup 10 = some (.list ((r7 p).map .str), 0) := rd_at h10
    have P := p7 h10'
    exact Ev.tup (.cons (P 5 (by decide)) (.cons (P 6 (by decide)) .nil)) ⟨rfl, rfl, trivial⟩ (Nat.le_of_ble_eq_true rfl)
  · have h10' : ((27, .str y, 0) :: (26, .str x, 0) :: rd st).lookup 10 = some (.list ((r7 p).map .str), 0) := rd_at h10
    have hx : x.length ≤ 9 := by
      have : x = p 2 ++ p 5 ++ p 3 ∨ x = p 2 ++ p 6 ++ p 3 ∨ x = p 4 := by simpa using hx
      rcases this with rfl | rfl | rfl
      · exact (((hp 2).app (hp 5)).app (hp 3)).1
      · exact (((hp 2).app (hp 6)).app (hp 3)).1
      · exact Nat.le_trans (hp 4).1 (by decide)
    have hy : y.length ≤ 3 := by
      have : y = p 5 ∨ y = p 6 := by simpa using hy
      rcases this with rfl | rfl
      · exact (hp 5).1
      · exact (hp 6).1
    have h0 := (hp 0).1
    exact cat15 (by rw [List.length_append]; lia) (by lia) (cat15 (by lia) (by lia) (p7 h10' 0 (by decide)) (EvD.var rfl)) (EvD.var rfl)
  · have L := Ev.list (F := FLw) (r := rd st) (.cons (cat15 (z _) (z _) (P 1 (by decide)) (P 5 (by decide))) (.cons (cat15 (z _) (z _) (P 1 (by decide)) (P 6 (by decide))) .nil)) ⟨rfl, rfl, trivial⟩ (Nat.le_of_ble_eq_true rfl)
    exact S.asg_ok (Ev.lcat (Nat.zero_le _) (Nat.zero_le _) (Nat.le_of_ble_eq_true rfl) C L) q
theorem dot_at {w : List Nat} (h : w ≠ []) : decide ([w.getD 0 0] = [46]) = decide (w.head? = some 46) := by
  cases w with
  | nil => exact absurd rfl h
  | cons c w => simp
abbrev dotE : E := (E.cmp CmpOp.Eq ((E.var 26).idx (E.lit (V.int 0))) (E.lit (V.str (Str.ofString ".").cps.toList))).ife (E.bin Operator.Add (E.lit (V.str (Str.ofString ".").cps.toList)) (E.var 26)) (E.var 26)
theorem dot_ev {r : Rv} {x : List Nat} (hx : x ≠ []) (hz : x.length ≤ 300) : Ev FLw ((26, .str x, 0) :: r) dotE (.str (quoteRow x)) := by
  have H : Ev FLw ((26, .str x, 0) :: r) (E.var 26) (.str x) := EvD.var rfl
  have hl : 0 < x.length := Nat.pos_of_ne_zero fun h => hx (List.length_eq_zero_iff.mp h)
  have T : Tv FLw ((26, .str x, 0) :: r) (E.cmp CmpOp.Eq ((E.var 26).idx (E.lit (V.int 0))) (E.lit (V.str (Str.ofString ".").cps.toList))) (decide (x.head? = some 46)) := by
    have := eq_str (F := FLw) (y := [46]) (Ev.sign (x := 0) H (Ev.lit (.int 0)) hl) (Ev.lit (.str [46]))
    rwa [dot_at hx] at this
  unfold quoteRow
  refine EvD.ife T (fun h => ?_) fun h => ?_
  · rw [if_pos (of_decide_eq_true h)]
    exact cat15 (x := [46]) (by decide) hz (Ev.lit _) H
  · rw [if_neg (of_decide_eq_false h)]; exact H
theorem st12 : ∃ s, nthL 12 s ∧ ∀ (w : Nat → List Nat) st Q, (∀ k, Wl 15 (w k)) → st.lookup 12 = some (.val (.list ((r8 w).map .str))) → Q (.next ((12, .val (.list ((r8 fun k => quoteRow (w k)).map .str))) :: st)) → ex1 FLw s st Q := by
  refine ⟨_, ⟨_, (by with_unfolding_all rfl), (by with_unfolding_all (repeat' (first | ((with_reducible show TrSs _ _ _ _ _ _); first | exact TrSs.nil | refine' TrSs.cons ?_ ?_) | ((with_reducible show TrS _ _ _ _ _ _); first | refine' TrS.popU (by rfl) (by rfl) (by rfl) (by rfl) | refine' TrS.newD (by rfl) | refine' TrS.own2c (n := 4) (by rfl) (by rfl) (by rfl) (fun _ _ => by rfl) (SwT.lc rfl) (by rfl) (by decide) ?_ | refine' TrS.stoD (by rfl) (fun _ _ _ => by rfl) (by rfl) ?_ ?_ | refine' TrS.own (by rfl) (by rfl) (by first | exact fun _ _ _ => rfl | exact SwE.lc rfl) (by rfl) ?_ | refine' TrS.frzA (by rfl) (by rfl) (by rfl) (fun _ _ _ => by rfl) (by rfl) ?_ | refine' TrS.asg (by rfl) (by first | exact fun _ _ _ => rfl | exact SwE.lc rfl) (by rfl) ?_ | refine' TrS.app (by rfl) (by rfl) ?_ | refine' TrS.asgC (SwT.lc rfl) (by rfl) ?_ | refine' TrS.sto2 (fun _ _ _ => by rfl) (by rfl) ?_ ?_ ?_ | refine' TrS.sto (fun _ _ _ => by rfl) (by rfl) ?_ ?_ | refine' TrS.swap (by decide) (by rfl) (by rfl) (by rfl) (by rfl) (by rfl) | refine' TrS.asg2 (by rfl) (by rfl) ?_ | refine' TrS.aug (by rfl) ?_ | refine' TrS.augS (fun _ _ _ => by rfl) (by rfl) ?_ ?_ | refine' TrS.ifs ?_ ?_ ?_ | refine' TrS.whl ?_ ?_ | refine' TrS.fr (fun _ _ => by rfl) (by rfl) ?_ ?_ | refine' TrS.ret ?_) | ((with_reducible show TrE _ _ _ _ _); first | refine' TrE.const (by rfl) | refine' TrE.var (by rfl) (by rfl) (by rfl) (by rfl) | refine' TrE.con (by rfl) (by rfl) (by rfl) | refine' TrE.bin ?_ ?_ | refine' TrE.neg ?_ | refine' TrE.notE ?_ | refine' TrE.cmp (by rfl) ?_ ?_ | refine' TrE.bop ?_ ?_ | refine' TrE.ife ?_ ?_ ?_ | refine' TrE.rev ?_ | refine' TrE.sl ?_ ?_ ?_ | refine' TrE.idx ?_ ?_ | refine' TrE.list ?_ | refine' TrE.tup ?_ | refine' TrE.ofC ?_ | refine' TrE.isI (by rfl) (by rfl) ?_ | refine' TrE.isB (by rfl) (by rfl) ?_ | refine' TrE.callF (by rfl) (by rfl) (by rfl) ?_ ?_ | refine' TrE.callB (by rfl) (by rfl) (by rfl) ?_ ?_ | refine' TrE.sub (by rfl) (by rfl) (by rfl) (by rfl) ?_ ?_ | refine' TrE.me0 (fun _ => by rfl) (by rfl) (by rfl) ?_ | refine' TrE.me1 (fun _ => by rfl) (by rfl) (by rfl) ?_ ?_ | refine' TrE.me2 (fun _ => by rfl) (by rfl) (by rfl) ?_ ?_ ?_) | ((with_reducible show TrC _ _ _ _ _ _ _ _); first | refine' TrC.comp (by rfl) (fun _ _ => by rfl) ?_ ?_ ?_ | refine' TrC.comp2 (by rfl) (by rfl) (fun _ _ => by rfl) (fun _ _ => by rfl) ?_ ?_ ?_) | ((with_reducible show TrEs _ _ _ _ _); first | exact TrEs.nil | refine' TrEs.cons ?_ ?_) | ((with_reducible show TrO _ _ _ _ _); first | exact TrO.none | refine' TrO.some ?_) | ((with_reducible show TrI _ _ _ _ _); first | exact TrI.nil | refine' TrI.one ?_) | ((with_reducible show TrF _ _ _ _ _); first | refine' TrF.list ?_ | refine' TrF.range (by rfl) ?_ ?_) | rfl | exact List.cons_ne_nil _ _)))⟩, ?_⟩
  intro w st Q hw h12 q
  dsimp only [Nat.zero_add, Nat.reduceAdd, toEs, toSs]
  rw [vl]
  refine S.asg_ok (Ev.compLM V.str (r8 w) (fun x => .str (quoteRow x)) (EvD.var (rd_at h12)) trivial rfl (Nat.le_of_ble_eq_true rfl) (fun _ _ => Tv.lit true) fun x hx => ?_) q
  have : Wl 15 x := by
    have : x = w 0 ∨ x = w 1 ∨ x = w 2 ∨ x = w 3 ∨ x = w 4 ∨ x = w 5 ∨ x = w 6 ∨ x = w 7 := by simpa [r8] using hx
    rcases this with rfl | rfl | rfl | rfl | rfl | rfl | rfl | rfl <;> exact hw _
  exact dot_ev this.2.1 (Nat.le_trans this.1 (by decide))
theorem r8_len {q : Nat → List Nat} {n : Nat} (h : ∀ k, (q k).length ≤ n) : ∀ x ∈ r8 q, x.length ≤ n := fun x hx => by
  have : x = q 0 ∨ x = q 1 ∨ x = q 2 ∨ x = q 3 ∨ x = q 4 ∨ x = q 5 ∨ x = q 6 ∨ x = q 7 := by simpa [r8] using hx
  rcases this with rfl | rfl | rfl | rfl | rfl | rfl | rfl | rfl <;> exact h _
theorem due_eq (w : Nat → List Nat) : mailQ (mailR w) (w 7) = [13, 10, 46, 46, 13, 10, 13, 10] ++ joinL [13, 10] (r8 fun k => quoteRow (w k)) := by
  show [] ++ (13 :: 10 :: ([46, 46] ++ (13 :: 10 :: ([] ++ (13 :: 10 :: (quoteRow (w 0) ++ (13 :: 10 :: (quoteRow (w 1) ++ (13 :: 10 :: (quoteRow (w 2) ++ (13 :: 10 :: (quoteRow (w 3) ++ (13 :: 10 :: (quoteRow (w 4) ++ (13 :: 10 :: (quoteRow (w 5) ++ (13 :: 10 :: (quoteRow (w 6) ++ (13 :: 10 :: quoteRow (w 7))))))))))))))))))))
    = [13, 10, 46, 46, 13, 10, 13, 10] ++ (quoteRow (w 0) ++ (([13, 10] ++ quoteRow (w 1)) ++ (([13, 10] ++ quoteRow (w 2)) ++ (([13, 10] ++ quoteRow (w 3)) ++ (([13, 10] ++ quoteRow (w 4)) ++ (([13, 10] ++ quoteRow (w 5)) ++ (([13, 10] ++ quoteRow (w 6)) ++ (([13, 10] ++ quoteRow (w 7)) ++ []))))))))
  simp only [List.append_assoc, List.append_nil, List.cons_append, List.nil_append]
theorem st13 : ∃ s, nthL 13 s ∧ ∀ (w : Nat → List Nat) st Q, (∀ k, Wl 15 (w k)) → st.lookup 8 = some (.val (.str (mailQ (mailR w) (w 7)))) → st.lookup 12 = some (.val (.list ((r8 fun k => quoteRow (w k)).map .str))) → Q (.next st) → ex1 FLw s st Q := by
  refine ⟨_, ⟨_, (by with_unfolding_all rfl), (by with_unfolding_all (repeat' (first | ((with_reducible show TrSs _ _ _ _ _ _); first | exact TrSs.nil | refine' TrSs.cons ?_ ?_) | ((with_reducible show TrS _ _ _ _ _ _); first | refine' TrS.popU (by rfl) (by rfl) (by rfl) (by rfl) | refine' TrS.newD (by rfl) | refine' TrS.own2c (n := 4) (by rfl) (by rfl) (by rfl) (fun _ _ => by rfl) (SwT.lc rfl) (by rfl) (by decide) ?_ | refine' TrS.stoD (by rfl) (fun _ _ _ => by rfl) (by rfl) ?_ ?_ | refine' TrS.own (by rfl) (by rfl) (by first | exact fun _ _ _ => rfl | exact SwE.lc rfl) (by rfl) ?_ | refine' TrS.frzA (by rfl) (by rfl) (by rfl) (fun _ _ _ => by rfl) (by rfl) ?_ | refine' TrS.asg (by rfl) (by first | exact fun _ _ _ => rfl | exact SwE.lc rfl) (by rfl) ?_ | refine' TrS.app (by rfl) (by rfl) ?_ | refine' TrS.asgC (SwT.lc rfl) (by rfl) ?_ | refine' TrS.sto2 (fun _ _ _ => by rfl) (by rfl) ?_ ?_ ?_ | refine' TrS.sto (fun _ _ _ => by rfl) (by rfl) ?_ ?_ | refine' TrS.swap (by decide) (by rfl) (by rfl) (by rfl) (by rfl) (by rfl) | refine' TrS.asg2 (by rfl) (by rfl) ?_ | refine' TrS.aug (by rfl) ?_ | refine' TrS.augS (fun _ _ _ => by rfl) (by rfl) ?_ ?_ | refine' TrS.ifs ?_ ?_ ?_ | refine' TrS.whl ?_ ?_ | refine' TrS.fr (fun _ _ => by rfl) (by rfl) ?_ ?_ | refine' TrS.ret ?_) | ((with_reducible show TrE _ _ _ _ _); first | refine' TrE.const (by rfl) | refine' TrE.var (by rfl) (by rfl) (by rfl) (by rfl) | refine' TrE.con (by rfl) (by rfl) (by rfl) | refine' TrE.bin ?_ ?_ | refine' TrE.neg ?_ | refine' TrE.notE ?_ | refine' TrE.cmp (by rfl) ?_ ?_ | refine' TrE.bop ?_ ?_ | refine' TrE.ife ?_ ?_ ?_ | refine' TrE.rev ?_ | refine' TrE.sl ?_ ?_ ?_ | refine' TrE.idx ?_ ?_ | refine' TrE.list ?_ | refine' TrE.tup ?_ | refine' TrE.ofC ?_ | refine' TrE.isI (by rfl) (by rfl) ?_ | refine' TrE.isB (by rfl) (by rfl) ?_ | refine' TrE.callF (by rfl) (by rfl) (by rfl) ?_ ?_ | refine' TrE.callB (by rfl) (by rfl) (by rfl) ?_ ?_ | refine' TrE.sub (by rfl) (by rfl) (by rfl) (by rfl) ?_ ?_ | refine' TrE.me0 (fun _ => by rfl) (by rfl) (by rfl) ?_ | refine' TrE.me1 (fun _ => by rfl) (by rfl) (by rfl) ?_ ?_ | refine' TrE.me2 (fun _ => by rfl) (by rfl) (by rfl) ?_ ?_ ?_) | ((with_reducible show TrC _ _ _ _ _ _ _ _); first | refine' TrC.comp (by rfl) (fun _ _ => by rfl) ?_ ?_ ?_ | refine' TrC.comp2 (by rfl) (by rfl) (fun _ _ => by rfl) (fun _ _ => by rfl) ?_ ?_ ?_) | ((with_reducible show TrEs _ _ _ _ _); first | exact TrEs.nil | refine' TrEs.cons ?_ ?_) | ((with_reducible show TrO _ _ _ _ _); first | exact TrO.none | refine' TrO.some ?_) | ((with_reducible show TrI _ _ _ _ _); first | exact TrI.nil | refine' TrI.one ?_) | ((with_reducible show TrF _ _ _ _ _); first | refine' TrF.list ?_ | refine' TrF.range (by rfl) ?_ ?_) | rfl | exact List.cons_ne_nil _ _)))⟩, ?_⟩
  intro w st Q hw h8 h12 q
  dsimp only [Nat.zero_add, Nat.reduceAdd, toEs, toSs]
  have hl := flatn_len (r8_len fun k => (hw k).quote.1)
  have hj := joinL_len [13, 10] (r8 fun k => quoteRow (w k))
  have hz : (r8 fun k => quoteRow (w k)).flatten.length + (r8 fun k => quoteRow (w k)).length * 2 ≤ 200 := by
    show _ + 8 * 2 ≤ _
    have hl : _ ≤ 16 * 8 := hl
    lia
  have J := Ev.joinS (F := FLw) (r := rd st) (sp := [13, 10]) (Ev.lit _) (EvD.var (rd_at h12)) (Nat.le_trans hz (by decide))
  have := ne_str (EvD.var (rd_at h8)) (Ev.cat (x := [13, 10, 46, 46, 13, 10, 13, 10]) (by have := Nat.le_trans hj hz; show 8 + _ ≤ _; lia) (Ev.lit _) J)
  rw [due_eq, decide_eq_true rfl] at this
  exact ifs_no this q
theorem st14 : ∃ s, nthL 14 s ∧ ∀ (w : Nat → List Nat) st Q, (∀ k, Wl 15 (w k)) → st.lookup 8 = some (.val (.str (mailQ (mailR w) (w 7)))) → Q (.next ((13, .val (.list ((r8 fun k => quoteRow (w k)).map .str))) :: st)) → ex1 FLw s st Q := by
  refine ⟨_, ⟨_, (by with_unfolding_all rfl), (by with_unfolding_all (repeat' (first | ((with_reducible show TrSs _ _ _ _ _ _); first | exact TrSs.nil | refine' TrSs.cons ?_ ?_) | ((with_reducible show TrS _ _ _ _ _ _); first | refine' TrS.popU (by rfl) (by rfl) (by rfl) (by rfl) | refine' TrS.newD (by rfl) | refine' TrS.own2c (n := 4) (by rfl) (by rfl) (by rfl) (fun _ _ => by rfl) (SwT.lc rfl) (by rfl) (by decide) ?_ | refine' TrS.stoD (by rfl) (fun _ _ _ => by rfl) (by rfl) ?_ ?_ | refine' TrS.own (by rfl) (by rfl) (by first | exact fun _ _ _ => rfl | exact SwE.lc rfl) (by rfl) ?_ | refine' TrS.frzA (by rfl) (by rfl) (by rfl) (fun _ _ _ => by rfl) (by rfl) ?_ | refine' TrS.asg (by rfl) (by first | exact fun _ _ _ => rfl | exact SwE.lc rfl) (by rfl) ?_ | refine' TrS.app (by rfl) (by rfl) ?_ | refine' TrS.asgC (SwT.lc rfl) (by rfl) ?_ | refine' TrS.sto2 (fun _ _ _ => by rfl) (by rfl) ?_ ?_ ?_ | refine' TrS.sto (fun _ _ _ => by rfl) (by rfl) ?_ ?_ | refine' TrS.swap (by decide) (by rfl) (by rfl) (by rfl) (by rfl) (by rfl) | refine' TrS.asg2 (by rfl) (by rfl) ?_ | refine' TrS.aug (by rfl) ?_ | refine' TrS.augS (fun _ _ _ => by rfl) (by rfl) ?_ ?_ | refine' TrS.ifs ?_ ?_ ?_ | refine' TrS.whl ?_ ?_ | refine' TrS.fr (fun _ _ => by rfl) (by rfl) ?_ ?_ | refine' TrS.ret ?_) | ((with_reducible show TrE _ _ _ _ _); first | refine' TrE.const (by rfl) | refine' TrE.var (by rfl) (by rfl) (by rfl) (by rfl) | refine' TrE.con (by rfl) (by rfl) (by rfl) | refine' TrE.bin ?_ ?_ | refine' TrE.neg ?_ | refine' TrE.notE ?_ | refine' TrE.cmp (by rfl) ?_ ?_ | refine' TrE.bop ?_ ?_ | refine' TrE.ife ?_ ?_ ?_ | refine' TrE.rev ?_ | refine' TrE.sl ?_ ?_ ?_ | refine' TrE.idx ?_ ?_ | refine' TrE.list ?_ | refine' TrE.tup ?_ | refine' TrE.ofC ?_ | refine' TrE.isI (by rfl) (by rfl) ?_ | refine' TrE.isB (by rfl) (by rfl) ?_ | refine' TrE.callF (by rfl) (by rfl) (by rfl) ?_ ?_ | refine' TrE.callB (by rfl) (by rfl) (by rfl) ?_ ?_ | refine' TrE.sub (by rfl) (by rfl) (by rfl) (by rfl) ?_ ?_ | refine' TrE.me0 (fun _ => by rfl) (by rfl) (by rfl) ?_ | refine' TrE.me1 (fun _ => by rfl) (by rfl) (by rfl) ?_ ?_ | refine' TrE.me2 (fun _ => by rfl) (by rfl) (by rfl) ?_ ?_ ?_) | ((with_reducible show TrC _ _ _ _ _ _ _ _); first | refine' TrC.comp (by rfl) (fun _ _ => by rfl) ?_ ?_ ?_ | refine' TrC.comp2 (by rfl) (by rfl) (fun _ _ => by rfl) (fun _ _ => by rfl) ?_ ?_ ?_) | ((with_reducible show TrEs _ _ _ _ _); first | exact TrEs.nil | refine' TrEs.cons ?_ ?_) | ((with_reducible show TrO _ _ _ _ _); first | exact TrO.none | refine' TrO.some ?_) | ((with_reducible show TrI _ _ _ _ _); first | exact TrI.nil | refine' TrI.one ?_) | ((with_reducible show TrF _ _ _ _ _); first | refine' TrF.list ?_ | refine' TrF.range (by rfl) ?_ ?_) | rfl | exact List.cons_ne_nil _ _)))⟩, ?_⟩
  intro w st Q hw h8 q
  dsimp only [Nat.zero_add, Nat.reduceAdd, toEs, toSs]
  have e : splitL (mailQ (mailR w) (w 7)) [13, 10] = [[], [46, 46], []] ++ r8 fun k => quoteRow (w k) := by rw [split_crlf, spl_mailQ _ _ (mailR_ok hw)]; rfl
  have J := Ev.splS (F := FLw) (r := rd st) (c := [13, 10]) (EvD.var (rd_at h8)) (Ev.lit _) (fun e => nomatch e) e (Nat.le_of_ble_eq_true rfl) (fun x hx => by
    rcases List.mem_append.mp hx with hx | hx
    · have : ∀ x ∈ ([[], [46, 46], []] : List (List Nat)), x.length ≤ 1000000 := by decide
      exact this x hx
    · exact Nat.le_trans (r8_len (fun k => (hw k).quote.1) x hx) (by decide))
  exact S.asg_ok (EvD.sl J (Ev.lit (.int 3)) (Ev.lit .none) fun Q q => ⟨Nat.zero_le 1, by rw [show (3 : Int) = ((3 : Nat) : Int) from rfl, cut_from]; exact q⟩) q
theorem st15 : ∃ s, nthL 15 s ∧ ∀ st Q, Q (.next ((14, .val (.int 99)) :: st)) → ex1 FLw s st Q := by
  refine ⟨_, ⟨_, (by with_unfolding_all rfl), (by with_unfolding_all (repeat' (first | ((with_reducible show TrSs _ _ _ _ _ _); first | exact TrSs.nil | refine' TrSs.cons ?_ ?_) | ((with_reducible show TrS _ _ _ _ _ _); first | refine' TrS.popU (by rfl) (by rfl) (by rfl) (by rfl) | refine' TrS.newD (by rfl) | refine' TrS.own2c (n := 4) (by rfl) (by rfl) (by rfl) (fun _ _ => by rfl) (SwT.lc rfl) (by rfl) (by decide) ?_ | refine' TrS.stoD (by rfl) (fun _ _ _ => by rfl) (by rfl) ?_ ?_ | refine' TrS.own (by rfl) (by rfl) (by first | exact fun _ _ _ => rfl | exact SwE.lc rfl) (by rfl) ?_ | refine' TrS.frzA (by rfl) (by rfl) (by rfl) (fun _ _ _ => by rfl) (by rfl) ?_ | refine' TrS.asg (by rfl) (by first | exact fun _ _ _ => rfl | exact SwE.lc rfl) (by rfl) ?_ | refine' TrS.app (by rfl) (by rfl) ?_ | refine' TrS.asgC (SwT.lc rfl) (by rfl) ?_ | refine' TrS.sto2 (fun _ _ _ => by rfl) (by rfl) ?_ ?_ ?_ | refine' TrS.sto (fun _ _ _ => by rfl) (by rfl) ?_ ?_ | refine' TrS.swap (by decide) (by rfl) (by rfl) (by rfl) (by rfl) (by rfl) | refine' TrS.asg2 (by rfl) (by rfl) ?_ | refine' TrS.aug (by rfl) ?_ | refine' TrS.augS (fun _ _ _ => by rfl) (by rfl) ?_ ?_ | refine' TrS.ifs ?_ ?_ ?_ | refine' TrS.whl ?_ ?_ | refine' TrS.fr (fun _ _ => by rfl) (by rfl) ?_ ?_ | refine' TrS.ret ?_) | ((with_reducible show TrE _ _ _ _ _); first | refine' TrE.const (by rfl) | refine' TrE.var (by rfl) (by rfl) (by rfl) (by rfl) | refine' TrE.con (by rfl) (by rfl) (by rfl) | refine' TrE.bin ?_ ?_ | refine' TrE.neg ?_ | refine' TrE.notE ?_ | refine' TrE.cmp (by rfl) ?_ ?_ | refine' TrE.bop ?_ ?_ | refine' TrE.ife ?_ ?_ ?_ | refine' TrE.rev ?_ | refine' TrE.sl ?_ ?_ ?_ | refine' TrE.idx ?_ ?_ | refine' TrE.list ?_ | refine' TrE.tup ?_ | refine' TrE.ofC ?_ | refine' TrE.isI (by rfl) (by rfl) ?_ | refine' TrE.isB (by rfl) (by rfl) ?_ | refine' TrE.callF (by rfl) (by rfl) (by rfl) ?_ ?_ | refine' TrE.callB (by rfl) (by rfl) (by rfl) ?_ ?_ | refine' TrE.sub (by rfl) (by rfl) (by rfl) (by rfl) ?_ ?_ | refine' TrE.me0 (fun _ => by rfl) (by rfl) (by rfl) ?_ | refine' TrE.me1 (fun _ => by rfl) (by rfl) (by rfl) ?_ ?_ | refine' TrE.me2 (fun _ => by rfl) (by rfl) (by rfl) ?_ ?_ ?_) | ((with_reducible show TrC _ _ _ _ _ _ _ _); first | refine' TrC.comp (by rfl) (fun _ _ => by rfl) ?_ ?_ ?_ | refine' TrC.comp2 (by rfl) (by rfl) (fun _ _ => by rfl) (fun _ _ => by rfl) ?_ ?_ ?_) | ((with_reducible show TrEs _ _ _ _ _); first | exact TrEs.nil | refine' TrEs.cons ?_ ?_) | ((with_reducible show TrO _ _ _ _ _); first | exact TrO.none | refine' TrO.some ?_) | ((with_reducible show TrI _ _ _ _ _); first | exact TrI.nil | refine' TrI.one ?_) | ((with_reducible show TrF _ _ _ _ _); first | refine' TrF.list ?_ | refine' TrF.range (by rfl) ?_ ?_) | rfl | exact List.cons_ne_nil _ _)))⟩, ?_⟩
  intro st Q q
  exact S.asg_ok (Ev.lit _) q
theorem st16 : ∃ s, nthL 16 s ∧ ∀ st Q, Q (.next ((15, .val (.int 0)) :: st)) → ex1 FLw s st Q := by
  refine ⟨_, ⟨_, (by with_unfolding_all rfl), (by with_unfolding_all (repeat' (first | ((with_reducible show TrSs _ _ _ _ _ _); first | exact TrSs.nil | refine' TrSs.cons ?_ ?_) | ((with_reducible show TrS _ _ _ _ _ _); first | refine' TrS.popU (by rfl) (by rfl) (by rfl) (by rfl) | refine' TrS.newD (by rfl) | refine' TrS.own2c (n := 4) (by rfl) (by rfl) (by rfl) (fun _ _ => by rfl) (SwT.lc rfl) (by rfl) (by decide) ?_ | refine' TrS.stoD (by rfl) (fun _ _ _ => by rfl) (by rfl) ?_ ?_ | refine' TrS.own (by rfl) (by rfl) (by first | exact fun _ _ _ => rfl | exact SwE.lc rfl) (by rfl) ?_ | refine' TrS.frzA (by rfl) (by rfl) (by rfl) (fun _ _ _ => by rfl) (by rfl) ?_ | refine' TrS.asg (by rfl) (by first | exact fun _ _ _ => rfl | exact SwE.lc rfl) (by rfl) ?_ | refine' TrS.app (by rfl) (by rfl) ?_ | refine' TrS.asgC (SwT.lc rfl) (by rfl) ?_ | refine' TrS.sto2 (fun _ _ _ => by rfl) (by rfl) ?_ ?_ ?_ | refine' TrS.sto (fun _ _ _ => by rfl) (by rfl) ?_ ?_ | refine' TrS.swap (by decide) (by rfl) (by rfl) (by rfl) (by rfl) (by rfl) | refine' TrS.asg2 (by rfl) (by rfl) ?_ | refine' TrS.aug (by rfl) ?_ | refine' TrS.augS (fun _ _ _ => by rfl) (by rfl) ?_ ?_ | refine' TrS.ifs ?_ ?_ ?_ | refine' TrS.whl ?_ ?_ | refine' TrS.fr (fun _ _ => by rfl) (by rfl) ?_ ?_ | refine' TrS.ret ?_) | ((with_reducible show TrE _ _ _ _ _); first | refine' TrE.const (by rfl) | refine' TrE.var (by rfl) (by rfl) (by rfl) (by rfl) | refine' TrE.con (by rfl) (by rfl) (by rfl) | refine' TrE.bin ?_ ?_ | refine' TrE.neg ?_ | refine' TrE.notE ?_ | refine' TrE.cmp (by rfl) ?_ ?_ | refine' TrE.bop ?_ ?_ | refine' TrE.ife ?_ ?_ ?_ | refine' TrE.rev ?_ | refine' TrE.sl ?_ ?_ ?_ | refine' TrE.idx ?_ ?_ | refine' TrE.list ?_ | refine' TrE.tup ?_ | refine' TrE.ofC ?_ | refine' TrE.isI (by rfl) (by rfl) ?_ | refine' TrE.isB (by rfl) (by rfl) ?_ | refine' TrE.callF (by rfl) (by rfl) (by rfl) ?_ ?_ | refine' TrE.callB (by rfl) (by rfl) (by rfl) ?_ ?_ | refine' TrE.sub (by rfl) (by rfl) (by rfl) (by rfl) ?_ ?_ | refine' TrE.me0 (fun _ => by rfl) (by rfl) (by rfl) ?_ | refine' TrE.me1 (fun _ => by rfl) (by rfl) (by rfl) ?_ ?_ | refine' TrE.me2 (fun _ => by rfl) (by rfl) (by rfl) ?_ ?_ ?_) | ((with_reducible show TrC _ _ _ _ _ _ _ _); first | refine' TrC.comp (by rfl) (fun _ _ => by rfl) ?_ ?_ ?_ | refine' TrC.comp2 (by rfl) (by rfl) (fun _ _ => by rfl) (fun _ _ => by rfl) ?_ ?_ ?_) | ((with_reducible show TrEs _ _ _ _ _); first | exact TrEs.nil | refine' TrEs.cons ?_ ?_) | ((with_reducible show TrO _ _ _ _ _); first | exact TrO.none | refine' TrO.some ?_) | ((with_reducible show TrI _ _ _ _ _); first | exact TrI.nil | refine' TrI.one ?_) | ((with_reducible show TrF _ _ _ _ _); first | refine' TrF.list ?_ | refine' TrF.range (by rfl) ?_ ?_) | rfl | exact List.cons_ne_nil _ _)))⟩, ?_⟩
  intro st Q q
  exact S.asg_ok (Ev.lit _) q
end Mine
end

-- part K8
section
open PySem PySem.Calls PyProof.Rows
set_option linter.unusedSimpArgs false
set_option linter.unusedVariables false
set_option maxRecDepth 100000
namespace Mine

section
variable {r : Rv}
theorem lev_ev {a b c : E} {x y : List Nat} {m : Int} (ha : Ev FLw r a (.str x)) (hb : Ev FLw r b (.str y)) (hc : Ev FLw r c (.int m)) (hx : x.length ≤ 1000) (hy : y.length ≤ 1000) : Ev FLw r (.call 1 (.cons a (.cons b (.cons c .nil)))) (.int (lev x y m)) :=
  Ev.call (.cons ha (.cons hb (.cons hc .nil))) ⟨rfl, rfl, rfl, trivial⟩ fun Q q => ⟨x, y, m, rfl, hx, hy, q⟩
theorem row_ev {a i : E} {R : Nat → List Nat} {k : Nat} (hk : k < 8) (ha : Ev FLw r a (.list ((r8 R).map .str))) (hi : Ev FLw r i (vN k)) : Ev FLw r (.idx a i) (.str (R k)) := by
  have := EvD.at (F := FLw) (f := V.str) (l := r8 R) (n := k) [] hk ha hi
  rwa [r8_at R [] k hk] at this
end
/-- what the law holds while it looks for the nearest row -/
structure NS (p R : Nat → List Nat) (l : List Nat) (best : Int) (near : Nat) (st : St) : Prop where
  l4 : st.lookup 4 = some (.val (.str l))
  l10 : st.lookup 10 = some (.val (.list ((r7 p).map .str)))
  l13 : st.lookup 13 = some (.val (.list ((r8 R).map .str)))
  l14 : st.lookup 14 = some (.val (.int best))
  l15 : st.lookup 15 = some (.val (vN near))
theorem NS.put {p R l best near} {st : St} (h : NS p R l best near st) {x : Nat} {b : B} (hx : x = 2 ∨ x = 16) : NS p R l best near ((x, b) :: st) := by
  rcases hx with rfl | rfl <;> exact ⟨h.l4, h.l10, h.l13, h.l14, h.l15⟩
theorem st17 : ∃ s, nthL 17 s ∧ ∀ (p R : Nat → List Nat) (l : List Nat) st Q, l.length = 3 → (∀ k, (R k).length ≤ 16) → NS p R l 99 0 st → (∀ best near st', NS p R l best near st' → Found l R 8 best near → Q (.next st')) → ex1 FLw s st Q := by
  refine ⟨_, ⟨_, (by with_unfolding_all rfl), (by with_unfolding_all (repeat' (first | ((with_reducible show TrSs _ _ _ _ _ _); first | exact TrSs.nil | refine' TrSs.cons ?_ ?_) | ((with_reducible show TrS _ _ _ _ _ _); first | refine' TrS.popU (by rfl) (by rfl) (by rfl) (by rfl) | refine' TrS.newD (by rfl) | refine' TrS.own2c (n := 4) (by rfl) (by rfl) (by rfl) (fun _ _ => by rfl) (SwT.lc rfl) (by rfl) (by decide) ?_ | refine' TrS.stoD (by rfl) (fun _ _ _ => by rfl) (by rfl) ?_ ?_ | refine' TrS.own (by rfl) (by rfl) (by first | exact fun _ _ _ => rfl | exact SwE.lc rfl) (by rfl) ?_ | refine' TrS.frzA (by rfl) (by rfl) (by rfl) (fun _ _ _ => by rfl) (by rfl) ?_ | refine' TrS.asg (by rfl) (by first | exact fun _ _ _ => rfl | exact SwE.lc rfl) (by rfl) ?_ | refine' TrS.app (by rfl) (by rfl) ?_ | refine' TrS.asgC (SwT.lc rfl) (by rfl) ?_ | refine' TrS.sto2 (fun _ _ _ => by rfl) (by rfl) ?_ ?_ ?_ | refine' TrS.sto (fun _ _ _ => by rfl) (by rfl) ?_ ?_ | refine' TrS.swap (by decide) (by rfl) (by rfl) (by rfl) (by rfl) (by rfl) | refine' TrS.asg2 (by rfl) (by rfl) ?_ | refine' TrS.aug (by rfl) ?_ | refine' TrS.augS (fun _ _ _ => by rfl) (by rfl) ?_ ?_ | refine' TrS.ifs ?_ ?_ ?_ | refine' TrS.whl ?_ ?_ | refine' TrS.fr (fun _ _ => by rfl) (by rfl) ?_ ?_ | refine' TrS.ret ?_) | ((with_reducible show TrE _ _ _ _ _); first | refine' TrE.const (by rfl) | refine' TrE.var (by rfl) (by rfl) (by rfl) (by rfl) | refine' TrE.con (by rfl) (by rfl) (by rfl) | refine' TrE.bin ?_ ?_ | refine' TrE.neg ?_ | refine' TrE.notE ?_ | refine' TrE.cmp (by rfl) ?_ ?_ | refine' TrE.bop ?_ ?_ | refine' TrE.ife ?_ ?_ ?_ | refine' TrE.rev ?_ | refine' TrE.sl ?_ ?_ ?_ | refine' TrE.idx ?_ ?_ | refine' TrE.list ?_ | refine' TrE.tup ?_ | refine' TrE.ofC ?_ | refine' TrE.isI (by rfl) (by rfl) ?_ | refine' TrE.isB (by rfl) (by rfl) ?_ | refine' TrE.callF (by rfl) (by rfl) (by rfl) ?_ ?_ | refine' TrE.callB (by rfl) (by rfl) (by rfl) ?_ ?_ | refine' TrE.sub (by rfl) (by rfl) (by rfl) (by rfl) ?_ ?_ | refine' TrE.me0 (fun _ => by rfl) (by rfl) (by rfl) ?_ | refine' TrE.me1 (fun _ => by rfl) (by rfl) (by rfl) ?_ ?_ | refine' TrE.me2 (fun _ => by rfl) (by rfl) (by rfl) ?_ ?_ ?_) | ((with_reducible show TrC _ _ _ _ _ _ _ _); first | refine' TrC.comp (by rfl) (fun _ _ => by rfl) ?_ ?_ ?_ | refine' TrC.comp2 (by rfl) (by rfl) (fun _ _ => by rfl) (fun _ _ => by rfl) ?_ ?_ ?_) | ((with_reducible show TrEs _ _ _ _ _); first | exact TrEs.nil | refine' TrEs.cons ?_ ?_) | ((with_reducible show TrO _ _ _ _ _); first | exact TrO.none | refine' TrO.some ?_) | ((with_reducible show TrI _ _ _ _ _); first | exact TrI.nil | refine' TrI.one ?_) | ((with_reducible show TrF _ _ _ _ _); first | refine' TrF.list ?_ | refine' TrF.range (by rfl) ?_ ?_) | rfl | exact List.cons_ne_nil _ _)))⟩, ?_⟩
  intro p R l st Q hl hr N q
  dsimp only [Nat.zero_add, Nat.reduceAdd, toEs, toSs]
  refine S.fr_ok (t := .rng 0 8 1) (items := (List.range 8).map vN) (fun j st' => ∃ best near, NS p R l best near st' ∧ Found l R j best near) (Ev.range (n := 8) (Ev.lit _)) (rng_ok (n := 8) (by decide)) (rng_items 8) ⟨99, 0, N, found0 l R⟩ ?_ ?_
  · clear N
    rintro j st v hv ⟨best, near, N, hf⟩
    obtain ⟨rfl, hj⟩ := range_at hv
    have N := N.put (x := 2) (b := .val (vN j)) (.inl rfl)
    have h2 : ((2, B.val (vN j)) :: st : St).lookup 2 = some (.val (vN j)) := rfl
    generalize ((2, B.val (vN j)) :: st : St) = st at N h2 ⊢
    have L : Ev FLw (rd st) _ (.int (lev l (R j) (best - 1))) := lev_ev (EvD.var (rd_at N.l4)) (row_ev hj (EvD.var (rd_at N.l13)) (EvD.var (rd_at h2))) (Ev.sub (EvD.var (rd_at N.l14)) (Ev.lit (.int 1))) (by lia) (by have := hr j; lia)
    obtain ⟨f1, f2⟩ := found_step hl hr hf
    rw [exs_cons]
    refine S.asg_ok L ?_
    have N := N.put (x := 16) (b := .val (.int (lev l (R j) (best - 1)))) (.inr rfl)
    have h2 : ((16, B.val (.int (lev l (R j) (best - 1)))) :: st : St).lookup 2 = some (.val (vN j)) := h2
    have h16 : ((16, B.val (.int (lev l (R j) (best - 1)))) :: st : St).lookup 16 = some (.val (.int (lev l (R j) (best - 1)))) := rfl
    show exs FLw _ ((16, B.val (.int (lev l (R j) (best - 1)))) :: st) _
    generalize ((16, B.val (.int (lev l (R j) (best - 1)))) :: st : St) = st at N h2 h16 ⊢
    generalize lev l (R j) (best - 1) = told at f1 f2 h16
    rw [exs_cons]
    refine S.ifs_ok (Ev.lt (EvD.var (rd_at h16)) (EvD.var (rd_at N.l14))) ?_
    by_cases c : told < best
    · rw [if_pos (decide_eq_true c), exs_cons]
      refine S.asg_ok (EvD.var (rd_at h16)) ?_
      show exs FLw _ ((14, B.val (.int told)) :: st) _
      rw [exs_cons]
      refine S.asg_ok (t := vN j) (EvD.var (rd_at (b := .val (vN j)) h2)) (contW_nil (contW_nil (loop_next ⟨told, j, ⟨N.l4, N.l10, N.l13, rfl, rfl⟩, f1 c⟩)))
    · rw [if_neg (by simpa using c), exs_nil]
      exact contW_nil (loop_next ⟨best, near, N, f2 c⟩)
  · rintro st ⟨best, near, N, hf⟩
    exact q best near st N hf
theorem st18 : ∃ s, nthL 18 s ∧ ∀ (p R : Nat → List Nat) (l : List Nat) best near st Q, l.length = 3 → (∀ k, (R k).length ≤ 16) → NS p R l best near st → near < 8 → lev (R near) l best = best → Q (.next st) → ex1 FLw s st Q := by
  refine ⟨_, ⟨_, (by with_unfolding_all rfl), (by with_unfolding_all (repeat' (first | ((with_reducible show TrSs _ _ _ _ _ _); first | exact TrSs.nil | refine' TrSs.cons ?_ ?_) | ((with_reducible show TrS _ _ _ _ _ _); first | refine' TrS.popU (by rfl) (by rfl) (by rfl) (by rfl) | refine' TrS.newD (by rfl) | refine' TrS.own2c (n := 4) (by rfl) (by rfl) (by rfl) (fun _ _ => by rfl) (SwT.lc rfl) (by rfl) (by decide) ?_ | refine' TrS.stoD (by rfl) (fun _ _ _ => by rfl) (by rfl) ?_ ?_ | refine' TrS.own (by rfl) (by rfl) (by first | exact fun _ _ _ => rfl | exact SwE.lc rfl) (by rfl) ?_ | refine' TrS.frzA (by rfl) (by rfl) (by rfl) (fun _ _ _ => by rfl) (by rfl) ?_ | refine' TrS.asg (by rfl) (by first | exact fun _ _ _ => rfl | exact SwE.lc rfl) (by rfl) ?_ | refine' TrS.app (by rfl) (by rfl) ?_ | refine' TrS.asgC (SwT.lc rfl) (by rfl) ?_ | refine' TrS.sto2 (fun _ _ _ => by rfl) (by rfl) ?_ ?_ ?_ | refine' TrS.sto (fun _ _ _ => by rfl) (by rfl) ?_ ?_ | refine' TrS.swap (by decide) (by rfl) (by rfl) (by rfl) (by rfl) (by rfl) | refine' TrS.asg2 (by rfl) (by rfl) ?_ | refine' TrS.aug (by rfl) ?_ | refine' TrS.augS (fun _ _ _ => by rfl) (by rfl) ?_ ?_ | refine' TrS.ifs ?_ ?_ ?_ | refine' TrS.whl ?_ ?_ | refine' TrS.fr (fun _ _ => by rfl) (by rfl) ?_ ?_ | refine' TrS.ret ?_) | ((with_reducible show TrE _ _ _ _ _); first | refine' TrE.const (by rfl) | refine' TrE.var (by rfl) (by rfl) (by rfl) (by rfl) | refine' TrE.con (by rfl) (by rfl) (by rfl) | refine' TrE.bin ?_ ?_ | refine' TrE.neg ?_ | refine' TrE.notE ?_ | refine' TrE.cmp (by rfl) ?_ ?_ | refine' TrE.bop ?_ ?_ | refine' TrE.ife ?_ ?_ ?_ | refine' TrE.rev ?_ | refine' TrE.sl ?_ ?_ ?_ | refine' TrE.idx ?_ ?_ | refine' TrE.list ?_ | refine' TrE.tup ?_ | refine' TrE.ofC ?_ | refine' TrE.isI (by rfl) (by rfl) ?_ | refine' TrE.isB (by rfl) (by rfl) ?_ | refine' TrE.callF (by rfl) (by rfl) (by rfl) ?_ ?_ | refine' TrE.callB (by rfl) (by rfl) (by rfl) ?_ ?_ | refine' TrE.sub (by rfl) (by rfl) (by rfl) (by rfl) ?_ ?_ | refine' TrE.me0 (fun _ => by rfl) (by rfl) (by rfl) ?_ | refine' TrE.me1 (fun _ => by rfl) (by rfl) (by rfl) ?_ ?_ | refine' TrE.me2 (fun _ => by rfl) (by rfl) (by rfl) ?_ ?_ ?_) | ((with_reducible show TrC _ _ _ _ _ _ _ _); first | refine' TrC.comp (by rfl) (fun _ _ => by rfl) ?_ ?_ ?_ | refine' TrC.comp2 (by rfl) (by rfl) (fun _ _ => by rfl) (fun _ _ => by rfl) ?_ ?_ ?_) | ((with_reducible show TrEs _ _ _ _ _); first | exact TrEs.nil | refine' TrEs.cons ?_ ?_) | ((with_reducible show TrO _ _ _ _ _); first | exact TrO.none | refine' TrO.some ?_) | ((with_reducible show TrI _ _ _ _ _); first | exact TrI.nil | refine' TrI.one ?_) | ((with_reducible show TrF _ _ _ _ _); first | refine' TrF.list ?_ | refine' TrF.range (by rfl) ?_ ?_) | rfl | exact List.cons_ne_nil _ _)))⟩, ?_⟩
  intro p R l best near st Q hl hr N hn he q
  dsimp only [Nat.zero_add, Nat.reduceAdd, toEs, toSs]
  have B : Ev FLw (rd st) (.var 14) (.int best) := EvD.var (rd_at N.l14)
  have L := ne_int (lev_ev (row_ev hn (EvD.var (rd_at N.l13)) (EvD.var (rd_at N.l15))) (EvD.var (rd_at N.l4)) B (by have := hr near; lia) (by lia)) B
  rw [he, decide_eq_true rfl] at L
  have b1 : Tv FLw (rd st) (E.var 14).isB false := fun Q q => Ev.isB B (fun t _ => truthW t Q) q
  have b2 : Tv FLw (rd st) (E.var 14).isI.notE (!true) := Tv.not fun Q q => (show evW FLw (rd st) (E.var 14).isI (fun t _ => truthW t Q) from B _ q)
  exact ifs_no (Tv.or b1 fun _ => Tv.or b2 fun _ => L) q
theorem st19 : ∃ s, nthL 19 s ∧ ∀ (p R : Nat → List Nat) (l : List Nat) best near st Q, l.length = 3 → (∀ k, (R k).length ≤ 16) → NS p R l best near st → near < 8 → (best ≠ 2 * (((3 : Int) - (R near).length).natAbs : Int) → lev (R near) l 0 = 1) → Q (.next st) → ex1 FLw s st Q := by
  refine ⟨_, ⟨_, (by with_unfolding_all rfl), (by with_unfolding_all (repeat' (first | ((with_reducible show TrSs _ _ _ _ _ _); first | exact TrSs.nil | refine' TrSs.cons ?_ ?_) | ((with_reducible show TrS _ _ _ _ _ _); first | refine' TrS.popU (by rfl) (by rfl) (by rfl) (by rfl) | refine' TrS.newD (by rfl) | refine' TrS.own2c (n := 4) (by rfl) (by rfl) (by rfl) (fun _ _ => by rfl) (SwT.lc rfl) (by rfl) (by decide) ?_ | refine' TrS.stoD (by rfl) (fun _ _ _ => by rfl) (by rfl) ?_ ?_ | refine' TrS.own (by rfl) (by rfl) (by first | exact fun _ _ _ => rfl | exact SwE.lc rfl) (by rfl) ?_ | refine' TrS.frzA (by rfl) (by rfl) (by rfl) (fun _ _ _ => by rfl) (by rfl) ?_ | refine' TrS.asg (by rfl) (by first | exact fun _ _ _ => rfl | exact SwE.lc rfl) (by rfl) ?_ | refine' TrS.app (by rfl) (by rfl) ?_ | refine' TrS.asgC (SwT.lc rfl) (by rfl) ?_ | refine' TrS.sto2 (fun _ _ _ => by rfl) (by rfl) ?_ ?_ ?_ | refine' TrS.sto (fun _ _ _ => by rfl) (by rfl) ?_ ?_ | refine' TrS.swap (by decide) (by rfl) (by rfl) (by rfl) (by rfl) (by rfl) | refine' TrS.asg2 (by rfl) (by rfl) ?_ | refine' TrS.aug (by rfl) ?_ | refine' TrS.augS (fun _ _ _ => by rfl) (by rfl) ?_ ?_ | refine' TrS.ifs ?_ ?_ ?_ | refine' TrS.whl ?_ ?_ | refine' TrS.fr (fun _ _ => by rfl) (by rfl) ?_ ?_ | refine' TrS.ret ?_) | ((with_reducible show TrE _ _ _ _ _); first | refine' TrE.const (by rfl) | refine' TrE.var (by rfl) (by rfl) (by rfl) (by rfl) | refine' TrE.con (by rfl) (by rfl) (by rfl) | refine' TrE.bin ?_ ?_ | refine' TrE.neg ?_ | refine' TrE.notE ?_ | refine' TrE.cmp (by rfl) ?_ ?_ | refine' TrE.bop ?_ ?_ | refine' TrE.ife ?_ ?_ ?_ | refine' TrE.rev ?_ | refine' TrE.sl ?_ ?_ ?_ | refine' TrE.idx ?_ ?_ | refine' TrE.list ?_ | refine' TrE.tup ?_ | refine' TrE.ofC ?_ | refine' TrE.isI (by rfl) (by rfl) ?_ | refine' TrE.isB (by rfl) (by rfl) ?_ | refine' TrE.callF (by rfl) (by rfl) (by rfl) ?_ ?_ | refine' TrE.callB (by rfl) (by rfl) (by rfl) ?_ ?_ | refine' TrE.sub (by rfl) (by rfl) (by rfl) (by rfl) ?_ ?_ | refine' TrE.me0 (fun _ => by rfl) (by rfl) (by rfl) ?_ | refine' TrE.me1 (fun _ => by rfl) (by rfl) (by rfl) ?_ ?_ | refine' TrE.me2 (fun _ => by rfl) (by rfl) (by rfl) ?_ ?_ ?_) | ((with_reducible show TrC _ _ _ _ _ _ _ _); first | refine' TrC.comp (by rfl) (fun _ _ => by rfl) ?_ ?_ ?_ | refine' TrC.comp2 (by rfl) (by rfl) (fun _ _ => by rfl) (fun _ _ => by rfl) ?_ ?_ ?_) | ((with_reducible show TrEs _ _ _ _ _); first | exact TrEs.nil | refine' TrEs.cons ?_ ?_) | ((with_reducible show TrO _ _ _ _ _); first | exact TrO.none | refine' TrO.some ?_) | ((with_reducible show TrI _ _ _ _ _); first | exact TrI.nil | refine' TrI.one ?_) | ((with_reducible show TrF _ _ _ _ _); first | refine' TrF.list ?_ | refine' TrF.range (by rfl) ?_ ?_) | rfl | exact List.cons_ne_nil _ _)))⟩, ?_⟩
  intro p R l best near st Q hl hr N hn he q
  dsimp only [Nat.zero_add, Nat.reduceAdd, toEs, toSs]
  have B : Ev FLw (rd st) (.var 14) (.int best) := EvD.var (rd_at N.l14)
  have X : Ev FLw (rd st) (.var 4) (.str l) := EvD.var (rd_at N.l4)
  have Y : Ev FLw (rd st) _ (.str (R near)) := row_ev hn (EvD.var (rd_at N.l13)) (EvD.var (rd_at N.l15))
  have A : Ev FLw (rd st) _ (.int (((3 : Int) - (R near).length).natAbs : Int)) := EvD.bi (b := .abs) (.cons (Ev.sub (Ev.lenS X) (Ev.lenS Y)) .nil) fun Q q => by
    show Q (.int (if (l.length : Int) - (R near).length < 0 then -((l.length : Int) - (R near).length) else (l.length : Int) - (R near).length)) 0
    have : (if (l.length : Int) - (R near).length < 0 then -((l.length : Int) - (R near).length) else (l.length : Int) - (R near).length) = (((3 : Int) - (R near).length).natAbs : Int) := by rw [hl]; split <;> lia
    rw [this]; exact q
  have C := ne_int B (Ev.mul (by decide) (Ev.lit (.int 2)) A)
  have L := ne_int (lev_ev Y X (Ev.lit (.int 0)) (by have := hr near; lia) (by lia)) (Ev.lit (.int 1))
  have T := Tv.and C fun _ => L
  have e : (!decide (best = 2 * (((3 : Int) - (R near).length).natAbs : Int)) && !decide (lev (R near) l 0 = 1)) = false := by
    by_cases h : best = 2 * (((3 : Int) - (R near).length).natAbs : Int)
    · rw [decide_eq_true h]; rfl
    · rw [decide_eq_true (he h), Bool.and_comm]; rfl
  rw [e] at T
  exact ifs_no T q
theorem st20 : ∃ s, nthL 20 s ∧ ∀ (l : List Nat) st Q, l.length = 3 → (∀ c ∈ l, c ∈ ten) → st.lookup 4 = some (.val (.str l)) → Q (.next st) → ex1 FLw s st Q := by
  refine ⟨_, ⟨_, (by with_unfolding_all rfl), (by with_unfolding_all (repeat' (first | ((with_reducible show TrSs _ _ _ _ _ _); first | exact TrSs.nil | refine' TrSs.cons ?_ ?_) | ((with_reducible show TrS _ _ _ _ _ _); first | refine' TrS.popU (by rfl) (by rfl) (by rfl) (by rfl) | refine' TrS.newD (by rfl) | refine' TrS.own2c (n := 4) (by rfl) (by rfl) (by rfl) (fun _ _ => by rfl) (SwT.lc rfl) (by rfl) (by decide) ?_ | refine' TrS.stoD (by rfl) (fun _ _ _ => by rfl) (by rfl) ?_ ?_ | refine' TrS.own (by rfl) (by rfl) (by first | exact fun _ _ _ => rfl | exact SwE.lc rfl) (by rfl) ?_ | refine' TrS.frzA (by rfl) (by rfl) (by rfl) (fun _ _ _ => by rfl) (by rfl) ?_ | refine' TrS.asg (by rfl) (by first | exact fun _ _ _ => rfl | exact SwE.lc rfl) (by rfl) ?_ | refine' TrS.app (by rfl) (by rfl) ?_ | refine' TrS.asgC (SwT.lc rfl) (by rfl) ?_ | refine' TrS.sto2 (fun _ _ _ => by rfl) (by rfl) ?_ ?_ ?_ | refine' TrS.sto (fun _ _ _ => by rfl) (by rfl) ?_ ?_ | refine' TrS.swap (by decide) (by rfl) (by rfl) (by rfl) (by rfl) (by rfl) | refine' TrS.asg2 (by rfl) (by rfl) ?_ | refine' TrS.aug (by rfl) ?_ | refine' TrS.augS (fun _ _ _ => by rfl) (by rfl) ?_ ?_ | refine' TrS.ifs ?_ ?_ ?_ | refine' TrS.whl ?_ ?_ | refine' TrS.fr (fun _ _ => by rfl) (by rfl) ?_ ?_ | refine' TrS.ret ?_) | ((with_reducible show TrE _ _ _ _ _); first | refine' TrE.const (by rfl) | refine' TrE.var (by rfl) (by rfl) (by rfl) (by rfl) | refine' TrE.con (by rfl) (by rfl) (by rfl) | refine' TrE.bin ?_ ?_ | refine' TrE.neg ?_ | refine' TrE.notE ?_ | refine' TrE.cmp (by rfl) ?_ ?_ | refine' TrE.bop ?_ ?_ | refine' TrE.ife ?_ ?_ ?_ | refine' TrE.rev ?_ | refine' TrE.sl ?_ ?_ ?_ | refine' TrE.idx ?_ ?_ | refine' TrE.list ?_ | refine' TrE.tup ?_ | refine' TrE.ofC ?_ | refine' TrE.isI (by rfl) (by rfl) ?_ | refine' TrE.isB (by rfl) (by rfl) ?_ | refine' TrE.callF (by rfl) (by rfl) (by rfl) ?_ ?_ | refine' TrE.callB (by rfl) (by rfl) (by rfl) ?_ ?_ | refine' TrE.sub (by rfl) (by rfl) (by rfl) (by rfl) ?_ ?_ | refine' TrE.me0 (fun _ => by rfl) (by rfl) (by rfl) ?_ | refine' TrE.me1 (fun _ => by rfl) (by rfl) (by rfl) ?_ ?_ | refine' TrE.me2 (fun _ => by rfl) (by rfl) (by rfl) ?_ ?_ ?_) | ((with_reducible show TrC _ _ _ _ _ _ _ _); first | refine' TrC.comp (by rfl) (fun _ _ => by rfl) ?_ ?_ ?_ | refine' TrC.comp2 (by rfl) (by rfl) (fun _ _ => by rfl) (fun _ _ => by rfl) ?_ ?_ ?_) | ((with_reducible show TrEs _ _ _ _ _); first | exact TrEs.nil | refine' TrEs.cons ?_ ?_) | ((with_reducible show TrO _ _ _ _ _); first | exact TrO.none | refine' TrO.some ?_) | ((with_reducible show TrI _ _ _ _ _); first | exact TrI.nil | refine' TrI.one ?_) | ((with_reducible show TrF _ _ _ _ _); first | refine' TrF.list ?_ | refine' TrF.range (by rfl) ?_ ?_) | rfl | exact List.cons_ne_nil _ _)))⟩, ?_⟩
  intro l st Q hl ht h4 q
  dsimp only [Nat.zero_add, Nat.reduceAdd, toEs, toSs]
  have X : Ev FLw (rd st) (.var 4) (.str l) := EvD.var (rd_at h4)
  have L := ne_int (lev_ev (cat15 (y := [100, 101]) (by lia) (by decide) X (Ev.lit _)) (cat15 (y := [102]) (by rw [List.length_append]; show 1 + _ ≤ _; lia) (by decide) (cat15 (x := [100]) (by decide) (by lia) (Ev.lit _) X) (Ev.lit _)) (Ev.lit (.int 6)) (by rw [List.length_append]; show _ + 2 ≤ _; lia) (by rw [List.length_append, List.length_append]; show 1 + _ + 1 ≤ _; lia)) (Ev.lit (.int 6))
  rw [de_ok hl ht, decide_eq_true rfl] at L
  exact ifs_no L q
end Mine
end

-- part K9
section
open PySem PySem.Calls PyProof.Rows
set_option linter.unusedSimpArgs false
set_option linter.unusedVariables false
set_option maxRecDepth 100000
namespace Mine

section
variable {r : Rv} {l : List Nat}
theorem ahead_ev {a b c : E} {s : List Nat} {T : Nat → Nat → Int} (hl : l.length = 3) (ha : Ev FLw r a (.str s)) (hb : Ev FLw r b (tabV T)) (hc : Ev FLw r c (.str l)) : Ev FLw r (.call 3 (.cons a (.cons b (.cons c .nil)))) (tabV (aheadT l s.reverse T)) :=
  Ev.call (.cons ha (.cons hb (.cons hc .nil))) ⟨rfl, rfl, rfl, trivial⟩ fun Q q => ⟨s, l, T, rfl, hl, q⟩
theorem behind_ev {a b c : E} {s : List Nat} {T : Nat → Nat → Int} (hl : l.length = 3) (ha : Ev FLw r a (.str s)) (hb : Ev FLw r b (tabV T)) (hc : Ev FLw r c (.str l)) : Ev FLw r (.call 4 (.cons a (.cons b (.cons c .nil)))) (tabV (behindT l s T)) :=
  Ev.call (.cons ha (.cons hb (.cons hc .nil))) ⟨rfl, rfl, rfl, trivial⟩ fun Q q => ⟨s, l, T, rfl, hl, q⟩
theorem either_ev {a b c : E} {A B : Nat → Nat → Int} {m : Int} (ha : Ev FLw r a (tabV A)) (hb : Ev FLw r b (tabV B)) (hc : Ev FLw r c (.int m)) : Ev FLw r (.call 5 (.cons a (.cons b (.cons c .nil)))) (tabV (eithT A B m)) :=
  Ev.call (.cons ha (.cons hb (.cons hc .nil))) ⟨rfl, rfl, rfl, trivial⟩ fun Q q => ⟨A, B, m, rfl, q⟩
theorem both_ev {a b : E} {A B : Nat → Nat → Int} (ha : Ev FLw r a (tabV A)) (hb : Ev FLw r b (tabV B)) : Ev FLw r (.call 6 (.cons a (.cons b .nil))) (tabV (bothT A B)) :=
  Ev.call (.cons ha (.cons hb .nil)) ⟨rfl, rfl, trivial⟩ fun Q q => ⟨A, B, rfl, q⟩
end
/-- what the law holds while it fills the tables -/
structure TS (p : Nat → List Nat) (l : List Nat) (st : St) : Prop where
  l4 : st.lookup 4 = some (.val (.str l))
  l10 : st.lookup 10 = some (.val (.list ((r7 p).map .str)))
theorem st21 : ∃ s, nthL 21 s ∧ ∀ st Q, Q (.next ((17, .val (tabV plainT)) :: st)) → ex1 FLw s st Q := by
  refine ⟨_, ⟨_, (by with_unfolding_all rfl), (by with_unfolding_all (repeat' (first | ((with_reducible show TrSs _ _ _ _ _ _); first | exact TrSs.nil | refine' TrSs.cons ?_ ?_) | ((with_reducible show TrS _ _ _ _ _ _); first | refine' TrS.popU (by rfl) (by rfl) (by rfl) (by rfl) | refine' TrS.newD (by rfl) | refine' TrS.own2c (n := 4) (by rfl) (by rfl) (by rfl) (fun _ _ => by rfl) (SwT.lc rfl) (by rfl) (by decide) ?_ | refine' TrS.stoD (by rfl) (fun _ _ _ => by rfl) (by rfl) ?_ ?_ | refine' TrS.own (by rfl) (by rfl) (by first | exact fun _ _ _ => rfl | exact SwE.lc rfl) (by rfl) ?_ | refine' TrS.frzA (by rfl) (by rfl) (by rfl) (fun _ _ _ => by rfl) (by rfl) ?_ | refine' TrS.asg (by rfl) (by first | exact fun _ _ _ => rfl | exact SwE.lc rfl) (by rfl) ?_ | refine' TrS.app (by rfl) (by rfl) ?_ | refine' TrS.asgC (SwT.lc rfl) (by rfl) ?_ | refine' TrS.sto2 (fun _ _ _ => by rfl) (by rfl) ?_ ?_ ?_ | refine' TrS.sto (fun _ _ _ => by rfl) (by rfl) ?_ ?_ | refine' TrS.swap (by decide) (by rfl) (by rfl) (by rfl) (by rfl) (by rfl) | refine' TrS.asg2 (by rfl) (by rfl) ?_ | refine' TrS.aug (by rfl) ?_ | refine' TrS.augS (fun _ _ _ => by rfl) (by rfl) ?_ ?_ | refine' TrS.ifs ?_ ?_ ?_ | refine' TrS.whl ?_ ?_ | refine' TrS.fr (fun _ _ => by rfl) (by rfl) ?_ ?_ | refine' TrS.ret ?_) | ((with_reducible show TrE _ _ _ _ _); first | refine' TrE.const (by rfl) | refine' TrE.var (by rfl) (by rfl) (by rfl) (by rfl) | refine' TrE.con (by rfl) (by rfl) (by rfl) | refine' TrE.bin ?_ ?_ | refine' TrE.neg ?_ | refine' TrE.notE ?_ | refine' TrE.cmp (by rfl) ?_ ?_ | refine' TrE.bop ?_ ?_ | refine' TrE.ife ?_ ?_ ?_ | refine' TrE.rev ?_ | refine' TrE.sl ?_ ?_ ?_ | refine' TrE.idx ?_ ?_ | refine' TrE.list ?_ | refine' TrE.tup ?_ | refine' TrE.ofC ?_ | refine' TrE.isI (by rfl) (by rfl) ?_ | refine' TrE.isB (by rfl) (by rfl) ?_ | refine' TrE.callF (by rfl) (by rfl) (by rfl) ?_ ?_ | refine' TrE.callB (by rfl) (by rfl) (by rfl) ?_ ?_ | refine' TrE.sub (by rfl) (by rfl) (by rfl) (by rfl) ?_ ?_ | refine' TrE.me0 (fun _ => by rfl) (by rfl) (by rfl) ?_ | refine' TrE.me1 (fun _ => by rfl) (by rfl) (by rfl) ?_ ?_ | refine' TrE.me2 (fun _ => by rfl) (by rfl) (by rfl) ?_ ?_ ?_) | ((with_reducible show TrC _ _ _ _ _ _ _ _); first | refine' TrC.comp (by rfl) (fun _ _ => by rfl) ?_ ?_ ?_ | refine' TrC.comp2 (by rfl) (by rfl) (fun _ _ => by rfl) (fun _ _ => by rfl) ?_ ?_ ?_) | ((with_reducible show TrEs _ _ _ _ _); first | exact TrEs.nil | refine' TrEs.cons ?_ ?_) | ((with_reducible show TrO _ _ _ _ _); first | exact TrO.none | refine' TrO.some ?_) | ((with_reducible show TrI _ _ _ _ _); first | exact TrI.nil | refine' TrI.one ?_) | ((with_reducible show TrF _ _ _ _ _); first | refine' TrF.list ?_ | refine' TrF.range (by rfl) ?_ ?_) | rfl | exact List.cons_ne_nil _ _)))⟩, ?_⟩
  intro st Q q
  dsimp only [Nat.zero_add, Nat.reduceAdd, toEs, toSs]
  rw [vl, show (compNs (varsOf dLw.scope) [Str.ofString "i"]).length = 27 from rfl]
  refine S.asg_ok (Ev.compR4 (f := fun i => .list (r4 fun j => .int (plainT i j))) (Ev.range1 (Ev.lit _)) (fun v => Tv.lit true) fun i hi => ?_) q
  refine Ev.compR4 (f := fun j => .int (plainT i j)) (Ev.range1 (Ev.lit _)) (fun v => Tv.lit true) fun j hj => ?_
  exact Ev.mul (x := 32) (by decide) (Ev.lit _) (Ev.sub (EvD.var (t := vN j) (d := 0) rfl) (EvD.var (t := vN i) (d := 0) rfl))
theorem st22 : ∃ s, nthL 22 s ∧ ∀ (p : Nat → List Nat) (l : List Nat) st Q, l.length = 3 → TS p l st → st.lookup 17 = some (.val (tabV plainT)) → Q (.next ((18, .val (tabV (tLast l p))) :: st)) → ex1 FLw s st Q := by
  refine ⟨_, ⟨_, (by with_unfolding_all rfl), (by with_unfolding_all (repeat' (first | ((with_reducible show TrSs _ _ _ _ _ _); first | exact TrSs.nil | refine' TrSs.cons ?_ ?_) | ((with_reducible show TrS _ _ _ _ _ _); first | refine' TrS.popU (by rfl) (by rfl) (by rfl) (by rfl) | refine' TrS.newD (by rfl) | refine' TrS.own2c (n := 4) (by rfl) (by rfl) (by rfl) (fun _ _ => by rfl) (SwT.lc rfl) (by rfl) (by decide) ?_ | refine' TrS.stoD (by rfl) (fun _ _ _ => by rfl) (by rfl) ?_ ?_ | refine' TrS.own (by rfl) (by rfl) (by first | exact fun _ _ _ => rfl | exact SwE.lc rfl) (by rfl) ?_ | refine' TrS.frzA (by rfl) (by rfl) (by rfl) (fun _ _ _ => by rfl) (by rfl) ?_ | refine' TrS.asg (by rfl) (by first | exact fun _ _ _ => rfl | exact SwE.lc rfl) (by rfl) ?_ | refine' TrS.app (by rfl) (by rfl) ?_ | refine' TrS.asgC (SwT.lc rfl) (by rfl) ?_ | refine' TrS.sto2 (fun _ _ _ => by rfl) (by rfl) ?_ ?_ ?_ | refine' TrS.sto (fun _ _ _ => by rfl) (by rfl) ?_ ?_ | refine' TrS.swap (by decide) (by rfl) (by rfl) (by rfl) (by rfl) (by rfl) | refine' TrS.asg2 (by rfl) (by rfl) ?_ | refine' TrS.aug (by rfl) ?_ | refine' TrS.augS (fun _ _ _ => by rfl) (by rfl) ?_ ?_ | refine' TrS.ifs ?_ ?_ ?_ | refine' TrS.whl ?_ ?_ | refine' TrS.fr (fun _ _ => by rfl) (by rfl) ?_ ?_ | refine' TrS.ret ?_) | ((with_reducible show TrE _ _ _ _ _); first | refine' TrE.const (by rfl) | refine' TrE.var (by rfl) (by rfl) (by rfl) (by rfl) | refine' TrE.con (by rfl) (by rfl) (by rfl) | refine' TrE.bin ?_ ?_ | refine' TrE.neg ?_ | refine' TrE.notE ?_ | refine' TrE.cmp (by rfl) ?_ ?_ | refine' TrE.bop ?_ ?_ | refine' TrE.ife ?_ ?_ ?_ | refine' TrE.rev ?_ | refine' TrE.sl ?_ ?_ ?_ | refine' TrE.idx ?_ ?_ | refine' TrE.list ?_ | refine' TrE.tup ?_ | refine' TrE.ofC ?_ | refine' TrE.isI (by rfl) (by rfl) ?_ | refine' TrE.isB (by rfl) (by rfl) ?_ | refine' TrE.callF (by rfl) (by rfl) (by rfl) ?_ ?_ | refine' TrE.callB (by rfl) (by rfl) (by rfl) ?_ ?_ | refine' TrE.sub (by rfl) (by rfl) (by rfl) (by rfl) ?_ ?_ | refine' TrE.me0 (fun _ => by rfl) (by rfl) (by rfl) ?_ | refine' TrE.me1 (fun _ => by rfl) (by rfl) (by rfl) ?_ ?_ | refine' TrE.me2 (fun _ => by rfl) (by rfl) (by rfl) ?_ ?_ ?_) | ((with_reducible show TrC _ _ _ _ _ _ _ _); first | refine' TrC.comp (by rfl) (fun _ _ => by rfl) ?_ ?_ ?_ | refine' TrC.comp2 (by rfl) (by rfl) (fun _ _ => by rfl) (fun _ _ => by rfl) ?_ ?_ ?_) | ((with_reducible show TrEs _ _ _ _ _); first | exact TrEs.nil | refine' TrEs.cons ?_ ?_) | ((with_reducible show TrO _ _ _ _ _); first | exact TrO.none | refine' TrO.some ?_) | ((with_reducible show TrI _ _ _ _ _); first | exact TrI.nil | refine' TrI.one ?_) | ((with_reducible show TrF _ _ _ _ _); first | refine' TrF.list ?_ | refine' TrF.range (by rfl) ?_ ?_) | rfl | exact List.cons_ne_nil _ _)))⟩, ?_⟩
  intro p l st Q hl T h17 q
  dsimp only [Nat.zero_add, Nat.reduceAdd, toEs, toSs]
  exact S.asg_ok (ahead_ev hl (p7 (rd_at T.l10) 5 (by decide)) (EvD.var (rd_at h17)) (EvD.var (rd_at T.l4))) q
theorem st23 : ∃ s, nthL 23 s ∧ ∀ (p : Nat → List Nat) (l : List Nat) st Q, l.length = 3 → TS p l st → st.lookup 17 = some (.val (tabV plainT)) → Q (.next ((19, .val (tabV (tOther l p))) :: st)) → ex1 FLw s st Q := by
  refine ⟨_, ⟨_, (by with_unfolding_all rfl), (by with_unfolding_all (repeat' (first | ((with_reducible show TrSs _ _ _ _ _ _); first | exact TrSs.nil | refine' TrSs.cons ?_ ?_) | ((with_reducible show TrS _ _ _ _ _ _); first | refine' TrS.popU (by rfl) (by rfl) (by rfl) (by rfl) | refine' TrS.newD (by rfl) | refine' TrS.own2c (n := 4) (by rfl) (by rfl) (by rfl) (fun _ _ => by rfl) (SwT.lc rfl) (by rfl) (by decide) ?_ | refine' TrS.stoD (by rfl) (fun _ _ _ => by rfl) (by rfl) ?_ ?_ | refine' TrS.own (by rfl) (by rfl) (by first | exact fun _ _ _ => rfl | exact SwE.lc rfl) (by rfl) ?_ | refine' TrS.frzA (by rfl) (by rfl) (by rfl) (fun _ _ _ => by rfl) (by rfl) ?_ | refine' TrS.asg (by rfl) (by first | exact fun _ _ _ => rfl | exact SwE.lc rfl) (by rfl) ?_ | refine' TrS.app (by rfl) (by rfl) ?_ | refine' TrS.asgC (SwT.lc rfl) (by rfl) ?_ | refine' TrS.sto2 (fun _ _ _ => by rfl) (by rfl) ?_ ?_ ?_ | refine' TrS.sto (fun _ _ _ => by rfl) (by rfl) ?_ ?_ | refine' TrS.swap (by decide) (by rfl) (by rfl) (by rfl) (by rfl) (by rfl) | refine' TrS.asg2 (by rfl) (by rfl) ?_ | refine' TrS.aug (by rfl) ?_ | refine' TrS.augS (fun _ _ _ => by rfl) (by rfl) ?_ ?_ | refine' TrS.ifs ?_ ?_ ?_ | refine' TrS.whl ?_ ?_ | refine' TrS.fr (fun _ _ => by rfl) (by rfl) ?_ ?_ | refine' TrS.ret ?_) | ((with_reducible show TrE _ _ _ _ _); first | refine' TrE.const (by rfl) | refine' TrE.var (by rfl) (by rfl) (by rfl) (by rfl) | refine' TrE.con (by rfl) (by rfl) (by rfl) | refine' TrE.bin ?_ ?_ | refine' TrE.neg ?_ | refine' TrE.notE ?_ | refine' TrE.cmp (by rfl) ?_ ?_ | refine' TrE.bop ?_ ?_ | refine' TrE.ife ?_ ?_ ?_ | refine' TrE.rev ?_ | refine' TrE.sl ?_ ?_ ?_ | refine' TrE.idx ?_ ?_ | refine' TrE.list ?_ | refine' TrE.tup ?_ | refine' TrE.ofC ?_ | refine' TrE.isI (by rfl) (by rfl) ?_ | refine' TrE.isB (by rfl) (by rfl) ?_ | refine' TrE.callF (by rfl) (by rfl) (by rfl) ?_ ?_ | refine' TrE.callB (by rfl) (by rfl) (by rfl) ?_ ?_ | refine' TrE.sub (by rfl) (by rfl) (by rfl) (by rfl) ?_ ?_ | refine' TrE.me0 (fun _ => by rfl) (by rfl) (by rfl) ?_ | refine' TrE.me1 (fun _ => by rfl) (by rfl) (by rfl) ?_ ?_ | refine' TrE.me2 (fun _ => by rfl) (by rfl) (by rfl) ?_ ?_ ?_) | ((with_reducible show TrC _ _ _ _ _ _ _ _); first | refine' TrC.comp (by rfl) (fun _ _ => by rfl) ?_ ?_ ?_ | refine' TrC.comp2 (by rfl) (by rfl) (fun _ _ => by rfl) (fun _ _ => by rfl) ?_ ?_ ?_) | ((with_reducible show TrEs _ _ _ _ _); first | exact TrEs.nil | refine' TrEs.cons ?_ ?_) | ((with_reducible show TrO _ _ _ _ _); first | exact TrO.none | refine' TrO.some ?_) | ((with_reducible show TrI _ _ _ _ _); first | exact TrI.nil | refine' TrI.one ?_) | ((with_reducible show TrF _ _ _ _ _); first | refine' TrF.list ?_ | refine' TrF.range (by rfl) ?_ ?_) | rfl | exact List.cons_ne_nil _ _)))⟩, ?_⟩
  intro p l st Q hl T h17 q
  dsimp only [Nat.zero_add, Nat.reduceAdd, toEs, toSs]
  exact S.asg_ok (ahead_ev hl (p7 (rd_at T.l10) 6 (by decide)) (EvD.var (rd_at h17)) (EvD.var (rd_at T.l4))) q
theorem st24 : ∃ s, nthL 24 s ∧ ∀ (p : Nat → List Nat) (l : List Nat) st Q, l.length = 3 → TS p l st → st.lookup 18 = some (.val (tabV (tLast l p))) → st.lookup 19 = some (.val (tabV (tOther l p))) → Q (.next ((20, .val (tabV (tHeld l p))) :: st)) → ex1 FLw s st Q := by
  refine ⟨_, ⟨_, (by with_unfolding_all rfl), (by with_unfolding_all (repeat' (first | ((with_reducible show TrSs _ _ _ _ _ _); first | exact TrSs.nil | refine' TrSs.cons ?_ ?_) | ((with_reducible show TrS _ _ _ _ _ _); first | refine' TrS.popU (by rfl) (by rfl) (by rfl) (by rfl) | refine' TrS.newD (by rfl) | refine' TrS.own2c (n := 4) (by rfl) (by rfl) (by rfl) (fun _ _ => by rfl) (SwT.lc rfl) (by rfl) (by decide) ?_ | refine' TrS.stoD (by rfl) (fun _ _ _ => by rfl) (by rfl) ?_ ?_ | refine' TrS.own (by rfl) (by rfl) (by first | exact fun _ _ _ => rfl | exact SwE.lc rfl) (by rfl) ?_ | refine' TrS.frzA (by rfl) (by rfl) (by rfl) (fun _ _ _ => by rfl) (by rfl) ?_ | refine' TrS.asg (by rfl) (by first | exact fun _ _ _ => rfl | exact SwE.lc rfl) (by rfl) ?_ | refine' TrS.app (by rfl) (by rfl) ?_ | refine' TrS.asgC (SwT.lc rfl) (by rfl) ?_ | refine' TrS.sto2 (fun _ _ _ => by rfl) (by rfl) ?_ ?_ ?_ | refine' TrS.sto (fun _ _ _ => by rfl) (by rfl) ?_ ?_ | refine' TrS.swap (by decide) (by rfl) (by rfl) (by rfl) (by rfl) (by rfl) | refine' TrS.asg2 (by rfl) (by rfl) ?_ | refine' TrS.aug (by rfl) ?_ | refine' TrS.augS (fun _ _ _ => by rfl) (by rfl) ?_ ?_ | refine' TrS.ifs ?_ ?_ ?_ | refine' TrS.whl ?_ ?_ | refine' TrS.fr (fun _ _ => by rfl) (by rfl) ?_ ?_ | refine' TrS.ret ?_) | ((with_reducible show TrE _ _ _ _ _); first | refine' TrE.const (by rfl) | refine' TrE.var (by rfl) (by rfl) (by rfl) (by rfl) | refine' TrE.con (by rfl) (by rfl) (by rfl) | refine' TrE.bin ?_ ?_ | refine' TrE.neg ?_ | refine' TrE.notE ?_ | refine' TrE.cmp (by rfl) ?_ ?_ | refine' TrE.bop ?_ ?_ | refine' TrE.ife ?_ ?_ ?_ | refine' TrE.rev ?_ | refine' TrE.sl ?_ ?_ ?_ | refine' TrE.idx ?_ ?_ | refine' TrE.list ?_ | refine' TrE.tup ?_ | refine' TrE.ofC ?_ | refine' TrE.isI (by rfl) (by rfl) ?_ | refine' TrE.isB (by rfl) (by rfl) ?_ | refine' TrE.callF (by rfl) (by rfl) (by rfl) ?_ ?_ | refine' TrE.callB (by rfl) (by rfl) (by rfl) ?_ ?_ | refine' TrE.sub (by rfl) (by rfl) (by rfl) (by rfl) ?_ ?_ | refine' TrE.me0 (fun _ => by rfl) (by rfl) (by rfl) ?_ | refine' TrE.me1 (fun _ => by rfl) (by rfl) (by rfl) ?_ ?_ | refine' TrE.me2 (fun _ => by rfl) (by rfl) (by rfl) ?_ ?_ ?_) | ((with_reducible show TrC _ _ _ _ _ _ _ _); first | refine' TrC.comp (by rfl) (fun _ _ => by rfl) ?_ ?_ ?_ | refine' TrC.comp2 (by rfl) (by rfl) (fun _ _ => by rfl) (fun _ _ => by rfl) ?_ ?_ ?_) | ((with_reducible show TrEs _ _ _ _ _); first | exact TrEs.nil | refine' TrEs.cons ?_ ?_) | ((with_reducible show TrO _ _ _ _ _); first | exact TrO.none | refine' TrO.some ?_) | ((with_reducible show TrI _ _ _ _ _); first | exact TrI.nil | refine' TrI.one ?_) | ((with_reducible show TrF _ _ _ _ _); first | refine' TrF.list ?_ | refine' TrF.range (by rfl) ?_ ?_) | rfl | exact List.cons_ne_nil _ _)))⟩, ?_⟩
  intro p l st Q hl T h18 h19 q
  dsimp only [Nat.zero_add, Nat.reduceAdd, toEs, toSs]
  exact S.asg_ok (ahead_ev hl (p7 (rd_at T.l10) 2 (by decide)) (behind_ev hl (p7 (rd_at T.l10) 3 (by decide)) (either_ev (EvD.var (rd_at h18)) (EvD.var (rd_at h19)) (Ev.lit (.int 2))) (EvD.var (rd_at T.l4))) (EvD.var (rd_at T.l4))) q
theorem st25 : ∃ s, nthL 25 s ∧ ∀ (p : Nat → List Nat) (l : List Nat) st Q, l.length = 3 → TS p l st → st.lookup 20 = some (.val (tabV (tHeld l p))) → st.lookup 17 = some (.val (tabV plainT)) → Q (.next ((21, .val (tabV (tMiddle l p))) :: st)) → ex1 FLw s st Q := by
  refine ⟨_, ⟨_, (by with_unfolding_all rfl), (by with_unfolding_all (repeat' (first | ((with_reducible show TrSs _ _ _ _ _ _); first | exact TrSs.nil | refine' TrSs.cons ?_ ?_) | ((with_reducible show TrS _ _ _ _ _ _); first | refine' TrS.popU (by rfl) (by rfl) (by rfl) (by rfl) | refine' TrS.newD (by rfl) | refine' TrS.own2c (n := 4) (by rfl) (by rfl) (by rfl) (fun _ _ => by rfl) (SwT.lc rfl) (by rfl) (by decide) ?_ | refine' TrS.stoD (by rfl) (fun _ _ _ => by rfl) (by rfl) ?_ ?_ | refine' TrS.own (by rfl) (by rfl) (by first | exact fun _ _ _ => rfl | exact SwE.lc rfl) (by rfl) ?_ | refine' TrS.frzA (by rfl) (by rfl) (by rfl) (fun _ _ _ => by rfl) (by rfl) ?_ | refine' TrS.asg (by rfl) (by first | exact fun _ _ _ => rfl | exact SwE.lc rfl) (by rfl) ?_ | refine' TrS.app (by rfl) (by rfl) ?_ | refine' TrS.asgC (SwT.lc rfl) (by rfl) ?_ | refine' TrS.sto2 (fun _ _ _ => by rfl) (by rfl) ?_ ?_ ?_ | refine' TrS.sto (fun _ _ _ => by rfl) (by rfl) ?_ ?_ | refine' TrS.swap (by decide) (by rfl) (by rfl) (by rfl) (by rfl) (by rfl) | refine' TrS.asg2 (by rfl) (by rfl) ?_ | refine' TrS.aug (by rfl) ?_ | refine' TrS.augS (fun _ _ _ => by rfl) (by rfl) ?_ ?_ | refine' TrS.ifs ?_ ?_ ?_ | refine' TrS.whl ?_ ?_ | refine' TrS.fr (fun _ _ => by rfl) (by rfl) ?_ ?_ | refine' TrS.ret ?_) | ((with_reducible show TrE _ _ _ _ _); first | refine' TrE.const (by rfl) | refine' TrE.var (by rfl) (by rfl) (by rfl) (by rfl) | refine' TrE.con (by rfl) (by rfl) (by rfl) | refine' TrE.bin ?_ ?_ | refine' TrE.neg ?_ | refine' TrE.notE ?_ | refine' TrE.cmp (by rfl) ?_ ?_ | refine' TrE.bop ?_ ?_ | refine' TrE.ife ?_ ?_ ?_ | refine' TrE.rev ?_ | refine' TrE.sl ?_ ?_ ?_ | refine' TrE.idx ?_ ?_ | refine' TrE.list ?_ | refine' TrE.tup ?_ | refine' TrE.ofC ?_ | refine' TrE.isI (by rfl) (by rfl) ?_ | refine' TrE.isB (by rfl) (by rfl) ?_ | refine' TrE.callF (by rfl) (by rfl) (by rfl) ?_ ?_ | refine' TrE.callB (by rfl) (by rfl) (by rfl) ?_ ?_ | refine' TrE.sub (by rfl) (by rfl) (by rfl) (by rfl) ?_ ?_ | refine' TrE.me0 (fun _ => by rfl) (by rfl) (by rfl) ?_ | refine' TrE.me1 (fun _ => by rfl) (by rfl) (by rfl) ?_ ?_ | refine' TrE.me2 (fun _ => by rfl) (by rfl) (by rfl) ?_ ?_ ?_) | ((with_reducible show TrC _ _ _ _ _ _ _ _); first | refine' TrC.comp (by rfl) (fun _ _ => by rfl) ?_ ?_ ?_ | refine' TrC.comp2 (by rfl) (by rfl) (fun _ _ => by rfl) (fun _ _ => by rfl) ?_ ?_ ?_) | ((with_reducible show TrEs _ _ _ _ _); first | exact TrEs.nil | refine' TrEs.cons ?_ ?_) | ((with_reducible show TrO _ _ _ _ _); first | exact TrO.none | refine' TrO.some ?_) | ((with_reducible show TrI _ _ _ _ _); first | exact TrI.nil | refine' TrI.one ?_) | ((with_reducible show TrF _ _ _ _ _); first | refine' TrF.list ?_ | refine' TrF.range (by rfl) ?_ ?_) | rfl | exact List.cons_ne_nil _ _)))⟩, ?_⟩
  intro p l st Q hl T h20 h17 q
  dsimp only [Nat.zero_add, Nat.reduceAdd, toEs, toSs]
  exact S.asg_ok (either_ev (EvD.var (rd_at h20)) (ahead_ev hl (p7 (rd_at T.l10) 4 (by decide)) (EvD.var (rd_at h17)) (EvD.var (rd_at T.l4))) (Ev.lit (.int 4))) q
theorem st26 : ∃ s, nthL 26 s ∧ ∀ (p : Nat → List Nat) (l : List Nat) st Q, st.lookup 18 = some (.val (tabV (tLast l p))) → st.lookup 19 = some (.val (tabV (tOther l p))) → Q (.next ((22, .val (tabV (tEither l p))) :: st)) → ex1 FLw s st Q := by
  refine ⟨_, ⟨_, (by with_unfolding_all rfl), (by with_unfolding_all (repeat' (first | ((with_reducible show TrSs _ _ _ _ _ _); first | exact TrSs.nil | refine' TrSs.cons ?_ ?_) | ((with_reducible show TrS _ _ _ _ _ _); first | refine' TrS.popU (by rfl) (by rfl) (by rfl) (by rfl) | refine' TrS.newD (by rfl) | refine' TrS.own2c (n := 4) (by rfl) (by rfl) (by rfl) (fun _ _ => by rfl) (SwT.lc rfl) (by rfl) (by decide) ?_ | refine' TrS.stoD (by rfl) (fun _ _ _ => by rfl) (by rfl) ?_ ?_ | refine' TrS.own (by rfl) (by rfl) (by first | exact fun _ _ _ => rfl | exact SwE.lc rfl) (by rfl) ?_ | refine' TrS.frzA (by rfl) (by rfl) (by rfl) (fun _ _ _ => by rfl) (by rfl) ?_ | refine' TrS.asg (by rfl) (by first | exact fun _ _ _ => rfl | exact SwE.lc rfl) (by rfl) ?_ | refine' TrS.app (by rfl) (by rfl) ?_ | refine' TrS.asgC (SwT.lc rfl) (by rfl) ?_ | refine' TrS.sto2 (fun _ _ _ => by rfl) (by rfl) ?_ ?_ ?_ | refine' TrS.sto (fun _ _ _ => by rfl) (by rfl) ?_ ?_ | refine' TrS.swap (by decide) (by rfl) (by rfl) (by rfl) (by rfl) (by rfl) | refine' TrS.asg2 (by rfl) (by rfl) ?_ | refine' TrS.aug (by rfl) ?_ | refine' TrS.augS (fun _ _ _ => by rfl) (by rfl) ?_ ?_ | refine' TrS.ifs ?_ ?_ ?_ | refine' TrS.whl ?_ ?_ | refine' TrS.fr (fun _ _ => by rfl) (by rfl) ?_ ?_ | refine' TrS.ret ?_) | ((with_reducible show TrE _ _ _ _ _); first | refine' TrE.const (by rfl) | refine' TrE.var (by rfl) (by rfl) (by rfl) (by rfl) | refine' TrE.con (by rfl) (by rfl) (by rfl) | refine' TrE.bin ?_ ?_ | refine' TrE.neg ?_ | refine' TrE.notE ?_ | refine' TrE.cmp (by rfl) ?_ ?_ | refine' TrE.bop ?_ ?_ | refine' TrE.ife ?_ ?_ ?_ | refine' TrE.rev ?_ | refine' TrE.sl ?_ ?_ ?_ | refine' TrE.idx ?_ ?_ | refine' TrE.list ?_ | refine' TrE.tup ?_ | refine' TrE.ofC ?_ | refine' TrE.isI (by rfl) (by rfl) ?_ | refine' TrE.isB (by rfl) (by rfl) ?_ | refine' TrE.callF (by rfl) (by rfl) (by rfl) ?_ ?_ | refine' TrE.callB (by rfl) (by rfl) (by rfl) ?_ ?_ | refine' TrE.sub (by rfl) (by rfl) (by rfl) (by rfl) ?_ ?_ | refine' TrE.me0 (fun _ => by rfl) (by rfl) (by rfl) ?_ | refine' TrE.me1 (fun _ => by rfl) (by rfl) (by rfl) ?_ ?_ | refine' TrE.me2 (fun _ => by rfl) (by rfl) (by rfl) ?_ ?_ ?_) | ((with_reducible show TrC _ _ _ _ _ _ _ _); first | refine' TrC.comp (by rfl) (fun _ _ => by rfl) ?_ ?_ ?_ | refine' TrC.comp2 (by rfl) (by rfl) (fun _ _ => by rfl) (fun _ _ => by rfl) ?_ ?_ ?_) | ((with_reducible show TrEs _ _ _ _ _); first | exact TrEs.nil | refine' TrEs.cons ?_ ?_) | ((with_reducible show TrO _ _ _ _ _); first | exact TrO.none | refine' TrO.some ?_) | ((with_reducible show TrI _ _ _ _ _); first | exact TrI.nil | refine' TrI.one ?_) | ((with_reducible show TrF _ _ _ _ _); first | refine' TrF.list ?_ | refine' TrF.range (by rfl) ?_ ?_) | rfl | exact List.cons_ne_nil _ _)))⟩, ?_⟩
  intro p l st Q h18 h19 q
  dsimp only [Nat.zero_add, Nat.reduceAdd, toEs, toSs]
  exact S.asg_ok (either_ev (EvD.var (rd_at h18)) (EvD.var (rd_at h19)) (Ev.lit (.int 1))) q
noncomputable def headsV (p : Nat → List Nat) : V := .list (([0, 1] : List Nat).map fun k => .str (quoteRow (p k)))
theorem st27 : ∃ s, nthL 27 s ∧ ∀ (p : Nat → List Nat) (l : List Nat) st Q, (∀ k, Wl 3 (p k)) → TS p l st → Q (.next ((23, .val (headsV p)) :: st)) → ex1 FLw s st Q := by
  refine ⟨_, ⟨_, (by with_unfolding_all rfl), (by with_unfolding_all (repeat' (first | ((with_reducible show TrSs _ _ _ _ _ _); first | exact TrSs.nil | refine' TrSs.cons ?_ ?_) | ((with_reducible show TrS _ _ _ _ _ _); first | refine' TrS.popU (by rfl) (by rfl) (by rfl) (by rfl) | refine' TrS.newD (by rfl) | refine' TrS.own2c (n := 4) (by rfl) (by rfl) (by rfl) (fun _ _ => by rfl) (SwT.lc rfl) (by rfl) (by decide) ?_ | refine' TrS.stoD (by rfl) (fun _ _ _ => by rfl) (by rfl) ?_ ?_ | refine' TrS.own (by rfl) (by rfl) (by first | exact fun _ _ _ => rfl | exact SwE.lc rfl) (by rfl) ?_ | refine' TrS.frzA (by rfl) (by rfl) (by rfl) (fun _ _ _ => by rfl) (by rfl) ?_ | refine' TrS.asg (by rfl) (by first | exact fun _ _ _ => rfl | exact SwE.lc rfl) (by rfl) ?_ | refine' TrS.app (by rfl) (by rfl) ?_ | refine' TrS.asgC (SwT.lc rfl) (by rfl) ?_ | refine' TrS.sto2 (fun _ _ _ => by rfl) (by rfl) ?_ ?_ ?_ | refine' TrS.sto (fun _ _ _ => by rfl) (by rfl) ?_ ?_ | refine' TrS.swap (by decide) (by rfl) (by rfl) (by rfl) (by rfl) (by rfl) | refine' TrS.asg2 (by rfl) (by rfl) ?_ | refine' TrS.aug (by rfl) ?_ | refine' TrS.augS (fun _ _ _ => by rfl) (by rfl) ?_ ?_ | refine' TrS.ifs ?_ ?_ ?_ | refine' TrS.whl ?_ ?_ | refine' TrS.fr (fun _ _ => by rfl) (by rfl) ?_ ?_ | refine' TrS.ret ?_) | ((with_reducible show TrE _ _ _ _ _); first | refine' TrE.const (by rfl) | refine' TrE.var (by rfl) (by rfl) (by rfl) (by rfl) | refine' TrE.con (by rfl) (by rfl) (by rfl) | refine' TrE.bin ?_ ?_ | refine' TrE.neg ?_ | refine' TrE.notE ?_ | refine' TrE.cmp (by rfl) ?_ ?_ | refine' TrE.bop ?_ ?_ | refine' TrE.ife ?_ ?_ ?_ | refine' TrE.rev ?_ | refine' TrE.sl ?_ ?_ ?_ | refine' TrE.idx ?_ ?_ | refine' TrE.list ?_ | refine' TrE.tup ?_ | refine' TrE.ofC ?_ | refine' TrE.isI (by rfl) (by rfl) ?_ | refine' TrE.isB (by rfl) (by rfl) ?_ | refine' TrE.callF (by rfl) (by rfl) (by rfl) ?_ ?_ | refine' TrE.callB (by rfl) (by rfl) (by rfl) ?_ ?_ | refine' TrE.sub (by rfl) (by rfl) (by rfl) (by rfl) ?_ ?_ | refine' TrE.me0 (fun _ => by rfl) (by rfl) (by rfl) ?_ | refine' TrE.me1 (fun _ => by rfl) (by rfl) (by rfl) ?_ ?_ | refine' TrE.me2 (fun _ => by rfl) (by rfl) (by rfl) ?_ ?_ ?_) | ((with_reducible show TrC _ _ _ _ _ _ _ _); first | refine' TrC.comp (by rfl) (fun _ _ => by rfl) ?_ ?_ ?_ | refine' TrC.comp2 (by rfl) (by rfl) (fun _ _ => by rfl) (fun _ _ => by rfl) ?_ ?_ ?_) | ((with_reducible show TrEs _ _ _ _ _); first | exact TrEs.nil | refine' TrEs.cons ?_ ?_) | ((with_reducible show TrO _ _ _ _ _); first | exact TrO.none | refine' TrO.some ?_) | ((with_reducible show TrI _ _ _ _ _); first | exact TrI.nil | refine' TrI.one ?_) | ((with_reducible show TrF _ _ _ _ _); first | refine' TrF.list ?_ | refine' TrF.range (by rfl) ?_ ?_) | rfl | exact List.cons_ne_nil _ _)))⟩, ?_⟩
  intro p l st Q hp T q
  dsimp only [Nat.zero_add, Nat.reduceAdd, toEs, toSs]
  rw [vl]
  have A : Ev FLw (rd st) ((E.var 10).sl (E.lit V.none) (E.lit (V.int 2))) (.list (([0, 1] : List Nat).map fun k => .str (p k))) := EvD.sl (EvD.var (rd_at T.l10)) (Ev.lit _) (Ev.lit _) fun Q q => ⟨Nat.zero_le 1, q⟩
  exact S.asg_ok (Ev.compLM (fun k => .str (p k)) [0, 1] (fun k => .str (quoteRow (p k))) A trivial rfl (Nat.le_of_ble_eq_true rfl) (fun _ _ => Tv.lit true) fun k hk => dot_ev (hp k).2.1 (Nat.le_trans (hp k).1 (by decide))) q
theorem head_ev {r : Rv} {p : Nat → List Nat} (h : r.lookup 23 = some (headsV p, 0)) {k : Nat} (hk : k < 2) : Ev FLw r ((E.var 23).idx (E.lit (V.int (k : Int)))) (.str (quoteRow (p k))) := by
  have := EvD.at (F := FLw) (f := fun k => V.str (quoteRow (p k))) (l := [0, 1]) (n := k) 0 hk (EvD.var h) (Ev.lit _)
  have e : ([0, 1] : List Nat).getD k 0 = k := range_getD (n := 2) (fun i => i) hk 0
  rwa [e] at this
theorem st28 : ∃ s, nthL 28 s ∧ ∀ (p : Nat → List Nat) (l : List Nat) st Q, l.length = 3 → TS p l st → st.lookup 23 = some (.val (headsV p)) → st.lookup 21 = some (.val (tabV (tMiddle l p))) → st.lookup 22 = some (.val (tabV (tEither l p))) → Q (.next ((24, .val (.int (tFirst l p))) :: st)) → ex1 FLw s st Q := by
  refine ⟨_, ⟨_, (by with_unfolding_all rfl), (by with_unfolding_all (repeat' (first | ((with_reducible show TrSs _ _ _ _ _ _); first | exact TrSs.nil | refine' TrSs.cons ?_ ?_) | ((with_reducible show TrS _ _ _ _ _ _); first | refine' TrS.popU (by rfl) (by rfl) (by rfl) (by rfl) | refine' TrS.newD (by rfl) | refine' TrS.own2c (n := 4) (by rfl) (by rfl) (by rfl) (fun _ _ => by rfl) (SwT.lc rfl) (by rfl) (by decide) ?_ | refine' TrS.stoD (by rfl) (fun _ _ _ => by rfl) (by rfl) ?_ ?_ | refine' TrS.own (by rfl) (by rfl) (by first | exact fun _ _ _ => rfl | exact SwE.lc rfl) (by rfl) ?_ | refine' TrS.frzA (by rfl) (by rfl) (by rfl) (fun _ _ _ => by rfl) (by rfl) ?_ | refine' TrS.asg (by rfl) (by first | exact fun _ _ _ => rfl | exact SwE.lc rfl) (by rfl) ?_ | refine' TrS.app (by rfl) (by rfl) ?_ | refine' TrS.asgC (SwT.lc rfl) (by rfl) ?_ | refine' TrS.sto2 (fun _ _ _ => by rfl) (by rfl) ?_ ?_ ?_ | refine' TrS.sto (fun _ _ _ => by rfl) (by rfl) ?_ ?_ | refine' TrS.swap (by decide) (by rfl) (by rfl) (by rfl) (by rfl) (by rfl) | refine' TrS.asg2 (by rfl) (by rfl) ?_ | refine' TrS.aug (by rfl) ?_ | refine' TrS.augS (fun _ _ _ => by rfl) (by rfl) ?_ ?_ | refine' TrS.ifs ?_ ?_ ?_ | refine' TrS.whl ?_ ?_ | refine' TrS.fr (fun _ _ => by rfl) (by rfl) ?_ ?_ | refine' TrS.ret ?_) | ((with_reducible show TrE _ _ _ _ _); first | refine' TrE.const (by rfl) | refine' TrE.var (by rfl) (by rfl) (by rfl) (by rfl) | refine' TrE.con (by rfl) (by rfl) (by rfl) | refine' TrE.bin ?_ ?_ | refine' TrE.neg ?_ | refine' TrE.notE ?_ | refine' TrE.cmp (by rfl) ?_ ?_ | refine' TrE.bop ?_ ?_ | refine' TrE.ife ?_ ?_ ?_ | refine' TrE.rev ?_ | refine' TrE.sl ?_ ?_ ?_ | refine' TrE.idx ?_ ?_ | refine' TrE.list ?_ | refine' TrE.tup ?_ | refine' TrE.ofC ?_ | refine' TrE.isI (by rfl) (by rfl) ?_ | refine' TrE.isB (by rfl) (by rfl) ?_ | refine' TrE.callF (by rfl) (by rfl) (by rfl) ?_ ?_ | refine' TrE.callB (by rfl) (by rfl) (by rfl) ?_ ?_ | refine' TrE.sub (by rfl) (by rfl) (by rfl) (by rfl) ?_ ?_ | refine' TrE.me0 (fun _ => by rfl) (by rfl) (by rfl) ?_ | refine' TrE.me1 (fun _ => by rfl) (by rfl) (by rfl) ?_ ?_ | refine' TrE.me2 (fun _ => by rfl) (by rfl) (by rfl) ?_ ?_ ?_) | ((with_reducible show TrC _ _ _ _ _ _ _ _); first | refine' TrC.comp (by rfl) (fun _ _ => by rfl) ?_ ?_ ?_ | refine' TrC.comp2 (by rfl) (by rfl) (fun _ _ => by rfl) (fun _ _ => by rfl) ?_ ?_ ?_) | ((with_reducible show TrEs _ _ _ _ _); first | exact TrEs.nil | refine' TrEs.cons ?_ ?_) | ((with_reducible show TrO _ _ _ _ _); first | exact TrO.none | refine' TrO.some ?_) | ((with_reducible show TrI _ _ _ _ _); first | exact TrI.nil | refine' TrI.one ?_) | ((with_reducible show TrF _ _ _ _ _); first | refine' TrF.list ?_ | refine' TrF.range (by rfl) ?_ ?_) | rfl | exact List.cons_ne_nil _ _)))⟩, ?_⟩
  intro p l st Q hl T h23 h21 h22 q
  dsimp only [Nat.zero_add, Nat.reduceAdd, toEs, toSs]
  exact S.asg_ok (Ev.tab (x := 0) (y := 3) (ahead_ev hl (head_ev (rd_at h23) (k := 0) (by decide)) (both_ev (EvD.var (rd_at h21)) (EvD.var (rd_at h22))) (EvD.var (rd_at T.l4))) (.inl rfl) (Ev.lit _) (by decide) (Ev.lit _) (by decide)) q
theorem st29 : ∃ s, nthL 29 s ∧ ∀ (p : Nat → List Nat) (l : List Nat) st Q, l.length = 3 → TS p l st → st.lookup 23 = some (.val (headsV p)) → st.lookup 22 = some (.val (tabV (tEither l p))) → Q (.next ((25, .val (.int (tSecond l p))) :: st)) → ex1 FLw s st Q := by
  refine ⟨_, ⟨_, (by with_unfolding_all rfl), (by with_unfolding_all (repeat' (first | ((with_reducible show TrSs _ _ _ _ _ _); first | exact TrSs.nil | refine' TrSs.cons ?_ ?_) | ((with_reducible show TrS _ _ _ _ _ _); first | refine' TrS.popU (by rfl) (by rfl) (by rfl) (by rfl) | refine' TrS.newD (by rfl) | refine' TrS.own2c (n := 4) (by rfl) (by rfl) (by rfl) (fun _ _ => by rfl) (SwT.lc rfl) (by rfl) (by decide) ?_ | refine' TrS.stoD (by rfl) (fun _ _ _ => by rfl) (by rfl) ?_ ?_ | refine' TrS.own (by rfl) (by rfl) (by first | exact fun _ _ _ => rfl | exact SwE.lc rfl) (by rfl) ?_ | refine' TrS.frzA (by rfl) (by rfl) (by rfl) (fun _ _ _ => by rfl) (by rfl) ?_ | refine' TrS.asg (by rfl) (by first | exact fun _ _ _ => rfl | exact SwE.lc rfl) (by rfl) ?_ | refine' TrS.app (by rfl) (by rfl) ?_ | refine' TrS.asgC (SwT.lc rfl) (by rfl) ?_ | refine' TrS.sto2 (fun _ _ _ => by rfl) (by rfl) ?_ ?_ ?_ | refine' TrS.sto (fun _ _ _ => by rfl) (by rfl) ?_ ?_ | refine' TrS.swap (by decide) (by rfl) (by rfl) (by rfl) (by rfl) (by rfl) | refine' TrS.asg2 (by rfl) (by rfl) ?_ | refine' TrS.aug (by rfl) ?_ | refine' TrS.augS (fun _ _ _ => by rfl) (by rfl) ?_ ?_ | refine' TrS.ifs ?_ ?_ ?_ | refine' TrS.whl ?_ ?_ | refine' TrS.fr (fun _ _ => by rfl) (by rfl) ?_ ?_ | refine' TrS.ret ?_) | ((with_reducible show TrE _ _ _ _ _); first | refine' TrE.const (by rfl) | refine' TrE.var (by rfl) (by rfl) (by rfl) (by rfl) | refine' TrE.con (by rfl) (by rfl) (by rfl) | refine' TrE.bin ?_ ?_ | refine' TrE.neg ?_ | refine' TrE.notE ?_ | refine' TrE.cmp (by rfl) ?_ ?_ | refine' TrE.bop ?_ ?_ | refine' TrE.ife ?_ ?_ ?_ | refine' TrE.rev ?_ | refine' TrE.sl ?_ ?_ ?_ | refine' TrE.idx ?_ ?_ | refine' TrE.list ?_ | refine' TrE.tup ?_ | refine' TrE.ofC ?_ | refine' TrE.isI (by rfl) (by rfl) ?_ | refine' TrE.isB (by rfl) (by rfl) ?_ | refine' TrE.callF (by rfl) (by rfl) (by rfl) ?_ ?_ | refine' TrE.callB (by rfl) (by rfl) (by rfl) ?_ ?_ | refine' TrE.sub (by rfl) (by rfl) (by rfl) (by rfl) ?_ ?_ | refine' TrE.me0 (fun _ => by rfl) (by rfl) (by rfl) ?_ | refine' TrE.me1 (fun _ => by rfl) (by rfl) (by rfl) ?_ ?_ | refine' TrE.me2 (fun _ => by rfl) (by rfl) (by rfl) ?_ ?_ ?_) | ((with_reducible show TrC _ _ _ _ _ _ _ _); first | refine' TrC.comp (by rfl) (fun _ _ => by rfl) ?_ ?_ ?_ | refine' TrC.comp2 (by rfl) (by rfl) (fun _ _ => by rfl) (fun _ _ => by rfl) ?_ ?_ ?_) | ((with_reducible show TrEs _ _ _ _ _); first | exact TrEs.nil | refine' TrEs.cons ?_ ?_) | ((with_reducible show TrO _ _ _ _ _); first | exact TrO.none | refine' TrO.some ?_) | ((with_reducible show TrI _ _ _ _ _); first | exact TrI.nil | refine' TrI.one ?_) | ((with_reducible show TrF _ _ _ _ _); first | refine' TrF.list ?_ | refine' TrF.range (by rfl) ?_ ?_) | rfl | exact List.cons_ne_nil _ _)))⟩, ?_⟩
  intro p l st Q hl T h23 h22 q
  dsimp only [Nat.zero_add, Nat.reduceAdd, toEs, toSs]
  exact S.asg_ok (Ev.add (Ev.tab (x := 0) (y := 3) (ahead_ev hl (head_ev (rd_at h23) (k := 1) (by decide)) (EvD.var (rd_at h22)) (EvD.var (rd_at T.l4))) (.inl rfl) (Ev.lit _) (by decide) (Ev.lit _) (by decide)) (Ev.lit (.int 6))) q
theorem st30 : ∃ s, nthL 30 s ∧ ∀ (best : Int) (near : Nat) (a b : Int) st Q, st.lookup 14 = some (.val (.int best)) → st.lookup 15 = some (.val (vN near)) → st.lookup 24 = some (.val (.int a)) → st.lookup 25 = some (.val (.int b)) → 16 * best + near = min a b → Q (.ret (.bool true)) → ex1 FLw s st Q := by
  refine ⟨_, ⟨_, (by with_unfolding_all rfl), (by with_unfolding_all (repeat' (first | ((with_reducible show TrSs _ _ _ _ _ _); first | exact TrSs.nil | refine' TrSs.cons ?_ ?_) | ((with_reducible show TrS _ _ _ _ _ _); first | refine' TrS.popU (by rfl) (by rfl) (by rfl) (by rfl) | refine' TrS.newD (by rfl) | refine' TrS.own2c (n := 4) (by rfl) (by rfl) (by rfl) (fun _ _ => by rfl) (SwT.lc rfl) (by rfl) (by decide) ?_ | refine' TrS.stoD (by rfl) (fun _ _ _ => by rfl) (by rfl) ?_ ?_ | refine' TrS.own (by rfl) (by rfl) (by first | exact fun _ _ _ => rfl | exact SwE.lc rfl) (by rfl) ?_ | refine' TrS.frzA (by rfl) (by rfl) (by rfl) (fun _ _ _ => by rfl) (by rfl) ?_ | refine' TrS.asg (by rfl) (by first | exact fun _ _ _ => rfl | exact SwE.lc rfl) (by rfl) ?_ | refine' TrS.app (by rfl) (by rfl) ?_ | refine' TrS.asgC (SwT.lc rfl) (by rfl) ?_ | refine' TrS.sto2 (fun _ _ _ => by rfl) (by rfl) ?_ ?_ ?_ | refine' TrS.sto (fun _ _ _ => by rfl) (by rfl) ?_ ?_ | refine' TrS.swap (by decide) (by rfl) (by rfl) (by rfl) (by rfl) (by rfl) | refine' TrS.asg2 (by rfl) (by rfl) ?_ | refine' TrS.aug (by rfl) ?_ | refine' TrS.augS (fun _ _ _ => by rfl) (by rfl) ?_ ?_ | refine' TrS.ifs ?_ ?_ ?_ | refine' TrS.whl ?_ ?_ | refine' TrS.fr (fun _ _ => by rfl) (by rfl) ?_ ?_ | refine' TrS.ret ?_) | ((with_reducible show TrE _ _ _ _ _); first | refine' TrE.const (by rfl) | refine' TrE.var (by rfl) (by rfl) (by rfl) (by rfl) | refine' TrE.con (by rfl) (by rfl) (by rfl) | refine' TrE.bin ?_ ?_ | refine' TrE.neg ?_ | refine' TrE.notE ?_ | refine' TrE.cmp (by rfl) ?_ ?_ | refine' TrE.bop ?_ ?_ | refine' TrE.ife ?_ ?_ ?_ | refine' TrE.rev ?_ | refine' TrE.sl ?_ ?_ ?_ | refine' TrE.idx ?_ ?_ | refine' TrE.list ?_ | refine' TrE.tup ?_ | refine' TrE.ofC ?_ | refine' TrE.isI (by rfl) (by rfl) ?_ | refine' TrE.isB (by rfl) (by rfl) ?_ | refine' TrE.callF (by rfl) (by rfl) (by rfl) ?_ ?_ | refine' TrE.callB (by rfl) (by rfl) (by rfl) ?_ ?_ | refine' TrE.sub (by rfl) (by rfl) (by rfl) (by rfl) ?_ ?_ | refine' TrE.me0 (fun _ => by rfl) (by rfl) (by rfl) ?_ | refine' TrE.me1 (fun _ => by rfl) (by rfl) (by rfl) ?_ ?_ | refine' TrE.me2 (fun _ => by rfl) (by rfl) (by rfl) ?_ ?_ ?_) | ((with_reducible show TrC _ _ _ _ _ _ _ _); first | refine' TrC.comp (by rfl) (fun _ _ => by rfl) ?_ ?_ ?_ | refine' TrC.comp2 (by rfl) (by rfl) (fun _ _ => by rfl) (fun _ _ => by rfl) ?_ ?_ ?_) | ((with_reducible show TrEs _ _ _ _ _); first | exact TrEs.nil | refine' TrEs.cons ?_ ?_) | ((with_reducible show TrO _ _ _ _ _); first | exact TrO.none | refine' TrO.some ?_) | ((with_reducible show TrI _ _ _ _ _); first | exact TrI.nil | refine' TrI.one ?_) | ((with_reducible show TrF _ _ _ _ _); first | refine' TrF.list ?_ | refine' TrF.range (by rfl) ?_ ?_) | rfl | exact List.cons_ne_nil _ _)))⟩, ?_⟩
  intro best near a b st Q h14 h15 h24 h25 he q
  dsimp only [Nat.zero_add, Nat.reduceAdd, toEs, toSs]
  refine S.ret_ok (t := .bool true) (EvD.cmp (c := true) (Ev.add (Ev.mul (x := 16) (by decide) (Ev.lit _) (EvD.var (rd_at h14))) (EvD.var (rd_at h15))) (Ev.min2 (EvD.var (rd_at h24)) (EvD.var (rd_at h25))) fun Q q => ?_) q
  show oW (some (decide (16 * best + (near : Int) = min a b))) Q
  rw [decide_eq_true he]; exact q
end Mine
end

-- part K10
section
open PySem PySem.Calls PyProof.Rows
set_option linter.unusedVariables false
set_option linter.unusedSimpArgs false
set_option maxRecDepth 100000
namespace Mine
abbrev upto31 : List Nat := [0, 1, 2, 3, 4, 5, 6, 7, 8, 9, 10, 11, 12, 13, 14, 15, 16, 17, 18, 19, 20, 21, 22, 23, 24, 25, 26, 27, 28, 29, 30]
theorem lawB : ∃ l, All2 nthL [21, 22, 23, 24, 25, 26, 27, 28, 29, 30] l ∧ ∀ (p : Nat → List Nat) (l' : List Nat) (best : Int) (near : Nat) st (Q : Out → Prop), l'.length = 3 → (∀ k, Wl 3 (p k)) → TS p l' st → st.lookup 14 = some (.val (.int best)) → st.lookup 15 = some (.val (vN near)) →
    16 * best + near = min (tFirst l' p) (tSecond l' p) → Q (.ret (.bool true)) → exs FLw (toSs l) st Q := by
  obtain ⟨s21, h21, e21⟩ := st21
  obtain ⟨s22, h22, e22⟩ := st22
  obtain ⟨s23, h23, e23⟩ := st23
  obtain ⟨s24, h24, e24⟩ := st24
  obtain ⟨s25, h25, e25⟩ := st25
  obtain ⟨s26, h26, e26⟩ := st26
  obtain ⟨s27, h27, e27⟩ := st27
  obtain ⟨s28, h28, e28⟩ := st28
  obtain ⟨s29, h29, e29⟩ := st29
  obtain ⟨s30, h30, e30⟩ := st30
  refine ⟨[s21, s22, s23, s24, s25, s26, s27, s28, s29, s30], .cons h21 (.cons h22 (.cons h23 (.cons h24 (.cons h25 (.cons h26 (.cons h27 (.cons h28 (.cons h29 (.cons h30 .nil))))))))), ?_⟩
  intro p l best near st Q hl hp T h14 h15 he q
  refine exs_toSs (e21 _ _ ?_)
  refine exs_toSs (e22 p l _ _ hl ⟨T.l4, T.l10⟩ rfl ?_)
  refine exs_toSs (e23 p l _ _ hl ⟨T.l4, T.l10⟩ rfl ?_)
  refine exs_toSs (e24 p l _ _ hl ⟨T.l4, T.l10⟩ rfl rfl ?_)
  refine exs_toSs (e25 p l _ _ hl ⟨T.l4, T.l10⟩ rfl rfl ?_)
  refine exs_toSs (e26 p l _ _ rfl rfl ?_)
  refine exs_toSs (e27 p l _ _ hp ⟨T.l4, T.l10⟩ ?_)
  refine exs_toSs (e28 p l _ _ hl ⟨T.l4, T.l10⟩ rfl rfl rfl ?_)
  refine exs_toSs (e29 p l _ _ hl ⟨T.l4, T.l10⟩ rfl rfl ?_)
  refine exs_toSs (e30 best near _ _ _ _ h14 h15 rfl rfl he ?_)
  exact q
theorem lawA : ∃ l, All2 nthL [0, 1, 2, 3, 4, 5, 6, 7, 8, 9, 10, 11, 12, 13, 14, 15, 16, 17, 18, 19, 20] l ∧ ∀ (l2 : List S) (ns : List Int), ns.length ≤ 1000 → ∀ Q : Out → Prop,
    (∀ (p : Nat → List Nat) (l' : List Nat) (best : Int) (near : Nat) st, l'.length = 3 → (∀ k, Wl 3 (p k)) → TS p l' st → st.lookup 14 = some (.val (.int best)) → st.lookup 15 = some (.val (vN near)) → 16 * best + near = min (tFirst l' p) (tSecond l' p) → exs FLw (toSs l2) st Q) →
    exs FLw (toSs (l ++ l2)) (initFrom 0 [.list (ns.map .int)]) Q := by
  obtain ⟨s0, h0, e0⟩ := st0
  obtain ⟨s1, h1, e1⟩ := st1
  obtain ⟨s2, h2, e2⟩ := st2
  obtain ⟨s3, h3, e3⟩ := st3
  obtain ⟨s4, h4, e4⟩ := st4
  obtain ⟨s5, h5, e5⟩ := st5
  obtain ⟨s6, h6, e6⟩ := st6
  obtain ⟨s7, h7, e7⟩ := st7
  obtain ⟨s8, h8, e8⟩ := st8
  obtain ⟨s9, h9, e9⟩ := st9
  obtain ⟨s10, h10, e10⟩ := st10
  obtain ⟨s11, h11, e11⟩ := st11
  obtain ⟨s12, h12, e12⟩ := st12
  obtain ⟨s13, h13, e13⟩ := st13
  obtain ⟨s14, h14, e14⟩ := st14
  obtain ⟨s15, h15, e15⟩ := st15
  obtain ⟨s16, h16, e16⟩ := st16
  obtain ⟨s17, h17, e17⟩ := st17
  obtain ⟨s18, h18, e18⟩ := st18
  obtain ⟨s19, h19, e19⟩ := st19
  obtain ⟨s20, h20, e20⟩ := st20
  refine ⟨[s0, s1, s2, s3, s4, s5, s6, s7, s8, s9, s10, s11, s12, s13, s14, s15, s16, s17, s18, s19, s20], .cons h0 (.cons h1 (.cons h2 (.cons h3 (.cons h4 (.cons h5 (.cons h6 (.cons h7 (.cons h8 (.cons h9 (.cons h10 (.cons h11 (.cons h12 (.cons h13 (.cons h14 (.cons h15 (.cons h16 (.cons h17 (.cons h18 (.cons h19 (.cons h20 .nil)))))))))))))))))))), ?_⟩
  intro l2 ns hn Q q
  refine exs_toSs (e0 _ _ ?_)
  refine exs_toSs (e1 ns _ _ hn ⟨_, rfl, rfl, rfl⟩ fun st H => ?_)
  obtain ⟨hs, l10, g1, g0⟩ := H
  obtain ⟨h, rfl⟩ := r10_of l10
  refine exs_toSs (e2 h _ _ g1 ?_)
  refine exs_toSs (e3 h _ _ g1 ?_)
  have ht : ∀ i, (fun i => tOf (h i)) i ∈ tset := fun i => tOf_mem _
  have hc : ∀ c ∈ [cOf (h 7), cOf (h 8), cOf (h 9)], c ∈ ten := fun c hc => by
    have : c = cOf (h 7) ∨ c = cOf (h 8) ∨ c = cOf (h 9) := by simpa using hc
    rcases this with rfl | rfl | rfl <;> exact cOf_mem _
  have hl : [cOf (h 7), cOf (h 8), cOf (h 9)].length = 3 := rfl
  generalize [cOf (h 7), cOf (h 8), cOf (h 9)] = l at hc hl ⊢
  generalize (fun i => tOf (h i)) = t at ht ⊢
  refine exs_toSs (e4 t _ _ rfl ?_)
  refine exs_toSs (e5 t _ _ (fun i => ⟨(tset_ok _ (ht i)).1, (tset_ok _ (ht i)).2.1⟩) rfl ?_)
  have hp : ∀ i, Wl 3 ((fun i => wordL (t i)) i) := fun i => word_ok (ht i)
  have hw := row8_ok hp
  refine exs_toSs (e6 _ _ ?_)
  refine exs_toSs (e7 _ _ _ hw rfl rfl ?_)
  refine exs_toSs (e8 _ _ ?_)
  refine exs_toSs (e9 t _ _ ht rfl rfl ?_)
  generalize (fun i => wordL (t i)) = p at hp hw ⊢
  refine exs_toSs (e10 p _ _ hp rfl ?_)
  refine exs_toSs (e11 p _ _ hp rfl rfl ?_)
  refine exs_toSs (e12 (row8 p) _ _ hw rfl ?_)
  refine exs_toSs (e13 (row8 p) _ _ hw rfl rfl ?_)
  refine exs_toSs (e14 (row8 p) _ _ hw rfl ?_)
  refine exs_toSs (e15 _ _ ?_)
  refine exs_toSs (e16 _ _ ?_)
  have hr : ∀ k, (quoteRow (row8 p k)).length ≤ 16 := fun k => (hw k).quote.1
  refine exs_toSs (e17 p (fun k => quoteRow (row8 p k)) l _ _ hl hr ⟨rfl, rfl, rfl, rfl, rfl⟩ fun best near st N hf => ?_)
  obtain ⟨hn8, f1, f2⟩ := found_len hl hr hf
  refine exs_toSs (e18 p _ l best near _ _ hl hr N hn8 f1 ?_)
  refine exs_toSs (e19 p _ l best near _ _ hl hr N hn8 f2 ?_)
  refine exs_toSs (e20 l _ _ hl hc N.l4 ?_)
  exact q p l best near st hl hp ⟨N.l4, N.l10⟩ N.l14 N.l15 (found_min hf (table_min hl hc hp))
theorem All2.app {α β : Type} {R : α → β → Prop} {a c : List α} {b d : List β} (h : All2 R a b) (h' : All2 R c d) : All2 R (a ++ c) (b ++ d) := by
  induction h with
  | nil => exact h'
  | cons h _ ih => exact .cons h ih
theorem law_ok : ∃ ss, TrD FLw dLw ownsL ss ∧ ∀ (ns : List Int), ns.length ≤ 1000 → ∀ Q : V → Prop, Q (.bool true) → exs FLw (toSs ss) (initFrom 0 [.list (ns.map .int)]) (retOut Q) := by
  obtain ⟨la, hla, EA⟩ := lawA
  obtain ⟨lb, hlb, EB⟩ := lawB
  have hl : All2 nthL upto31 (la ++ lb) := hla.app hlb
  have len : dLw.body.length = 31 := by with_unfolding_all rfl
  have ll : (la ++ lb).length = 31 := hl.length.symm
  refine ⟨la ++ lb, TrSs.of_all2 (All2.of_get (by rw [len, ll]) fun n st s h1 h2 => ?_), fun ns hn Q q => EA lb ns hn _ fun p l best near st hl hp T h14 h15 he => EB p l best near st _ hl hp T h14 h15 he q⟩
  obtain ⟨m, hm, st', e1, e2⟩ := hl.get h2
  have hn : n < 31 := by have := (List.getElem?_eq_some_iff.mp h2).1; omega
  have : ∀ n, n < 31 → upto31[n]? = some n := by decide
  rw [this n hn] at hm
  cases hm
  rw [h1] at e1
  cases e1
  exact e2
end Mine
end

-- part T16
section
open PySem PySem.Calls PyProof.Rows
set_option linter.unusedVariables false
set_option maxRecDepth 100000
namespace Mine
theorem ints_reps {p : Program} {w : World} {G : Addr → Obj → Prop} : ∀ {vs : List Value} {ns : List Int}, IntsAre vs ns → Reps p w G vs (ns.map .int) := by
  intro vs ns h
  induction h with
  | nil => exact .nil
  | cons n t _ ih => exact .cons (.int _ _) ih
/-- the law's body, some of whose names are cells -/
theorem top_walkC {T : GT} {k : Nat} {F : Fenv} {A : Around} {nm : Str} {sc : Scope} {L fa l : Addr} {cd : Value} {body : List Stmt} {owns : List Str} {ss : List S} {param : Str} {s : Shared} {m cm : Str → Option Value} {vs : List Value} {ns : List Int}
    (FO : FOk T k F) (hA : AOk k A) (Fr' : Fr T.h0 L s.heap m) (X : Cl L (cellsFrom (L + 1) sc.names []) s.heap cm) (hm : m param = some (.ref l)) (hl : T.h0.PlainList l vs.toArray) (hI : IntsAre vs ns) (hlen : vs.length ≤ 1000)
    (hk : sc.kind = .function) (hnd : (varsOf sc).Nodup) (h0 : (varsOf sc)[0]? = some param) (hloc : sc.names.lookup param = some .local)
    (htr : TrSs F sc (varsOf sc) owns body ss) (hvc : ∀ Q : V → Prop, Q (.bool true) → exs F (toSs ss) (initFrom 0 [.list (ns.map .int)]) (retOut Q)) :
    wpAny (model T.prog T.w) A (execs body (envOfC nm sc L fa cd)) (fun f s' => f = .ret (.bool true) ∧ Keeps T.h0 s'.heap ∧ s'.os = s.os ∧ s'.gens = s.gens) No s := by
  let env := envOfC nm sc L fa cd
  let C : FC := ⟨T, k, F, env, varsOf sc, A, hA, FO, hk, rfl, rfl, hnd, fun n n' c h h' => name_of_addr X.apart (mem_of_lookup h) (mem_of_lookup h'), fun n h => Nat.lt_irrefl _ (X.above n _ (mem_of_lookup h)), fun nm h => cells_some h⟩
  have none_at : ∀ c, L ≤ c → T.h0.get? c = none := fun c hc => by
    cases e : T.h0.get? c with
    | none => rfl
    | some o => exact absurd (Heap.lt_size e) (Nat.not_lt.mpr (Nat.le_trans Fr'.above hc))
  have hLn := none_at L (Nat.le_refl _)
  have cellUp : ∀ n c, env.cells.lookup n = some c → L < c := fun n c h => X.above n c (mem_of_lookup h)
  obtain ⟨n, ho⟩ := hl
  have S : Sim C (fun _ => False) (initFrom 0 [.list (ns.map .int)]) (fun _ => []) s := by
    refine ⟨Fr'.keep, fun c hc => hc.elim, ⟨hLn, fun h => h⟩, fun n c hc => ⟨none_at c (Nat.le_of_lt (cellUp n c hc)), fun h => h⟩, fun i c hc => (by cases hc), fun i j _ c hc => (by cases hc), fun i => List.nodup_nil,
      m, cm, ⟨Fr'.ns, fun n c hc => X.cell n c hc⟩, fun i b hb => ?_⟩
    obtain ⟨t, rfl, _, ht⟩ := initFrom_lookup hb
    have ht : ([V.list (ns.map .int)] : List V)[i]? = some t := by simpa using ht
    cases i with
    | succ i => cases ht
    | zero =>
      cases ht
      refine ⟨param, .ref l, h0, ?_, ?_⟩
      · have h' : env.kindOf param = some .local := hloc
        unfold valAt
        show (match env.kindOf param with | some .local => _ | some .cell => _ | some .free => _ | _ => _) = _
        rw [h']; exact hm
      · refine Rep.list ⟨Fr'.keep _ _ ho, fun h => ?_⟩ ⟨rfl, rfl⟩ rfl (by rw [sl_eq]; lia) (ints_reps hI)
        rcases h with h | h | ⟨n, h⟩ | ⟨i, h⟩
        · exact h
        · subst h; rw [hLn] at ho; cases ho
        · rw [none_at _ (Nat.le_of_lt (cellUp n _ h))] at ho; cases ho
        · cases h
  have W := goodSs (C := C) (htr C rfl rfl rfl) _ _ (hvc (fun t => t = .bool true) rfl) (fun _ => False) _ s S
  refine wp_no W fun f s' ⟨⟨⟨h2, t2, e2⟩, fr⟩, po⟩ => ?_
  cases f with
  | next => obtain ⟨st', ad', q, _, _⟩ := po; cases q
  | brk => obtain ⟨st', ad', q, _, _⟩ := po; exact q.elim
  | cont => obtain ⟨st', ad', q, _, _⟩ := po; exact q.elim
  | ret v =>
    obtain ⟨t, rfl, r⟩ := po
    have r : v = .bool true := by cases r; rfl
    subst r
    refine ⟨rfl, fun b o e => ?_, by rw [e2], by rw [e2]⟩
    refine fr b o (Fr'.keep b o e) fun hm => ?_
    rcases hm with h | ⟨n, h⟩ | ⟨i, h⟩
    · subst h; rw [hLn] at e; cases e
    · rw [none_at _ (Nat.le_of_lt (cellUp n _ h))] at e; cases e
    · cases h
end Mine
end

-- part T18
section
open PySem PySem.Calls PyProof.Rows
set_option linter.unusedVariables false
set_option maxRecDepth 100000
namespace Mine
theorem FnOk.mono {T : GT} {k k' : Nat} {f : Value} {sp : Spec} (h : FnOk T k f sp) (hk : k ≤ k') : FnOk T k' f sp :=
  fun A s bad vs ts Q hA hb hbad hr hs => h A s bad vs ts Q (hA.down hk) hb hbad hr hs
theorem fn_of {T : GT} {p : Program} {loose : List Str} {mean : ExcName → Option Value} (TT : Top p loose mean T.mg T.mb T.h0) {d : DefRec} {x : Str} (hd : d ∈ recsOf p) (hx : d.name = x) {params owns : List Str} {F : Fenv} {k : Nat} {ss : List S} {sp : Spec}
    (FO : FOk T k F) (hbind : ∀ pm code doc (vals : List Value), vals.length = params.length → bindArgs (docDef d.name d.params d.body d.scope pm code doc) ⟨vals, []⟩ = pure (params.zip vals))
    (hok : ∀ pm code doc, defOk (docDef d.name d.params d.body d.scope pm code doc) params = true)
    (htr : TrD F d owns ss) (hsp : ∀ ts Q, sp ts Q → ts.length = params.length ∧ exs F (toSs ss) (initFrom 0 ts) (retOut Q)) :
    ∃ a o fd, T.mg x = some (.ref a) ∧ T.h0.get? a = some o ∧ o.data = .func fd ∧ FnOk T (k + 1) (.ref a) sp := by
  obtain ⟨a, o, pm, code, doc, h1, h2, h3, h4⟩ := TT.fn d hd
  exact ⟨a, o, _, hx ▸ h1, h2, h3, FnOk.of FO h2 h3 h4 rfl (hbind pm code doc) (hok pm code doc) htr hsp⟩
theorem fn_up {T : GT} {k k' : Nat} {x : Str} {sp : Spec} (hk : k ≤ k') : (∃ a o fd, T.mg x = some (.ref a) ∧ T.h0.get? a = some o ∧ o.data = .func fd ∧ FnOk T k (.ref a) sp) →
    ∃ a o fd, T.mg x = some (.ref a) ∧ T.h0.get? a = some o ∧ o.data = .func fd ∧ FnOk T k' (.ref a) sp := fun ⟨a, o, fd, h1, h2, h3, h4⟩ => ⟨a, o, fd, h1, h2, h3, h4.mono hk⟩
theorem mem_of_lookup' {α : Type} {l : List (Str × α)} {x : Str} {t : α} (h : l.lookup x = some t) : (x, t) ∈ l := by
  induction l with
  | nil => cases h
  | cons p l ih =>
    obtain ⟨y, u⟩ := p
    rw [List.lookup_cons] at h
    split at h
    · rename_i e
      cases h
      have : x = y := by simpa using e
      subst this; exact List.mem_cons_self
    · exact List.mem_cons_of_mem _ (ih h)
theorem mg_eq {h : Heap} {mg : Str → Option Value} {a : Addr} {o : Obj} {es : Array DictEntry} {ep : Nat} (hn : h.Ns a mg) (ho : h.get? a = some o) (hd : o.data = .dict es ep) (x : Str) : mg x = nsFind es x := by
  obtain ⟨o', es', ep', ho', hd', _, h⟩ := hn
  rw [ho] at ho'; cases ho'
  rw [hd] at hd'; cases hd'
  exact (h x).symm
noncomputable def intIs (v : Value) (n : Int) : Bool := match v with | .int i _ => i == n | _ => false
noncomputable def keyStr (v : Value) : Str := match v with | .str x _ => x | _ => Str.empty
theorem dict_rep {p : Program} {w : World} {G : Addr → Obj → Prop} {a : Addr} {es : Array DictEntry} {ep : Nat} {ks : List (List Nat)} {ns : List Int} (hG : G a { cls := .type "dict", data := .dict es ep }) (ha : (a == sysModules) = false)
    (h1 : es.toList.map (·.hash) = es.toList.map (fun e => hashStr w (keyStr e.key))) (h2 : es.toList.map (fun e => e.key) = es.toList.map (fun e => .str (keyStr e.key) (match e.key with | .str _ t => t | _ => 0)))
    (h3 : es.toList.map (fun e => keyStr e.key) = ks.map stOf) (h4 : es.toList.map (fun e => e.val) = (es.toList.zip ns).map (fun q => .int q.2 (match q.1.val with | .int _ t => t | _ => 0)))
    (h5 : ks.Nodup) (hl : es.toList.length = ns.length) (hz : ns.length ≤ 1000) : Rep p w G (.ref a) (.dS ks (ns.map .int)) := by
  have lk : es.toList.length = ks.length := by have := congrArg List.length h3; simpa using this
  have kst : ∀ e ∈ es.toList, ∃ t, e.key = .str (keyStr e.key) t := fun e he => by
    have : ∀ l : List DictEntry, l.map (fun e => e.key) = l.map (fun e => Value.str (keyStr e.key) (match e.key with | .str _ t => t | _ => 0)) → ∀ e ∈ l, ∃ t, e.key = .str (keyStr e.key) t := by
      intro l
      induction l with
      | nil => intro _ e h; cases h
      | cons x l ih =>
        intro h e he
        simp only [List.map_cons, List.cons.injEq] at h
        rcases List.mem_cons.mp he with rfl | he
        · exact ⟨_, h.1⟩
        · exact ih h.2 e he
    exact this _ h2 e he
  have hh : ∀ e ∈ es.toList, e.hash = hashStr w (keyStr e.key) := fun e he => by
    have : ∀ l : List DictEntry, l.map (·.hash) = l.map (fun e => hashStr w (keyStr e.key)) → ∀ e ∈ l, e.hash = hashStr w (keyStr e.key) := by
      intro l
      induction l with
      | nil => intro _ e h; cases h
      | cons x l ih =>
        intro h e he
        simp only [List.map_cons, List.cons.injEq] at h
        rcases List.mem_cons.mp he with rfl | he
        · exact h.1
        · exact ih h.2 e he
    exact this _ h1 e he
  have nd : (ks.map stOf).Nodup := by
    refine List.Pairwise.map _ (fun x y hxy h => hxy (stOf_inj h)) h5
  refine .dS (vals := es.toList.map (fun e => e.val)) hG ⟨by simpa using lk.symm, by rw [sl_eq, List.length_map]; omega, ha⟩ ⟨⟨rfl, rfl, rfl⟩, es, ep, rfl, fun e he => ?_, ?_, ?_⟩ ?_
  · have he := Array.mem_def.mp he
    obtain ⟨t, ht⟩ := kst e he
    refine ⟨keyStr e.key, ?_, hh e he⟩
    show Value.isStrOf (keyStr e.key) e.key = true
    rw [ht]; simp [Value.isStrOf, keyStr]
  · have : ∀ (l : List DictEntry) (ks : List Str), (∀ e ∈ l, ∃ t, e.key = .str (keyStr e.key) t) → l.map (fun e => keyStr e.key) = ks → Pairs (PySem.strKind p w) l (ks.zip (l.map (fun e => e.val))) := by
      intro l
      induction l with
      | nil => intro ks _ h; subst h; exact .nil
      | cons x l ih =>
        intro ks hk h
        subst h
        refine .cons ?_ rfl (ih _ (fun e he => hk e (List.mem_cons_of_mem _ he)) rfl)
        obtain ⟨t, ht⟩ := hk x List.mem_cons_self
        show Value.isStrOf (keyStr x.key) x.key = true
        rw [ht]; simp [Value.isStrOf, keyStr]
    exact this _ _ kst h3
  · rw [List.map_fst_zip (by simp [← lk])]; exact nd
  · rw [h4]
    have : ∀ (l : List DictEntry) (ns : List Int), l.length = ns.length → Reps p w G ((l.zip ns).map (fun q => Value.int q.2 (match q.1.val with | .int _ t => t | _ => 0))) (ns.map .int) := by
      intro l
      induction l with
      | nil => intro ns h; cases ns with | nil => exact .nil | cons => cases h
      | cons x l ih => intro ns h; cases ns with
        | nil => cases h
        | cons n ns => exact .cons (.int _ _) (ih ns (by simpa using h))
    exact this _ _ hl
theorem mem_rec {q : Program} {x : Str} {d : DefRec} (h : (recsOf q).find? (fun d => d.name == x) = some d) : d ∈ recsOf q := List.mem_of_find?_eq_some h
abbrev FnIs (T : GT) (k : Nat) (x : Str) (sp : Spec) : Prop := ∃ a o fd, T.mg x = some (.ref a) ∧ T.h0.get? a = some o ∧ o.data = .func fd ∧ FnOk T k (.ref a) sp
abbrev ConIs (T : GT) (x : Str) (t : V) : Prop := ∃ v, T.mg x = some v ∧ Rep T.prog T.w (fun a o => T.h0.get? a = some o) v t
noncomputable def ConOk (T : GT) (l : List (Str × V)) : Prop := ∀ x t, l.lookup x = some t → ConIs T x t
theorem ConOk.nil {T : GT} : ConOk T [] := fun _ _ h => nomatch h
theorem ConOk.cons {T : GT} {x : Str} {t : V} {l : List (Str × V)} (h : ConIs T x t) (r : ConOk T l) : ConOk T ((x, t) :: l) := fun y u e => by
  rw [List.lookup_cons] at e
  cases hy : y == x with
  | false => rw [hy] at e; exact r y u e
  | true =>
    rw [hy] at e; cases e
    have : y = x := by simpa using hy
    subst this; exact h
noncomputable def FnsOk (T : GT) (k : Nat) (l : List (Str × Spec)) : Prop := ∀ (i : Nat) x sp, l[i]? = some (x, sp) → FnIs T k x sp
theorem FnsOk.nil {T : GT} {k : Nat} : FnsOk T k [] := fun _ _ _ h => nomatch h
theorem FnsOk.cons {T : GT} {k : Nat} {x : Str} {sp : Spec} {l : List (Str × Spec)} (h : FnIs T k x sp) (r : FnsOk T k l) : FnsOk T k ((x, sp) :: l)
  | 0, _, _, e => by cases e; exact h
  | i + 1, y, u, e => r i y u e
noncomputable def SubsOk (T : GT) (l : List (Str × List Nat × (List Nat → List Nat))) : Prop := ∀ (i : Nat) x r g, l[i]? = some (x, r, g) → ∃ pa, T.mg x = some (.ref pa) ∧ SubOk T pa r g
theorem SubsOk.nil {T : GT} : SubsOk T [] := fun _ _ _ _ h => nomatch h
theorem SubsOk.cons {T : GT} {x : Str} {r : List Nat} {g : List Nat → List Nat} {l : List (Str × List Nat × (List Nat → List Nat))} (h : ∃ pa, T.mg x = some (.ref pa) ∧ SubOk T pa r g) (hr : SubsOk T l) : SubsOk T ((x, r, g) :: l)
  | 0, _, _, _, e => by cases e; exact h
  | i + 1, y, u, v, e => hr i y u v e
noncomputable def BisOk (T : GT) (l : List Bi) : Prop := ∀ b, b ∈ l → T.mg b.name = none ∧ T.mb b.name = some b.val
theorem BisOk.nil {T : GT} : BisOk T [] := fun _ h => nomatch h
theorem BisOk.cons {T : GT} {b : Bi} {l : List Bi} (h : T.mg b.name = none ∧ T.mb b.name = some b.val) (r : BisOk T l) : BisOk T (b :: l) := fun c hc => by
  rcases List.mem_cons.mp hc with rfl | hc
  · exact h
  · exact r c hc
theorem BisOk.sub {T : GT} {l l' : List Bi} (h : BisOk T l) (hs : ∀ b ∈ l', b ∈ l) : BisOk T l' := fun b hb => h b (hs b hb)
@[elab_as_elim] theorem len1 {P : List Value → Prop} {vals : List Value} (hl : vals.length = 1) (h : ∀ a, P [a]) : P vals := by
  obtain ⟨a, rfl⟩ := List.length_eq_one_iff.mp hl; exact h a
@[elab_as_elim] theorem len2 {P : List Value → Prop} {vals : List Value} (hl : vals.length = 2) (h : ∀ a b, P [a, b]) : P vals := by
  obtain ⟨a, l, rfl⟩ := List.exists_cons_of_length_eq_add_one hl; obtain ⟨b, rfl⟩ := List.length_eq_one_iff.mp (Nat.succ.inj hl); exact h a b
@[elab_as_elim] theorem len3 {P : List Value → Prop} {vals : List Value} (hl : vals.length = 3) (h : ∀ a b c, P [a, b, c]) : P vals := by
  obtain ⟨a, l, rfl⟩ := List.exists_cons_of_length_eq_add_one hl; exact len2 (P := fun l => P (a :: l)) (Nat.succ.inj hl) (h a)
set_option maxHeartbeats 4000000 in
theorem env_ok {q : Program} {loose : List Str} {mean : ExcName → Option Value} {T : GT} (TT : Top q loose mean T.mg T.mb T.h0)
    (m1 : dS ∈ recsOf q) (m2 : dL ∈ recsOf q) (m3 : dQ ∈ recsOf q) (m4 : dE ∈ recsOf q) (m5 : dT ∈ recsOf q)
    (m6 : dNt ∈ recsOf q) (m7 : dTx ∈ recsOf q) (m8 : dPr ∈ recsOf q) (m9 : dAh ∈ recsOf q) (m10 : dBe ∈ recsOf q) (m11 : dEi ∈ recsOf q) (m12 : dBo ∈ recsOf q)
    (c1 : ∃ t, T.mg "_CASE_COST" = some (.int 1 t)) (c2 : ∃ t, T.mg "_MOVE_COST" = some (.int 2 t)) (c3 : ∃ t, T.mg "_MAX_STRING_SIZE" = some (.int 40 t)) (c4 : ∃ t, T.mg "NT_OFFSET" = some (.int 256 t))
    (c5 : ∃ t, T.mg "ENDMARKER" = some (.int 0 t)) (c6 : ∃ t, T.mg "CRLF" = some (.str (stOf [13, 10]) t)) (c7 : ConIs T "EXACT_TOKEN_TYPES" extT)
    (b : BisOk T [.len, .list, .range, .min, .abs, .isinstance, .int, .bool, .chr]) (r1 : ∃ pa, T.mg "_twin_re_1" = some (.ref pa) ∧ Rx.Pat T.h0 pa Rx.code1) (r2 : ∃ pa, T.mg "_twin_re_2" = some (.ref pa) ∧ Rx.Pat T.h0 pa Rx.code2) : FOk T 2 FLw := by
  have ci : ∀ {x : Str} {i : Int}, (∃ t, T.mg x = some (.int i t)) → ConIs T x (.int i) := fun ⟨t, h⟩ => ⟨_, h, .int _ _⟩
  have FOS : FOk T 0 FS := ⟨ConOk.cons (ci c1) (ConOk.cons (ci c2) ConOk.nil), FnsOk.nil, BisOk.nil, SubsOk.nil⟩
  obtain ⟨s1, t1, u1⟩ := subst_ok
  have fS : FnIs T 1 "_substitution_cost" spS := fn_of (T := T) (x := "_substitution_cost") (params := ["ch_a", "ch_b"]) TT m1 (by kernel_rfl) FOS (fun pm code doc vals h => len2 h (fun _ _ => rfl)) (fun pm code doc => by with_unfolding_all rfl) t1 u1
  have FOQ : FOk T 0 FQ := by
    obtain ⟨t6, c6⟩ := c6
    obtain ⟨pa, h1, h2⟩ := r1
    obtain ⟨pb, h3, h4⟩ := r2
    exact ⟨ConOk.cons ⟨_, c6, .str _ _ (by decide)⟩ ConOk.nil, FnsOk.nil, BisOk.nil, SubsOk.cons ⟨pa, h1, subOk1 h2⟩ (SubsOk.cons ⟨pb, h3, subOk2 h4⟩ SubsOk.nil)⟩
  obtain ⟨s2, t2, u2⟩ := quote_ok
  have fQ : FnIs T 1 "quotedata" spQ := fn_of (T := T) (x := "quotedata") (params := ["data"]) TT m3 (by kernel_rfl) FOQ (fun pm code doc vals h => len1 h (fun _ => rfl)) (fun pm code doc => by with_unfolding_all rfl) t2 u2
  have FOT : FOk T 0 FT := ⟨ConOk.cons (ci c4) (ConOk.cons (ci c5) ConOk.nil), FnsOk.nil, BisOk.nil, SubsOk.nil⟩
  obtain ⟨s3, t3, u3⟩ := term_ok
  have fT : FnIs T 1 "ISTERMINAL" spT := fn_of (T := T) (x := "ISTERMINAL") (params := ["x"]) TT m5 (by kernel_rfl) FOT (fun pm code doc vals h => len1 h (fun _ => rfl)) (fun pm code doc => by with_unfolding_all rfl) t3 u3
  obtain ⟨s4, t4, u4⟩ := nont_ok
  have fN : FnIs T 1 "ISNONTERMINAL" spN := fn_of (T := T) (x := "ISNONTERMINAL") (params := ["x"]) TT m6 (by kernel_rfl) FOT (fun pm code doc vals h => len1 h (fun _ => rfl)) (fun pm code doc => by with_unfolding_all rfl) t4 u4
  obtain ⟨s5, t5, u5⟩ := eof_ok
  have fE : FnIs T 1 "ISEOF" spE := fn_of (T := T) (x := "ISEOF") (params := ["x"]) TT m4 (by kernel_rfl) FOT (fun pm code doc vals h => len1 h (fun _ => rfl)) (fun pm code doc => by with_unfolding_all rfl) t5 u5
  have FOL : FOk T 1 FL := ⟨ConOk.cons (ci c3) (ConOk.cons (ci c2) ConOk.nil), FnsOk.cons fS FnsOk.nil, b.sub (by decide), SubsOk.nil⟩
  obtain ⟨s6, t6, u6⟩ := lev_ok
  have fL : FnIs T 2 "_levenshtein_distance" spL := fn_of (T := T) (x := "_levenshtein_distance") (params := ["a", "b", "max_cost"]) TT m2 (by kernel_rfl) FOL (fun pm code doc vals h => len3 h (fun _ _ _ => rfl)) (fun pm code doc => by with_unfolding_all rfl) t6 u6
  have FOX : FOk T 1 FTx := ⟨ConOk.cons c7 ConOk.nil, FnsOk.cons fE (FnsOk.cons fN (FnsOk.cons fT FnsOk.nil)), b.sub (by decide), SubsOk.nil⟩
  obtain ⟨s7, t7, u7⟩ := texts_ok
  have fX : FnIs T 2 "_law_texts" spTx := fn_of (T := T) (x := "_law_texts") (params := ["rules"]) TT m7 (by kernel_rfl) FOX (fun pm code doc vals h => len1 h (fun _ => rfl)) (fun pm code doc => by with_unfolding_all rfl) t7 u7
  have FOP : FOk T 0 FPr := ⟨ConOk.nil, FnsOk.nil, BisOk.nil, SubsOk.nil⟩
  obtain ⟨s8, t8, u8⟩ := price_ok
  have fP : FnIs T 1 "_law_price" spPr := fn_of (T := T) (x := "_law_price") (params := ["one", "other"]) TT m8 (by kernel_rfl) FOP (fun pm code doc vals h => len2 h (fun _ _ => rfl)) (fun pm code doc => by with_unfolding_all rfl) t8 u8
  have FOA : FOk T 1 FAh := ⟨ConOk.nil, FnsOk.cons fP FnsOk.nil, b.sub (by decide), SubsOk.nil⟩
  obtain ⟨s9, t9, u9⟩ := ahead_ok
  have fA : FnIs T 2 "_law_ahead" spAh := fn_of (T := T) (x := "_law_ahead") (params := ["piece", "table", "typed"]) TT m9 (by kernel_rfl) FOA (fun pm code doc vals h => len3 h (fun _ _ _ => rfl)) (fun pm code doc => by with_unfolding_all rfl) t9 u9
  obtain ⟨s10, t10, u10⟩ := behind_ok
  have fB : FnIs T 2 "_law_behind" spBe := fn_of (T := T) (x := "_law_behind") (params := ["piece", "table", "typed"]) TT m10 (by kernel_rfl) FOA (fun pm code doc vals h => len3 h (fun _ _ _ => rfl)) (fun pm code doc => by with_unfolding_all rfl) t10 u10
  have FOE : FOk T 1 FEi := ⟨ConOk.nil, FnsOk.nil, b.sub (by decide), SubsOk.nil⟩
  obtain ⟨s11, t11, u11⟩ := either_ok
  have fEi : FnIs T 2 "_law_either" spEi := fn_of (T := T) (x := "_law_either") (params := ["one", "other", "more"]) TT m11 (by kernel_rfl) FOE (fun pm code doc vals h => len3 h (fun _ _ _ => rfl)) (fun pm code doc => by with_unfolding_all rfl) t11 u11
  obtain ⟨s12, t12, u12⟩ := both_ok
  have fBo : FnIs T 2 "_law_both" spBo := fn_of (T := T) (x := "_law_both") (params := ["one", "other"]) TT m12 (by kernel_rfl) FOE (fun pm code doc vals h => len2 h (fun _ _ => rfl)) (fun pm code doc => by with_unfolding_all rfl) t12 u12
  exact ⟨ConOk.nil, FnsOk.cons (fn_up (by decide) fQ) (FnsOk.cons fL (FnsOk.cons fX (FnsOk.cons fA (FnsOk.cons fB (FnsOk.cons fEi (FnsOk.cons fBo FnsOk.nil)))))), b.sub (by decide), SubsOk.nil⟩
theorem well_plain {P : Params} {h : Heap} {a : Addr} {xs : List PyData} {vs : List Value} (W : PySem.W.Well P h (.ref a) (PySem.W.ofPy (.list xs))) (hl : h.IsList a vs.toArray) : h.PlainList a vs.toArray := by
  obtain ⟨o, ho, hc, n, hd⟩ := hl
  cases W with
  | list g _ =>
    rw [ho] at g
    injection g with g
    subst g
    exact ⟨_, by rw [ho]; dsimp only at hd; injection hd with h1 h2; subst h2; rw [h1]⟩
end Mine
end

-- part T17
section
open PySem PySem.Calls PyProof.Rows
set_option linter.unusedVariables false
set_option maxRecDepth 100000
namespace Mine
theorem lw_kind : dLw.scope.kind = .function := by with_unfolding_all rfl
theorem lw_nd : (varsOf dLw.scope).Nodup := by decide +kernel
abbrev pS : Str := "script"
theorem lw_h0 : (varsOf dLw.scope)[0]? = some pS := by with_unfolding_all rfl
theorem lw_loc : dLw.scope.names.lookup pS = some .local := by with_unfolding_all rfl
/-- the law's walk over any record that is the law's -/
theorem top_walkD {T : GT} {A : Around} {d : DefRec} {L fa l : Addr} {cd : Value} {s : Shared} {m cm : Str → Option Value} {vs : List Value} {ns : List Int}
    (hd : d = dLw) (FO : FOk T 2 FLw) (hA : AOk 2 A) (Fr' : Fr T.h0 L s.heap m) (X : Cl L (cellsFrom (L + 1) d.scope.names []) s.heap cm) (hm : m pS = some (.ref l)) (hl : T.h0.PlainList l vs.toArray) (hI : IntsAre vs ns) (hlen : vs.length ≤ 1000) :
    wpAny (model T.prog T.w) A (execs d.body (envOfC d.name d.scope L fa cd)) (fun f s' => f = .ret (.bool true) ∧ Keeps T.h0 s'.heap ∧ s'.os = s.os ∧ s'.gens = s.gens) No s := by
  subst hd
  obtain ⟨ss, h1, h2⟩ := law_ok
  have e : ns.length ≤ 1000 := by have := (ints_reps (p := T.prog) (w := T.w) (G := fun _ _ => True) hI).length; rw [List.length_map] at this; omega
  exact @top_walkC T 2 FLw A dLw.name dLw.scope L fa l cd dLw.body ownsL ss pS s m cm vs ns FO hA Fr' X hm hl hI hlen lw_kind lw_nd lw_h0 lw_loc h1 (h2 ns e)
end Mine
end

-- part T19
section
open PySem PySem.W PyProof.Rows
set_option linter.unusedVariables false
set_option maxRecDepth 100000
set_option maxHeartbeats 8000000
namespace Mine
theorem caller_ok (env : Env) : AOk 2 (callerA.deeper env) := by
  refine ⟨rfl, ?_, ?_⟩
  · show callerA.depth + 1 + 2 < recursionLimit; decide
  · show callerA.units + 3 + 100 * 2 + 100 < cLine; decide
noncomputable def top.tw705360758644809490 : Nat := 0
noncomputable def top.tw3969286963782609292 : Nat := 0
noncomputable def top.tw6240723676877644813 : Nat := 0
noncomputable def top.tw17836783524569865436 : Nat := 0
noncomputable def top.tw17810072253543177317 : Nat := 0
noncomputable def top.tw5868845118606482295 : Nat := 0
noncomputable def top.tw5766051744304087583 : Nat := 0
noncomputable def top.tw7740461459972228597 : Nat := 0
noncomputable def top.tw12133044868933018485 : Nat := 0
noncomputable def top.tw7990429038631628895 : Nat := 0
noncomputable def top.tw16541100652227675460 : Nat := 0
noncomputable def top.tw15878805988109762761 : Nat := 0
noncomputable def top.tw956942650209027819 : Nat := 0
noncomputable def top.tw395507657311394833 : Nat := 0
noncomputable def top.tw8813761850579938390 : Nat := 0
noncomputable def top.tw427269002284569659 : Nat := 0
noncomputable def top.tw2249405535684624136 : Nat := 0
noncomputable def top.tw8263863092937893816 : Nat := 0
noncomputable def top.tw11396854449078567652 : Nat := 0
noncomputable def top.tw12622177474791663080 : Nat := 0
noncomputable def top.tw2514443458684651071 : Nat := 0
noncomputable def top.tw6854882265559876756 : Nat := 0
noncomputable def top.tw18064794426631996164 : Nat := 0
noncomputable def top.tw2835187731363253809 : Nat := 0
noncomputable def top.tw17177869089781658578 : Nat := 0
noncomputable def top.tw11951234314696350194 : Nat := 0
noncomputable def top.tw6187478851450931391 : Nat := 0
noncomputable def top.tw14436450140739016385 : Nat := 0
noncomputable def top.tw14861896470697024400 : Nat := 0
noncomputable def top.tw10816355053677723559 : Nat := 0
noncomputable def top.tw6491118196486620199 : Nat := 0
noncomputable def top.tw8598144960395782539 : Nat := 0
noncomputable def top.tw7458633546980236471 : Nat := 0
noncomputable def top.tw12772138429114895339 : Nat := 0
noncomputable def top.tw16867195051817565849 : Nat := 0
noncomputable def top.tw2126296398998916975 : Nat := 0
noncomputable def top.tw3567177698169325468 : Nat := 0
noncomputable def top.tw4680269561136488386 : Nat := 0
noncomputable def top.tw15058813355848621054 : Nat := 0
noncomputable def top.tw609860122456452193 : Nat := 0
noncomputable def top.tw11960245374511038805 : Nat := 0
noncomputable def top.tw16840627104734473223 : Nat := 0
noncomputable def top.tw11424894988859586721 : Nat := 0
noncomputable def top.tw6520327441239513222 : Nat := 0
noncomputable def top.tw4223409798947366094 : Nat := 0
noncomputable def top.tw10392794523387053890 : Nat := 0
noncomputable def top.tw13359135706311490777 : Nat := 0
noncomputable def top.tw14349089067433371257 : Nat := 0
noncomputable def top.tw370947364307004932 : Nat := 0
noncomputable def top.tw5303079699428457377 : Nat := 0
noncomputable def top.tw13120753694373217308 : Nat := 0
noncomputable def top.tw3844969445664438809 : Nat := 0
noncomputable def top.tw7297446738713254254 : Nat := 0
noncomputable def top.tw5523086135645875356 : Nat := 0
noncomputable def top.tw2924597203103170677 : Nat := 0
noncomputable def top.tw5604026686304666287 : Nat := 0
noncomputable def top.tw4671429814451907529 : Nat := 0
noncomputable def top.tw12318557346453588183 : Nat := 0
noncomputable def top.tw8507776931139520737 : Nat := 0
noncomputable def top.tw6127594578889010139 : Nat := 0
noncomputable def top.tw517144808224063464 : Nat := 0
noncomputable def top.tw6812286434817487243 : Nat := 0
noncomputable def top.tw637196487639823708 : Nat := 0
noncomputable def top.tw12540527436937284434 : Nat := 0
noncomputable def top.tw3730354652608582461 : Nat := 0
noncomputable def top.tw10187264123177260123 : Nat := 0
noncomputable def top.tw390997316461189296 : Nat := 0
noncomputable def top.tw5327730231235587845 : Nat := 0
noncomputable def top.tw13829181886748113429 : Nat := 0
noncomputable def top.tw3107450061193397043 : Nat := 0
noncomputable def top.tw5969682004907312646 : Nat := 0
noncomputable def top.tw4655869559712951663 : Nat := 0
noncomputable def top.tw10617020205504526918 : Nat := 0
noncomputable def top.tw6859976401760118174 : Nat := 0
noncomputable def top.tw2464713573024523455 : Nat := 0
noncomputable def top.tw81815255157605957 : Nat := 0
noncomputable def top.tw10989066668313759200 : Nat := 0
noncomputable def top.tw7673058066778466091 : Nat := 0
noncomputable def top.tw13345470168829271861 : Nat := 0
noncomputable def top.tw795583310449317561 : Nat := 0
noncomputable def top.tw12819366960792805191 : Nat := 0
noncomputable def top.tw17323899518341599180 : Nat := 0
noncomputable def top.tw9800703332001039478 : Nat := 0
noncomputable def top.tw1212798325632107971 : Nat := 0
noncomputable def top.tw16058212318047004132 : Nat := 0
noncomputable def top.tw4166218997396506358 : Nat := 0
noncomputable def top.tw1400011881503588481 : Nat := 0
end Mine
local macro_rules | `(tactic| w_call $k $ho $hd $hcd $hD $T $F) => `(tactic| (
  have he := Dflts.none $hD rfl; subst he; have he := Dflts.noKw $hD; subst he
  refine call_cells (by decide) $ho (fd_plain $hd) (Top.nolimit $T) $hcd rfl (kinds_of (by kinds_ok)) fun h₁ tk₁ $F CL => ?_))
set_option Elab.async true in
open Mine in
theorem Mine.top : PySem.Challenge.rw_rw0070_02.Holds := by
  w_on; o_law; k_head; (case hw => w_witness2)
  k_go0
  rename Frag.In _ _ => KX
  rename Top _ _ _ _ _ _ => TT
  rename Fr _ _ _ _ => FF
  rename Cl _ _ _ _ => CX
  rename Heap.IsList _ _ _ => hL
  rename Well _ _ _ _ => hW
  rename IntsAre _ _ => hI
  rename (¬ _ < _) => hlen
  rename (_ = #[]) => hg
  rename World => w
  let T : GT := ⟨PySem.Challenge.rw_rw0070_02.row.prog, w, _, _, _, TT.g, TT.b, TT.nolimit⟩
  have hmg := mg_eq TT.g (KX 3 _ rfl) rfl
  have hns := (ints_reps (p := PySem.Challenge.rw_rw0070_02.row.prog) (w := w) (G := fun _ _ => True) hI).length
  rw [List.length_map] at hns
  have FO : FOk T 2 FLw := env_ok (T := T) TT (mem_rec (x := "_substitution_cost") (by kernel_rfl)) (mem_rec (x := "_levenshtein_distance") (by kernel_rfl)) (mem_rec (x := "quotedata") (by kernel_rfl)) (mem_rec (x := "ISEOF") (by kernel_rfl)) (mem_rec (x := "ISTERMINAL") (by kernel_rfl)) (mem_rec (x := "ISNONTERMINAL") (by kernel_rfl)) (mem_rec (x := "_law_texts") (by kernel_rfl)) (mem_rec (x := "_law_price") (by kernel_rfl)) (mem_rec (x := "_law_ahead") (by kernel_rfl)) (mem_rec (x := "_law_behind") (by kernel_rfl)) (mem_rec (x := "_law_either") (by kernel_rfl)) (mem_rec (x := "_law_both") (by kernel_rfl))
    ⟨_, (hmg _).trans rfl⟩ ⟨_, (hmg _).trans rfl⟩ ⟨_, (hmg _).trans rfl⟩ ⟨_, (hmg _).trans rfl⟩ ⟨_, (hmg _).trans rfl⟩ ⟨_, (hmg _).trans rfl⟩
    ⟨.ref 63, (hmg _).trans rfl, dict_rep (KX 63 _ rfl) (by decide) (by kernel_rfl) (by kernel_rfl) (by kernel_rfl) (by kernel_rfl) (by decide) (by kernel_rfl) (by decide)⟩
    (.cons ⟨(hmg _).trans (by kernel_rfl), (TT.builtins _ (by decide)).trans (by kernel_rfl)⟩ (.cons ⟨(hmg _).trans (by kernel_rfl), (TT.builtins _ (by decide)).trans (by kernel_rfl)⟩ (.cons ⟨(hmg _).trans (by kernel_rfl), (TT.builtins _ (by decide)).trans (by kernel_rfl)⟩ (.cons ⟨(hmg _).trans (by kernel_rfl), (TT.builtins _ (by decide)).trans (by kernel_rfl)⟩ (.cons ⟨(hmg _).trans (by kernel_rfl), (TT.builtins _ (by decide)).trans (by kernel_rfl)⟩ (.cons ⟨(hmg _).trans (by kernel_rfl), (TT.builtins _ (by decide)).trans (by kernel_rfl)⟩ (.cons ⟨(hmg _).trans (by kernel_rfl), (TT.builtins _ (by decide)).trans (by kernel_rfl)⟩ (.cons ⟨(hmg _).trans (by kernel_rfl), (TT.builtins _ (by decide)).trans (by kernel_rfl)⟩ (.cons ⟨(hmg _).trans (by kernel_rfl), (TT.builtins _ (by decide)).trans (by kernel_rfl)⟩ .nil)))))))))
    ⟨50, (hmg _).trans rfl, ⟨⟨_, _, _, _, KX 50 _ rfl, rfl, rfl, rfl, KX 49 _ rfl, by simp [Builtin.Re.reRawOf, Rx.code1]⟩⟩⟩
    ⟨55, (hmg _).trans rfl, ⟨⟨_, _, _, _, KX 55 _ rfl, rfl, rfl, rfl, KX 54 _ rfl, by simp [Builtin.Re.reRawOf, Rx.code2]⟩⟩⟩
  refine @wpAny_mono _ _ _ _ _ _ _ _ _ (@top_walkD T _ _ _ _ _ _ _ _ _ _ _ ?zzd FO (caller_ok _) FF CX ?zzm (well_plain hW hL) hI ?zzl) ?zzq (fun e s' h => h.elim)
  case zzd => kernel_rfl
  case zzm => kernel_rfl
  case zzl => omega
  case zzq =>
    rintro f s' ⟨rfl, hk, ho, hg'⟩
    exact ⟨.inl ⟨.bool true, .bool true, [], rfl, fun _ => rfl, .bool true, (by kernel_rfl), unshared_nil⟩, hk, ho, hg'.trans hg⟩
end

theorem PySem.Challenge.cw_rw0070_02_holds : PySem.Challenge.rw_rw0070_02.Holds :=
  Mine.top
