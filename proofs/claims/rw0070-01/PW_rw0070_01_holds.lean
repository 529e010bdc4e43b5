import PyProof.Rows.All
import Wide.All
import OpenK.AllK
import Wide.FinOn
import PySem.Challenge.RW_rw0070_01
set_option Elab.async false

section
open PySem PySem.Calls PyProof.Rows
set_option linter.unusedVariables false
set_option genSizeOf false
set_option genSizeOfSpec false
namespace Mine

/-! values without a heap -/
inductive V where
  | none
  | bool (b : Bool)
  | int (i : Int)
  | str (s : List Nat)
  | list (xs : List V)
  | tup (xs : List V)
  | dS (ks : List (List Nat)) (vs : List V)
  | dI (ks : List Int) (vs : List V)
  | rng (a b c : Int)
  deriving Inhabited

abbrev stOf (l : List Nat) : Str := ⟨l.toArray⟩

noncomputable def DObj {prog : Program} {w : World} {K : Type} [DecidableEq K] (knd : KeyKind prog w K) (o : Obj) (kvs : List (K × Value)) : Prop :=
  o.ExactDict ∧ ∃ es ep, o.data = .dict es ep ∧ KeysOf knd es ∧ Pairs knd es.toList kvs ∧ (kvs.map (·.1)).Nodup

mutual
inductive Rep (p : Program) (w : World) (G : Addr → Obj → Prop) : Value → V → Prop where
  | none : Rep p w G .none .none
  | bool (b) : Rep p w G (.bool b) (.bool b)
  | int (i t) : Rep p w G (.int i t) (.int i)
  | str (s t) : s.length ≤ sizeLine → Rep p w G (.str (stOf s) t) (.str s)
  | list {a o vs n xs} : G a o → o.cls = .type "list" → o.data = .seq (List.toArray vs) n → vs.length ≤ sizeLine → Reps p w G vs xs → Rep p w G (.ref a) (.list xs)
  | tup {a o vs n xs} : G a o → o.cls = .type "tuple" → o.data = .seq (List.toArray vs) n → vs.length ≤ sizeLine → Reps p w G vs xs → Rep p w G (.ref a) (.tup xs)
  | dS {a o ks vals vs} : G a o → ks.length = vals.length ∧ vals.length ≤ sizeLine ∧ (a == sysModules) = false → DObj (PySem.strKind p w) o ((ks.map stOf).zip vals) → Reps p w G vals vs → Rep p w G (.ref a) (.dS ks vs)
  | dI {a o ks vals vs} : G a o → ks.length = vals.length ∧ vals.length ≤ sizeLine ∧ (a == sysModules) = false → DObj (PySem.intKind p w) o (ks.zip vals) → Reps p w G vals vs → Rep p w G (.ref a) (.dI ks vs)
  | rng {ad a b c t u v} : G ad { cls := .type "range", data := .fields #[.int a t, .int b u, .int c v] } → Rep p w G (.ref ad) (.rng a b c)
inductive Reps (p : Program) (w : World) (G : Addr → Obj → Prop) : List Value → List V → Prop where
  | nil : Reps p w G [] []
  | cons {v t vs ts} : Rep p w G v t → Reps p w G vs ts → Reps p w G (v :: vs) (t :: ts)
end

section
variable {p : Program} {w : World}
theorem Rep.mono {G G' : Addr → Obj → Prop} (h : ∀ a o, G a o → G' a o) {v t} (r : Rep p w G v t) : Rep p w G' v t :=
  Rep.rec (motive_1 := fun v t _ => Rep p w G' v t) (motive_2 := fun vs ts _ => Reps p w G' vs ts) .none .bool .int .str (fun g c d z _ ih => .list (h _ _ g) c d z ih) (fun g c d z _ ih => .tup (h _ _ g) c d z ih)
    (fun g l d _ ih => .dS (h _ _ g) l d ih) (fun g l d _ ih => .dI (h _ _ g) l d ih) (fun g => .rng (h _ _ g)) .nil (fun _ _ a b => .cons a b) r
theorem Reps.mono {G G' : Addr → Obj → Prop} (h : ∀ a o, G a o → G' a o) {vs ts} (r : Reps p w G vs ts) : Reps p w G' vs ts := by
  induction vs generalizing ts with
  | nil => cases r; exact .nil
  | cons v vs ih => cases r with | cons a b => exact .cons (Rep.mono h a) (ih b)
variable {G G' : Addr → Obj → Prop}

theorem Reps.length {vs ts} (h : Reps p w G vs ts) : vs.length = ts.length := by
  induction vs generalizing ts with
  | nil => cases h; rfl
  | cons v vs ih => cases h with | cons a b => simp [ih b]
theorem Reps.get {vs ts} (h : Reps p w G vs ts) : ∀ {i : Nat} {t}, ts[i]? = some t → ∃ v, vs[i]? = some v ∧ Rep p w G v t := by
  induction vs generalizing ts with
  | nil => cases h; intro i t e; simp at e
  | cons v vs ih =>
    cases h with
    | cons a b =>
      intro i t e
      cases i with
      | zero => simp at e; subst e; exact ⟨v, by simp, a⟩
      | succ i => simp at e; obtain ⟨w, q, r⟩ := ih b e; exact ⟨w, by simpa using q, r⟩
theorem Reps.get' {vs ts} (h : Reps p w G vs ts) : ∀ {i : Nat} {v}, vs[i]? = some v → ∃ t, ts[i]? = some t ∧ Rep p w G v t := by
  induction vs generalizing ts with
  | nil => cases h; intro i t e; simp at e
  | cons v vs ih =>
    cases h with
    | cons a b =>
      intro i t e
      cases i with
      | zero => simp at e; subst e; exact ⟨_, by simp, a⟩
      | succ i => simp at e; obtain ⟨w, q, r⟩ := ih b e; exact ⟨w, by simpa using q, r⟩
theorem Reps.take {vs ts} (n : Nat) (h : Reps p w G vs ts) : Reps p w G (vs.take n) (ts.take n) := by
  induction vs generalizing ts n with
  | nil => cases h; rw [List.take_nil, List.take_nil]; exact .nil
  | cons v vs ih => cases h with
    | cons a b => cases n with
      | zero => exact .nil
      | succ n => exact .cons a (ih n b)
theorem Reps.drop {vs ts} (n : Nat) (h : Reps p w G vs ts) : Reps p w G (vs.drop n) (ts.drop n) := by
  induction n generalizing vs ts with
  | zero => exact h
  | succ n ih => cases h with
    | nil => exact .nil
    | cons a b => exact ih b
theorem Reps.set {vs ts v t} (n : Nat) (h : Reps p w G vs ts) (hv : Rep p w G v t) : Reps p w G (vs.set n v) (ts.set n t) := by
  induction vs generalizing ts n with
  | nil => cases h; exact .nil
  | cons v vs ih => cases h with
    | cons a b => cases n with
      | zero => exact .cons hv b
      | succ n => exact .cons a (ih n b)
theorem Reps.of_get {vs : List Value} {ts : List V} (hl : vs.length = ts.length) (h : ∀ (i : Nat) v t, vs[i]? = some v → ts[i]? = some t → Rep p w G v t) : Reps p w G vs ts := by
  induction vs generalizing ts with
  | nil => cases ts with
    | nil => exact .nil
    | cons => cases hl
  | cons v vs ih => cases ts with
    | nil => cases hl
    | cons t ts => exact .cons (h 0 v t rfl rfl) (ih (Nat.succ.inj hl) fun i v' t' e e' => h (i + 1) v' t' e e')

noncomputable def V.flat : V → Bool
  | .none | .bool _ | .int _ | .str _ => true
  | _ => false
theorem Rep.flat {v t} (h : Rep p w G v t) (f : t.flat = true) : Rep p w G' v t := by
  cases h with
  | none => exact .none
  | bool => exact .bool _
  | int => exact .int _ _
  | str _ _ z => exact .str _ _ z
  | list => cases f
  | tup => cases f
  | dS => cases f
  | dI => cases f
  | rng => cases f
end

inductive All2 {α β : Type} (R : α → β → Prop) : List α → List β → Prop where
  | nil : All2 R [] []
  | cons {a b as bs} : R a b → All2 R as bs → All2 R (a :: as) (b :: bs)
namespace All2
variable {α β : Type} {R R' : α → β → Prop}
theorem mono (h : ∀ a b, R a b → R' a b) {as bs} (x : All2 R as bs) : All2 R' as bs := by
  induction x with
  | nil => exact .nil
  | cons a _ ih => exact .cons (h _ _ a) ih
theorem length {as bs} (x : All2 R as bs) : as.length = bs.length := by
  induction x with
  | nil => rfl
  | cons _ _ ih => exact congrArg (· + 1) ih
theorem get {as : List α} {bs : List β} (x : All2 R as bs) : ∀ {i : Nat} {b}, bs[i]? = some b → ∃ a, as[i]? = some a ∧ R a b := by
  induction x with
  | nil => intro i b e; cases e
  | cons a _ ih =>
    intro i b e
    cases i with
    | zero => cases e; exact ⟨_, rfl, a⟩
    | succ i => exact ih e
theorem of_get {as : List α} {bs : List β} (hl : as.length = bs.length) (h : ∀ (i : Nat) a b, as[i]? = some a → bs[i]? = some b → R a b) : All2 R as bs := by
  induction as generalizing bs with
  | nil => cases bs with
    | nil => exact .nil
    | cons => cases hl
  | cons v vs ih => cases bs with
    | nil => cases hl
    | cons t ts => exact .cons (h 0 v t rfl rfl) (ih (Nat.succ.inj hl) fun i v' t' e e' => h (i + 1) v' t' e e')
end All2
theorem Reps.all2 {p w G} {vs ts} (h : Reps p w G vs ts) : All2 (Rep p w G) vs ts := by
  induction vs generalizing ts with
  | nil => cases h; exact .nil
  | cons v vs ih => cases h with | cons a b => exact .cons a (ih b)
theorem Reps.of_all2 {p w G} {vs ts} (h : All2 (Rep p w G) vs ts) : Reps p w G vs ts := by
  induction h with
  | nil => exact .nil
  | cons a _ ih => exact .cons a ih

/-! d levels from the top are lists that may still be changed -/
noncomputable def RepD (p : Program) (w : World) (G0 G1 : Addr → Obj → Prop) : Nat → Value → V → Prop
  | 0 => Rep p w G0
  | d + 1 => fun v t => ∃ a o vs n xs, v = .ref a ∧ t = .list xs ∧ G1 a o ∧ o.cls = .type "list" ∧ o.data = .seq (List.toArray vs) n ∧ vs.length ≤ sizeLine ∧ All2 (RepD p w G0 G1 d) vs xs

section
variable {p : Program} {w : World} {G0 G1 G0' G1' : Addr → Obj → Prop}
theorem RepD.mono (h0 : ∀ a o, G0 a o → G0' a o) (h1 : ∀ a o, G1 a o → G1' a o) {d v t} (h : RepD p w G0 G1 d v t) : RepD p w G0' G1' d v t := by
  induction d generalizing v t with
  | zero => exact Rep.mono h0 h
  | succ d ih =>
    obtain ⟨a, o, vs, n, xs, e1, e2, g, r⟩ := h
    exact ⟨a, o, vs, n, xs, e1, e2, h1 _ _ g, r.1, r.2.1, r.2.2.1, r.2.2.2.mono fun _ _ q => ih q⟩
theorem RepD.rep {G : Addr → Obj → Prop} (h0 : ∀ a o, G0 a o → G a o) (h1 : ∀ a o, G1 a o → G a o) {d v t} (h : RepD p w G0 G1 d v t) : Rep p w G v t := by
  induction d generalizing v t with
  | zero => exact Rep.mono h0 h
  | succ d ih =>
    obtain ⟨a, o, vs, n, xs, rfl, rfl, g, r⟩ := h
    exact .list (h1 _ _ g) r.1 r.2.1 r.2.2.1 (Reps.of_all2 (r.2.2.2.mono fun _ _ q => ih q))
theorem RepD.flat {d v t} (h : RepD p w G0 G1 d v t) (f : t.flat = true) : ∀ {d'}, d' = 0 → RepD p w G0' G1' d' v t := by
  rintro _ rfl
  cases d with
  | zero => exact Rep.flat h f
  | succ d => obtain ⟨a, o, vs, n, xs, e1, e2, _⟩ := h; subst e2; cases f
end

/-! heaps -/
noncomputable def Keeps (h h' : Heap) : Prop := ∀ b o, h.get? b = some o → h'.get? b = some o
theorem Keeps.refl (h : Heap) : Keeps h h := fun _ _ e => e
theorem Keeps.trans {a b c : Heap} (x : Keeps a b) (y : Keeps b c) : Keeps a c := fun p o e => y p o (x p o e)
noncomputable def Ext (s s' : Shared) : Prop := ∃ h' tk, s' = { s with heap := h', toks := tk } ∧ Keeps s.heap h'
theorem Ext.refl (s : Shared) : Ext s s := ⟨s.heap, s.toks, rfl, Keeps.refl _⟩
theorem Ext.trans {a b c : Shared} (x : Ext a b) (y : Ext b c) : Ext a c := by
  obtain ⟨h1, t1, rfl, k1⟩ := x
  obtain ⟨h2, t2, rfl, k2⟩ := y
  exact ⟨h2, t2, rfl, k1.trans k2⟩
theorem Ext.tok (s : Shared) (t : Nat) : Ext s { s with toks := t } := ⟨s.heap, t, rfl, Keeps.refl _⟩
theorem Ext.keeps {s s' : Shared} (x : Ext s s') : Keeps s.heap s'.heap := by obtain ⟨h1, t1, rfl, k1⟩ := x; exact k1
theorem Ext.of {s : Shared} {h' : Heap} {tk : Nat} (k : Keeps s.heap h') : Ext s { s with heap := h', toks := tk } := ⟨_, _, rfl, k⟩
theorem Keeps.push (h : Heap) (o : Obj) : Keeps h (h.push o) := fun _ _ e => Heap.get?_push_of_some _ e
theorem Ext.push (s : Shared) (o : Obj) (t : Nat) : Ext s { s with heap := s.heap.push o, toks := t } := ⟨_, _, rfl, Keeps.push _ _⟩

noncomputable def Alive (h : Heap) (a : Addr) : Prop := ∃ o, h.get? a = some o
theorem Alive.keeps {h h' : Heap} {a} (x : Alive h a) (k : Keeps h h') : Alive h' a := let ⟨o, e⟩ := x; ⟨o, k _ _ e⟩
theorem Alive.lt {h : Heap} {a} (x : Alive h a) : a < h.objs.size := let ⟨_, e⟩ := x; Heap.lt_size e
theorem not_alive_size (h : Heap) : ¬ Alive h h.objs.size := fun x => Nat.lt_irrefl _ x.lt
theorem none_of_ge {h : Heap} {a} (x : h.objs.size ≤ a) : h.get? a = none := by
  cases e : h.get? a with
  | none => rfl
  | some o => exact absurd (Heap.lt_size e) (Nat.not_lt.mpr x)

noncomputable def Gb (h : Heap) (bad : Addr → Prop) (a : Addr) (o : Obj) : Prop := h.get? a = some o ∧ ¬ bad a
theorem Gb.keeps {h h' : Heap} {bad : Addr → Prop} (k : Keeps h h') : ∀ a o, Gb h bad a o → Gb h' bad a o := fun a o g => ⟨k a o g.1, g.2⟩
theorem Gb.weak {h : Heap} {bad bad' : Addr → Prop} (k : ∀ a, bad' a → bad a) : ∀ a o, Gb h bad a o → Gb h bad' a o := fun a o g => ⟨g.1, fun x => g.2 (k a x)⟩

/-! the theory of the globals -/
structure GT where
  prog : Program
  w : World
  mg : Str → Option Value
  mb : Str → Option Value
  h0 : Heap
  g : h0.Ns mainGlobals mg
  b : h0.Ns builtinsNs mb
  lim : h0.NoLimit

noncomputable def AOk (k : Nat) (A : Around) : Prop := A.handled = none ∧ A.depth + k < recursionLimit ∧ A.units + 100 * k + 100 < cLine
theorem AOk.deeper {k : Nat} {A : Around} {env : Env} (h : AOk (k + 1) A) : AOk k (A.deeper env) := by
  obtain ⟨a, b, c⟩ := h
  refine ⟨a, ?_, ?_⟩
  · show A.depth + 1 + k < _; omega
  · show A.units + 3 + 100 * k + 100 < _; omega
theorem AOk.down {k j : Nat} {A : Around} (h : AOk k A) (hj : j ≤ k) : AOk j A := by
  obtain ⟨a, b, c⟩ := h
  exact ⟨a, by omega, by omega⟩

structure Frm (env : Env) (h : Heap) (m cm : Str → Option Value) : Prop where
  ns : h.Ns env.locals m
  cell : ∀ n c, env.cells.lookup n = some c → h.IsCell c (cm n)
theorem Frm.keeps {env : Env} {h h' : Heap} {m cm} (x : Frm env h m cm) (k : Keeps h h') : Frm env h' m cm := ⟨x.ns.keeps k, fun n c e => (x.cell n c e).keeps k⟩

noncomputable def varKind : Option NameKind → Bool
  | some .local | some .cell | some .free => true
  | _ => false
noncomputable def valAt (env : Env) (m cm : Str → Option Value) (x : Str) : Option Value :=
  match env.kindOf x with
  | some .local => m x
  | some .cell => if (env.cells.lookup x).isSome then cm x else none
  | some .free => if (env.cells.lookup x).isSome then cm x else none
  | _ => none

abbrev Rv := List (Nat × V × Nat)

structure Rd (T : GT) (env : Env) (sc : Scope) (names : List Str) (r : Rv) (bad bc : Addr → Prop) (s : Shared) : Prop where
  base : Keeps T.h0 s.heap
  kind : env.scope.kind = .function
  glo : env.globals = mainGlobals
  blt : env.builtins = builtinsNs
  scg : ∀ x, sc.names.lookup x = some .globalImplicit → env.kindOf x = some .globalImplicit
  badok : ∀ a, bad a → Alive s.heap a ∧ T.h0.get? a = none
  sub : ∀ a, bc a → bad a
  vals : ∃ m cm, Frm env s.heap m cm ∧ ∀ i t d x, r.lookup i = some (t, d) → names[i]? = some x → varKind (sc.names.lookup x) = true →
    ∃ v, valAt env m cm x = some v ∧ RepD T.prog T.w (Gb s.heap bad) (Gb s.heap bc) d v t

theorem Rd.keep {T env sc names r bad bc s s'} (R : Rd T env sc names r bad bc s) (x : Ext s s') : Rd T env sc names r bad bc s' := by
  have k := x.keeps
  obtain ⟨m, cm, F, v⟩ := R.vals
  exact ⟨R.base.trans k, R.kind, R.glo, R.blt, R.scg, fun a h => ⟨(R.badok a h).1.keeps k, (R.badok a h).2⟩, R.sub, m, cm, F.keeps k, fun i t d x e1 e2 e3 =>
    let ⟨u, h1, h2⟩ := v i t d x e1 e2 e3; ⟨u, h1, h2.mono (Gb.keeps k) (Gb.keeps k)⟩⟩

/-! the judgement of expressions: whatever the frame, the expression ends in a value that Q takes -/
noncomputable def Is (T : GT) (bad bc : Addr → Prop) (s : Shared) (Q : V → Nat → Prop) (v : Value) (s' : Shared) : Prop :=
  Ext s s' ∧ ∃ t d, Q t d ∧ RepD T.prog T.w (Gb s'.heap bad) (Gb s'.heap bc) d v t
noncomputable def No (_ : Value) (_ : Shared) : Prop := False

noncomputable def EVW (T : GT) (k : Nat) (sc : Scope) (names : List Str) (r : Rv) (e : Expr) (Q : V → Nat → Prop) : Prop :=
  ∀ A env bad bc s, AOk k A → Rd T env sc names r bad bc s → wpAny (model T.prog T.w) A (eval e env) (Is T bad bc s Q) No s
noncomputable def TVW (T : GT) (k : Nat) (sc : Scope) (names : List Str) (r : Rv) (e : Expr) (Q : Bool → Prop) : Prop :=
  ∀ A env bad bc s, AOk k A → Rd T env sc names r bad bc s → wpAny (model T.prog T.w) A (isTrue e env (eval e env)) (fun b s' => Ext s s' ∧ Q b) No s

theorem wp_no {α : Type} {M : Model} {A : Around} {t : Sem α} {Q Q' : α → Shared → Prop} {E : Value → Shared → Prop} {s : Shared}
    (h : wpAny M A t Q No s) (q : ∀ a s, Q a s → Q' a s) : wpAny M A t Q' E s := wpAny_mono h q fun _ _ x => x.elim

theorem Is.trans {T bad bc s s1 Q v s'} (x : Ext s s1) (h : Is T bad bc s1 Q v s') : Is T bad bc s Q v s' := ⟨x.trans h.1, h.2⟩

end Mine
end

section
open PySem PySem.Calls PyProof.Rows
set_option linter.unusedVariables false
set_option genSizeOf false
set_option genSizeOfSpec false
set_option genInjectivity false
namespace Mine

theorem sl_eq : sizeLine = 16777216 := by rw [sizeLine_eq]

section
variable {T : GT} {bad bc : Addr → Prop} {s : Shared} {Q : V → Nat → Prop}
theorem Is.mk {v t d s'} (x : Ext s s') (q : Q t d) (h : RepD T.prog T.w (Gb s'.heap bad) (Gb s'.heap bc) d v t) : Is T bad bc s Q v s' := ⟨x, t, d, q, h⟩
theorem Is.int {i : Int} {tk n} (q : Q (.int i) 0) : Is T bad bc s Q (.int i tk) { s with toks := n } := .mk (Ext.tok _ _) q (.int _ _)
theorem Is.bool {b : Bool} (q : Q (.bool b) 0) : Is T bad bc s Q (.bool b) s := .mk (Ext.refl _) q (.bool _)
theorem Is.str {l : List Nat} {x : Str} {tk n} (q : Q (.str l) 0) (e : x = stOf l) (h : l.length ≤ sizeLine) : Is T bad bc s Q (.str x tk) { s with toks := n } := .mk (Ext.tok _ _) q (by subst e; exact .str _ _ h)
theorem Is.int' {i : Int} {tk n h'} (k : Keeps s.heap h') (q : Q (.int i) 0) : Is T bad bc s Q (.int i tk) { s with heap := h', toks := n } := .mk (Ext.of k) q (.int _ _)
theorem Is.bool' {b : Bool} {n h'} (k : Keeps s.heap h') (q : Q (.bool b) 0) : Is T bad bc s Q (.bool b) { s with heap := h', toks := n } := .mk (Ext.of k) q (.bool _)
theorem Is.str' {l : List Nat} {x : Str} {tk n h'} (k : Keeps s.heap h') (q : Q (.str l) 0) (e : x = stOf l) (h : l.length ≤ sizeLine) : Is T bad bc s Q (.str x tk) { s with heap := h', toks := n } := .mk (Ext.of k) q (by subst e; exact .str _ _ h)
end

/-! binary operators -/
noncomputable def asInt (v : V) (f : Int → Prop) : Prop := match v with
  | .int i => f i
  | _ => False
noncomputable def asStr (v : V) (f : List Nat → Prop) : Prop := match v with
  | .str i => f i
  | _ => False
theorem asInt_inv {v : V} {f : Int → Prop} (h : asInt v f) : ∃ i, v = .int i ∧ f i := by
  cases v with
  | int i => exact ⟨i, rfl, h⟩
  | _ => exact h.elim
theorem asStr_inv {v : V} {f : List Nat → Prop} (h : asStr v f) : ∃ i, v = .str i ∧ f i := by
  cases v with
  | str i => exact ⟨i, rfl, h⟩
  | _ => exact h.elim
theorem asInt2 {a b : V} {f : Int → Int → Prop} (h : asInt a fun x => asInt b fun y => f x y) : ∃ x y, a = .int x ∧ b = .int y ∧ f x y := by
  obtain ⟨x, hx, h1⟩ := asInt_inv h
  obtain ⟨y, hy, h2⟩ := asInt_inv h1
  exact ⟨x, y, hx, hy, h2⟩
noncomputable def addW (a b : V) (Q : V → Nat → Prop) : Prop := match a with
  | .int x => asInt b fun y => Q (.int (x + y)) 0
  | .str x => asStr b fun y => x.length + y.length ≤ 1000000 ∧ Q (.str (x ++ y)) 0
  | _ => False
noncomputable def mulW (a b : V) (Q : V → Nat → Prop) : Prop := match a with
  | .int x => asInt b fun y => x.natAbs < 2 ^ 60 ∧ Q (.int (x * y)) 0
  | .str x => asInt b fun n => n ≤ 10000 ∧ 0 ≤ n ∧ x.length ≤ 100 ∧ Q (.str (List.replicate n.toNat x).flatten) 0
  | _ => False
noncomputable def binW (op : Operator) (a : V) (da : Nat) (b : V) (db : Nat) (Q : V → Nat → Prop) : Prop := match op with
  | .Add => addW a b Q
  | .Sub => asInt a fun x => asInt b fun y => Q (.int (x - y)) 0
  | .Mult => mulW a b Q
  | .FloorDiv => asInt a fun x => asInt b fun y => 0 < y ∧ y < 1000000000 ∧ Q (.int (x / y)) 0
  | .Mod => asInt a fun x => asInt b fun y => 0 < y ∧ Q (.int (x % y)) 0
  | .Pow => asInt a fun x => asInt b fun y => 0 ≤ y ∧ y ≤ 1000 ∧ x.natAbs < 2 ^ 60 ∧ Q (.int (x ^ y.toNat)) 0
  | _ => False

theorem fdiv_pos (x : Int) {y : Int} (h : 0 < y) : x.fdiv y = x / y := Int.fdiv_eq_ediv_of_nonneg x (Int.le_of_lt h)
theorem fmod_pos (x : Int) {y : Int} (h : 0 < y) : x.fmod y = x % y := Int.fmod_eq_emod_of_nonneg x (Int.le_of_lt h)

theorem bits60 {x : Int} (h : x.natAbs < 2 ^ 60) : Builtin.Int.intBits x ≤ 64 := by
  unfold Builtin.Int.intBits
  split
  · omega
  · have := (Nat.log2_lt (n := x.natAbs) (k := 60) (by intro e; simp_all [Int.natAbs_eq_zero])).mpr h
    omega

theorem stOf_length (l : List Nat) : (stOf l).length = l.length := by simp [Str.length]
theorem stOf_append (a b : List Nat) : stOf a ++ stOf b = stOf (a ++ b) := by
  show Str.append _ _ = _
  simp [Str.append, stOf]
theorem foldl_arr (x : List Nat) : ∀ (n : Nat) (acc : List Nat), (List.replicate n x.toArray).foldl (· ++ ·) acc.toArray = (acc ++ (List.replicate n x).flatten).toArray
  | 0, acc => by simp
  | n + 1, acc => by
    rw [List.replicate_succ, List.foldl_cons]
    have : acc.toArray ++ x.toArray = (acc ++ x).toArray := by simp
    rw [this, foldl_arr x n (acc ++ x), List.replicate_succ, List.flatten_cons, List.append_assoc]
theorem flat_len (x : List Nat) (n : Nat) : (List.replicate n x).flatten.length = n * x.length := by simp

section
variable {T : GT} {bad bc : Addr → Prop} {s : Shared} {Q : V → Nat → Prop} {A : Around} {k : Nat} {E : Value → Shared → Prop}

theorem Rep.int_inv {p w G v i} (h : Rep p w G v (.int i)) : ∃ t, v = .int i t := by cases h; exact ⟨_, rfl⟩
theorem Rep.str_inv {p w G v l} (h : Rep p w G v (.str l)) : ∃ t, v = .str (stOf l) t ∧ l.length ≤ sizeLine := by cases h; exact ⟨_, rfl, by assumption⟩
theorem Rep.bool_inv {p w G v b} (h : Rep p w G v (.bool b)) : v = .bool b := by cases h; rfl
theorem Rep.none_inv {p w G v} (h : Rep p w G v .none) : v = .none := by cases h; rfl
theorem RepD.int_inv {p w G G' d v i} (h : RepD p w G G' d v (.int i)) : ∃ t, v = .int i t := Rep.int_inv (h.flat (G0' := G) (G1' := G') rfl (d' := 0) rfl)
theorem RepD.str_inv {p w G G' d v l} (h : RepD p w G G' d v (.str l)) : ∃ t, v = .str (stOf l) t ∧ l.length ≤ sizeLine := Rep.str_inv (h.flat (G0' := G) (G1' := G') rfl (d' := 0) rfl)
theorem RepD.bool_inv {p w G G' d v b} (h : RepD p w G G' d v (.bool b)) : v = .bool b := Rep.bool_inv (h.flat (G0' := G) (G1' := G') rfl (d' := 0) rfl)
theorem RepD.none_inv {p w G G' d v} (h : RepD p w G G' d v .none) : v = .none := Rep.none_inv (h.flat (G0' := G) (G1' := G') rfl (d' := 0) rfl)

theorem bin_add_str {l m : List Nat} {t u : Tok} (h1 : l.length ≤ sizeLine) (h2 : m.length ≤ sizeLine) (h : l.length + m.length ≤ 1000000) (q : Q (.str (l ++ m)) 0) :
    (if (stOf l).length == 0 then Made.val (.str (stOf m) u) else if (stOf m).length == 0 then Made.val (.str (stOf l) t) else Made.str (stOf l ++ stOf m)).post (Is T bad bc s Q) s := by
  rw [stOf_length, stOf_length]
  split
  · rename_i e
    have : l = [] := List.length_eq_zero_iff.mp (by simpa using e)
    subst this
    exact .mk (Ext.refl _) q (.str _ _ h2)
  · split
    · rename_i e
      have : m = [] := List.length_eq_zero_iff.mp (by simpa using e)
      subst this
      rw [List.append_nil] at q; exact .mk (Ext.refl _) q (.str _ _ h1)
    · have hz : (l ++ m).length ≤ sizeLine := by rw [sl_eq, List.length_append]; omega
      exact ⟨by rw [stOf_append, stOf_length]; exact hz, Is.str q (stOf_append _ _) hz⟩

theorem mul_str_ok {x : List Nat} {n : Int} {t u : Tok} (h1 : x.length ≤ sizeLine) (h2 : n ≤ 10000) (h3 : 0 ≤ n) (h4 : x.length ≤ 100) (h5 : Q (.str (List.replicate n.toNat x).flatten) 0) :
    wpAny (model T.prog T.w) A (binaryOp .Mult (.str (stOf x) t) (.int n u)) (Is T bad bc s Q) E s := by
  have hm : n.toNat * x.length ≤ 10000 * 100 := Nat.mul_le_mul (by omega) h4
  have hl : Builtin.Str.tooLong (x.length * n.toNat) = false := by
    unfold Builtin.Str.tooLong; rw [Nat.mul_comm, sl_eq]; simp; omega
  refine P.mul_str (by simp; omega) (fun h6 h7 => ?_) (fun h6 h7 => by rw [stOf_length]; exact hl) ?_
  · rw [stOf_length]
    have : (2 ^ 63 - 1) / n ≥ (2 ^ 63 - 1) / 10000 := by
      rw [ge_iff_le, Int.le_ediv_iff_mul_le (by omega)]
      have : (2 ^ 63 - 1) / 10000 * n ≤ (2 ^ 63 - 1) / 10000 * 10000 := Int.mul_le_mul_of_nonneg_left h2 (by decide)
      omega
    omega
  · split
    · have : n = 0 := by omega
      subst this
      exact ⟨by decide, Is.str h5 rfl (by simp)⟩
    · rw [stOf_length]
      split
      · rename_i e
        refine .mk (Ext.refl _) h5 ?_
        have : (List.replicate n.toNat x).flatten = x := by
          rcases Bool.or_eq_true_iff.mp e with e | e
          · have : n = 1 := by simpa using e
            subst this; simp
          · have : x = [] := List.length_eq_zero_iff.mp (by simpa using e)
            subst this; simp
        rw [this]; exact .str _ _ h1
      · have e : (⟨(List.replicate n.toNat (stOf x).cps).foldl (· ++ ·) #[]⟩ : Str) = stOf (List.replicate n.toNat x).flatten := by
          have := foldl_arr x n.toNat []
          simp only [List.nil_append] at this
          show Str.mk _ = Str.mk _
          rw [this]
        have hz : (List.replicate n.toNat x).flatten.length ≤ sizeLine := by rw [flat_len, sl_eq]; omega
        exact ⟨by rw [e, stOf_length]; exact hz, Is.str h5 e hz⟩

theorem bin_ok {op a da b db va vb} (ha : RepD T.prog T.w (Gb s.heap bad) (Gb s.heap bc) da va a) (hb : RepD T.prog T.w (Gb s.heap bad) (Gb s.heap bc) db vb b) (h : binW op a da b db Q) :
    wpAny (model T.prog T.w) A (binaryOp op va vb) (Is T bad bc s Q) E s := by
  have two : ∀ {x y : Int}, a = .int x → b = .int y → ∃ t u, va = .int x t ∧ vb = .int y u := by
    rintro x y rfl rfl
    obtain ⟨t, rfl⟩ := ha.int_inv; obtain ⟨u, rfl⟩ := hb.int_inv
    exact ⟨t, u, rfl, rfl⟩
  cases op with
  | Add => cases a with
    | int x =>
      obtain ⟨y, hy, h⟩ := asInt_inv (v := b) (f := fun y => Q (.int (x + y)) 0) h
      obtain ⟨t, u, rfl, rfl⟩ := two rfl hy
      exact P.add_int (Is.int h)
    | str x =>
      obtain ⟨y, rfl, h⟩ := asStr_inv (v := b) (f := fun y => x.length + y.length ≤ 1000000 ∧ Q (.str (x ++ y)) 0) h
      obtain ⟨t, rfl, h1⟩ := ha.str_inv; obtain ⟨u, rfl, h2⟩ := hb.str_inv
      exact P.add_str (bin_add_str h1 h2 h.1 h.2)
    | _ => exact h.elim
  | Sub =>
    obtain ⟨x, y, hx, hy, h⟩ := asInt2 (a := a) (b := b) (f := fun x y => Q (.int (x - y)) 0) h
    obtain ⟨t, u, rfl, rfl⟩ := two hx hy
    exact P.sub_int (Is.int h)
  | Mult => cases a with
    | int x =>
      obtain ⟨y, hy, h⟩ := asInt_inv (v := b) (f := fun y => x.natAbs < 2 ^ 60 ∧ Q (.int (x * y)) 0) h
      obtain ⟨t, u, rfl, rfl⟩ := two rfl hy
      exact P.mul_int (Is.int h.2) (IntMulOk.of_left (bits60 h.1))
    | str x =>
      obtain ⟨n, rfl, h⟩ := asInt_inv (v := b) (f := fun n => n ≤ 10000 ∧ 0 ≤ n ∧ x.length ≤ 100 ∧ Q (.str (List.replicate n.toNat x).flatten) 0) h
      obtain ⟨t, rfl, h1⟩ := ha.str_inv; obtain ⟨u, rfl⟩ := hb.int_inv
      exact mul_str_ok h1 h.1 h.2.1 h.2.2.1 h.2.2.2
    | _ => exact h.elim
  | FloorDiv =>
    obtain ⟨x, y, hx, hy, h⟩ := asInt2 (a := a) (b := b) (f := fun x y => 0 < y ∧ y < 1000000000 ∧ Q (.int (x / y)) 0) h
    obtain ⟨t, u, rfl, rfl⟩ := two hx hy
    obtain ⟨h1, h2, h3⟩ := h
    exact floordiv_int (by omega) (by rw [fdiv_pos _ h1]; exact Is.int h3) (Or.inl (PyProof.noPylong_small (by omega)))
  | Mod =>
    obtain ⟨x, y, hx, hy, h⟩ := asInt2 (a := a) (b := b) (f := fun x y => 0 < y ∧ Q (.int (x % y)) 0) h
    obtain ⟨t, u, rfl, rfl⟩ := two hx hy
    exact mod_int' (by omega) (by rw [fmod_pos _ h.1]; exact Is.int h.2)
  | Pow =>
    obtain ⟨x, y, hx, hy, h⟩ := asInt2 (a := a) (b := b) (f := fun x y => 0 ≤ y ∧ y ≤ 1000 ∧ x.natAbs < 2 ^ 60 ∧ Q (.int (x ^ y.toNat)) 0) h
    obtain ⟨t, u, rfl, rfl⟩ := two hx hy
    obtain ⟨h1, h2, h3, h4⟩ := h
    exact pow_int_small h1 (by omega) (by omega) (Is.int h4)
  | _ => exact h.elim

theorem iadd_ok {a da b db va vb} (ha : RepD T.prog T.w (Gb s.heap bad) (Gb s.heap bc) da va a) (hb : RepD T.prog T.w (Gb s.heap bad) (Gb s.heap bc) db vb b)
    (hf : a.flat = true) (h : binW .Add a da b db Q) : wpAny (model T.prog T.w) A (inplaceOp .Add va vb) (Is T bad bc s Q) E s := by
  cases a with
  | int x =>
    obtain ⟨y, rfl, h⟩ := asInt_inv (v := b) (f := fun y => Q (.int (x + y)) 0) h
    obtain ⟨t, rfl⟩ := ha.int_inv; obtain ⟨u, rfl⟩ := hb.int_inv
    exact P.iadd_int (Is.int h)
  | str x =>
    obtain ⟨y, rfl, h⟩ := asStr_inv (v := b) (f := fun y => x.length + y.length ≤ 1000000 ∧ Q (.str (x ++ y)) 0) h
    obtain ⟨t, rfl, h1⟩ := ha.str_inv; obtain ⟨u, rfl, h2⟩ := hb.str_inv
    exact P.iadd_str (bin_add_str h1 h2 h.1 h.2)
  | _ => exact h.elim
theorem isub_ok {a da b db va vb} (ha : RepD T.prog T.w (Gb s.heap bad) (Gb s.heap bc) da va a) (hb : RepD T.prog T.w (Gb s.heap bad) (Gb s.heap bc) db vb b)
    (h : binW .Sub a da b db Q) : wpAny (model T.prog T.w) A (inplaceOp .Sub va vb) (Is T bad bc s Q) E s := by
  obtain ⟨x, y, rfl, rfl, h⟩ := asInt2 (a := a) (b := b) (f := fun x y => Q (.int (x - y)) 0) h
  obtain ⟨t, rfl⟩ := ha.int_inv; obtain ⟨u, rfl⟩ := hb.int_inv
  exact P.isub_int (Is.int h)
theorem ifloordiv_ok {a da b db va vb} (ha : RepD T.prog T.w (Gb s.heap bad) (Gb s.heap bc) da va a) (hb : RepD T.prog T.w (Gb s.heap bad) (Gb s.heap bc) db vb b)
    (h : binW .FloorDiv a da b db Q) : wpAny (model T.prog T.w) A (inplaceOp .FloorDiv va vb) (Is T bad bc s Q) E s := by
  obtain ⟨x, y, rfl, rfl, h⟩ := asInt2 (a := a) (b := b) (f := fun x y => 0 < y ∧ y < 1000000000 ∧ Q (.int (x / y)) 0) h
  obtain ⟨t, rfl⟩ := ha.int_inv; obtain ⟨u, rfl⟩ := hb.int_inv
  obtain ⟨h1, h2, h3⟩ := h
  exact ifloordiv_int (by omega) (by rw [fdiv_pos _ h1]; exact Is.int h3) (Or.inl (PyProof.noPylong_small (by omega)))
end

/-! comparisons -/
noncomputable def intOf : V → Option Int
  | .int i => some i
  | _ => none
noncomputable def strOf : V → Option (List Nat)
  | .str i => some i
  | _ => none
noncomputable def boolOf : V → Option Bool
  | .bool i => some i
  | _ => none
noncomputable def eqV (a b : V) : Option Bool := match a with
  | .int x => (intOf b).map fun y => decide (x = y)
  | .str x => (strOf b).map fun y => decide (x = y)
  | .bool x => (boolOf b).map fun y => decide (x = y)
  | _ => none
noncomputable def isVB (x : Bool) : V → Option Bool
  | .bool y => some (x == y)
  | .none => some false
  | .int _ => some false
  | _ => none
noncomputable def isVN : V → Option Bool
  | .bool _ => some false
  | .none => some true
  | _ => none
noncomputable def isVI : V → Option Bool
  | .bool _ => some false
  | _ => none
noncomputable def isV (a b : V) : Option Bool := match a with
  | .bool x => isVB x b
  | .none => isVN b
  | .int _ => isVI b
  | _ => none
noncomputable def inS (x : List Nat) : V → Option Bool
  | .dS ks _ => some (decide (x ∈ ks))
  | _ => none
noncomputable def inV (a b : V) : Option Bool := match a with
  | .str x => inS x b
  | _ => none
noncomputable def oW (o : Option Bool) (Q : V → Nat → Prop) : Prop := match o with
  | some b => Q (.bool b) 0
  | none => False
noncomputable def oWn (o : Option Bool) (Q : V → Nat → Prop) : Prop := match o with
  | some b => Q (.bool (!b)) 0
  | none => False
theorem oW_inv {o : Option Bool} {Q : V → Nat → Prop} (h : oW o Q) : ∃ b, o = some b ∧ Q (.bool b) 0 := by
  cases o with
  | none => exact h.elim
  | some b => exact ⟨b, rfl, h⟩
theorem oWn_inv {o : Option Bool} {Q : V → Nat → Prop} (h : oWn o Q) : ∃ b, o = some b ∧ Q (.bool (!b)) 0 := by
  cases o with
  | none => exact h.elim
  | some b => exact ⟨b, rfl, h⟩

noncomputable def cmpW (op : CmpOp) (a b : V) (Q : V → Nat → Prop) : Prop := match op with
  | .Lt => asInt a fun x => asInt b fun y => Q (.bool (decide (x < y))) 0
  | .LtE => asInt a fun x => asInt b fun y => Q (.bool (decide (x ≤ y))) 0
  | .Gt => asInt a fun x => asInt b fun y => Q (.bool (decide (y < x))) 0
  | .GtE => asInt a fun x => asInt b fun y => Q (.bool (decide (y ≤ x))) 0
  | .Eq => oW (eqV a b) Q
  | .NotEq => oWn (eqV a b) Q
  | .Is => oW (isV a b) Q
  | .IsNot => oWn (isV a b) Q
  | .In => oW (inV a b) Q
  | .NotIn => oWn (inV a b) Q

theorem cps_eq (a b : List Nat) : ((stOf a).cps.toList == (stOf b).cps.toList) = decide (a = b) := by
  show (a == b) = _
  by_cases h : a = b
  · subst h; simp
  · simp [h]
theorem stOf_inj {a b : List Nat} (h : stOf a = stOf b) : a = b := by simpa [stOf] using h
theorem stOf_eq {a b : List Nat} : stOf a = stOf b ↔ a = b := ⟨stOf_inj, fun h => h ▸ rfl⟩

section
variable {T : GT} {bad bc : Addr → Prop} {s : Shared} {Q : V → Nat → Prop} {A : Around} {k : Nat} {E : Value → Shared → Prop}

theorem is_rep {p w G d e va vb a b r} (ha : RepD p w G G d va a) (hb : RepD p w G G e vb b) (h : isV a b = some r) : plainIs va vb = true ∧ (va == vb) = r := by
  cases a with
  | bool x =>
    cases ha.bool_inv
    cases b with
    | bool y => cases h; cases hb.bool_inv; refine ⟨rfl, ?_⟩; cases x <;> cases y <;> rfl
    | none => cases h; cases hb.none_inv; exact ⟨rfl, rfl⟩
    | int y => cases h; obtain ⟨t, rfl⟩ := hb.int_inv; exact ⟨rfl, rfl⟩
    | _ => cases h
  | none =>
    cases ha.none_inv
    cases b with
    | bool y => cases h; cases hb.bool_inv; exact ⟨rfl, rfl⟩
    | none => cases h; cases hb.none_inv; exact ⟨rfl, rfl⟩
    | _ => cases h
  | int x =>
    obtain ⟨t, rfl⟩ := ha.int_inv
    cases b with
    | bool y => cases h; cases hb.bool_inv; exact ⟨rfl, rfl⟩
    | _ => cases h
  | _ => cases h
theorem map_inv {α β : Type} {o : Option α} {f : α → β} {b : β} (h : o.map f = some b) : ∃ a, o = some a ∧ b = f a := by
  cases o with
  | none => cases h
  | some a => cases h; exact ⟨a, rfl, rfl⟩
theorem intOf_eq {v : V} {i : Int} (h : intOf v = some i) : v = .int i := by cases v <;> cases h <;> rfl
theorem strOf_eq {v : V} {i : List Nat} (h : strOf v = some i) : v = .str i := by cases v <;> cases h <;> rfl
theorem boolOf_eq {v : V} {i : Bool} (h : boolOf v = some i) : v = .bool i := by cases v <;> cases h <;> rfl
inductive EqC : V → V → Bool → Prop
  | int (x y : Int) : EqC (.int x) (.int y) (decide (x = y))
  | str (x y : List Nat) : EqC (.str x) (.str y) (decide (x = y))
  | bool (x y : Bool) : EqC (.bool x) (.bool y) (decide (x = y))
theorem eqV_inv {a b : V} {r : Bool} (h : eqV a b = some r) : EqC a b r := by
  cases a with
  | int x => obtain ⟨y, h1, rfl⟩ := map_inv h; cases intOf_eq h1; exact .int _ _
  | str x => obtain ⟨y, h1, rfl⟩ := map_inv h; cases strOf_eq h1; exact .str _ _
  | bool x => obtain ⟨y, h1, rfl⟩ := map_inv h; cases boolOf_eq h1; exact .bool _ _
  | _ => cases h
theorem inV_inv {a b : V} {r : Bool} (h : inV a b = some r) : ∃ x ks vs, a = .str x ∧ b = .dS ks vs ∧ r = decide (x ∈ ks) := by
  cases a with
  | str x => cases b with
    | dS ks vs => cases h; exact ⟨_, _, _, rfl, rfl, rfl⟩
    | _ => cases h
  | _ => cases h

theorem isS (p w) (x : Str) (t : Tok) : (PySem.strKind p w).is x (.str x t) = true := by simp [PySem.strKind, Value.isStrOf]
theorem isI (p w) (x : Int) (t : Tok) : (PySem.intKind p w).is x (.int x t) = true := by simp [PySem.intKind, Value.isInt]
theorem mapOf_dS {p w} {h : Heap} {a o} {ks : List (List Nat)} {vals : List Value} (g : h.get? a = some o) (d : DObj (PySem.strKind p w) o ((ks.map stOf).zip vals)) :
    h.DictOf (PySem.strKind p w) a ((ks.map stOf).zip vals) := let ⟨x, es, ep, r⟩ := d; ⟨o, es, ep, g, x, r⟩
theorem valueAt_isSome (x : List Nat) : ∀ {ks : List (List Nat)} {vals : List Value}, ks.length = vals.length →
    (valueAt ((ks.map stOf).zip vals) (stOf x)).isSome = decide (x ∈ ks)
  | [], _, _ => by simp [valueAt]
  | k :: ks, [], h => by simp at h
  | k :: ks, v :: vals, h => by
    have ih := valueAt_isSome x (ks := ks) (vals := vals) (by simpa using h)
    by_cases e : k = x
    · subst e; simp [valueAt]
    · have e' : ¬ stOf k = stOf x := fun q => e (stOf_inj q)
      have e2 : ¬ x = k := fun q => e q.symm
      unfold valueAt at ih ⊢
      simp only [List.map_cons, List.zip_cons_cons, List.find?_cons, e', decide_false, List.mem_cons, e2, false_or]
      simpa using ih

theorem cmp_ok {op a da b db va vb} (ha : RepD T.prog T.w (Gb s.heap bad) (Gb s.heap bc) da va a) (hb : RepD T.prog T.w (Gb s.heap bad) (Gb s.heap bc) db vb b) (h : cmpW op a b Q) :
    wpAny (model T.prog T.w) A (compareOp op va vb) (Is T bad bc s Q) E s := by
  have ha' : RepD T.prog T.w (Gb s.heap fun _ => False) (Gb s.heap fun _ => False) da va a := ha.mono (Gb.weak fun _ x => x.elim) (Gb.weak fun _ x => x.elim)
  have hb' : RepD T.prog T.w (Gb s.heap fun _ => False) (Gb s.heap fun _ => False) db vb b := hb.mono (Gb.weak fun _ x => x.elim) (Gb.weak fun _ x => x.elim)
  have two : ∀ {x y : Int}, a = .int x → b = .int y → ∃ t u, va = .int x t ∧ vb = .int y u := by
    rintro x y rfl rfl
    obtain ⟨t, rfl⟩ := ha.int_inv; obtain ⟨u, rfl⟩ := hb.int_inv
    exact ⟨t, u, rfl, rfl⟩
  cases op with
  | Lt =>
    obtain ⟨x, y, hx, hy, h⟩ := asInt2 (a := a) (b := b) (f := fun x y => Q (.bool (decide (x < y))) 0) h
    obtain ⟨t, u, rfl, rfl⟩ := two hx hy
    exact P.lt_int (Is.bool h)
  | LtE =>
    obtain ⟨x, y, hx, hy, h⟩ := asInt2 (a := a) (b := b) (f := fun x y => Q (.bool (decide (x ≤ y))) 0) h
    obtain ⟨t, u, rfl, rfl⟩ := two hx hy
    exact P.le_int (Is.bool h)
  | Gt =>
    obtain ⟨x, y, hx, hy, h⟩ := asInt2 (a := a) (b := b) (f := fun x y => Q (.bool (decide (y < x))) 0) h
    obtain ⟨t, u, rfl, rfl⟩ := two hx hy
    exact P.gt_int (Is.bool h)
  | GtE =>
    obtain ⟨x, y, hx, hy, h⟩ := asInt2 (a := a) (b := b) (f := fun x y => Q (.bool (decide (y ≤ x))) 0) h
    obtain ⟨t, u, rfl, rfl⟩ := two hx hy
    exact P.ge_int (Is.bool h)
  | Eq =>
    obtain ⟨r, e, h⟩ := oW_inv (o := eqV a b) h
    cases eqV_inv e with
    | int x y =>
      obtain ⟨t, u, rfl, rfl⟩ := two rfl rfl
      exact P.eq_int (Is.bool h)
    | str x y =>
      obtain ⟨t, rfl, _⟩ := ha.str_inv; obtain ⟨u, rfl, _⟩ := hb.str_inv
      exact P.eq_str (Is.bool (by rw [cps_eq]; exact h))
    | bool x y =>
      cases ha.bool_inv; cases hb.bool_inv
      exact eq_bool (Is.bool h)
  | NotEq =>
    obtain ⟨r, e, h⟩ := oWn_inv (o := eqV a b) h
    cases eqV_inv e with
    | int x y =>
      obtain ⟨t, u, rfl, rfl⟩ := two rfl rfl
      exact P.ne_int (Is.bool h)
    | str x y =>
      obtain ⟨t, rfl, _⟩ := ha.str_inv; obtain ⟨u, rfl, _⟩ := hb.str_inv
      exact P.ne_str (Is.bool (by rw [bne, cps_eq]; exact h))
    | bool x y =>
      cases ha.bool_inv; cases hb.bool_inv
      exact ne_bool (Is.bool h)
  | Is =>
    obtain ⟨r, e, h⟩ := oW_inv (o := isV a b) h
    obtain ⟨h1, h2⟩ := is_rep ha' hb' e
    exact wpAny_is_plain h1 (by rw [h2]; exact Is.bool h)
  | IsNot =>
    obtain ⟨r, e, h⟩ := oWn_inv (o := isV a b) h
    obtain ⟨h1, h2⟩ := is_rep ha' hb' e
    exact wpAny_isNot_plain h1 (by rw [h2]; exact Is.bool h)
  | In =>
    obtain ⟨r, e, h⟩ := oW_inv (o := inV a b) h
    obtain ⟨x, ks, vs, rfl, rfl, rfl⟩ := inV_inv e
    obtain ⟨t, rfl, _⟩ := ha.str_inv
    have hb'' := hb'.rep (G := Gb s.heap fun _ => False) (fun _ _ g => g) (fun _ _ g => g)
    cases hb'' with
    | dS g hl d r => exact wpAny_in_of (knd := PySem.strKind T.prog T.w) (k := stOf x) (isS _ _ _ _) hl.2.2 (mapOf_dS g.1 d).mapOf (by rw [valueAt_isSome _ hl.1]; exact .mk (Ext.tok _ _) h (.bool _))
  | NotIn =>
    obtain ⟨r, e, h⟩ := oWn_inv (o := inV a b) h
    obtain ⟨x, ks, vs, rfl, rfl, rfl⟩ := inV_inv e
    obtain ⟨t, rfl, _⟩ := ha.str_inv
    have hb'' := hb'.rep (G := Gb s.heap fun _ => False) (fun _ _ g => g) (fun _ _ g => g)
    cases hb'' with
    | dS g hl d r => exact wpAny_notIn_of (knd := PySem.strKind T.prog T.w) (k := stOf x) (isS _ _ _ _) hl.2.2 (mapOf_dS g.1 d).mapOf (by rw [valueAt_isSome _ hl.1]; exact .mk (Ext.tok _ _) h (.bool _))
end

end Mine
end

section
open PySem PySem.Calls PyProof.Rows
set_option linter.unusedVariables false
namespace Mine

/-! reading a list or tuple -/
theorem isList_of {h : Heap} {a o vs n} (e : h.get? a = some o) (c : o.cls = .type "list") (d : o.data = .seq (List.toArray vs) n) : h.IsList a vs.toArray := ⟨o, e, c, n, d⟩
theorem isTuple_of {h : Heap} {a o vs n} (e : h.get? a = some o) (c : o.cls = .type "tuple") (d : o.data = .seq (List.toArray vs) n) : h.IsTuple a vs.toArray := ⟨o, e, c, n, d⟩

section
variable {p : Program} {w : World} {G0 G1 : Addr → Obj → Prop}
theorem RepD.list_inv {d v xs} (h : RepD p w G0 G1 d v (.list xs)) : ∃ a o vs n, v = .ref a ∧ (G0 a o ∨ G1 a o) ∧ o.cls = .type "list" ∧ o.data = .seq (List.toArray vs) n ∧ vs.length ≤ sizeLine ∧ All2 (RepD p w G0 G1 (d - 1)) vs xs := by
  cases d with
  | zero =>
    have h : Rep p w G0 v (.list xs) := h
    cases h with
    | list g c dt z r => exact ⟨_, _, _, _, rfl, .inl g, c, dt, z, r.all2⟩
  | succ d =>
    obtain ⟨a, o, vs, n, ys, e1, e2, g, c, dt, z, r⟩ := h
    cases e2
    exact ⟨a, o, vs, n, e1, .inr g, c, dt, z, r⟩
end

noncomputable def pix (i : Int) (n : Nat) : Nat := (if i < 0 then i + n else i).toNat
theorem pix_pos {i : Int} {n : Nat} (h : 0 ≤ i) : pix i n = i.toNat := by unfold pix; rw [if_neg (by omega)]
theorem pix_lt {i : Int} {n : Nat} (h : -(n : Int) ≤ i) (h' : i < n) : pix i n < n := by unfold pix; split <;> omega

noncomputable def lkS : List (List Nat) → List V → List Nat → Option V
  | k :: ks, v :: vs, x => if k = x then some v else lkS ks vs x
  | _, _, _ => none
noncomputable def lkI : List Int → List V → Int → Option V
  | k :: ks, v :: vs, x => if k = x then some v else lkI ks vs x
  | _, _, _ => none

noncomputable def idxW (a : V) (da : Nat) (i : V) (Q : V → Nat → Prop) : Prop :=
  match a, i with
  | .str s, .int i => -(s.length : Int) ≤ i ∧ i < s.length ∧ Q (.str [s.getD (pix i s.length) 0]) 0
  | .list xs, .int i => -(xs.length : Int) ≤ i ∧ i < xs.length ∧ Q (xs.getD (pix i xs.length) .none) (da - 1)
  | .dS ks vs, .str x => match lkS ks vs x with | some v => Q v 0 | none => False
  | .dI ks vs, .int x => match lkI ks vs x with | some v => Q v 0 | none => False
  | _, _ => False

section
variable {T : GT} {bad bc : Addr → Prop} {s : Shared} {Q : V → Nat → Prop} {A : Around} {k : Nat} {E : Value → Shared → Prop}

theorem mapOf_dI {p w} {h : Heap} {a o} {ks : List Int} {vals : List Value} (g : h.get? a = some o) (d : DObj (PySem.intKind p w) o (ks.zip vals)) :
    h.DictOf (PySem.intKind p w) a (ks.zip vals) := let ⟨x, es, ep, r⟩ := d; ⟨o, es, ep, g, x, r⟩
theorem valueAt_lkS {G} {p w} (x : List Nat) : ∀ {ks : List (List Nat)} {vals : List Value} {vs : List V}, ks.length = vals.length → Reps p w G vals vs →
    match lkS ks vs x with
    | some t => ∃ v, valueAt ((ks.map stOf).zip vals) (stOf x) = some v ∧ Rep p w G v t
    | none => valueAt ((ks.map stOf).zip vals) (stOf x) = none
  | [], [], _, _, .nil => by simp [valueAt, lkS]
  | [], _ :: _, _, h, _ => by simp at h
  | _ :: _, [], _, h, _ => by simp at h
  | k :: ks, v :: vals, _, h, .cons (t := t) (ts := ts) r rs => by
    have ih := valueAt_lkS x (ks := ks) (vals := vals) (by simpa using h) rs
    unfold lkS
    by_cases e : k = x
    · subst e; simp only [if_true]; exact ⟨v, by simp [valueAt], r⟩
    · have e' : ¬ stOf k = stOf x := fun q => e (stOf_inj q)
      simp only [if_neg e]
      have e2 : valueAt (((k :: ks).map stOf).zip (v :: vals)) (stOf x) = valueAt ((ks.map stOf).zip vals) (stOf x) := by
        unfold valueAt; simp only [List.map_cons, List.zip_cons_cons, List.find?_cons, e', decide_false]
      rw [e2]; exact ih
theorem valueAt_lkI {G} {p w} (x : Int) : ∀ {ks : List Int} {vals : List Value} {vs : List V}, ks.length = vals.length → Reps p w G vals vs →
    match lkI ks vs x with
    | some t => ∃ v, valueAt (ks.zip vals) x = some v ∧ Rep p w G v t
    | none => valueAt (ks.zip vals) x = none
  | [], [], _, _, .nil => by simp [valueAt, lkI]
  | [], _ :: _, _, h, _ => by simp at h
  | _ :: _, [], _, h, _ => by simp at h
  | k :: ks, v :: vals, _, h, .cons (t := t) (ts := ts) r rs => by
    have ih := valueAt_lkI x (ks := ks) (vals := vals) (by simpa using h) rs
    unfold lkI
    by_cases e : k = x
    · subst e; simp only [if_true]; exact ⟨v, by simp [valueAt], r⟩
    · simp only [if_neg e]
      have e2 : valueAt ((k :: ks).zip (v :: vals)) x = valueAt (ks.zip vals) x := by
        unfold valueAt; simp only [List.zip_cons_cons, List.find?_cons, e, decide_false]
      rw [e2]; exact ih

theorem getD_some {α : Type} {xs : List α} {j : Nat} (d : α) (h : j < xs.length) : xs[j]? = some (xs.getD j d) := by
  rw [List.getD_eq_getElem?_getD, List.getElem?_eq_getElem h]; rfl

/-- the place that an index means, in a list -/
theorem list_at {a : Addr} {vs : List Value} {i : Int} {t : Tok} {x : Value} {Q : Value → Shared → Prop} (hl : s.heap.IsList a vs.toArray) (hs : vs.length ≤ sizeLine)
    (h0 : -(vs.length : Int) ≤ i) (h1 : i < vs.length) (hx : vs[pix i vs.length]? = some x) (h : Q x s) : wpAny (model T.prog T.w) A (getItem (.ref a) (.int i t)) Q E s := by
  rw [sl_eq] at hs
  by_cases hi : i < 0
  · refine wpAny_getItem_list_neg hl hi (by simpa using h0) (by omega) (x := x) ?_ h
    have : pix i vs.length = (i + vs.length).toNat := by unfold pix; rw [if_pos hi]
    rw [this] at hx; simpa using hx
  · refine wpAny_getItem_list hl (by omega) (by omega) (x := x) ?_ h
    rw [pix_pos (by omega)] at hx; simpa using hx


theorem seqIndex_pix {i : Int} {n : Nat} (h0 : -(n : Int) ≤ i) (h1 : i < n) : seqIndex? i n = some (pix i n) := by
  unfold seqIndex? pix
  split
  · rw [if_pos (by simp; omega)]
  · rw [if_pos (by simp; omega)]

theorem str_at {l : List Nat} {i : Int} {t u : Tok} {Q : Value → Shared → Prop} (hs : l.length ≤ sizeLine)
    (h0 : -(l.length : Int) ≤ i) (h1 : i < l.length) (h : Q (.str (stOf [l.getD (pix i l.length) 0]) s.toks) { s with toks := s.toks + 1 }) :
    wpAny (model T.prog T.w) A (getItem (.str (stOf l) t) (.int i u)) Q E s := by
  rw [sl_eq] at hs
  refine P.getItem_str (c := l.getD (pix i l.length) 0) (by simp; omega) ?_ h
  rw [stOf_length, seqIndex_pix h0 h1]
  show (stOf l).cps[pix i l.length]? = _
  simpa [stOf] using getD_some 0 (pix_lt h0 h1)

theorem idx_ok {a da i di va vi} (ha : RepD T.prog T.w (Gb s.heap bad) (Gb s.heap bc) da va a) (hi : RepD T.prog T.w (Gb s.heap bad) (Gb s.heap bc) di vi i) (h : idxW a da i Q) :
    wpAny (model T.prog T.w) A (getItem va vi) (Is T bad bc s Q) E s := by
  unfold idxW at h
  split at h
  · obtain ⟨t, rfl, hl⟩ := ha.str_inv; obtain ⟨u, rfl⟩ := hi.int_inv
    obtain ⟨h0, h1, h2⟩ := h
    exact str_at hl h0 h1 (Is.str h2 rfl (by rw [sl_eq]; simp))
  · obtain ⟨a, o, vs, n, rfl, g, c, dt, z, r⟩ := ha.list_inv; obtain ⟨u, rfl⟩ := hi.int_inv
    rename_i xs i
    obtain ⟨h0, h1, h2⟩ := h
    have hlen := r.length
    obtain ⟨v, hv, hr⟩ := r.get (getD_some .none (pix_lt h0 h1))
    have ho : s.heap.get? a = some o := g.elim (·.1) (·.1)
    exact list_at (isList_of ho c dt) z (by omega) (by omega) (by rw [hlen]; exact hv) (.mk (Ext.refl _) h2 hr)
  · split at h
    · rename_i ks vs x _ w e
      obtain ⟨t, rfl, hl⟩ := hi.str_inv
      have ha' : Rep T.prog T.w (Gb s.heap bad) va (.dS ks vs) := by
        cases da with
        | zero => exact ha
        | succ d => obtain ⟨a, o, vs, n, ys, e1, e2, _⟩ := ha; cases e2
      cases ha' with
      | dS g hz d r =>
        have := valueAt_lkS x hz.1 r
        rw [e] at this
        obtain ⟨v, hv, hr⟩ := this
        exact wpAny_getItem_of (knd := PySem.strKind T.prog T.w) (k := stOf x) (isS _ _ _ _) (mapOf_dS g.1 d).mapOf hv (.mk (Ext.tok _ _) h hr)
    · exact h.elim
  · split at h
    · rename_i ks vs x _ w e
      obtain ⟨t, rfl⟩ := hi.int_inv
      have ha' : Rep T.prog T.w (Gb s.heap bad) va (.dI ks vs) := by
        cases da with
        | zero => exact ha
        | succ d => obtain ⟨a, o, vs, n, ys, e1, e2, _⟩ := ha; cases e2
      cases ha' with
      | dI g hz d r =>
        have := valueAt_lkI x hz.1 r
        rw [e] at this
        obtain ⟨v, hv, hr⟩ := this
        exact wpAny_getItem_of (knd := PySem.intKind T.prog T.w) (k := x) (isI _ _ _ _) (mapOf_dI g.1 d).mapOf hv (.mk (Ext.tok _ _) h hr)
    · exact h.elim
  · exact h.elim

/-! truth -/
noncomputable def truthW (a : V) (Q : Bool → Prop) : Prop :=
  match a with
  | .bool b => Q b
  | .int i => Q (decide (i ≠ 0))
  | .str s => Q (decide (s ≠ []))
  | .none => Q false
  | .list xs => Q (decide (xs.length ≠ 0))
  | _ => False
theorem truth_ok {a da va} {Q : Bool → Prop} (ha : RepD T.prog T.w (Gb s.heap bad) (Gb s.heap bc) da va a) (h : truthW a Q) :
    wpAny (model T.prog T.w) A (truthy va) (fun b s' => Ext s s' ∧ Q b) E s := by
  unfold truthW at h
  split at h
  · cases ha.bool_inv; exact wpAny_truthy_bool ⟨Ext.refl _, h⟩
  · obtain ⟨t, rfl⟩ := ha.int_inv
    refine P.truthy_int ⟨Ext.refl _, ?_⟩
    rename_i i
    have : (i != 0) = decide (i ≠ 0) := by simp [bne]; rfl
    rw [this]; exact h
  · obtain ⟨t, rfl, hl⟩ := ha.str_inv
    rename_i l
    refine P.truthy_str (by rw [stOf_length]; rw [sl_eq] at hl; omega) ⟨Ext.tok _ _, ?_⟩
    rw [stOf_length]
    have : (((l.length : Nat) : Int) != 0) = decide (l ≠ []) := by
      cases l with
      | nil => rfl
      | cons x l => simp; omega
    rw [this]; exact h
  · cases ha.none_inv; exact truthy_none ⟨Ext.refl _, h⟩
  · obtain ⟨a, o, vs, n, rfl, g, c, dt, z, r⟩ := ha.list_inv
    have ho : s.heap.get? a = some o := g.elim (·.1) (·.1)
    have hlen := r.length
    rw [sl_eq] at z
    refine wpAny_truthy_list (isList_of ho c dt) (by simp; omega) ?_
    rename_i xs
    refine ⟨Ext.tok _ _, ?_⟩
    cases vs with
    | nil => cases xs with
      | nil => simpa using h
      | cons => simp at hlen
    | cons => cases xs with
      | nil => simp at hlen
      | cons => simpa using h
  · exact h.elim

/-! slices by ones -/
noncomputable def cut {α : Type} (xs : List α) (lo hi : Option Int) : List α :=
  (xs.drop (lo.elim 0 (clipAt xs.length))).take (hi.elim xs.length (clipAt xs.length) - lo.elim 0 (clipAt xs.length))
theorem cut_len {α : Type} (xs : List α) (lo hi : Option Int) : (cut xs lo hi).length ≤ xs.length := by
  unfold cut; simp only [List.length_take, List.length_drop]; omega

theorem pick_runL {α : Type} (xs : List α) (a : Nat) (k : Nat) : ((List.range k).map (a + ·)).filterMap (xs[·]?) = (xs.drop a).take k := by
  simpa using pick_run xs.toArray a k

noncomputable def optI : V → Option (Option Int)
  | .none => some none
  | .int i => some (some i)
  | _ => none
noncomputable def slW (a : V) (da : Nat) (lo hi : V) (Q : V → Nat → Prop) : Prop :=
  match a, optI lo, optI hi with
  | .str s, some l, some u => Q (.str (cut s l u)) 0
  | .list xs, some l, some u => da ≤ 1 ∧ Q (.list (cut xs l u)) 0
  | _, _, _ => False

theorem optI_rep {d v t r} (h : RepD T.prog T.w (Gb s.heap bad) (Gb s.heap bc) d v t) (e : optI t = some r) : ∃ q : Option (Int × Tok), v = partValue q ∧ q.map (·.1) = r := by
  unfold optI at e
  split at e <;> cases e
  · cases h.none_inv; exact ⟨none, rfl, rfl⟩
  · obtain ⟨t, rfl⟩ := h.int_inv; exact ⟨some (_, t), rfl, rfl⟩

theorem picked_eq (l : List Nat) (lo hi : Option (Int × Tok)) : (slicePicked (stOf l) lo hi none).filterMap ((stOf l).cps[·]?) = cut l (lo.map (·.1)) (hi.map (·.1)) := by
  have e : slicePicked (stOf l) lo hi none = sliceRange (sliceBounds (lo.map (·.1)) (hi.map (·.1)) none l.length).1 (sliceBounds (lo.map (·.1)) (hi.map (·.1)) none l.length).2.1 1 := by
    unfold slicePicked Builtin.Str.strSliceIndices sliceBounds
    rw [stOf_length]; rfl
  rw [e, sliceBounds_plain, sliceRange_one]
  unfold cut
  have := pick_runL l ((lo.map (·.1)).elim 0 (clipAt l.length)) ((hi.map (·.1)).elim l.length (clipAt l.length) - (lo.map (·.1)).elim 0 (clipAt l.length))
  simpa [stOf] using this
theorem picked_len (l : List Nat) (lo hi : Option (Int × Tok)) : (slicePicked (stOf l) lo hi none).length = (cut l (lo.map (·.1)) (hi.map (·.1))).length := by
  have e : slicePicked (stOf l) lo hi none = sliceRange (sliceBounds (lo.map (·.1)) (hi.map (·.1)) none l.length).1 (sliceBounds (lo.map (·.1)) (hi.map (·.1)) none l.length).2.1 1 := by
    unfold slicePicked Builtin.Str.strSliceIndices sliceBounds
    rw [stOf_length]; rfl
  have hb : ∀ i, clipAt l.length i ≤ l.length := fun i => by
    have := clipAt_cast l.length i
    omega
  rw [e, sliceBounds_plain, sliceRange_one]
  unfold cut
  simp only [List.length_map, List.length_range, List.length_take, List.length_drop]
  have h2 : (hi.map (·.1)).elim l.length (clipAt l.length) ≤ l.length := by
    cases hi.map (·.1) with
    | none => exact Nat.le_refl _
    | some i => exact hb i
  omega
theorem cut_whole (l : List Nat) (lo hi : Option Int) (h : (cut l lo hi).length = l.length) : cut l lo hi = l := by
  unfold cut at h ⊢
  simp only [List.length_take, List.length_drop] at h
  by_cases h0 : l = []
  · subst h0; simp
  have hp : 0 < l.length := List.length_pos_iff.mpr h0
  have h1 : lo.elim 0 (clipAt l.length) = 0 := by omega
  rw [h1]; rw [h1] at h
  simp only [List.drop_zero]
  rw [List.take_of_length_le (by omega)]

theorem sl_ok {a da lo dl hi dh va vl vh sa} (ha : RepD T.prog T.w (Gb s.heap bad) (Gb s.heap bc) da va a) (hl : RepD T.prog T.w (Gb s.heap bad) (Gb s.heap bc) dl vl lo)
    (hh : RepD T.prog T.w (Gb s.heap bad) (Gb s.heap bc) dh vh hi) (hsl : s.heap.get? sa = some { cls := .type "slice", data := .fields #[vl, vh, .none] })
    (hbad : ∀ a, bad a → Alive s.heap a) (h : slW a da lo hi Q) : wpAny (model T.prog T.w) A (getItem va (.ref sa)) (Is T bad bc s Q) E s := by
  unfold slW at h
  split at h
  · rename_i l r1 r2 e1 e2
    obtain ⟨t, rfl, hz⟩ := ha.str_inv
    obtain ⟨q1, rfl, rfl⟩ := optI_rep hl e1
    obtain ⟨q2, rfl, rfl⟩ := optI_rep hh e2
    refine wpAny_getItem_str_slice (l := q1) (u := q2) (st := none) ⟨_, hsl, rfl, rfl⟩ rfl ?_
    have hc := cut_len l (q1.map (·.1)) (q2.map (·.1))
    unfold sliceMade
    rw [picked_eq, picked_len, stOf_length]
    split
    · rename_i e
      have : (cut l (q1.map (·.1)) (q2.map (·.1))).length = l.length := by simpa using e
      rw [cut_whole _ _ _ this] at h
      exact .mk (Ext.refl _) h (.str _ _ hz)
    · refine ⟨by show (stOf _).length ≤ _; rw [stOf_length]; omega, Is.str h rfl (by omega)⟩
  · rename_i xs r1 r2 e1 e2
    obtain ⟨a, o, vs, n, rfl, g, c, dt, z, r⟩ := ha.list_inv
    have ho : s.heap.get? a = some o := g.elim (·.1) (·.1)
    obtain ⟨q1, rfl, rfl⟩ := optI_rep hl e1
    obtain ⟨q2, rfl, rfl⟩ := optI_rep hh e2
    obtain ⟨hd, h⟩ := h
    have hlen := r.length
    have part : ∀ q : Option (Int × Tok), IsPart (partValue q) (q.map (·.1)) := fun q => by cases q with | none => exact .none | some q => exact .int _ _
    refine wpAny_getItem_list_slice (isList_of ho c dt) (st := none) ⟨_, hsl, rfl, rfl⟩ (part q1) (part q2) IsPart.none (by simp) ?_ (by simpa using z)
    rw [slicePick_plain]
    have r' : Reps T.prog T.w (Gb s.heap bad) vs xs := Reps.of_all2 (by have : da - 1 = 0 := by omega
                                                                        rw [this] at r; exact r)
    have rc : Reps T.prog T.w (Gb s.heap bad) (cut vs (q1.map (·.1)) (q2.map (·.1))) (cut xs (q1.map (·.1)) (q2.map (·.1))) := by
      unfold cut; rw [hlen]; exact (r'.drop _).take _
    refine .mk (Ext.push _ _ _) h (.list (n := 0) (vs := cut vs (q1.map (·.1)) (q2.map (·.1))) ⟨Heap.get?_push_size _ rfl, fun hb => ?_⟩ rfl (by simp [cut]) ?_ (rc.mono (Gb.keeps (Keeps.push _ _))))
    · exact not_alive_size _ (hbad _ hb)
    · exact Nat.le_trans (cut_len _ _ _) z
  · exact h.elim
end
end Mine
end

section
open PySem PySem.Calls PyProof.Rows
set_option linter.unusedVariables false
set_option genSizeOf false
set_option genSizeOfSpec false
set_option genInjectivity false
namespace Mine

inductive Bi where
  | len | range | list | min | chr | abs | isinstance
  deriving DecidableEq

noncomputable def Bi.val : Bi → Value
  | .len => .builtin "len" | .range => .type "range" | .list => .type "list" | .min => .builtin "min" | .chr => .builtin "chr" | .abs => .builtin "abs" | .isinstance => .builtin "isinstance"
noncomputable def Bi.name : Bi → Str
  | .len => "len" | .range => "range" | .list => "list" | .min => "min" | .chr => "chr" | .abs => "abs" | .isinstance => "isinstance"

noncomputable def rsize (a b c : Int) : Nat := (Builtin.Range.rangeSize a b c).toNat
noncomputable def rngL (a b c : Int) : List Int := (List.range (rsize a b c)).map fun (k : Nat) => a + k * c
noncomputable def rOk (a b c : Int) : Prop := a.natAbs ≤ 1000000 ∧ b.natAbs ≤ 1000000 ∧ c.natAbs ≤ 1000 ∧ c ≠ 0

noncomputable def w1 (as : List (V × Nat)) (f : V → Prop) : Prop := match as with
  | [] => False
  | p :: l => match l with
    | [] => f p.1
    | _ :: _ => False
noncomputable def lenW (v : V) (Q : V → Nat → Prop) : Prop := match v with
  | .str s => Q (.int s.length) 0
  | .list xs => Q (.int xs.length) 0
  | _ => False
noncomputable def rngW (v : V) (Q : V → Nat → Prop) : Prop := match v with
  | .rng a b c => rOk a b c ∧ Q (.list ((rngL a b c).map .int)) 0
  | _ => False
noncomputable def rangeW (as : List (V × Nat)) (Q : V → Nat → Prop) : Prop := match as with
  | [] => False
  | p :: l => asInt p.1 fun a => match l with
    | [] => Q (.rng 0 a 1) 0
    | p :: l => asInt p.1 fun b => match l with
      | [] => Q (.rng a b 1) 0
      | p :: l => asInt p.1 fun c => match l with
        | [] => c ≠ 0 ∧ c.natAbs ≤ 1000 ∧ Q (.rng a b c) 0
        | _ :: _ => False
noncomputable def minW (as : List (V × Nat)) (Q : V → Nat → Prop) : Prop := match as with
  | [] => False
  | p :: l => w1 l fun v => asInt p.1 fun a => asInt v fun b => Q (.int (min a b)) 0
noncomputable def biW (b : Bi) (as : List (V × Nat)) (Q : V → Nat → Prop) : Prop := match b with
  | .len => w1 as fun v => lenW v Q
  | .range => rangeW as Q
  | .list => w1 as fun v => rngW v Q
  | .min => minW as Q
  | .chr => w1 as fun v => asInt v fun i => 0 ≤ i ∧ i < 1114112 ∧ Q (.str [i.toNat]) 0
  | .abs => w1 as fun v => asInt v fun i => Q (.int (if i < 0 then -i else i)) 0
  | .isinstance => False
theorem w1_inv {as : List (V × Nat)} {f : V → Prop} (h : w1 as f) : ∃ v d, as = [(v, d)] ∧ f v := by
  cases as with
  | nil => exact h.elim
  | cons p l => cases l with
    | nil => exact ⟨p.1, p.2, rfl, h⟩
    | cons _ _ => exact h.elim

theorem rsize_le {a b c : Int} (h : rOk a b c) : Builtin.Range.rangeSize a b c = rsize a b c ∧ rsize a b c ≤ 2000001 := by
  obtain ⟨h1, h2, h3, h4⟩ := h
  unfold rsize Builtin.Range.rangeSize
  split
  · split
    · rename_i hc hab
      have e1 : 0 ≤ (b - a - 1) / c := Int.ediv_nonneg (by omega) (by omega)
      have e2 : (b - a - 1) / c ≤ b - a - 1 := Int.ediv_le_self _ (by omega)
      omega
    · omega
  · split
    · rename_i hc hab
      have e1 : 0 ≤ (a - b - 1) / (-c) := Int.ediv_nonneg (by omega) (by omega)
      have e2 : (a - b - 1) / (-c) ≤ a - b - 1 := Int.ediv_le_self _ (by omega)
      omega
    · omega
theorem small_ok {a b c : Int} (h : rOk a b c) : Builtin.Range.small a b c = true := by
  obtain ⟨e1, e2⟩ := rsize_le h
  obtain ⟨h1, h2, h3, h4⟩ := h
  unfold Builtin.Range.small
  rw [e1]
  simp only [Builtin.Range.rangeFitsLong, Bool.and_eq_true, decide_eq_true_eq, Bool.or_eq_true]
  refine ⟨⟨⟨⟨by omega, by omega⟩, by omega⟩, by omega⟩, .inr ?_⟩
  split <;> simp <;> omega

theorem rngL_length (a b c : Int) : (rngL a b c).length = rsize a b c := by simp [rngL]

section
variable {T : GT} {bad bc : Addr → Prop} {s : Shared} {Q : V → Nat → Prop} {A : Around} {k : Nat} {E : Value → Shared → Prop}
abbrev Arg (T : GT) (bad bc : Addr → Prop) (s : Shared) (v : Value) (td : V × Nat) : Prop := RepD T.prog T.w (Gb s.heap bad) (Gb s.heap bc) td.2 v td.1

theorem All2.two {α β} {R : α → β → Prop} {vs b1 b2} (h : All2 R vs [b1, b2]) : ∃ v1 v2, vs = [v1, v2] ∧ R v1 b1 ∧ R v2 b2 := by
  cases h with | cons a h => cases h with | cons b h => cases h; exact ⟨_, _, rfl, a, b⟩
theorem All2.one {α β} {R : α → β → Prop} {vs b1} (h : All2 R vs [b1]) : ∃ v1, vs = [v1] ∧ R v1 b1 := by
  cases h with | cons a h => cases h; exact ⟨_, rfl, a⟩
theorem All2.three {α β} {R : α → β → Prop} {vs b1 b2 b3} (h : All2 R vs [b1, b2, b3]) : ∃ v1 v2 v3, vs = [v1, v2, v3] ∧ R v1 b1 ∧ R v2 b2 ∧ R v3 b3 := by
  cases h with | cons a h => cases h with | cons b h => cases h with | cons c h => cases h; exact ⟨_, _, _, rfl, a, b, c⟩

theorem RepD.rng_inv {p w G G' d v a b c} (h : RepD p w G G' d v (.rng a b c)) : ∃ ad t u x, v = .ref ad ∧ G ad { cls := .type "range", data := .fields #[.int a t, .int b u, .int c x] } := by
  cases d with
  | zero =>
    have h : Rep p w G v (.rng a b c) := h
    cases h with | rng g => exact ⟨_, _, _, _, rfl, g⟩
  | succ d => obtain ⟨a, o, vs, n, ys, e1, e2, _⟩ := h; cases e2

theorem bi_ok {b : Bi} {as vs} (hA : A.handled = none) (hbad : ∀ a, bad a → Alive s.heap a) (h : All2 (Arg T bad bc s) vs as) (q : biW b as Q) :
    wpAny (model T.prog T.w) A (call b.val vs) (Is T bad bc s Q) E s := by
  have fresh : ¬ bad s.heap.objs.size := fun hb => not_alive_size _ (hbad _ hb)
  cases b with
  | len =>
    obtain ⟨x, d, rfl, q⟩ := w1_inv (as := as) (f := fun v => lenW v Q) q
    obtain ⟨v, rfl, r⟩ := h.one
    cases x with
    | str x =>
      have q : Q (.int x.length) 0 := q
      obtain ⟨t, rfl, hl⟩ := RepD.str_inv r
      rw [sl_eq] at hl
      exact P.len_str (by rw [stOf_length]; omega) (by rw [stOf_length]; exact Is.int q)
    | list x =>
      obtain ⟨a, o, vs, n, rfl, g, c, dt, z, r⟩ := RepD.list_inv r
      rw [sl_eq] at z
      have hlen := r.length
      exact call_len_list (isList_of (g.elim (·.1) (·.1)) c dt) (by simp; omega) (by rw [List.size_toArray, hlen]; exact Is.int q)
    | _ => exact q.elim
  | range =>
    cases as with
    | nil => exact q.elim
    | cons p l =>
      obtain ⟨x, dx⟩ := p
      obtain ⟨i, hx, q⟩ := asInt_inv q
      obtain rfl : x = .int i := hx
      cases l with
      | nil =>
        obtain ⟨v, rfl, r⟩ := h.one
        obtain ⟨t, rfl⟩ := RepD.int_inv r
        exact call_range_1 (.mk (Ext.push _ _ _) q (.rng ⟨Heap.get?_push_size _ rfl, fresh⟩))
      | cons p l =>
        obtain ⟨y, dy⟩ := p
        obtain ⟨j, hy, q⟩ := asInt_inv q
        obtain rfl : y = .int j := hy
        cases l with
        | nil =>
          obtain ⟨v, v', rfl, r, r'⟩ := h.two
          obtain ⟨t, rfl⟩ := RepD.int_inv r; obtain ⟨t, rfl⟩ := RepD.int_inv r'
          exact call_range_2 (.mk (Ext.push _ _ _) q (.rng ⟨Heap.get?_push_size _ rfl, fresh⟩))
        | cons p l =>
          obtain ⟨z, dz⟩ := p
          obtain ⟨k, hz, q⟩ := asInt_inv q
          obtain rfl : z = .int k := hz
          cases l with
          | nil =>
            obtain ⟨v, v', v'', rfl, r, r', r''⟩ := h.three
            obtain ⟨t, rfl⟩ := RepD.int_inv r; obtain ⟨t, rfl⟩ := RepD.int_inv r'; obtain ⟨t, rfl⟩ := RepD.int_inv r''
            obtain ⟨q1, q2, q⟩ := q
            exact call_range_3 q1 (.mk (Ext.push _ _ _) q (.rng ⟨Heap.get?_push_size _ rfl, fresh⟩)) (.inl (PyProof.noPylong_small (by omega)))
          | cons p l => exact q.elim
  | list =>
    obtain ⟨x, d, rfl, q⟩ := w1_inv (as := as) (f := fun v => rngW v Q) q
    obtain ⟨v, rfl, r⟩ := h.one
    cases x with
    | rng a b c =>
      obtain ⟨ad, t, u, x, rfl, g⟩ := RepD.rng_inv r
      obtain ⟨q1, q⟩ := q
      obtain ⟨e1, e2⟩ := rsize_le q1
      refine call_list_range hA g.1 (small_ok q1) e1 (by omega) fun h' tk acc' c' hk hD hI => .mk (Ext.of hk) q ?_
      refine .list (vs := acc'.toList) (n := c') ⟨hD, fresh⟩ rfl (by simp) (by simp only [Array.length_toList]; rw [hI.1, sl_eq]; omega) (Reps.of_get ?_ ?_)
      · simp only [Array.length_toList, List.length_map, rngL_length]; exact hI.1
      · intro i v t hv ht
        rw [Array.getElem?_toList] at hv
        obtain ⟨tk, rfl⟩ := hI.2 i v hv
        simp only [List.getElem?_map, Option.map_eq_some_iff, rngL] at ht
        obtain ⟨x, ⟨y, hy, rfl⟩, rfl⟩ := ht
        have : y = i := by
          rw [List.getElem?_range] at hy
          · cases hy; rfl
          · have := (Array.getElem?_eq_some_iff.mp hv).1; rw [hI.1] at this; exact this
        subst this
        exact .int _ _
    | _ => exact q.elim
  | min =>
    cases as with
    | nil => exact q.elim
    | cons p l =>
      obtain ⟨x, dx⟩ := p
      obtain ⟨y, dy, rfl, q⟩ := w1_inv (as := l) (f := fun v => asInt x fun a => asInt v fun b => Q (.int (min a b)) 0) q
      obtain ⟨a, hx, q⟩ := asInt_inv q
      obtain rfl : x = .int a := hx
      obtain ⟨b, rfl, q⟩ := asInt_inv q
      obtain ⟨v, v', rfl, r, r'⟩ := h.two
      obtain ⟨t, rfl⟩ := RepD.int_inv r; obtain ⟨u, rfl⟩ := RepD.int_inv r'
      refine min_two_ints hA fun h' tk hk => ?_
      have q : Q (.int (min a b)) 0 := q
      have : min a b = if b < a then b else a := by omega
      rw [this] at q
      split <;> rename_i hh
      · rw [if_pos hh] at q; exact Is.int' hk q
      · rw [if_neg hh] at q; exact Is.int' hk q
  | chr =>
    obtain ⟨x, d, rfl, q⟩ := w1_inv (as := as) (f := fun v => asInt v fun i => 0 ≤ i ∧ i < 1114112 ∧ Q (.str [i.toNat]) 0) q
    obtain ⟨v, rfl, r⟩ := h.one
    obtain ⟨i, rfl, q⟩ := asInt_inv q
    obtain ⟨t, rfl⟩ := RepD.int_inv r
    exact P.chr_of_int (by simp; omega) (Is.str q.2.2 rfl (by rw [sl_eq]; simp))
  | abs =>
    obtain ⟨x, d, rfl, q⟩ := w1_inv (as := as) (f := fun v => asInt v fun i => Q (.int (if i < 0 then -i else i)) 0) q
    obtain ⟨v, rfl, r⟩ := h.one
    obtain ⟨i, rfl, q⟩ := asInt_inv q
    obtain ⟨t, rfl⟩ := RepD.int_inv r
    exact call_abs_int fun u tk => Is.int q
  | isinstance => exact q.elim
end
end Mine
end

section
open PySem PySem.Calls PyProof.Rows
set_option linter.unusedVariables false
set_option genSizeOf false
set_option genSizeOfSpec false
set_option genInjectivity false
namespace Mine

inductive Me where
  | lower | upper | split | count
  deriving DecidableEq
noncomputable def Me.name : Me → Str
  | .lower => "lower" | .upper => "upper" | .split => "split" | .count => "count"

noncomputable def lowL (l : List Nat) : List Nat := (Txt.lower (stOf l)).cps.toList
noncomputable def uppL (l : List Nat) : List Nat := (Txt.upper (stOf l)).cps.toList
noncomputable def splitL (l m : List Nat) : List (List Nat) := (Txt.split (stOf l) (stOf m)).map (·.cps.toList)
noncomputable def countL (l m : List Nat) : Int := Txt.count (stOf l) (stOf m)

noncomputable def meOk : Me → V → Bool
  | .lower, .str _ => true
  | .upper, .str _ => true
  | .split, .str _ => true
  | .count, .str _ => true
  | _, _ => false

noncomputable def me0W (m : Me) (o : V) (d : Nat) (Q : V → Nat → Prop) : Prop :=
  match m, o with
  | .lower, .str s => s.length ≤ 1000000 ∧ Q (.str (lowL s)) 0
  | .upper, .str s => s.length ≤ 1000000 ∧ Q (.str (uppL s)) 0
  | _, _ => False
noncomputable def me1W (m : Me) (o : V) (d : Nat) (a : V) (da : Nat) (Q : V → Nat → Prop) : Prop :=
  match m, o, a with
  | .split, .str s, .str c => c ≠ [] ∧ (splitL s c).length ≤ 10000 ∧ (∀ p ∈ splitL s c, p.length ≤ 1000000) ∧ Q (.list ((splitL s c).map .str)) 0
  | .count, .str s, .str c => Q (.int (countL s c)) 0
  | _, _, _ => False

theorem stOf_cps (x : Str) : stOf x.cps.toList = x := by cases x; simp [stOf]

section
variable {T : GT} {bad bc : Addr → Prop} {s : Shared} {Q : V → Nat → Prop} {A : Around} {k : Nat} {E : Value → Shared → Prop}

theorem toks_len {l : List Nat} (h : l.length ≤ 1000000) : Builtin.Str.tooLong (Txt.lower (stOf l)).length = false := by
  have := len_lower (stOf l)
  have h2 := stOf_length l
  simp only [Str.length] at this h2
  rw [h2] at this
  unfold Builtin.Str.tooLong; rw [sl_eq]; simp only [Str.length]; exact decide_eq_false (by omega)
theorem toks_len' {l : List Nat} (h : l.length ≤ 1000000) : Builtin.Str.tooLong (Txt.upper (stOf l)).length = false := by
  have := len_upper (stOf l)
  have h2 := stOf_length l
  simp only [Str.length] at this h2
  rw [h2] at this
  unfold Builtin.Str.tooLong; rw [sl_eq]; simp only [Str.length]; exact decide_eq_false (by omega)

theorem me0_ok {m : Me} {o : V} {d : Nat} {ov : Value} {pos : Pos} (r : RepD T.prog T.w (Gb s.heap bad) (Gb s.heap bc) d ov o) (q : me0W m o d Q) :
    MethodOnS T.prog T.w A E m.name ov pos [] (Is T bad bc s Q) s := by
  unfold me0W at q
  split at q
  · obtain ⟨t, rfl, hl⟩ := r.str_inv
    have h := toks_len q.1
    refine SB.lower h (Is.str q.2 (stOf_cps _).symm ?_)
    unfold Builtin.Str.tooLong at h; simpa [lowL, Str.length] using h
  · obtain ⟨t, rfl, hl⟩ := r.str_inv
    have h := toks_len' q.1
    refine SB.upper h (Is.str q.2 (stOf_cps _).symm ?_)
    unfold Builtin.Str.tooLong at h; simpa [uppL, Str.length] using h
  · exact q.elim

theorem reps_strs {G : Addr → Obj → Prop} : ∀ (tk : Nat) (xs : List Str), (∀ x ∈ xs, x.length ≤ sizeLine) → Reps T.prog T.w G (strsFrom tk xs) ((xs.map (·.cps.toList)).map V.str)
  | _, [], _ => .nil
  | tk, x :: xs, h => by
    have e := stOf_cps x
    refine .cons (t := .str x.cps.toList) ?_ (reps_strs (tk + 1) xs fun y hy => h y (List.mem_cons_of_mem _ hy))
    have : Rep T.prog T.w G (.str (stOf x.cps.toList) tk) (.str x.cps.toList) := .str _ _ (by have := h x List.mem_cons_self; simpa [Str.length] using this)
    rwa [e] at this

theorem me1_ok {m : Me} {o : V} {d : Nat} {ov : Value} {pos : Pos} {a : Sem Value} (hbad : ∀ a, bad a → Alive s.heap a) (hm : meOk m o = true) (r : RepD T.prog T.w (Gb s.heap bad) (Gb s.heap bc) d ov o)
    (h : wpAny (model T.prog T.w) A a (Is T bad bc s fun ta da => me1W m o d ta da Q) No s) :
    MethodOnS T.prog T.w A E m.name ov pos [(false, a)] (Is T bad bc s Q) s := by
  unfold meOk at hm
  split at hm
  · obtain ⟨t, rfl, hl⟩ := r.str_inv
    exact ⟨"str", _, F.plainAttrs_str, F.slot_str_lower, F.type_str_lower, typeIs_str _ _ _, (fun _ e => nomatch e),
      method1_meets F.slot_str_lower F.entry_str_lower (wp_no h fun v s₁ ⟨x, ta, da, q, _⟩ => by simp [me1W] at q)⟩
  · obtain ⟨t, rfl, hl⟩ := r.str_inv
    exact ⟨"str", _, F.plainAttrs_str, F.slot_str_upper, F.type_str_upper, typeIs_str _ _ _, (fun _ e => nomatch e),
      method1_meets F.slot_str_upper F.entry_str_upper (wp_no h fun v s₁ ⟨x, ta, da, q, _⟩ => by simp [me1W] at q)⟩
  · obtain ⟨t, rfl, hl⟩ := r.str_inv
    rename_i l
    refine ⟨"str", _, F.plainAttrs_str, F.slot_str_split, F.type_str_split, typeIs_str _ _ _, (fun _ e => nomatch e),
      method1_meets F.slot_str_split F.entry_str_split (wp_no h fun v s₁ ⟨x, ta, da, q, r'⟩ => ?_)⟩
    unfold me1W at q
    dsimp only at q
    split at q <;> first | exact q.elim | skip
    · rename_i c e1 e2
      cases e2
      obtain ⟨u, rfl, hc⟩ := r'.str_inv
      obtain ⟨q1, q2, q3, q⟩ := q
      have hy : ((stOf c).length == 0) = false := by rw [stOf_length]; simp [q1]
      refine ⟨typeIs_str _ _ _, F.args_str_split_2 _ _, ?_⟩
      have fresh : ¬ bad s₁.heap.objs.size := fun hb => not_alive_size _ ((hbad _ hb).keeps x.keeps)
      have small : ∀ y ∈ Txt.split (stOf l) (stOf c), y.length ≤ sizeLine := fun y hy => by
        have := q3 y.cps.toList (List.mem_map.mpr ⟨y, hy, rfl⟩)
        rw [sl_eq]; simp [Str.length] at this ⊢; omega
      have nsm : (Txt.split (stOf l) (stOf c)).length ≤ sizeLine := by
        have : (splitL l c).length = (Txt.split (stOf l) (stOf c)).length := by simp [splitL]
        rw [sl_eq]; omega
      have one : Txt.split (stOf l) (stOf c) = [stOf l] → ∀ tk, Is T bad bc s Q (.ref s₁.heap.objs.size) { s₁ with heap := s₁.heap.push { cls := .type "list", data := .seq [Value.str (stOf l) t].toArray }, toks := tk } := fun e tk => by
        refine .mk (x.trans (Ext.push _ _ _)) q (.list (n := 0) (vs := [Value.str (stOf l) t]) ⟨Heap.get?_push_size _ rfl, fresh⟩ rfl rfl (by rw [sl_eq]; simp) ?_)
        rw [splitL, e]
        refine .cons (t := .str l) (.str _ _ hl) .nil
      cases h1 : (decide ((stOf l).length < (stOf c).length) || decide (Builtin.Str.strKind (stOf l) < Builtin.Str.strKind (stOf c)))
      · cases hf : (Builtin.Str.occurrences (stOf l) (stOf c) 0 (stOf l).length ((stOf l).length + 1)).isEmpty
        · have e : Txt.split (stOf l) (stOf c) = Builtin.Str.partsBetween (stOf l) (Builtin.Str.occurrences (stOf l) (stOf c) 0 (stOf l).length ((stOf l).length + 1)) (stOf c).length :=
            (if_neg (ne_true_of_eq_false h1)).trans (if_neg (ne_true_of_eq_false hf))
          refine ⟨_, meets_str_split_sep (stOf l) (stOf c) t u h1 hy hf (by rw [stOf_length]; exact hl) (by rw [← e]; exact nsm), ?_⟩
          show Is T bad bc s Q _ _
          rw [← e]
          refine .mk (x.trans (Ext.push _ _ _)) q (.list (n := 0) (vs := strsFrom s₁.toks (Txt.split (stOf l) (stOf c))) ⟨Heap.get?_push_size _ rfl, fresh⟩ rfl rfl ?_ (reps_strs _ _ small))
          have : ∀ (xs : List Str) tk, (strsFrom tk xs).length = xs.length := fun xs => by
            induction xs with
            | nil => intro _; rfl
            | cons a as ih => intro tk; show (strsFrom (tk + 1) as).length + 1 = _; rw [ih]; rfl
          rw [this]; exact nsm
        · exact ⟨_, meets_str_split_not_found (stOf l) (stOf c) t u h1 hy hf, one ((if_neg (ne_true_of_eq_false h1)).trans (if_pos hf)) _⟩
      · exact ⟨_, meets_str_split_cannot_occur (stOf l) (stOf c) t u h1, one (if_pos h1) _⟩
    · rename_i e1 e2; cases e1
  · obtain ⟨t, rfl, hl⟩ := r.str_inv
    refine SB.count (wp_no h fun v s₁ ⟨x, ta, da, q, r'⟩ => ?_)
    unfold me1W at q
    dsimp only at q
    split at q <;> first | exact q.elim | skip
    · rename_i e1 e2; cases e1
    · rename_i c e1 e2
      cases e2
      obtain ⟨u, rfl, hc⟩ := r'.str_inv
      exact ⟨_, _, rfl, .mk (x.trans (Ext.tok _ _)) q (.int _ _)⟩
  · cases hm
end
end Mine
end

section
open PySem
set_option linter.unusedVariables false
set_option maxRecDepth 100000
namespace Mine.Rx
open PySem.Sre PySem.Sre.M

noncomputable def code1 : List Nat := [14, 4, 0, 1, 1, 6, 1, 16, 46, 1]
noncomputable def code2 : List Nat := [14, 9, 4, 1, 2, 16, 10, 16, 13, 0, 7, 7, 16, 13, 16, 10, 15, 18, 5, 16, 10, 15, 13, 11, 16, 13, 5, 5, 0, 16, 10, 1, 15, 2, 0, 1]

theorem runFor_add : ∀ (n k : Nat) (m : M), runFor (n + k) m = runFor k (runFor n m)
  | 0, k, m => by rw [Nat.zero_add]; rfl
  | n + 1, k, m => by
    rw [Nat.add_right_comm]
    show (if m.outcome.isSome then m else runFor (n + k) m.step) = runFor k (if m.outcome.isSome then m else runFor n m.step)
    split
    · rename_i h
      have : ∀ k, runFor k m = m := fun k => by
        cases k with
        | zero => rfl
        | succ k => show (if m.outcome.isSome then m else _) = m; rw [if_pos h]
      rw [this]
    · exact runFor_add n k _
/-- the machine comes from m to m' in at most n steps -/
noncomputable def Go (n : Nat) (m m' : M) : Prop := ∃ k, k ≤ n ∧ runFor k m = m'
theorem Go.refl {n m} : Go n m m := ⟨0, Nat.zero_le _, rfl⟩
theorem Go.trans {n n' m m' m''} (h : Go n m m') (h' : Go n' m' m'') : Go (n + n') m m'' := by
  obtain ⟨k, a, b⟩ := h
  obtain ⟨k', a', b'⟩ := h'
  exact ⟨k + k', by omega, by rw [runFor_add, b, b']⟩
theorem Go.step {n m m'} (h0 : m.outcome = none) (h : Go n m.step m') : Go (n + 1) m m' := by
  obtain ⟨k, a, b⟩ := h
  refine ⟨k + 1, by omega, ?_⟩
  show (if m.outcome.isSome then m else runFor k m.step) = m'
  rw [h0, if_neg (by simp)]; exact b
theorem Go.one {m m' : M} (h0 : m.outcome = none) (e : m.step = m') : Go 1 m m' := Go.step h0 (e ▸ Go.refl)
theorem Go.mono {n n' m m'} (h : Go n m m') (e : n ≤ n') : Go n' m m' := by
  obtain ⟨k, a, b⟩ := h; exact ⟨k, by omega, b⟩

/-- pattern 1: the state that tries at s -/
noncomputable def A1 (text : Array Nat) (s : Nat) (first : Bool) (seen : Seen) : M :=
  { code := code1.toArray, text, lim := text.size, start := s, lastStart := text.size, pc := 5, pos := s, handed := s, outermost := first, marks := #[],
    frames := [{ wait := .nextStart, pc := 5, pos := s, outermost := first }], weight := 1, seen }

theorem forSearch1 (text : Array Nat) (s : Nat) (h : s < text.size) : ∃ seen, forSearch code1.toArray text 0 s text.size false = A1 text s true seen := by
  refine ⟨({} : Seen).add 14, ?_⟩
  unfold forSearch
  have e : (s > text.size || text.size - s < (header code1.toArray).1) = false := by
    have : (header code1.toArray).1 = 1 := rfl
    rw [this]; simp; omega
  dsimp only
  rw [e]
  rfl
theorem forSearch1_end (text : Array Nat) : ∃ m', Go 1 (forSearch code1.toArray text 0 text.size text.size false) m' ∧ m'.outcome = some .failed := by
  unfold forSearch
  have e : (text.size > text.size || text.size - text.size < (header code1.toArray).1) = true := by
    have : (header code1.toArray).1 = 1 := rfl
    rw [this]; simp
  dsimp only
  rw [if_pos e]
  exact ⟨_, ⟨1, Nat.le_refl _, rfl⟩, rfl⟩

noncomputable def at1 (text : Array Nat) (s : Nat) : Bool := s == 0 || text.getD (s - 1) 0 == 10


theorem stepA (text : Array Nat) (s : Nat) (first : Bool) (seen : Seen) : (A1 text s first seen).step = (let m := { A1 text s first seen with seen := ((seen.add 6).add 44) }; if at1 text s then { m with pc := 7 } else m.say false) := rfl
/-- after the line's begin was seen -/
noncomputable def B1 (text : Array Nat) (s : Nat) (first : Bool) (seen : Seen) : M := { A1 text s first seen with seen, pc := 7 }
noncomputable def C1 (text : Array Nat) (s : Nat) (first : Bool) (seen : Seen) : M := { A1 text s first seen with seen, pc := 7, answer := some false }
theorem stepB (text : Array Nat) (s : Nat) (first : Bool) (seen : Seen) : (B1 text s first seen).step = (let m := { B1 text s first seen with seen := (seen.add 16) }; if s ≥ text.size then m.say false else
    match (text.getD s 0 == 46) with | false => m.say false | true => { m with pc := 9, pos := s + 1 }) := by
  show (if s ≥ text.size then _ else _) = (if s ≥ text.size then _ else _)
  split
  · rfl
  · show (match (Except.ok ((text.getD s 0 == 46), seen.add 16) : Except String (Bool × Seen)) with | .error why => _ | .ok (false, seen) => _ | .ok (true, seen) => _) = _
    cases text.getD s 0 == 46 <;> rfl
theorem goB (text : Array Nat) (s : Nat) (first : Bool) (seen : Seen) (h : at1 text s = true) : Go 1 (A1 text s first seen) (B1 text s first ((seen.add 6).add 44)) := by
  refine Go.step rfl ?_
  rw [stepA, h]
  exact Go.refl
theorem goC (text : Array Nat) (s : Nat) (first : Bool) (seen : Seen) (h : s < text.size → text.getD s 0 ≠ 46) : Go 1 (B1 text s first seen) (C1 text s first (seen.add 16)) := by
  refine Go.step rfl ?_
  rw [stepB]
  by_cases e : s ≥ text.size
  · dsimp only; rw [if_pos e]; exact Go.refl
  · dsimp only; rw [if_neg e]
    have : (text.getD s 0 == 46) = false := by simpa using h (by omega)
    rw [this]; exact Go.refl
noncomputable def D1 (text : Array Nat) (s : Nat) (first : Bool) (seen : Seen) : M := { A1 text s first seen with seen, answer := some false }
theorem goD (text : Array Nat) (s : Nat) (first : Bool) (seen : Seen) (h : at1 text s = false) : Go 1 (A1 text s first seen) (D1 text s first ((seen.add 6).add 44)) := by
  refine Go.step rfl ?_
  rw [stepA, h]
  exact Go.refl
/-- a start that does not match -/
noncomputable def miss1 (text : Array Nat) (s : Nat) : Prop := at1 text s = true → s < text.size → text.getD s 0 ≠ 46
theorem go_miss (text : Array Nat) (s : Nat) (first : Bool) (seen : Seen) (h : miss1 text s) : ∃ m seen', Go 2 (A1 text s first seen) m ∧ m.outcome = none ∧ (s < text.size → m.step = A1 text (s + 1) false seen') ∧ (¬ s < text.size → ∃ m', m'.outcome = some .failed ∧ Go 2 m m') := by
  cases e : at1 text s
  · refine ⟨_, ((seen.add 6).add 44), (goD text s first seen e).mono (by omega), rfl, fun hs => ?_, fun hs => ?_⟩
    · show (if s < text.size then _ else _) = _
      rw [if_pos hs]; rfl
    · have e1 : (D1 text s first ((seen.add 6).add 44)).step = ({ D1 text s first ((seen.add 6).add 44) with answer := some false, frames := [], weight := 0, pc := 5 } : M) := by
        show (if s < text.size then _ else _) = _
        rw [if_neg hs]; rfl
      exact ⟨_, rfl, (Go.one rfl e1).trans (Go.one rfl rfl)⟩
  · refine ⟨_, ((((seen.add 6).add 44)).add 16), (goB text s first seen e).trans (goC text s first _ (h e)), rfl, fun hs => ?_, fun hs => ?_⟩
    · show (if s < text.size then _ else _) = _
      rw [if_pos hs]; rfl
    · have e1 : (C1 text s first ((((seen.add 6).add 44)).add 16)).step = ({ C1 text s first ((((seen.add 6).add 44)).add 16) with answer := some false, frames := [], weight := 0, pc := 5 } : M) := by
        show (if s < text.size then _ else _) = _
        rw [if_neg hs]; rfl
      exact ⟨_, rfl, (Go.one rfl e1).trans (Go.one rfl rfl)⟩
noncomputable def B2 (text : Array Nat) (s : Nat) (first : Bool) (seen : Seen) : M := { A1 text s first seen with seen, pc := 9, pos := s + 1 }
noncomputable def B3 (text : Array Nat) (s : Nat) (first : Bool) (seen : Seen) : M := { A1 text s first seen with seen, pc := 9, pos := s + 1, handed := s + 1, answer := some true }
theorem go_hit (text : Array Nat) (s : Nat) (first : Bool) (seen : Seen) (h : at1 text s = true) (hs : s < text.size) (h46 : text.getD s 0 = 46) :
    ∃ m', Go 6 (A1 text s first seen) m' ∧ m'.outcome = some .matched ∧ m'.start = s ∧ m'.handed = s + 1 := by
  have b := goB text s first seen h
  have e : (B1 text s first ((seen.add 6).add 44)).step = B2 text s first (((seen.add 6).add 44).add 16) := by
    rw [stepB]; dsimp only; rw [if_neg (by omega), h46]; rfl
  have e3 : (B2 text s first (((seen.add 6).add 44).add 16)).step = B3 text s first ((((seen.add 6).add 44).add 16).add 1) := by
    show (if (first && false) = true then _ else _) = _
    rw [Bool.and_false, if_neg (by simp)]; rfl
  exact ⟨_, ((b.trans (Go.one rfl e)).trans ((Go.one rfl e3).trans ((Go.one rfl rfl).trans (Go.one rfl rfl)))).mono (by omega), rfl, rfl, rfl⟩

/-- the next match of pattern 1 from s: none, or its begin -/
noncomputable def next1 (text : Array Nat) : Nat → Nat → Option Nat
  | 0, _ => none
  | n + 1, s => if at1 text s = true ∧ text.getD s 0 = 46 then some s else next1 text n (s + 1)
theorem search1 (text : Array Nat) : ∀ (n s : Nat) (first : Bool) (seen : Seen), s + n = text.size → ∃ m', Go (6 * n + 6) (A1 text s first seen) m' ∧
    match next1 text n s with
    | some p => m'.outcome = some .matched ∧ m'.start = p ∧ m'.handed = p + 1
    | none => m'.outcome = some .failed
  | 0, s, first, seen, e => by
    obtain ⟨m, seen', g, h0, _, h2⟩ := go_miss text s first seen (fun _ h => by omega)
    obtain ⟨m', a, b⟩ := h2 (by omega)
    exact ⟨m', (g.trans b).mono (by omega), a⟩
  | n + 1, s, first, seen, e => by
    unfold next1
    by_cases c : at1 text s = true ∧ text.getD s 0 = 46
    · rw [if_pos c]
      obtain ⟨m', a, b⟩ := go_hit text s first seen c.1 (by omega) c.2
      exact ⟨m', a.mono (by omega), b⟩
    · rw [if_neg c]
      obtain ⟨m, seen', g, h0, h1, _⟩ := go_miss text s first seen (fun h h' h'' => c ⟨h, h''⟩)
      obtain ⟨m', a, b⟩ := search1 text n (s + 1) false seen' (by omega)
      exact ⟨m', (g.trans (Go.step h0 ((h1 (by omega)).symm ▸ a))).mono (by omega), b⟩
theorem found1 (text : Array Nat) (s : Nat) (h : s ≤ text.size) : ∃ m', Go (6 * (text.size - s) + 6) (forSearch code1.toArray text 0 s text.size false) m' ∧
    match next1 text (text.size - s) s with
    | some p => m'.outcome = some .matched ∧ m'.start = p ∧ m'.handed = p + 1
    | none => m'.outcome = some .failed := by
  by_cases e : s < text.size
  · obtain ⟨seen, q⟩ := forSearch1 text s e
    rw [q]; exact search1 text _ s true seen (by omega)
  · obtain rfl : s = text.size := by omega
    obtain ⟨m', a, b⟩ := forSearch1_end text
    rw [Nat.sub_self]
    exact ⟨m', a.mono (by omega), b⟩
end Mine.Rx
end

section
open PySem
set_option linter.unusedVariables false
set_option maxRecDepth 100000
namespace Mine.Rx
open PySem.Sre PySem.Sre.M

noncomputable def X (text : Array Nat) (s : Nat) (seen : Seen) (pc pos : Nat) (outermost : Bool) (handed : Nat) (frames : List Sre.Frame) (weight : Nat) (answer : Option Bool) : M :=
  { code := code2.toArray, text, lim := text.size, start := s, lastStart := text.size, pc, pos, handed, outermost, marks := #[], frames, weight, seen, answer }
noncomputable def NS (s : Nat) (first : Bool) : Sre.Frame := { wait := .nextStart, pc := 10, pos := s, outermost := first }
noncomputable def NB (pc s : Nat) (first : Bool) : Sre.Frame := { wait := .nextBranch, pc, pos := s, outermost := first }
noncomputable def LN (s : Nat) (first : Bool) : Sre.Frame := { wait := .lookNot, pc := 26, pos := s, outermost := first }
noncomputable def A2 (text : Array Nat) (s : Nat) (first : Bool) (seen : Seen) : M := X text s seen 10 s first s [NS s first] 1 none

theorem lit (text : Array Nat) (s : Nat) (seen : Seen) (pc w pos : Nat) (o : Bool) (hd : Nat) (fs : List Sre.Frame) (wt : Nat) (h : (pc, w) ∈ [(12, 13), (14, 10), (19, 10), (24, 13), (29, 10)]) :
    (X text s seen pc pos o hd fs wt none).step = if pos < text.size ∧ text.getD pos 0 = w then X text s (seen.add 16) (pc + 2) (pos + 1) o hd fs wt none else X text s (seen.add 16) pc pos o hd fs wt (some false) := by
  simp only [List.mem_cons, Prod.mk.injEq, List.not_mem_nil, or_false] at h
  rcases h with ⟨rfl, rfl⟩ | ⟨rfl, rfl⟩ | ⟨rfl, rfl⟩ | ⟨rfl, rfl⟩ | ⟨rfl, rfl⟩
  · show (if pos ≥ text.size then _ else (match (Except.ok ((text.getD pos 0 == 13), seen.add 16) : Except String (Bool × Seen)) with | .error why => _ | .ok (false, seen) => _ | .ok (true, seen) => _)) = _
    by_cases e : pos ≥ text.size
    · rw [if_pos e, if_neg (by omega)]; rfl
    · rw [if_neg e]
      by_cases e2 : text.getD pos 0 = 13
      · rw [if_pos ⟨by omega, e2⟩, e2]; rfl
      · rw [if_neg (fun h => e2 h.2)]
        rw [beq_eq_false_iff_ne.mpr e2]; rfl
  · show (if pos ≥ text.size then _ else (match (Except.ok ((text.getD pos 0 == 10), seen.add 16) : Except String (Bool × Seen)) with | .error why => _ | .ok (false, seen) => _ | .ok (true, seen) => _)) = _
    by_cases e : pos ≥ text.size
    · rw [if_pos e, if_neg (by omega)]; rfl
    · rw [if_neg e]
      by_cases e2 : text.getD pos 0 = 10
      · rw [if_pos ⟨by omega, e2⟩, e2]; rfl
      · rw [if_neg (fun h => e2 h.2)]
        rw [beq_eq_false_iff_ne.mpr e2]; rfl
  · show (if pos ≥ text.size then _ else (match (Except.ok ((text.getD pos 0 == 10), seen.add 16) : Except String (Bool × Seen)) with | .error why => _ | .ok (false, seen) => _ | .ok (true, seen) => _)) = _
    by_cases e : pos ≥ text.size
    · rw [if_pos e, if_neg (by omega)]; rfl
    · rw [if_neg e]
      by_cases e2 : text.getD pos 0 = 10
      · rw [if_pos ⟨by omega, e2⟩, e2]; rfl
      · rw [if_neg (fun h => e2 h.2)]
        rw [beq_eq_false_iff_ne.mpr e2]; rfl
  · show (if pos ≥ text.size then _ else (match (Except.ok ((text.getD pos 0 == 13), seen.add 16) : Except String (Bool × Seen)) with | .error why => _ | .ok (false, seen) => _ | .ok (true, seen) => _)) = _
    by_cases e : pos ≥ text.size
    · rw [if_pos e, if_neg (by omega)]; rfl
    · rw [if_neg e]
      by_cases e2 : text.getD pos 0 = 13
      · rw [if_pos ⟨by omega, e2⟩, e2]; rfl
      · rw [if_neg (fun h => e2 h.2)]
        rw [beq_eq_false_iff_ne.mpr e2]; rfl
  · show (if pos ≥ text.size then _ else (match (Except.ok ((text.getD pos 0 == 10), seen.add 16) : Except String (Bool × Seen)) with | .error why => _ | .ok (false, seen) => _ | .ok (true, seen) => _)) = _
    by_cases e : pos ≥ text.size
    · rw [if_pos e, if_neg (by omega)]; rfl
    · rw [if_neg e]
      by_cases e2 : text.getD pos 0 = 10
      · rw [if_pos ⟨by omega, e2⟩, e2]; rfl
      · rw [if_neg (fun h => e2 h.2)]
        rw [beq_eq_false_iff_ne.mpr e2]; rfl
theorem lit_yes {text : Array Nat} {s : Nat} {seen : Seen} {pc w pos : Nat} {o : Bool} {hd : Nat} {fs : List Sre.Frame} {wt : Nat} (h : (pc, w) ∈ [(12, 13), (14, 10), (19, 10), (24, 13), (29, 10)])
    (h1 : pos < text.size) (h2 : text.getD pos 0 = w) : Go 1 (X text s seen pc pos o hd fs wt none) (X text s (seen.add 16) (pc + 2) (pos + 1) o hd fs wt none) :=
  Go.one rfl (by rw [lit _ _ _ _ _ _ _ _ _ _ h, if_pos ⟨h1, h2⟩])
theorem lit_no {text : Array Nat} {s : Nat} {seen : Seen} {pc w pos : Nat} {o : Bool} {hd : Nat} {fs : List Sre.Frame} {wt : Nat} (h : (pc, w) ∈ [(12, 13), (14, 10), (19, 10), (24, 13), (29, 10)])
    (h1 : ¬ (pos < text.size ∧ text.getD pos 0 = w)) : Go 1 (X text s seen pc pos o hd fs wt none) (X text s (seen.add 16) pc pos o hd fs wt (some false)) :=
  Go.one rfl (by rw [lit _ _ _ _ _ _ _ _ _ _ h, if_neg h1])
theorem enter (text : Array Nat) (s : Nat) (first : Bool) (seen : Seen) : Go 1 (A2 text s first seen) (X text s (seen.add 7) 12 s first s [NB 11 s first, NS s first] 2 none) := Go.one rfl rfl
theorem second (text : Array Nat) (s : Nat) (first : Bool) (seen : Seen) (pc pos hd : Nat) : Go 1 (X text s seen pc pos first hd [NB 11 s first, NS s first] 2 (some false)) (X text s seen 19 s first s [NB 18 s first, NS s first] 2 none) := Go.one rfl rfl
theorem third (text : Array Nat) (s : Nat) (first : Bool) (seen : Seen) (pc pos hd : Nat) : Go 1 (X text s seen pc pos first hd [NB 18 s first, NS s first] 2 (some false)) (X text s seen 24 s first s [NB 23 s first, NS s first] 2 none) := Go.one rfl rfl
/-- from the last word to the answer -/
theorem close (text : Array Nat) (s : Nat) (first : Bool) (seen : Seen) (b pos hd : Nat) : ∃ m', Go 4 (X text s seen 35 pos first hd [NB b s first, NS s first] 2 none) m' ∧ m'.outcome = some .matched ∧ m'.start = s ∧ m'.handed = pos := by
  have e : (X text s seen 35 pos first hd [NB b s first, NS s first] 2 none).step = X text s (seen.add 1) 35 pos first pos [NB b s first, NS s first] 2 (some true) := by
    show (if (first && false) = true then _ else _) = _
    rw [Bool.and_false, if_neg (by simp)]; rfl
  exact ⟨_, (((Go.one rfl e).trans (Go.one rfl rfl)).trans ((Go.one rfl rfl).trans (Go.one rfl rfl))), rfl, rfl, rfl⟩
theorem jump16 (text : Array Nat) (s : Nat) (first : Bool) (seen : Seen) (pos hd : Nat) (fs) (wt) : Go 1 (X text s seen 16 pos first hd fs wt none) (X text s (seen.add 15) 35 pos first hd fs wt none) := Go.one rfl rfl
theorem jump21 (text : Array Nat) (s : Nat) (first : Bool) (seen : Seen) (pos hd : Nat) (fs) (wt) : Go 1 (X text s seen 21 pos first hd fs wt none) (X text s (seen.add 15) 35 pos first hd fs wt none) := Go.one rfl rfl
theorem jump32 (text : Array Nat) (s : Nat) (first : Bool) (seen : Seen) (pos hd : Nat) (fs) (wt) : Go 1 (X text s seen 32 pos first hd fs wt none) (X text s (seen.add 15) 35 pos first hd fs wt none) := Go.one rfl rfl
theorem look (text : Array Nat) (s : Nat) (first : Bool) (seen : Seen) (pos hd : Nat) (b : Nat) : Go 1 (X text s seen 26 pos first hd [NB b s first, NS s first] 2 none) (X text s (seen.add 5) 29 pos false pos [LN pos first, NB b s first, NS s first] 3 none) := by
  refine Go.one rfl ?_
  have e : (X text s seen 26 pos first hd [NB b s first, NS s first] 2 none).step = (if pos < 0 then X text s (seen.add 5) 32 pos first hd [NB b s first, NS s first] 2 none else X text s (seen.add 5) 29 pos false pos [LN pos first, NB b s first, NS s first] 3 none) := rfl
  rw [e, if_neg (by omega)]
theorem unlook (text : Array Nat) (s : Nat) (first : Bool) (seen : Seen) (pos pc p' hd : Nat) (b : Nat) : Go 1 (X text s seen pc p' false hd [LN pos first, NB b s first, NS s first] 3 (some false)) (X text s seen 32 pos first hd [NB b s first, NS s first] 2 none) := Go.one rfl rfl

/-- the length of a row's end at s -/
noncomputable def end2 (text : Array Nat) (s : Nat) : Nat := if text.getD s 0 = 13 ∧ s + 1 < text.size ∧ text.getD (s + 1) 0 = 10 then 2 else 1
theorem hit2 (text : Array Nat) (s : Nat) (first : Bool) (seen : Seen) (hs : s < text.size) (hc : text.getD s 0 = 10 ∨ text.getD s 0 = 13) :
    ∃ m', Go 20 (A2 text s first seen) m' ∧ m'.outcome = some .matched ∧ m'.start = s ∧ m'.handed = s + end2 text s := by
  rcases hc with hc | hc
  · have e : end2 text s = 1 := if_neg (by omega)
    obtain ⟨m', g, r⟩ := close text s first _ 18 (s + 1) s
    refine ⟨m', ?_, by rw [e]; exact r⟩
    exact ((enter text s first seen).trans ((lit_no (w := 13) (by decide) (by omega)).trans ((second _ _ _ _ _ _ _).trans ((lit_yes (w := 10) (by decide) hs hc).trans ((jump21 _ _ _ _ _ _ _ _).trans g))))).mono (by omega)
  · by_cases h2 : s + 1 < text.size ∧ text.getD (s + 1) 0 = 10
    · have e : end2 text s = 2 := if_pos ⟨hc, h2⟩
      obtain ⟨m', g, r⟩ := close text s first _ 11 (s + 2) s
      refine ⟨m', ?_, by rw [e]; exact r⟩
      exact ((enter text s first seen).trans ((lit_yes (w := 13) (by decide) hs hc).trans ((lit_yes (w := 10) (by decide) h2.1 h2.2).trans ((jump16 _ _ _ _ _ _ _ _).trans g)))).mono (by omega)
    · have e : end2 text s = 1 := if_neg (fun h => h2 h.2)
      obtain ⟨m', g, r⟩ := close text s first _ 23 (s + 1) (s + 1)
      refine ⟨m', ?_, by rw [e]; exact r⟩
      exact ((enter text s first seen).trans ((lit_yes (w := 13) (by decide) hs hc).trans ((lit_no (w := 10) (by decide) h2).trans ((second _ _ _ _ _ _ _).trans ((lit_no (w := 10) (by decide) (by omega)).trans
        ((third _ _ _ _ _ _ _).trans ((lit_yes (w := 13) (by decide) hs hc).trans ((look _ _ _ _ _ _ _).trans ((lit_no (w := 10) (by decide) h2).trans ((unlook _ _ _ _ _ _ _ _ _).trans ((jump32 _ _ _ _ _ _ _ _).trans g))))))))))).mono (by omega)

/-- the next row's end from s -/
noncomputable def next2 (text : Array Nat) : Nat → Nat → Option Nat
  | 0, _ => none
  | n + 1, s => if text.getD s 0 = 10 ∨ text.getD s 0 = 13 then some s else next2 text n (s + 1)
theorem inSet2 (c : Nat) (seen : Seen) : ∃ seen', inSet code2.toArray c code2.toArray.size 5 true seen = .ok (decide (c = 10 ∨ c = 13), seen') := by
  have h : inSet code2.toArray c code2.toArray.size 5 true seen = (if (c == 10) = true then .ok (true, seen.add 16) else if (c == 13) = true then .ok (true, (seen.add 16).add 16) else .ok (false, ((seen.add 16).add 16).add 0)) := rfl
  rw [h]
  by_cases e : c = 10
  · subst e; exact ⟨_, rfl⟩
  · rw [if_neg (by simpa using e)]
    by_cases e2 : c = 13
    · subst e2; exact ⟨_, rfl⟩
    · rw [if_neg (by simpa using e2)]
      exact ⟨((seen.add 16).add 16).add 0, by simp [e, e2]⟩
theorem admitted2 (m : M) (hc : m.code = code2.toArray) (hl : m.lim = m.text.size) : ∀ (n s : Nat) (seen : Seen), s + n = m.text.size → ∃ seen', m.admitted (n + 1) s seen = .ok (next2 m.text n s, seen')
  | 0, s, seen, e => by
    refine ⟨seen, ?_⟩
    unfold M.admitted
    rw [if_pos (by omega)]; rfl
  | n + 1, s, seen, e => by
    unfold M.admitted
    rw [if_neg (by omega), hc]
    obtain ⟨seen', q⟩ := inSet2 (m.text.getD s 0) seen
    rw [q]
    unfold next2
    by_cases c : m.text.getD s 0 = 10 ∨ m.text.getD s 0 = 13
    · rw [if_pos c, decide_eq_true c]; exact ⟨_, rfl⟩
    · rw [if_neg c, decide_eq_false c]
      exact admitted2 m hc hl n (s + 1) seen' (by omega)
theorem next2_some {text : Array Nat} : ∀ {n s p}, next2 text n s = some p → s ≤ p ∧ p < s + n ∧ (text.getD p 0 = 10 ∨ text.getD p 0 = 13)
  | 0, s, p, h => by cases h
  | n + 1, s, p, h => by
    unfold next2 at h
    split at h
    · rename_i c; cases h; exact ⟨Nat.le_refl _, by omega, c⟩
    · have := next2_some h; exact ⟨by omega, by omega, this.2.2⟩
theorem found2 (text : Array Nat) (s : Nat) (h : s ≤ text.size) : ∃ m', Go 20 (forSearch code2.toArray text 0 s text.size false) m' ∧
    match next2 text (text.size - s) s with
    | some p => m'.outcome = some .matched ∧ m'.start = p ∧ m'.handed = p + end2 text p
    | none => m'.outcome = some .failed := by
  have e1 : (header code2.toArray).1 = 1 := rfl
  by_cases e : s < text.size
  · have e0 : (s > text.size || text.size - s < (header code2.toArray).1) = false := by rw [e1]; simp; omega
    let m0 : M := X text s (({} : Seen).add 14) 10 s true s [] 0 none
    have f : forSearch code2.toArray text 0 s text.size false = m0.attemptFrom s true := by
      unfold forSearch
      dsimp only
      rw [e0]; rfl
    obtain ⟨seen', q⟩ := admitted2 m0 rfl rfl (text.size - s) s m0.seen (by show s + (text.size - s) = text.size; omega)
    have ha : m0.attemptFrom s true = (match m0.admitted (text.size + 1 - s) s m0.seen with
      | .ok (some s, seen) => { m0 with mustAdvance := false, seen }.attemptAt s true
      | .ok (none, seen) => { m0 with seen }.say false
      | .error why => m0.stick why) := rfl
    have en : text.size + 1 - s = text.size - s + 1 := by omega
    rw [f, ha, en, q]
    have tt : m0.text = text := rfl
    rw [tt]
    cases hn : next2 text (text.size - s) s with
    | none => exact ⟨_, (Go.one rfl rfl).mono (by omega), rfl⟩
    | some p =>
      obtain ⟨a, b, c⟩ := next2_some hn
      exact hit2 text p true seen' (by omega) c
  · obtain rfl : s = text.size := by omega
    rw [Nat.sub_self]
    unfold forSearch
    have e0 : (text.size > text.size || text.size - text.size < (header code2.toArray).1) = true := by rw [e1]; simp
    dsimp only
    rw [if_pos e0]
    exact ⟨_, (Go.one rfl rfl).mono (by omega), rfl⟩
end Mine.Rx
end

section
open PySem
set_option linter.unusedVariables false
set_option maxRecDepth 100000
set_option genSizeOf false
set_option genSizeOfSpec false
set_option genInjectivity false
namespace Mine.Rx
open PySem.Builtin.Re

section
variable {M : Model} {A : Around} {E : Value → Shared → Prop} {s : Shared}

structure Pat (h : Heap) (a : Addr) (code : List Nat) : Prop where
  ex : ∃ (fs : Array Value) (T : Addr) (ws : Array Value) (n : Nat), h.get? a = some { cls := .type "re.Pattern", data := .fields fs } ∧ fs.getD 5 .none = .ref T ∧ reRawNat (fs.getD 2 .none) = 0 ∧ reRawNat (fs.getD 6 .none) = 0 ∧
    h.get? T = some { cls := .type "tuple", data := .seq ws n } ∧ ((ws.map reRawOf).map (·.toNat)).toList = code
theorem Pat.keeps {h h' : Heap} {a : Addr} {code} (x : Pat h a code) (k : ∀ b o, h.get? b = some o → h'.get? b = some o) : Pat h' a code := by
  obtain ⟨fs, T, ws, n, h1, h2, h3, h4, h5, h6⟩ := x.ex
  exact ⟨fs, T, ws, n, k _ _ h1, h2, h3, h4, k _ _ h5, h6⟩

theorem wp_target {pa : Addr} {code : List Nat} {x : Str} {u : Tok} {Q : ReTarget → Shared → Prop} (p : Pat s.heap pa code)
    (h : Q { pattern := .ref pa, string := .str x u, code := code.toArray, text := x.cps, kind := 0, groups := 0, pos := 0, lim := x.cps.size } s) : wpAny M A (reWholeTarget (.ref pa) (.str x u)) Q E s := by
  obtain ⟨fs, T, ws, n, h1, h2, h3, h4, h5, h6⟩ := p.ex
  unfold reWholeTarget
  refine wpAny_bind (wpAny_fieldsOf h1 rfl ?_)
  have e1 : reTextOf (.str x u) = pure (x.cps, 0) := rfl
  rw [e1]
  refine wpAny_bind (wpAny_pure ?_)
  dsimp only
  rw [h4, h3, h2]
  have e2 : reRawItems (.ref T) = (do return ((← seqItems? (.ref T)).getD #[]).map reRawOf) := rfl
  simp only [Nat.reduceBEq, Bool.and_false, Bool.and_true, Bool.false_eq_true, if_false, reNoCollectionInside, pure_bind]
  rw [e2]
  unfold seqItems?
  refine wpAny_bind (wpAny_bind (wpAny_bind (wpAny_load h5 ?_)))
  dsimp only
  refine wpAny_pure (wpAny_pure (wpAny_pure ?_))
  simp only [Option.getD_some]
  have e3 : (ws.map reRawOf).map (·.toNat) = code.toArray := by rw [← h6]
  rw [e3]; exact h
theorem reDrive_ok {m' : Sre.M} {Q : Sre.M → Shared → Prop} (h' : m'.outcome.isSome = true) : ∀ (turns : Nat) (m : Sre.M) (n : Nat), Go n m m' → n < 4 * turns → Q m' s → wpAny M A (reDrive turns m) Q E s
  | 0, m, n, _, e, _ => by omega
  | turns + 1, m, n, ⟨k, hk, r⟩, e, q => by
    unfold reDrive
    have stop : ∀ (m : Sre.M), m.outcome.isSome = true → ∀ j, m.runFor j = m := fun m hm j => by
      cases j with
      | zero => rfl
      | succ j => show (if m.outcome.isSome then m else _) = m; rw [if_pos hm]
    have e4 : reTurnSteps = 4 := rfl
    rw [e4]
    dsimp only
    by_cases c : ((m.runFor 4).outcome.isSome) = true
    · rw [if_pos c]
      have : m.runFor 4 = m' := by
        by_cases hk4 : k ≤ 4
        · have : m.runFor (k + (4 - k)) = m' := by rw [runFor_add, r, stop m' h']
          rwa [show k + (4 - k) = 4 by omega] at this
        · have : m.runFor (4 + (k - 4)) = m' := by rw [show 4 + (k - 4) = k by omega]; exact r
          rw [runFor_add, stop _ c] at this; exact this
      rw [this]; exact wpAny_pure q
    · rw [if_neg c]
      refine wpAny_bind (wpAny_rule ?_)
      have h4 : 4 < k := by
        by_cases hk4 : k ≤ 4
        · exfalso
          have : m.runFor (k + (4 - k)) = m' := by rw [runFor_add, r, stop m' h']
          rw [show k + (4 - k) = 4 by omega] at this
          rw [this] at c; exact c h'
        · omega
      refine reDrive_ok h' turns _ (n - 4) ⟨k - 4, by omega, ?_⟩ (by omega) q
      rw [← runFor_add, show 4 + (k - 4) = k by omega]; exact r

theorem wp_toEnd {m m' : Sre.M} {n : Nat} {Q : Option Sre.M → Shared → Prop} (g : Go n m m') (hn : n ≤ 100000000) (q : (m'.outcome = some .matched ∧ Q (some m') s) ∨ (m'.outcome = some .failed ∧ Q none s)) : wpAny M A (reRunToEnd m) Q E s := by
  unfold reRunToEnd
  have hs : m'.outcome.isSome = true := by rcases q with ⟨h, _⟩ | ⟨h, _⟩ <;> rw [h] <;> rfl
  refine wpAny_bind (reDrive_ok (Q := fun m₁ s₁ => wpAny M A _ Q E s₁) hs (2 ^ 64) m n g (by omega) ?_)
  refine wpAny_bind (wpAny_forIn_list (s := s) _ (fun _ _ s' => s' = s) _ ?_ ?_ _ _ rfl)
  · rintro x rest b _ rfl
    split
    · exact wpAny_bind (wpAny_rule (wpAny_pure rfl))
    · exact wpAny_pure rfl
  · rintro b _ rfl
    rcases q with ⟨h, q⟩ | ⟨h, q⟩
    · rw [h]; exact wpAny_pure q
    · rw [h]; exact wpAny_pure q
end
end Mine.Rx
end

section
open PySem
set_option linter.unusedVariables false
set_option maxRecDepth 100000
namespace Mine.Rx
theorem plainAttrs_pat : PlainAttrs "re.Pattern" :=
  ⟨⟨"object.__getattribute__", by rw [typeLookup_type, builtinLookup_eq_fast]; kernel_rfl, by decide +kernel⟩, by rw [typeLookup_type, builtinLookup_eq_fast]; kernel_rfl⟩
theorem slot_sub : Slot "re.Pattern" "sub" "re.Pattern.sub" :=
  .of (owner := "re.Pattern") (n := "sub") (by rw [typeLookup_type, builtinLookup_eq_fast]; kernel_rfl) (by decide +kernel) (by decide +kernel) (by decide +kernel)
    (by first | exact .inl (by decide +kernel) | exact .inr (by decide +kernel)) (by rw [isSubtype_type]; kernel_rfl)
theorem type_sub : typeOf (.builtin "re.Pattern.sub") = pure (.type "method_descriptor") := by show builtinType _ = _; rw [builtinType_eq_fast]; kernel_rfl
theorem entry_sub : entryFor table "re.Pattern.sub" = some Builtin.«re.Pattern.sub» := entryFor_of_tree (by kernel_rfl)
theorem entry_loop : entryFor table "re.Pattern.sub.loop" = some Builtin.«re.Pattern.sub.loop» := entryFor_of_tree (by kernel_rfl)
theorem owner_pat : Manifest.owners.lookup (String.ofList ['n', 'r', 'e', 't', 't', 'a', 'P', '.', 'e', 'r'].reverse) = some Manifest.sig_re_Pattern := by kernel_rfl
theorem args_sub (a b c : Value) : argsOk "re.Pattern.sub" ⟨[a, b, c], []⟩ := by
  unfold argsOk; rw [signature?_of (id := "re.Pattern.sub") (n := ['b', 'u', 's']) (o := ['n', 'r', 'e', 't', 't', 'a', 'P', '.', 'e', 'r']) (by kernel_rfl) owner_pat]; kernel_rfl
theorem call_str : typeLookup (.type "str") "__call__" = pure none := by rw [typeLookup_type, builtinLookup_eq_fast]; kernel_rfl
theorem plain_loop : plainId "re.Pattern.sub.loop" = true := by decide +kernel
end Mine.Rx
end

section
open PySem
set_option linter.unusedVariables false
set_option maxRecDepth 100000
set_option genSizeOf false
set_option genSizeOfSpec false
set_option genInjectivity false
namespace Mine.Rx
open PySem.Builtin.Re PySem.Builtin.Str

/-- what finds the next match from a place -/
structure Finds (code : List Nat) (text : Array Nat) (find : Nat → Option (Nat × Nat)) : Prop where
  go : ∀ d, d ≤ text.size → ∃ (n : Nat) (m' : Sre.M), n ≤ 100000000 ∧ Go n (Sre.forSearch code.toArray text 0 d text.size false) m' ∧
    match find d with
    | some (p, e) => m'.outcome = some .matched ∧ m'.start = p ∧ m'.handed = e
    | none => m'.outcome = some .failed
  lt : ∀ d p e, find d = some (p, e) → d ≤ p ∧ p < e ∧ e ≤ text.size

noncomputable def subG (find : Nat → Option (Nat × Nat)) (text : Array Nat) (repl : List Nat) : Nat → Nat → List Nat
  | 0, _ => []
  | n + 1, d => match find d with
    | some (p, e) => (text.extract d p).toList ++ repl ++ subG find text repl n e
    | none => (text.extract d text.size).toList

noncomputable def texts (l : List (Str × Tok)) : List Nat := l.flatMap fun p => p.1.cps.toList
theorem texts_append (l l' : List (Str × Tok)) : texts (l ++ l') = texts l ++ texts l' := by simp [texts]
theorem glued_texts (e : Str) (he : e.cps = #[]) (l : List (Str × Tok)) : (glued e (l.map (·.1))).cps.toList = texts l := by
  unfold glued texts
  have key : ∀ (l : List Str) (acc : Array Nat), (l.foldl (fun acc p => acc ++ e.cps ++ p.cps) acc).toList = acc.toList ++ l.flatMap fun p => p.cps.toList := by
    intro l
    induction l with
    | nil => intro acc; simp
    | cons x l ih => intro acc; rw [List.foldl_cons, ih]; simp [he]
  cases l with
  | nil => rfl
  | cons x l =>
    simp only [List.map_cons, List.drop_succ_cons, List.drop_zero, List.headD_cons]
    rw [key]
    simp [List.flatMap_map]
theorem join_fold (e : Str) (he : e.cps = #[]) (l : List (Str × Tok)) : ((l.map (·.1)).toArray.foldl (· + ·.length + e.length) 0) = (texts l).length := by
  have e0 : e.cps.size = 0 := by rw [he]; rfl
  rw [List.foldl_toArray']
  · have key : ∀ (l : List (Str × Tok)) (n : Nat), (l.map (·.1)).foldl (fun (a : Nat) (b : Str) => a + b.length + e.length) n = n + (texts l).length := by
      intro l
      induction l with
      | nil => intro n; simp [texts]
      | cons x l ih => intro n; rw [List.map_cons, List.foldl_cons, ih]; simp [texts, e0, Str.length]; try omega
    rw [key]; omega
  · simp

section
variable {prog : Program} {w : World}

noncomputable def largs (pa : Addr) (x : Str) (u : Tok) (r : Str) (ru : Tok) (n : Int) (d : Nat) (L : Addr) : Args :=
  ⟨[.ref pa, .str x u, .str r ru, rawInt 0, rawInt 0, rawInt n, rawInt d, rawInt d, .bool false, .ref L, .bool false], []⟩

theorem wp_next {A : Around} {E : Value → Shared → Prop} {s : Shared} {code : List Nat} {find} {t : ReTarget} {d : Nat} {Q : Option Sre.M → Shared → Prop} (F : Finds code t.text find) (hc : t.code = code.toArray) (hg : t.groups = 0) (hl : t.lim = t.text.size)
    (hd : d ≤ t.text.size) (q : ∀ m', match find d with
      | some (p, e) => m'.start = p → m'.handed = e → Q (some m') s
      | none => Q none s) : wpAny (model prog w) A (reNextFound t d false) Q E s := by
  obtain ⟨n, m', hn, g, h⟩ := F.go d hd
  unfold reNextFound
  rw [hc, hg, hl]
  have q := q m'
  refine wp_toEnd g hn ?_
  cases e : find d with
  | none => rw [e] at h q; exact .inr ⟨h, q⟩
  | some pe =>
    obtain ⟨p, e'⟩ := pe
    rw [e] at h q
    exact .inl ⟨h.1, q h.2.1 h.2.2⟩

theorem push_list {h : Heap} {L : Addr} {xs : List (Str × Tok)} {n : Nat} (ho : h.get? L = some { cls := .type "list", data := .seq (strValues xs).toArray n }) (y : Str) (t : Tok) :
    ∃ n', (h.update L (Obj.mapSeq (·.push (.str y t)))).get? L = some { cls := .type "list", data := .seq (strValues (xs ++ [(y, t)])).toArray n' } := by
  refine ⟨n + 1, (Heap.get?_update_self _ ho (by simp [Obj.mapSeq, Obj.isFreed])).trans ?_⟩
  simp [Obj.mapSeq, strValues]
theorem Ext.upd {s0 s : Shared} {L : Addr} {f : Obj → Obj} {t : Nat} (x : Ext s0 s) (h0 : s0.heap.get? L = none) : Ext s0 { s with heap := s.heap.update L f, toks := t } := by
  obtain ⟨h, t', rfl, k⟩ := x
  refine ⟨_, _, rfl, fun b o e => ?_⟩
  have : L ≠ b := fun hb => by subst hb; rw [h0] at e; cases e
  exact (Heap.get?_update_other _ _ this).trans (k b o e)
end
end Mine.Rx
end

section
open PySem
set_option linter.unusedVariables false
set_option maxRecDepth 100000
namespace Mine.Rx
open PySem.Builtin.Re PySem.Builtin.Str
variable {prog : Program} {w : World}

abbrev postR (prog : Program) (w : World) (A : Around) (R : Result → Shared → Prop) : Fin → Shared → Prop :=
  fun fin s' => match fin with | .done f => R (.ok f) s' | .again c' => c'.quiet = true ∧ codeAny (model prog w) A c' R s'

theorem wp_slice {M : Model} {A : Around} {E : Value → Shared → Prop} {s : Shared} {text : Array Nat} {b e : Nat} {Q : Value → Shared → Prop} (hz : text.size ≤ sizeLine)
    (q : Q (.str ⟨text.extract b e⟩ s.toks) { s with toks := s.toks + 1 }) : wpAny M A (reSlice text 0 b e) Q E s := by
  unfold reSlice
  rw [if_pos (by rfl)]
  exact wpAny_mkStr q (by show (text.extract b e).size ≤ sizeLine; rw [Array.size_extract]; omega)

theorem loop_ok {A : Around} {code : List Nat} {pa L : Addr} {x r : Str} {u ru : Tok} {find} {s0 : Shared} {R : Result → Shared → Prop} (F : Finds code x.cps find) (hr : r.cps.size = 2) (hL : s0.heap.get? L = none) :
    ∀ (fuel d : Nat) (l : List (Str × Tok)) (n : Int) (k : Nat) (s : Shared), Pat s0.heap pa code → Ext s0 s → d ≤ x.cps.size → x.cps.size - d < fuel →
      s.heap.get? L = some { cls := .type "list", data := .seq (strValues l).toArray k } → l.length + 4 * (x.cps.size - d) + (texts l).length ≤ 2000000 → x.cps.size ≤ 300000 →
      (∀ s' y t, Ext s0 s' → y.cps.toList = texts l ++ subG find x.cps r.cps.toList fuel d → R (.ok (.ret (.str y t))) s') →
      codeAny (model prog w) A (.builtin "re.Pattern.sub.loop" (largs pa x u r ru n d L)) R s
  | 0, d, l, n, k, s, _, _, _, h, _, _, _, _ => by omega
  | fuel + 1, d, l, n, k, s, P, X, hd, hf, ho, hb, hx, q => by
    have hsl : sizeLine = 16777216 := rfl
    refine codeAny_builtin entry_loop ?_
    rw [Around.under_plainId plain_loop]
    unfold Builtin.«re.Pattern.sub.loop» largs
    dsimp only
    refine wpAny_bind (wp_target (P.keeps X.keeps) ?_)
    have e2 : reLiteralCannotBeTurned (.str r ru) = pure () := rfl
    rw [if_pos (by rfl), e2]
    refine wpAny_bind (wpAny_pure ?_)
    dsimp only
    refine wpAny_bind ?_
    rw [if_neg (by simp), Int.toNat_natCast]
    refine wp_next F rfl rfl rfl hd fun m' => ?_
    cases he : find d with
    | none =>
      dsimp only
      have len : l.length ≤ 2000000 := by omega
      have fin : ∀ (s1 : Shared) (l1 : List (Str × Tok)) (k1 : Nat) (tt : Tok), Ext s0 s1 → s1.heap.get? L = some { cls := .type "list", data := .seq (strValues l1).toArray k1 } → texts l1 = texts l ++ (x.cps.extract d x.cps.size).toList → l1.length ≤ l.length + 1 →
          wpAny (model prog w) A.in1 (do
            let __do_lift ← seqItems? (Value.ref L)
            if (__do_lift.getD #[]).isEmpty = true then do
              let text ← pure (Value.str ⟨x.cps.extract 0 0⟩ tt)
              if false = true then do
                let __do_lift ← holding [text] do
                      let __do_lift ← mkInt n
                      newTuple [text, __do_lift]
                ret __do_lift
              else ret text
            else do
              let text ← call (Value.builtin (if (0 == 0) = true then "str.join" else "bytes.join")) [(Value.str ⟨x.cps.extract 0 0⟩ tt), Value.ref L]
              if false = true then do
                let __do_lift ← holding [text] do
                      let __do_lift ← mkInt n
                      newTuple [text, __do_lift]
                ret __do_lift
              else ret text) (postR prog w A R) (fun e s' => R (.error e) s') s1 := by
        intro s1 l1 k1 tt X1 ho1 tx1 hl1
        have tl1 : (texts l1).length = (texts l).length + (x.cps.size - d) := by
          rw [tx1]; simp
        have ey : ∀ (y : Str), y.cps.toList = texts l1 → y.cps.toList = texts l ++ subG find x.cps r.cps.toList (fuel + 1) d := fun y h => by
          rw [h, tx1]; simp [subG, he]
        have e0 : (⟨x.cps.extract 0 0⟩ : Str).cps = #[] := by simp
        refine wpAny_bind ?_
        unfold seqItems?
        refine wpAny_bind (wpAny_load ho1 ?_)
        dsimp only
        refine wpAny_pure ?_
        cases hl : l1 with
        | nil =>
          rw [if_pos (by simp [strValues])]
          refine wpAny_bind (wpAny_pure ?_)
          rw [if_neg (by simp)]
          exact wpAny_pure (q _ _ _ X1 (ey _ (by rw [e0, hl]; rfl)))
        | cons c l2 =>
          rw [if_neg (by simp [strValues])]
          refine wpAny_bind ?_
          rw [if_pos (by rfl)]
          refine call_meets PySem.F.slot_str_join (typeIs_str _ _ _) PySem.F.entry_str_join (PySem.F.args_str_join_2 _ _) (meets_str_join_list _ _ _ l1 ?_) ⟨⟨_, ho1, rfl, _, rfl⟩, ?_⟩
          · rw [join_fold _ e0]
            unfold tooLong; simp; omega
          · have close : ∀ (y : Str) (t : Tok) (s' : Shared), Ext s0 s' → y.cps.toList = texts l1 → wpAny (model prog w) A.in1 (if false = true then do
                let __do_lift ← holding [Value.str y t] do
                      let __do_lift ← mkInt n
                      newTuple [Value.str y t, __do_lift]
                ret __do_lift
              else ret (Value.str y t)) (postR prog w A R) (fun e s' => R (.error e) s') s' := fun y t s' X' hy => by
              rw [if_neg (by simp)]
              exact wpAny_pure (q _ _ _ X' (ey _ hy))
            have gl := glued_texts _ e0 l1
            cases hl2 : l2 with
            | nil =>
              rw [hl, hl2]
              obtain ⟨cy, ct⟩ := c
              exact close cy ct s1 X1 (by rw [hl, hl2]; simp [texts])
            | cons c' l3 =>
              rw [hl2] at hl
              rw [hl] at gl ⊢
              refine ⟨?_, close _ _ _ (X1.trans (Ext.tok _ _)) (by rw [hl]; exact gl)⟩
              show (glued _ _).cps.size ≤ sizeLine
              have := congrArg List.length gl
              rw [← hl, tl1, Array.length_toList] at this
              rw [← hl]; omega
      by_cases hc : d < x.cps.size
      · rw [if_pos hc]
        refine wpAny_bind (wp_slice (by omega) ?_)
        refine wpAny_bind (wpAny_updateSeq ho rfl ?_ (by simp [strValues]; omega) (by simp [strValues]; omega))
        obtain ⟨k1, ho1⟩ := push_list ho ⟨x.cps.extract d x.cps.size⟩ s.toks
        refine wpAny_bind (wp_slice (by omega) ?_)
        exact fin _ _ k1 _ ((Ext.upd (s := s) (L := L) (t := s.toks + 1) X hL).trans (Ext.tok _ _)) ho1 (by simp [texts]) (by simp)
      · rw [if_neg hc]
        refine wpAny_bind (wp_slice (by omega) ?_)
        exact fin _ _ k _ (X.trans (Ext.tok _ _)) ho (by rw [show x.cps.size = d by omega]; simp) (by omega)
    | some pe =>
      obtain ⟨p, e⟩ := pe
      dsimp only
      intro h1 h2
      obtain ⟨hdp, hpe, hle⟩ := F.lt _ _ _ he
      have eb : (e == p) = false := by simp; omega
      rw [h1, h2, eb]
      have cont : ∀ (s1 : Shared) (l1 : List (Str × Tok)) (k1 : Nat), Ext s0 s1 → s1.heap.get? L = some { cls := .type "list", data := .seq (strValues l1).toArray k1 } → texts l1 = texts l ++ (x.cps.extract d p).toList → l1.length ≤ l.length + 1 →
          codeAny (model prog w) A (.builtin "re.Pattern.sub.loop" (largs pa x u r ru (n + 1) e L)) R { s1 with heap := s1.heap.update L (Obj.mapSeq (·.push (.str r ru))) } := by
        intro s1 l1 k1 X1 ho1 tx1 hl1
        obtain ⟨k2, ho2⟩ := push_list ho1 r ru
        have tr : texts [(r, ru)] = r.cps.toList := by simp [texts]
        have trl : (texts [(r, ru)]).length = 2 := by rw [tr]; simpa using hr
        have tl1 : (texts l1).length = (texts l).length + (p - d) := by
          rw [tx1]; simp; omega
        refine loop_ok F hr hL fuel e (l1 ++ [(r, ru)]) (n + 1) k2 _ P (Ext.upd X1 hL) hle (by omega) ho2 ?_ hx (fun s' y t X' ey => q s' y t X' ?_)
        · rw [texts_append, List.length_append, List.length_append, trl, tl1, List.length_singleton]; omega
        · rw [ey, texts_append, tx1, tr]; simp [subG, he]
      have len : l.length ≤ 2000000 := by omega
      by_cases hc : d < p
      · rw [if_pos hc]
        refine wpAny_bind (wp_slice (by omega) ?_)
        refine wpAny_bind (wpAny_updateSeq ho rfl ?_ (by simp [strValues]; omega) (by simp [strValues]; omega))
        obtain ⟨k1, ho1⟩ := push_list ho ⟨x.cps.extract d p⟩ s.toks
        rw [if_pos (by rfl)]
        refine wpAny_bind (wpAny_pure ?_)
        rw [if_pos (by rfl)]
        refine wpAny_bind (wpAny_updateSeq ho1 rfl ?_ (by simp [strValues]; omega) (by simp [strValues]; omega))
        refine wpAny_pure ⟨plainId_quiet plain_loop _, ?_⟩
        exact cont _ _ k1 (Ext.upd (s := s) (L := L) (t := s.toks + 1) X hL) ho1 (by simp [texts]) (by simp)
      · rw [if_neg hc]
        have hdp : d = p := by omega
        rw [if_pos (by rfl)]
        refine wpAny_bind (wpAny_pure ?_)
        rw [if_pos (by rfl)]
        refine wpAny_bind (wpAny_updateSeq ho rfl ?_ (by simp [strValues]; omega) (by simp [strValues]; omega))
        refine wpAny_pure ⟨plainId_quiet plain_loop _, ?_⟩
        exact cont _ _ k X ho (by rw [hdp]; simp) (by omega)
end Mine.Rx
end

section
open PySem
set_option linter.unusedVariables false
set_option maxRecDepth 100000
namespace Mine.Rx
open PySem.Builtin.Re PySem.Builtin.Str
variable {prog : Program} {w : World}

theorem named_sub (r x : Value) : reNamed "re.Pattern.sub" "sub" ["repl", "string", "count"] 2 [r, x] [] = pure [some r, some x, none] := rfl

theorem sub_meets {A : Around} {code : List Nat} {pa : Addr} {x r : Str} {u ru : Tok} {find} {s : Shared} {R : Result → Shared → Prop} (F : Finds code x.cps find) (hr : r.cps.size = 2) (h92 : r.cps.contains 92 = false)
    (P : Pat s.heap pa code) (hx : x.cps.size ≤ 300000)
    (q : ∀ s' y t, Ext s s' → y.cps.toList = subG find x.cps r.cps.toList (x.cps.size + 1) 0 → R (.ok (.ret (.str y t))) s') :
    wpAny (model prog w) A.in1 (Builtin.«re.Pattern.sub» ⟨[.ref pa, .str r ru, .str x u], []⟩) (postR prog w A R) (fun e s' => R (.error e) s') s := by
  unfold Builtin.«re.Pattern.sub» reSubstitute
  dsimp only
  rw [named_sub]
  refine wpAny_bind (wpAny_pure ?_)
  dsimp only
  refine wpAny_bind (wpAny_pure ?_)
  refine wpAny_bind (wpAny_specialOf (typeIs_str _ _ _) call_str ?_)
  have ea : asStr? (.str r ru) = pure (some r) := rfl
  rw [ea]
  rw [if_neg (by simp)]
  refine wpAny_bind (wpAny_pure ?_)
  dsimp only
  refine wpAny_bind (wpAny_pure ?_)
  rw [if_neg (by simp), if_pos (by rw [h92]; rfl)]
  refine wpAny_bind (wpAny_pure ?_)
  dsimp only
  refine wpAny_bind (wpAny_holding (wp_target P ?_))
  rw [if_neg (by simp)]
  refine wpAny_bind (wpAny_newList ?_ (by simp))
  refine wpAny_pure ⟨plainId_quiet plain_loop _, ?_⟩
  have hL : s.heap.get? s.heap.objs.size = none := by
    cases e : s.heap.get? s.heap.objs.size with
    | none => rfl
    | some o => exact (Nat.lt_irrefl _ (Heap.lt_size e)).elim
  exact loop_ok (s0 := s) F hr hL (x.cps.size + 1) 0 [] 0 0 _ P (Ext.push s _ s.toks) (Nat.zero_le _) (by omega) (Heap.get?_push_size _ rfl) (by simp [texts]; omega) hx fun s' y t X e => q s' y t X (by simpa [texts] using e)

theorem method_sub {A : Around} {E : Value → Shared → Prop} {code : List Nat} {pa : Addr} {r : List Nat} {s : Shared} {pos : Pos} {find : Array Nat → Nat → Option (Nat × Nat)} {ta tb : Sem Value} {Q : Value → Shared → Prop}
    (F : ∀ text : Array Nat, text.size ≤ 300000 → Finds code text (find text)) (hr : r.length = 2) (h92 : 92 ∉ r) (P : Pat s.heap pa code)
    (h : wpAny (model prog w) A ta (fun va s1 => wpAny (model prog w) A tb (fun vb s2 => ∃ ru x u, va = .str (stOf r) ru ∧ vb = .str (stOf x) u ∧ x.length ≤ 300000 ∧ Ext s s2 ∧
      ∀ s' t, Ext s2 s' → Q (.str (stOf (subG (find x.toArray) x.toArray r (x.length + 1) 0)) t) s') E s1) E s) :
    MethodOn prog w A "sub" pos (.ref pa) [(false, ta), (false, tb)] Q E s := by
  obtain ⟨fs, T, ws, n, h1, h2, h3, h4, h5, h6⟩ := P.ex
  refine ⟨"re.Pattern", _, plainAttrs_pat, slot_sub, type_sub, ⟨_, h1, rfl⟩, fun a e => by cases e; exact ⟨_, h1, rfl⟩, ?_⟩
  refine method2_meetsIn slot_sub entry_sub (wpAny_mono h (fun va s1 h' => wpAny_mono h' (fun vb s2 ⟨ru, x, u, e1, e2, hx, X, q⟩ => ?_) fun _ _ e => e) fun _ _ e => e)
  subst e1 e2
  refine ⟨⟨_, X.keeps _ _ h1, rfl⟩, args_sub _ _ _, fun A R s => s = s2 ∧ ∀ s' t, Ext s2 s' → R (.ok (.ret (.str (stOf (subG (find x.toArray) x.toArray r (x.length + 1) 0)) t))) s', ?_, rfl, q⟩
  rintro A R _ ⟨rfl, q⟩
  refine sub_meets (x := stOf x) (r := stOf r) (F _ (by simpa using hx)) (by simpa using hr) (by cases e : (stOf r).cps.contains 92 with | false => rfl | true => exact absurd (by simpa using e) h92) (P.keeps X.keeps) (by simpa using hx) fun s' y t X' e => ?_
  have : y = stOf (subG (find x.toArray) x.toArray r (x.length + 1) 0) := by
    obtain ⟨y⟩ := y
    have e : y.toList = subG (find x.toArray) x.toArray r (x.length + 1) 0 := e
    rw [← e]
  rw [this]; exact q s' t X'

/-! what the two patterns find -/
noncomputable def find1 (text : Array Nat) (d : Nat) : Option (Nat × Nat) := (next1 text (text.size - d) d).map fun p => (p, p + 1)
noncomputable def find2 (text : Array Nat) (d : Nat) : Option (Nat × Nat) := (next2 text (text.size - d) d).map fun p => (p, p + end2 text p)
theorem next1_some {text : Array Nat} : ∀ {n s p}, next1 text n s = some p → s ≤ p ∧ p < s + n
  | 0, s, p, h => by cases h
  | n + 1, s, p, h => by
    unfold next1 at h
    split at h
    · cases h; exact ⟨Nat.le_refl _, by omega⟩
    · have := next1_some h; exact ⟨by omega, by omega⟩
theorem finds1 (text : Array Nat) (hz : text.size ≤ 300000) : Finds code1 text (find1 text) where
  go d hd := by
    obtain ⟨m', g, h⟩ := found1 text d hd
    refine ⟨_, m', ?_, g, ?_⟩
    · omega
    · unfold find1
      cases e : next1 text (text.size - d) d with
      | none => rw [e] at h; exact h
      | some p => rw [e] at h; exact h
  lt d p e h := by
    unfold find1 at h
    cases e1 : next1 text (text.size - d) d with
    | none => rw [e1] at h; cases h
    | some p' => rw [e1] at h; cases h; have := next1_some e1; omega
theorem finds2 (text : Array Nat) : Finds code2 text (find2 text) where
  go d hd := by
    obtain ⟨m', g, h⟩ := found2 text d hd
    refine ⟨_, m', ?_, g, ?_⟩
    · omega
    · unfold find2
      cases e : next2 text (text.size - d) d with
      | none => rw [e] at h; exact h
      | some p => rw [e] at h; exact h
  lt d p e h := by
    unfold find2 at h
    cases e1 : next2 text (text.size - d) d with
    | none => rw [e1] at h; cases h
    | some p' =>
      rw [e1] at h; cases h
      have := next2_some e1
      unfold end2
      split <;> omega
end Mine.Rx
end

section
open PySem
set_option linter.unusedVariables false
set_option maxRecDepth 100000
namespace Mine.Rx

noncomputable def norm2 : List Nat → List Nat
  | [] => []
  | 13 :: 10 :: t => 13 :: 10 :: norm2 t
  | c :: t => (if c = 13 ∨ c = 10 then [13, 10] else [c]) ++ norm2 t
theorem norm2_cons (c : Nat) (t : List Nat) (h : ¬ (c = 13 ∧ t.head? = some 10)) : norm2 (c :: t) = (if c = 13 ∨ c = 10 then [13, 10] else [c]) ++ norm2 t := by
  cases t with
  | nil => simp [norm2]
  | cons d t =>
    rw [norm2.eq_3]
    intro t' e1 e2
    cases e2
    exact h ⟨e1, rfl⟩
noncomputable def dotL : Bool → List Nat → List Nat
  | _, [] => []
  | b, c :: t => (if b = true ∧ c = 46 then [46, 46] else [c]) ++ dotL (c == 10) t
noncomputable def quoteL (x : List Nat) : List Nat := dotL true (norm2 x)

theorem drop_cons (text : Array Nat) (s : Nat) (h : s < text.size) : text.toList.drop s = text.getD s 0 :: text.toList.drop (s + 1) := by
  have e : text.getD s 0 = text.toList[s] := by simp [Array.getD, h]
  rw [e]
  exact (List.drop_eq_getElem_cons (by simpa using h))
theorem ext_toList (text : Array Nat) (s p : Nat) : (text.extract s p).toList = (text.toList.drop s).take (p - s) := by
  simp [Array.toList_extract, List.extract]

theorem norm2_run (text : Array Nat) : ∀ (k s : Nat), s + k = text.size →
    match next2 text k s with
    | some p => norm2 (text.toList.drop s) = (text.extract s p).toList ++ norm2 (text.toList.drop p)
    | none => norm2 (text.toList.drop s) = (text.extract s text.size).toList
  | 0, s, h => by
    show norm2 _ = _
    rw [ext_toList, List.drop_eq_nil_of_le (by simp; omega)]; simp [norm2]
  | k + 1, s, h => by
    unfold next2
    split
    · rename_i p e
      split at e
      · cases e; simp
      · rename_i c
        have ih := norm2_run text k (s + 1) (by omega)
        rw [e] at ih
        have := next2_some e
        dsimp only at ih
        rw [drop_cons text s (by omega), norm2_cons _ _ (by omega), if_neg (by omega), ih, ext_toList, ext_toList, drop_cons text s (by omega), show p - s = (p - (s + 1)) + 1 by omega]
        simp
    · rename_i e
      split at e
      · cases e
      · rename_i c
        have ih := norm2_run text k (s + 1) (by omega)
        rw [e] at ih
        dsimp only at ih
        rw [drop_cons text s (by omega), norm2_cons _ _ (by omega), if_neg (by omega), ih, ext_toList, ext_toList, drop_cons text s (by omega), show text.size - s = (text.size - (s + 1)) + 1 by omega]
        simp
theorem sub2_eq (text : Array Nat) : ∀ (n d : Nat), text.size - d < n → d ≤ text.size → subG (find2 text) text [13, 10] n d = norm2 (text.toList.drop d)
  | 0, d, h, _ => by omega
  | n + 1, d, h, hd => by
    have r := norm2_run text (text.size - d) d (by omega)
    have hf : find2 text d = (next2 text (text.size - d) d).map fun p => (p, p + end2 text p) := rfl
    unfold subG
    rw [hf]
    cases e : next2 text (text.size - d) d with
    | none => rw [e] at r; simp only [Option.map_none]; exact r.symm
    | some p =>
      rw [e] at r
      dsimp only at r
      simp only [Option.map_some]
      have hp := next2_some e
      have e2 : p + end2 text p ≤ text.size ∧ 1 ≤ end2 text p := by unfold end2; split <;> omega
      rw [sub2_eq text n (p + end2 text p) (by omega) e2.1, r, List.append_assoc]
      congr 1
      rw [drop_cons text p (by omega)]
      unfold end2
      split
      · rename_i c
        rw [c.1, drop_cons text (p + 1) c.2.1, c.2.2]
        rfl
      · rename_i c
        rw [norm2_cons, if_pos (by omega)]
        rintro ⟨h1, h2⟩
        refine c ⟨h1, ?_⟩
        by_cases hl : p + 1 < text.size
        · rw [drop_cons text (p + 1) hl] at h2
          simp at h2
          exact ⟨hl, by simpa using h2⟩
        · rw [List.drop_eq_nil_of_le (by simp; omega)] at h2; cases h2
theorem sub2_ok (x : List Nat) : subG (find2 x.toArray) x.toArray [13, 10] (x.length + 1) 0 = norm2 x := by
  rw [sub2_eq _ _ _ (by simp) (Nat.zero_le _)]; simp

theorem at1_succ (text : Array Nat) (s : Nat) : at1 text (s + 1) = (text.getD s 0 == 10) := by simp [at1]
theorem dot_run (text : Array Nat) : ∀ (k s : Nat), s + k = text.size →
    match next1 text k s with
    | some p => dotL (at1 text s) (text.toList.drop s) = (text.extract s p).toList ++ dotL (at1 text p) (text.toList.drop p)
    | none => dotL (at1 text s) (text.toList.drop s) = (text.extract s text.size).toList
  | 0, s, h => by
    show dotL _ _ = _
    rw [ext_toList, List.drop_eq_nil_of_le (by simp; omega)]; simp [dotL]
  | k + 1, s, h => by
    unfold next1
    split
    · rename_i p e
      split at e
      · cases e; simp
      · rename_i c
        have ih := dot_run text k (s + 1) (by omega)
        rw [e] at ih
        have := next1_some e
        dsimp only at ih
        rw [drop_cons text s (by omega), dotL, if_neg c, ← at1_succ, ih, ext_toList, ext_toList, drop_cons text s (by omega), show p - s = (p - (s + 1)) + 1 by omega]
        simp
    · rename_i e
      split at e
      · cases e
      · rename_i c
        have ih := dot_run text k (s + 1) (by omega)
        rw [e] at ih
        dsimp only at ih
        rw [drop_cons text s (by omega), dotL, if_neg c, ← at1_succ, ih, ext_toList, ext_toList, drop_cons text s (by omega), show text.size - s = (text.size - (s + 1)) + 1 by omega]
        simp
theorem next1_hit {text : Array Nat} : ∀ {n s p}, next1 text n s = some p → at1 text p = true ∧ text.getD p 0 = 46
  | 0, s, p, h => by cases h
  | n + 1, s, p, h => by
    unfold next1 at h
    split at h
    · rename_i c; cases h; exact c
    · exact next1_hit h
theorem sub1_eq (text : Array Nat) : ∀ (n d : Nat), text.size - d < n → d ≤ text.size → subG (find1 text) text [46, 46] n d = dotL (at1 text d) (text.toList.drop d)
  | 0, d, h, _ => by omega
  | n + 1, d, h, hd => by
    have r := dot_run text (text.size - d) d (by omega)
    have hf : find1 text d = (next1 text (text.size - d) d).map fun p => (p, p + 1) := rfl
    unfold subG
    rw [hf]
    cases e : next1 text (text.size - d) d with
    | none => rw [e] at r; simp only [Option.map_none]; exact r.symm
    | some p =>
      rw [e] at r
      dsimp only at r
      simp only [Option.map_some]
      have hp := next1_some e
      have hh := next1_hit e
      rw [sub1_eq text n (p + 1) (by omega) (by omega), r, List.append_assoc]
      congr 1
      rw [drop_cons text p (by omega), dotL, if_pos hh, at1_succ]
theorem sub1_ok (x : List Nat) : subG (find1 x.toArray) x.toArray [46, 46] (x.length + 1) 0 = dotL true x := by
  rw [sub1_eq _ _ _ (by simp) (Nat.zero_le _)]; simp [at1]
theorem norm2_len : ∀ x : List Nat, (norm2 x).length ≤ 2 * x.length
  | [] => by simp [norm2]
  | c :: t => by
    by_cases h : c = 13 ∧ t.head? = some 10
    · obtain ⟨rfl, h⟩ := h
      cases t with
      | nil => cases h
      | cons d t =>
        simp at h; subst h
        have := norm2_len t
        simp [norm2]; omega
    · rw [norm2_cons c t h]
      have := norm2_len t
      split <;> simp <;> omega
theorem dotL_len : ∀ (b : Bool) (x : List Nat), (dotL b x).length ≤ 2 * x.length
  | _, [] => by simp [dotL]
  | b, c :: t => by
    have := dotL_len (c == 10) t
    unfold dotL
    split <;> simp <;> omega
end Mine.Rx
end

section
open PySem
set_option linter.unusedVariables false
set_option maxRecDepth 100000
namespace Mine
open PySem.Builtin.Str PySem.StrLaws

/-- the places at which y stands in the text, none within another -/
noncomputable def scan (y : List Nat) : List Nat → Nat → Nat → List Nat
  | [], _, _ => []
  | c :: t, i, free => if free ≤ i ∧ (c :: t).take y.length = y then i :: scan y t (i + 1) (i + y.length) else scan y t (i + 1) free

theorem scan_run (s y : List Nat) (hy : y ≠ []) : ∀ (k i : Nat) (acc : Array Nat) (free : Nat), i + k = s.length → acc.size ≤ i →
    (forIn (List.range' i (k + 1)) (acc, free) (occBody (stOf s) (stOf y) s.length (s.length + 1))).run.fst.toList = acc.toList ++ scan y (s.drop i) i free
  | k, i, acc, free, h, ha => by
    have e1 : subAt (stOf s) (stOf y) i = true ↔ (s.drop i).take y.length = y := by
      rw [subAt_eq]; simp [Str.length]
    have e2 : (stOf y).length = y.length := by simp [Str.length]
    have hy0 : 0 < y.length := List.length_pos_iff.mpr hy
    have e3 : (((acc.size < s.length + 1 ∧ free ≤ i) ∧ i + (stOf y).length ≤ s.length) ∧ subAt (stOf s) (stOf y) i = true) ↔ (free ≤ i ∧ (s.drop i).take y.length = y) := by
      rw [e1, e2]
      constructor
      · exact fun h => ⟨h.1.1.2, h.2⟩
      · rintro ⟨h1, h2⟩
        refine ⟨⟨⟨by omega, h1⟩, ?_⟩, h2⟩
        have := congrArg List.length h2
        rw [List.length_take, List.length_drop] at this
        omega
    rw [List.range'_succ, List.forIn_cons]
    unfold occBody
    by_cases c : free ≤ i ∧ (s.drop i).take y.length = y
    · rw [if_pos (e3.mpr c)]
      cases k with
      | zero =>
        exfalso
        have : s.drop i = [] := List.drop_eq_nil_of_le (by omega)
        rw [this] at c
        exact hy (by simpa using c.2.symm)
      | succ k =>
        obtain ⟨x, t, ed⟩ : ∃ x t, s.drop i = x :: t := by
          cases e : s.drop i with
          | nil => have := congrArg List.length e; simp at this; omega
          | cons x t => exact ⟨x, t, rfl⟩
        have et : s.drop (i + 1) = t := by rw [← List.drop_drop, ed]; rfl
        rw [ed] at c ⊢
        unfold scan
        rw [if_pos c]
        have ih := scan_run s y hy k (i + 1) (acc.push i) (i + y.length) (by omega) (by simp; omega)
        rw [et] at ih
        refine Eq.trans ih ?_
        simp
    · rw [if_neg (fun h => c (e3.mp h))]
      cases k with
      | zero =>
        have : s.drop i = [] := List.drop_eq_nil_of_le (by omega)
        rw [this]
        simp [scan]
      | succ k =>
        obtain ⟨x, t, ed⟩ : ∃ x t, s.drop i = x :: t := by
          cases e : s.drop i with
          | nil => have := congrArg List.length e; simp at this; omega
          | cons x t => exact ⟨x, t, rfl⟩
        have et : s.drop (i + 1) = t := by rw [← List.drop_drop, ed]; rfl
        rw [ed] at c ⊢
        unfold scan
        rw [if_neg c]
        have ih := scan_run s y hy k (i + 1) acc free (by omega) (by omega)
        rw [et] at ih
        exact ih
theorem occ_scan (s y : List Nat) (hy : y ≠ []) : occurrences (stOf s) (stOf y) 0 (stOf s).length ((stOf s).length + 1) = scan y s 0 0 := by
  have e : (stOf s).length = s.length := by simp [Str.length]
  rw [e, occ_eq]
  have := scan_run s y hy s.length 0 #[] 0 (by omega) (by simp)
  simpa using this

theorem scan_one (c : Nat) : ∀ (s : List Nat) (i free : Nat), free ≤ i → (scan [c] s i free).length = s.count c
  | [], _, _, _ => rfl
  | x :: t, i, free, h => by
    unfold scan
    have : (x :: t).take [c].length = [x] := rfl
    rw [this]
    by_cases e : x = c
    · subst e
      rw [if_pos ⟨h, rfl⟩, List.length_cons, scan_one x t (i + 1) _ (by simp)]
      simp
    · rw [if_neg (fun h => e (by simpa using h.2)), scan_one c t (i + 1) _ (by omega), List.count_cons_of_ne e]
theorem count_one (s : List Nat) (c : Nat) : countL s [c] = (s.count c : Nat) := by
  unfold countL Txt.count
  rw [occ_scan s [c] (by simp), scan_one c s 0 0 (Nat.le_refl _)]

noncomputable def partsL (s : List Nat) (w : Nat) : Nat → List Nat → List (List Nat)
  | a, [] => [s.drop a]
  | a, c :: r => (s.drop a).take (c - a) :: partsL s w (c + w) r
theorem parts_eq (s : List Nat) (w : Nat) : ∀ (cuts : List Nat) (a : Nat), (partsFrom (stOf s) w a cuts).map (·.cps.toList) = partsL s w a cuts
  | [], a => by
    simp only [partsFrom, partsL, List.map_cons, List.map_nil, strSub_toList]
    rw [List.take_of_length_le (by simp [Str.length])]
  | c :: r, a => by
    simp only [partsFrom, partsL, List.map_cons, strSub_toList]
    rw [parts_eq s w r (c + w)]

noncomputable def glueHead (a : List Nat) : List (List Nat) → List (List Nat)
  | [] => [a]
  | p :: ps => (a ++ p) :: ps
/-- a text parted at each return and feed -/
noncomputable def spl : List Nat → List (List Nat)
  | [] => [[]]
  | 13 :: 10 :: t => [] :: spl t
  | c :: t => glueHead [c] (spl t)
theorem spl_cons (c : Nat) (t : List Nat) (h : ¬ (c = 13 ∧ t.head? = some 10)) : spl (c :: t) = glueHead [c] (spl t) := by
  cases t with
  | nil => simp [spl]
  | cons d t =>
    rw [spl.eq_3]
    intro t' e1 e2
    cases e2
    exact h ⟨e1, rfl⟩
theorem glue_glue (a b : List Nat) (l : List (List Nat)) : glueHead a (glueHead b l) = glueHead (a ++ b) l := by
  cases l <;> simp [glueHead]
theorem spl_ne (t : List Nat) : spl t ≠ [] := by
  unfold spl
  split
  · simp
  · simp
  · cases spl _ <;> simp [glueHead]
theorem split_run (s : List Nat) : ∀ (n i a : Nat), s.length - i < n → i ≤ s.length → a ≤ i → partsL s 2 a (scan [13, 10] (s.drop i) i i) = glueHead ((s.drop a).take (i - a)) (spl (s.drop i))
  | 0, i, a, h, _, _ => by omega
  | n + 1, i, a, h, hi, ha => by
    have key : (s.drop a).take (i - a) ++ s.drop i = s.drop a := by
      have : s.drop i = (s.drop a).drop (i - a) := by rw [List.drop_drop]; congr 1; omega
      rw [this, List.take_append_drop]
    cases ed : s.drop i with
    | nil =>
      rw [ed, List.append_nil] at key
      simp only [scan, partsL, spl, glueHead]
      rw [key, List.append_nil]
    | cons x t =>
      have hl : i < s.length := by have := congrArg List.length ed; simp at this; omega
      have et : s.drop (i + 1) = t := by rw [← List.drop_drop, ed]; rfl
      unfold scan
      by_cases c : i ≤ i ∧ (x :: t).take [13, 10].length = [13, 10]
      · rw [if_pos c]
        cases t with
        | nil => simp at c
        | cons y t' =>
          have c2 : x = 13 ∧ y = 10 := by simpa using c.2
          obtain ⟨rfl, rfl⟩ := c2
          have et2 : s.drop (i + 2) = t' := by rw [show i + 2 = (i + 1) + 1 by omega, ← List.drop_drop, et]; rfl
          have hl2 : i + 2 ≤ s.length := by
            have := congrArg List.length et; simp at this; omega
          have sk : scan [13, 10] (10 :: t') (i + 1) (i + [13, 10].length) = scan [13, 10] t' (i + 2) (i + 2) := by
            rw [scan, if_neg (by simp)]; rfl
          rw [sk]
          simp only [partsL]
          have ih := split_run s n (i + 2) (i + 2) (by omega) hl2 (Nat.le_refl _)
          rw [et2] at ih
          rw [ih, Nat.sub_self, List.take_zero]
          simp only [spl, glueHead, List.append_nil]
          cases e : spl t' with
          | nil => exact absurd e (spl_ne _)
          | cons p ps => simp
      · rw [if_neg c]
        have sc : ∀ (l : List Nat) (j : Nat), scan [13, 10] l (j + 1) j = scan [13, 10] l (j + 1) (j + 1) := by
          intro l j
          cases l with
          | nil => rfl
          | cons z l =>
            unfold scan
            by_cases q : (z :: l).take [13, 10].length = [13, 10]
            · rw [if_pos ⟨by omega, q⟩, if_pos ⟨by omega, q⟩]
            · rw [if_neg (fun h => q h.2), if_neg (fun h => q h.2)]
              -- the bound matters no more
              have mono : ∀ (l : List Nat) (j f g : Nat), f ≤ j → g ≤ j → scan [13, 10] l j f = scan [13, 10] l j g := by
                intro l
                induction l with
                | nil => intros; rfl
                | cons z l ih =>
                  intro j f g hf hg
                  unfold scan
                  by_cases q : (z :: l).take [13, 10].length = [13, 10]
                  · rw [if_pos ⟨hf, q⟩, if_pos ⟨hg, q⟩]
                  · rw [if_neg (fun h => q h.2), if_neg (fun h => q h.2)]
                    exact ih _ _ _ (by omega) (by omega)
              exact mono l (j + 1 + 1) j (j + 1) (by omega) (by omega)
        rw [sc t i]
        have ih := split_run s n (i + 1) a (by omega) (by omega) (by omega)
        rw [et] at ih
        rw [ih, spl_cons x t (by
          rintro ⟨rfl, h2⟩
          cases t with
          | nil => cases h2
          | cons y t => simp at h2; subst h2; exact c ⟨Nat.le_refl _, rfl⟩), glue_glue]
        congr 1
        have : (s.drop a).take (i + 1 - a) = (s.drop a).take (i - a) ++ [x] := by
          rw [show i + 1 - a = (i - a) + 1 by omega, List.take_add_one]
          congr 1
          rw [List.getElem?_drop, show a + (i - a) = i by omega]
          have : (s.drop i)[0]? = some x := by rw [ed]; rfl
          rw [List.getElem?_drop] at this
          simp at this
          rw [this]; rfl
        rw [this]
theorem split_crlf (s : List Nat) : splitL s [13, 10] = spl s := by
  unfold splitL Txt.split
  have occ := occ_scan s [13, 10] (by simp)
  have main := split_run s (s.length + 1) 0 0 (by omega) (Nat.zero_le _) (Nat.le_refl _)
  simp only [List.drop_zero, Nat.sub_zero, List.take_zero] at main
  have g0 : glueHead [] (spl s) = spl s := by
    cases e : spl s with
    | nil => exact absurd e (spl_ne _)
    | cons p ps => simp [glueHead]
  rw [g0] at main
  have full : partsL s 2 0 (scan [13, 10] s 0 0) = ((partsBetween (stOf s) (occurrences (stOf s) (stOf [13, 10]) 0 (stOf s).length ((stOf s).length + 1)) (stOf [13, 10]).length).map (·.cps.toList)) := by
    rw [partsBetween_eq, occ, parts_eq]; rfl
  have one : scan [13, 10] s 0 0 = [] → [stOf s].map (·.cps.toList) = spl s := fun e => by
    rw [← main, e]; simp [partsL]
  split
  · rename_i h
    apply one
    simp only [Bool.or_eq_true, decide_eq_true_eq] at h
    rcases h with h | h
    · have : s.length < 2 := by simpa [Str.length] using h
      match s, this with
      | [], _ => rfl
      | [x], _ => simp [scan]
    · exfalso
      have : Builtin.Str.strKind (stOf [13, 10]) = 1 := by simp [Builtin.Str.strKind]
      rw [this] at h
      unfold Builtin.Str.strKind at h
      split at h <;> (try split at h) <;> omega
  · split
    · rename_i h
      apply one
      rw [← occ]
      exact List.isEmpty_iff.mp h
    · rw [← full, main]
end Mine
end

section
open PySem PySem.Calls PyProof.Rows
set_option linter.unusedVariables false
set_option genSizeOf false
set_option genSizeOfSpec false
set_option genInjectivity false
namespace Mine

/-! the small language of expressions -/
mutual
inductive E where
  | lit (v : V)
  | var (i : Nat)
  | bin (op : Operator) (a b : E)
  | neg (a : E)
  | notE (a : E)
  | cmp (op : CmpOp) (a b : E)
  | bop (op : BoolOp) (a b : E)
  | ife (t a b : E)
  | idx (a i : E)
  | sl (a lo hi : E)
  | list (es : Es)
  | tup (es : Es)
  | call (f : Nat) (es : Es)
  | bi (b : Bi) (es : Es)
  | me0 (m : Me) (o : E)
  | me1 (m : Me) (o a : E)
  | sub (f : Nat) (a b : E)
inductive Es where
  | nil
  | cons (e : E) (es : Es)
end

abbrev Spec := List V → (V → Prop) → Prop
structure Fenv where
  con : List (Str × V)
  fns : List (Str × Spec)
  bis : List Bi
  subs : List (Str × List Nat × (List Nat → List Nat))

noncomputable def allZ : List (V × Nat) → Prop
  | [] => True
  | (_, d) :: r => d = 0 ∧ allZ r
noncomputable def specAt (F : Fenv) (i : Nat) (as : List V) (Q : V → Prop) : Prop := match F.fns[i]? with
  | some (_, sp) => sp as Q
  | none => False

noncomputable def subW (F : Fenv) (f : Nat) (x y : V) (Q : V → Nat → Prop) : Prop := match F.subs[f]?, x, y with
  | some (_, r, g), .str r', .str y => r' = r ∧ y.length ≤ 300000 ∧ (g y).length ≤ 1000000 ∧ Q (.str (g y)) 0
  | _, _, _ => False

abbrev VP := (V → Nat → Prop) → Prop
abbrev BP := (Bool → Prop) → Prop
noncomputable def bGo : BoolOp → Bool
  | .And => true
  | .Or => false
noncomputable def ofV (f : VP) : VP × BP := (f, fun Q => f fun t _ => truthW t Q)

mutual
noncomputable def sem (F : Fenv) (r : Rv) : E → VP × BP
  | .lit v => ofV fun Q => Q v 0
  | .var i => ofV fun Q => match r.lookup i with | some (t, d) => Q t d | none => False
  | .bin op a b => ofV fun Q => (sem F r a).1 fun x dx => (sem F r b).1 fun y dy => binW op x dx y dy Q
  | .neg a => ofV fun Q => (sem F r a).1 fun x _ => match x with | .int i => Q (.int (-i)) 0 | _ => False
  | .notE a => (fun Q => (sem F r a).1 fun x _ => truthW x fun b => Q (.bool (!b)) 0, fun Q => (sem F r a).2 fun b => Q (!b))
  | .cmp op a b => ofV fun Q => (sem F r a).1 fun x _ => (sem F r b).1 fun y _ => cmpW op x y Q
  | .bop op a b => (fun Q => (sem F r a).1 fun x d => truthW x fun c => if c = bGo op then (sem F r b).1 Q else Q x d,
      fun Q => (sem F r a).2 fun c => if c = bGo op then (sem F r b).2 Q else Q c)
  | .ife t a b => (fun Q => (sem F r t).2 fun c => if c = true then (sem F r a).1 Q else (sem F r b).1 Q,
      fun Q => (sem F r t).2 fun c => if c = true then (sem F r a).2 Q else (sem F r b).2 Q)
  | .idx a i => ofV fun Q => (sem F r a).1 fun x d => (sem F r i).1 fun y _ => idxW x d y Q
  | .sl a lo hi => ofV fun Q => (sem F r a).1 fun x d => (sem F r lo).1 fun l _ => (sem F r hi).1 fun h _ => slW x d l h Q
  | .list es => ofV fun Q => sems F r es fun as => allZ as ∧ as.length ≤ 10000 ∧ Q (.list (as.map (·.1))) 0
  | .tup es => ofV fun Q => sems F r es fun as => allZ as ∧ as.length ≤ 10000 ∧ Q (.tup (as.map (·.1))) 0
  | .call f es => ofV fun Q => sems F r es fun as => allZ as ∧ specAt F f (as.map (·.1)) fun t => Q t 0
  | .bi b es => ofV fun Q => sems F r es fun as => biW b as Q
  | .me0 m o => ofV fun Q => (sem F r o).1 fun x d => me0W m x d Q
  | .me1 m o a => ofV fun Q => (sem F r o).1 fun x d => meOk m x = true ∧ (sem F r a).1 fun y dy => me1W m x d y dy Q
  | .sub f a b => ofV fun Q => (sem F r a).1 fun x _ => (sem F r b).1 fun y _ => subW F f x y Q
noncomputable def sems (F : Fenv) (r : Rv) : Es → (List (V × Nat) → Prop) → Prop
  | .nil => fun Q => Q []
  | .cons e es => fun Q => (sem F r e).1 fun t d => sems F r es fun as => Q ((t, d) :: as)
end
noncomputable def evW (F : Fenv) (r : Rv) (e : E) : VP := (sem F r e).1
noncomputable def tsW (F : Fenv) (r : Rv) (e : E) : BP := (sem F r e).2

/-! translation -/
noncomputable def toEs : List E → Es
  | [] => .nil
  | e :: es => .cons e (toEs es)
noncomputable def boolE (op : BoolOp) : List E → Option E
  | [] => none
  | [e] => some e
  | e :: es => (boolE op es).map (.bop op e)
noncomputable def nameE (F : Fenv) (sc : Scope) (names : List Str) (x : Str) : Option E :=
  if (x == ("__debug__" : Str)) || (x == ("__classdict__" : Str)) then none else
  match names.findIdx? (· == x) with
  | some i => if varKind (sc.names.lookup x) then some (.var i) else none
  | none => if sc.names.lookup x == some .globalImplicit then (F.con.lookup x).map .lit else none
noncomputable def isSlice : Expr → Bool
  | .Slice .. => true
  | _ => false
noncomputable def noSuper : Expr → Bool
  | .Call (.Name ..) [] [] _ => false
  | _ => true
noncomputable def trOpt (t : Expr → Option E) : Option Expr → Option E
  | none => some (.lit .none)
  | some e => t e
noncomputable def meOf (m : Str) : Option Me := [Me.lower, .upper, .split, .count].find? fun x => x.name == m
noncomputable def callE (F : Fenv) (sc : Scope) (names : List Str) (x : Str) (es : List E) : Option E :=
  if (x == ("__debug__" : Str)) then none else
  if names.contains x then none else
  if sc.names.lookup x == some .globalImplicit then
    match F.fns.findIdx? (·.1 == x) with
    | some i => if es.isEmpty then none else some (.call i (toEs es))
    | none => match F.bis.find? (·.name == x) with
      | some b => if es.isEmpty then none else some (.bi b (toEs es))
      | none => none
  else none

noncomputable def subE (F : Fenv) (sc : Scope) (names : List Str) (x : Str) (a b : E) : Option E :=
  if (x == ("__debug__" : Str)) then none else
  if names.contains x then none else
  if sc.names.lookup x == some .globalImplicit then
    match F.subs.findIdx? (·.1 == x) with
    | some i => some (.sub i a b)
    | none => none
  else none

noncomputable def one? {α : Type} : List α → Option α
  | [] => none
  | a :: l => if l.isEmpty then some a else none
theorem one_eq {α : Type} {l : List α} {a : α} (h : one? l = some a) : l = [a] := by
  cases l with
  | nil => cases h
  | cons b l => cases l with
    | nil => cases h; rfl
    | cons c l => cases h
noncomputable def nameV (e : Expr) : Option {q : Str × Pos // e = .Name q.1 q.2} := match e with
  | .Name x p => some ⟨(x, p), rfl⟩
  | _ => none
noncomputable def attrV (e : Expr) : Option {q : Expr × Str × Pos // e = .Attribute q.1 q.2.1 q.2.2} := match e with
  | .Attribute o m p => some ⟨(o, m, p), rfl⟩
  | _ => none
noncomputable def subV (e : Expr) : Option {q : Expr × Expr × Pos // e = .Subscript q.1 q.2.1 q.2.2} := match e with
  | .Subscript v i p => some ⟨(v, i, p), rfl⟩
  | _ => none
noncomputable def tupV (e : Expr) : Option {q : List Expr × Nat × Pos // e = .Tuple q.1 q.2.1 q.2.2} := match e with
  | .Tuple es k p => some ⟨(es, k, p), rfl⟩
  | _ => none
noncomputable def callV (e : Expr) : Option {q : Expr × List Expr × List Keyword × Pos // e = .Call q.1 q.2.1 q.2.2.1 q.2.2.2} := match e with
  | .Call f as kws p => some ⟨(f, as, kws, p), rfl⟩
  | _ => none
noncomputable def listV (e : Expr) : Option {q : List Expr × Pos // e = .List q.1 q.2} := match e with
  | .List es p => some ⟨(es, p), rfl⟩
  | _ => none
noncomputable def sliceV (e : Expr) : Option {q : (Option Expr × Option Expr × Option Expr) × Pos // e = .Slice q.1.1 q.1.2.1 q.1.2.2 q.2} := match e with
  | .Slice a b c p => some ⟨((a, b, c), p), rfl⟩
  | _ => none
noncomputable def trConst : Const → Option E
  | .none => some (.lit .none)
  | .bool b => some (.lit (.bool b))
  | .int i => some (.lit (.int i))
  | .str s => if s.cps.size ≤ 10000 then some (.lit (.str s.cps.toList)) else none
  | _ => none
noncomputable def trUn (op : UnaryOp) (x : Option E) : Option E := match op with
  | .USub => x.map .neg
  | .Not => x.map .notE
  | _ => none
noncomputable def trMe (F : Fenv) (sc : Scope) (names : List Str) (t : Expr → Option E) (o : Expr) (m : Str) : List Expr → Option E
  | [] => if noSuper o then (meOf m).bind fun x => (t o).map (.me0 x) else none
  | a :: l => match l with
    | [] => if noSuper o then (meOf m).bind fun x => (t o).bind fun o' => (t a).map (.me1 x o') else none
    | b :: l => if l.isEmpty && m == ("sub" : Str) then (nameV o).bind fun x => (t a).bind fun a' => (t b).bind fun b' => subE F sc names x.1.1 a' b' else none
noncomputable def tr (F : Fenv) (sc : Scope) (names : List Str) : Nat → Expr → Option E
  | 0, _ => none
  | n + 1, e => match e with
    | .Constant c _ _ => trConst c
    | .Name x _ => nameE F sc names x
    | .BinOp l op r _ => (tr F sc names n l).bind fun a => (tr F sc names n r).map fun b => .bin op a b
    | .UnaryOp op x _ => trUn op (tr F sc names n x)
    | .Compare l ops rs _ => (one? ops).bind fun op => (one? rs).bind fun r => if behindInMarks op r then none else (tr F sc names n l).bind fun a => (tr F sc names n r).map fun b => .cmp op a b
    | .BoolOp op vs _ => if vs.length < 2 then none else (vs.mapM (tr F sc names n)).bind (boolE op)
    | .IfExp t a b _ => (tr F sc names n t).bind fun t => (tr F sc names n a).bind fun a => (tr F sc names n b).map fun b => .ife t a b
    | .Subscript v i _ => match sliceV i with
      | some q => if q.1.1.2.2.isSome then none else (tr F sc names n v).bind fun a => (trOpt (tr F sc names n) q.1.1.1).bind fun l => (trOpt (tr F sc names n) q.1.1.2.1).map fun u => .sl a l u
      | none => if isSlice i then none else (tr F sc names n v).bind fun a => (tr F sc names n i).map fun b => .idx a b
    | .List es _ => (es.mapM (tr F sc names n)).map fun es => .list (toEs es)
    | .Tuple es _ _ => (es.mapM (tr F sc names n)).map fun es => .tup (toEs es)
    | .Call f as kws pos => if kws.isEmpty then (match nameV f with
        | some x => (as.mapM (tr F sc names n)).bind (callE F sc names x.1.1)
        | none => (attrV f).bind fun p => if p.1.2.2.endLine == pos.line then trMe F sc names (tr F sc names n) p.1.1 p.1.2.1 as else none) else none
    | _ => none

/-! soundness -/
noncomputable def FnOk (T : GT) (k : Nat) (f : Value) (sp : Spec) : Prop :=
  ∀ A s bad vs ts Q, AOk k A → Keeps T.h0 s.heap → (∀ a, bad a → Alive s.heap a ∧ T.h0.get? a = none) → Reps T.prog T.w (Gb s.heap bad) vs ts → sp ts Q →
    wpAny (model T.prog T.w) A (call f vs) (fun v s' => Ext s s' ∧ ∃ t, Q t ∧ Rep T.prog T.w (Gb s'.heap bad) v t) No s

noncomputable def SubOk (T : GT) (pa : Addr) (r : List Nat) (g : List Nat → List Nat) : Prop :=
  ∀ (A : Around) (s : Shared) (pos : Pos) (ta tb : Sem Value) (Q : Value → Shared → Prop), Keeps T.h0 s.heap →
    wpAny (model T.prog T.w) A ta (fun va s1 => wpAny (model T.prog T.w) A tb (fun vb s2 => ∃ ru x u, va = .str (stOf r) ru ∧ vb = .str (stOf x) u ∧ x.length ≤ 300000 ∧ Ext s s2 ∧ ∀ s' t, Ext s2 s' → Q (.str (stOf (g x)) t) s') No s1) No s →
    MethodOnS T.prog T.w A No "sub" (.ref pa) pos [(false, ta), (false, tb)] Q s

structure FOk (T : GT) (k : Nat) (F : Fenv) : Prop where
  con : ∀ x t, F.con.lookup x = some t → ∃ v, T.mg x = some v ∧ Rep T.prog T.w (fun a o => T.h0.get? a = some o) v t
  fns : ∀ (i : Nat) x sp, F.fns[i]? = some (x, sp) → ∃ a o fd, T.mg x = some (.ref a) ∧ T.h0.get? a = some o ∧ o.data = .func fd ∧ FnOk T k (.ref a) sp
  bis : ∀ b, b ∈ F.bis → T.mg b.name = none ∧ T.mb b.name = some b.val
  subs : ∀ (i : Nat) x r g, F.subs[i]? = some (x, r, g) → ∃ pa, T.mg x = some (.ref pa) ∧ SubOk T pa r g

section
variable {T : GT} {k : Nat} {sc : Scope} {names : List Str} {r : Rv} {F : Fenv} {Q : V → Nat → Prop} {QB : Bool → Prop}

theorem RepD.keep {bad bc : Addr → Prop} {s s' : Shared} {d v t} (h : RepD T.prog T.w (Gb s.heap bad) (Gb s.heap bc) d v t) (x : Ext s s') : RepD T.prog T.w (Gb s'.heap bad) (Gb s'.heap bc) d v t :=
  h.mono (Gb.keeps x.keeps) (Gb.keeps x.keeps)

theorem wpAny_loadName_env {env : Env} {bad bc : Addr → Prop} {s : Shared} {A : Around} {E : Value → Shared → Prop} {m cm : Str → Option Value} {x : Str} {v : Value} {Q : Value → Shared → Prop} (R : Rd T env sc names r bad bc s)
    (F : Frm env s.heap m cm) (hv : valAt env m cm x = some v) (hx : (x == ("__classdict__" : Str)) = false) (h : Q v s) : wpAny (model T.prog T.w) A (loadName env x) Q E s := by
  unfold valAt at hv
  split at hv
  · rename_i hk; exact wpAny_loadName_local R.kind hk F.ns hv h
  · rename_i hk
    split at hv
    · rename_i hc
      obtain ⟨c, hc⟩ := Option.isSome_iff_exists.mp hc
      exact wpAny_loadName_cell R.kind hk hc (hv ▸ F.cell _ _ hc) h
    · cases hv
  · rename_i hk
    split at hv
    · rename_i hc
      obtain ⟨c, hc⟩ := Option.isSome_iff_exists.mp hc
      exact wpAny_loadName_free R.kind hk hc (hv ▸ F.cell _ _ hc) h hx
    · cases hv
  · cases hv

theorem EVW.var {x : Str} {p : Pos} {i : Nat} {t d} (hx : (x == ("__debug__" : Str)) = false) (hx' : (x == ("__classdict__" : Str)) = false) (hi : names[i]? = some x) (hk : varKind (sc.names.lookup x) = true)
    (hr : r.lookup i = some (t, d)) (q : Q t d) : EVW T k sc names r (.Name x p) Q := fun A env bad bc s hA R => by
  obtain ⟨m, cm, F, h⟩ := R.vals
  obtain ⟨v, hv, hr⟩ := h i t d x hr hi hk
  exact wpAny_Name (wpAny_loadName_env R F hv hx' (.mk (Ext.refl _) q hr)) hx

theorem Rd.global {env bad bc s x v} {A : Around} {E : Value → Shared → Prop} {Q : Value → Shared → Prop} (R : Rd T env sc names r bad bc s) (hg : sc.names.lookup x = some .globalImplicit) (hv : T.mg x = some v) {p : Pos}
    (hx : (x == ("__debug__" : Str)) = false) (h : Q v s) : wpAny (model T.prog T.w) A (eval (.Name x p) env) Q E s :=
  Name_function_global R.kind (R.scg x hg) (loadGlobal_global (mg := T.mg) (by rw [R.glo]; exact T.g.keeps R.base) hv h) hx
theorem Rd.builtin {env bad bc s x v} {A : Around} {E : Value → Shared → Prop} {Q : Value → Shared → Prop} (R : Rd T env sc names r bad bc s) (hg : sc.names.lookup x = some .globalImplicit) (hn : T.mg x = none) (hv : T.mb x = some v) {p : Pos}
    (hx : (x == ("__debug__" : Str)) = false) (h : Q v s) : wpAny (model T.prog T.w) A (eval (.Name x p) env) Q E s :=
  Name_function_global R.kind (R.scg x hg) (loadGlobal_builtin (mg := T.mg) (mb := T.mb) (by rw [R.glo]; exact T.g.keeps R.base) hn (by rw [R.blt]; exact T.b.keeps R.base) hv h) hx

theorem EVW.con {x : Str} {p : Pos} {t} (FO : FOk T k F) (hx : (x == ("__debug__" : Str)) = false) (hg : sc.names.lookup x = some .globalImplicit) (hc : F.con.lookup x = some t) (q : Q t 0) :
    EVW T k sc names r (.Name x p) Q := fun A env bad bc s hA R => by
  obtain ⟨v, hv, hr⟩ := FO.con x t hc
  refine R.global hg hv hx (.mk (Ext.refl _) q (hr.mono fun a o e => ⟨R.base _ _ e, fun hb => ?_⟩))
  rw [(R.badok a hb).2] at e; cases e

theorem EVW.bin {l op rr p} {e' : E} (hl : EVW T k sc names r l (fun a da => evW F r e' fun b db => binW op a da b db Q)) (hr : ∀ Q, evW F r e' Q → EVW T k sc names r rr Q) :
    EVW T k sc names r (.BinOp l op rr p) Q := fun A env bad bc s hA R =>
  wpAny_BinOp (wp_no (hl A env bad bc s hA R) fun va s1 ⟨x1, ta, da, q, r1⟩ => wp_no (hr _ q A env bad bc s1 hA (R.keep x1)) fun vb s2 ⟨x2, tb, db, q2, r2⟩ =>
    wp_no (bin_ok (r1.keep x2) r2 q2) fun v s3 h => h.trans (x1.trans x2))

theorem EVW.cmp {l op rr p} {e' : E} (hm : behindInMarks op rr = false) (hl : EVW T k sc names r l (fun a da => evW F r e' fun b db => cmpW op a b Q)) (hr : ∀ Q, evW F r e' Q → EVW T k sc names r rr Q) :
    EVW T k sc names r (.Compare l [op] [rr] p) Q := fun A env bad bc s hA R =>
  wpAny_Compare1 (wp_no (hl A env bad bc s hA R) fun va s1 ⟨x1, ta, da, q, r1⟩ => wp_no (hr _ q A env bad bc s1 hA (R.keep x1)) fun vb s2 ⟨x2, tb, db, q2, r2⟩ =>
    wp_no (cmp_ok (r1.keep x2) r2 q2) fun v s3 h => h.trans (x1.trans x2)) hm
theorem TVW.cmp {l op rr p} {e' : E} (hm : behindInMarks op rr = false) (hl : EVW T k sc names r l (fun a da => evW F r e' fun b db => cmpW op a b fun t _ => truthW t QB)) (hr : ∀ Q, evW F r e' Q → EVW T k sc names r rr Q) :
    TVW T k sc names r (.Compare l [op] [rr] p) QB := fun A env bad bc s hA R =>
  wpAny_isTrue_Compare1 (wp_no (hl A env bad bc s hA R) fun va s1 ⟨x1, ta, da, q, r1⟩ => wp_no (hr _ q A env bad bc s1 hA (R.keep x1)) fun vb s2 ⟨x2, tb, db, q2, r2⟩ =>
    wp_no (cmp_ok (r1.keep x2) r2 q2) fun v s3 ⟨x3, t, d, q3, r3⟩ => wp_no (truth_ok r3 q3) fun b s4 ⟨x4, q4⟩ => ⟨((x1.trans x2).trans x3).trans x4, q4⟩) hm

theorem EVW.neg {x p} (h : EVW T k sc names r x (fun a _ => match a with | .int i => Q (.int (-i)) 0 | _ => False)) : EVW T k sc names r (.UnaryOp .USub x p) Q := fun A env bad bc s hA R => by
  show wpAny _ A (do let v ← eval x env; standAt p; holding [v] (unaryOp .USub v)) _ _ s
  refine wpAny_bind (wp_no (h A env bad bc s hA R) fun v s1 ⟨x1, t, d, q, r1⟩ => wpAny_bind (wpAny_standAt (wpAny_holding ?_)))
  dsimp only at q
  split at q
  · obtain ⟨u, rfl⟩ := r1.int_inv
    exact P.neg_int (Is.trans x1 (Is.int q))
  · exact q.elim

theorem EVW.not {x p} (h : EVW T k sc names r x (fun a _ => truthW a fun b => Q (.bool (!b)) 0)) : EVW T k sc names r (.UnaryOp .Not x p) Q := fun A env bad bc s hA R => by
  show wpAny _ A (do let v ← eval x env; standAt p; holding [v] (unaryOp .Not v)) _ _ s
  refine wpAny_bind (wp_no (h A env bad bc s hA R) fun v s1 ⟨x1, t, d, q, r1⟩ => wpAny_bind (wpAny_standAt (wpAny_holding ?_)))
  refine not_of (wp_no (truth_ok r1 q) fun b s2 ⟨x2, q2⟩ => .mk (x1.trans x2) q2 (.bool _))
theorem TVW.not {x p} (h : TVW T k sc names r x (fun b => QB (!b))) : TVW T k sc names r (.UnaryOp .Not x p) QB := fun A env bad bc s hA R => by
  show wpAny _ A (do return !(← isTrue x env (eval x env))) _ _ s
  exact wpAny_bind (wp_no (h A env bad bc s hA R) fun b s1 ⟨x1, q⟩ => wpAny_pure ⟨x1, q⟩)

theorem EVW.ife {t a b p} {a' b' : E} (ht : TVW T k sc names r t (fun c => if c = true then evW F r a' Q else evW F r b' Q)) (ha : ∀ Q, evW F r a' Q → EVW T k sc names r a Q) (hb : ∀ Q, evW F r b' Q → EVW T k sc names r b Q) :
    EVW T k sc names r (.IfExp t a b p) Q := fun A env bad bc s hA R =>
  wpAny_IfExp (wp_no (ht A env bad bc s hA R) fun c s1 ⟨x1, q⟩ => by
    cases c with
    | true => exact wp_no (ha _ (by simpa using q) A env bad bc s1 hA (R.keep x1)) fun v s2 h => h.trans x1
    | false => exact wp_no (hb _ (by simpa using q) A env bad bc s1 hA (R.keep x1)) fun v s2 h => h.trans x1)
theorem TVW.ife {t a b p} {a' b' : E} (ht : TVW T k sc names r t (fun c => if c = true then tsW F r a' QB else tsW F r b' QB)) (ha : ∀ Q, tsW F r a' Q → TVW T k sc names r a Q) (hb : ∀ Q, tsW F r b' Q → TVW T k sc names r b Q) :
    TVW T k sc names r (.IfExp t a b p) QB := fun A env bad bc s hA R => by
  show wpAny _ A (do if ← isTrue t env (eval t env) then isTrue a env (eval a env) else isTrue b env (eval b env)) _ _ s
  refine wpAny_bind (wp_no (ht A env bad bc s hA R) fun c s1 ⟨x1, q⟩ => ?_)
  cases c with
  | true => exact wp_no (ha _ (by simpa using q) A env bad bc s1 hA (R.keep x1)) fun v s2 ⟨x2, h⟩ => ⟨x1.trans x2, h⟩
  | false => exact wp_no (hb _ (by simpa using q) A env bad bc s1 hA (R.keep x1)) fun v s2 ⟨x2, h⟩ => ⟨x1.trans x2, h⟩

/-- a test that is no word of its own -/
noncomputable def plainTest : Expr → Bool
  | .UnaryOp .Not _ _ | .BoolOp .. | .IfExp .. | .Compare .. => false
  | _ => true
theorem TVW.of {e : Expr} (hp : plainTest e = true) (h : EVW T k sc names r e (fun t _ => truthW t QB)) : TVW T k sc names r e QB := fun A env bad bc s hA R => by
  have key : wpAny (model T.prog T.w) A (do let v ← eval e env; standAt e.pos; holding [v] (truthy v)) (fun b s' => Ext s s' ∧ QB b) No s :=
    wpAny_bind (wp_no (h A env bad bc s hA R) fun v s1 ⟨x1, t, d, q, r1⟩ => wpAny_bind (wpAny_standAt (wpAny_holding (wp_no (truth_ok r1 q) fun b s2 ⟨x2, q2⟩ => ⟨x1.trans x2, q2⟩))))
  cases e with
  | UnaryOp op x p => cases op with
    | Not => cases hp
    | _ => exact key
  | BoolOp => cases hp
  | IfExp => cases hp
  | Compare => cases hp
  | _ => exact key
end
end Mine
end

section
open PySem PySem.Calls PyProof.Rows
set_option linter.unusedVariables false
set_option genSizeOf false
set_option genSizeOfSpec false
set_option genInjectivity false
namespace Mine

theorem mapM_all2 {α β : Type} {f : α → Option β} : ∀ {as : List α} {bs : List β}, as.mapM f = some bs → All2 (fun a b => f a = some b) as bs
  | [], bs, h => by
    simp at h; subst h; exact .nil
  | a :: as, bs, h => by
    rw [List.mapM_cons] at h
    cases e : f a with
    | none => simp [e] at h
    | some b =>
      cases e2 : as.mapM f with
      | none => simp [e, e2] at h
      | some bs' =>
        simp [e, e2] at h
        subst h
        exact .cons e (mapM_all2 e2)

noncomputable def starred : Expr → Bool
  | .Starred .. => true
  | _ => false

section
variable {T : GT} {k : Nat} {sc : Scope} {names : List Str} {r : Rv} {F : Fenv} {Q : V → Nat → Prop} {QB : Bool → Prop}

structure Good (T : GT) (k : Nat) (sc : Scope) (names : List Str) (F : Fenv) (e : Expr) (e' : E) : Prop where
  ev : ∀ r Q, evW F r e' Q → EVW T k sc names r e Q
  tv : ∀ r Q, tsW F r e' Q → TVW T k sc names r e Q
  ns : starred e = false

theorem bop_ok {op : BoolOp} {pos : Pos} {A : Around} {env : Env} {bad bc : Addr → Prop} : ∀ {vs : List Expr} {es : List E} {e' : E} {s : Shared} {Q : V → Nat → Prop}, All2 (Good T k sc names F) vs es → boolE op es = some e' →
    AOk k A → Rd T env sc names r bad bc s → evW F r e' Q → wpAny (model T.prog T.w) A (boolOp pos op (evalEach vs env)) (Is T bad bc s Q) No s
  | _, _, _, _, _, .nil, he, _, _, _ => by simp [boolE] at he
  | _, _, _, s, Q, .cons (b := b) g .nil, he, hA, R, q => by
    simp only [boolE, Option.some.injEq] at he; subst he
    exact g.ev r _ q A env bad bc s hA R
  | _, _, _, s, Q, .cons (a := a) (b := b) g (.cons (a := a2) (b := b2) (as := as2) (bs := bs2) g2 gs), he, hA, R, q => by
    have he' : (boolE op (b2 :: bs2)).map (E.bop op b) = some _ := he
    cases e1 : boolE op (b2 :: bs2) with
    | none => rw [e1] at he'; cases he'
    | some e2 =>
      rw [e1] at he'
      cases he'
      show wpAny _ A (do
        let v ← eval a env
        standAt pos
        let t ← holding [v] (truthy v)
        match op, t with
        | .And, false | .Or, true => pure v
        | _, _ => boolOp pos op (evalEach (a2 :: as2) env)) _ _ s
      have q' : evW F r b (fun x d => truthW x fun c => if c = bGo op then evW F r e2 Q else Q x d) := q
      refine wpAny_bind (wp_no (g.ev r _ q' A env bad bc s hA R) fun v s1 ⟨x1, t, d, q1, r1⟩ => wpAny_bind (wpAny_standAt (wpAny_bind (wpAny_holding (wp_no (truth_ok r1 q1) fun c s2 ⟨x2, q2⟩ => ?_)))))
      have rest : evW F r e2 Q → wpAny (model T.prog T.w) A (boolOp pos op (evalEach (a2 :: as2) env)) (Is T bad bc s Q) No s2 := fun q3 =>
        wp_no (bop_ok (.cons g2 gs) e1 hA ((R.keep x1).keep x2) q3) fun v s3 h => h.trans (x1.trans x2)
      cases op <;> cases c <;> simp [bGo] at q2 <;> first | exact rest q2 | exact wpAny_pure (.mk (x1.trans x2) q2 (r1.keep x2))

theorem bopT_ok {op : BoolOp} {A : Around} {env : Env} {bad bc : Addr → Prop} : ∀ {vs : List Expr} {es : List E} {e' : E} {s : Shared} {Q : Bool → Prop}, All2 (Good T k sc names F) vs es → boolE op es = some e' →
    AOk k A → Rd T env sc names r bad bc s → tsW F r e' Q → wpAny (model T.prog T.w) A (allTrue op vs env) (fun b s' => Ext s s' ∧ Q b) No s
  | _, _, _, _, _, .nil, he, _, _, _ => by simp [boolE] at he
  | _, _, _, s, Q, .cons (a := a) (b := b) g .nil, he, hA, R, q => by
    simp only [boolE, Option.some.injEq] at he; subst he
    show wpAny _ A (do match op, ← isTrue a env (eval a env) with
      | .And, false => pure false
      | .Or, true => pure true
      | _, _ => allTrue op [] env) _ _ s
    refine wpAny_bind (wp_no (g.tv r _ q A env bad bc s hA R) fun c s1 ⟨x1, q1⟩ => ?_)
    cases op <;> cases c <;> exact wpAny_pure ⟨x1, q1⟩
  | _, _, _, s, Q, .cons (a := a) (b := b) g (.cons (a := a2) (b := b2) (as := as2) (bs := bs2) g2 gs), he, hA, R, q => by
    have he' : (boolE op (b2 :: bs2)).map (E.bop op b) = some _ := he
    cases e1 : boolE op (b2 :: bs2) with
    | none => rw [e1] at he'; cases he'
    | some e2 =>
      rw [e1] at he'
      cases he'
      show wpAny _ A (do match op, ← isTrue a env (eval a env) with
        | .And, false => pure false
        | .Or, true => pure true
        | _, _ => allTrue op (a2 :: as2) env) _ _ s
      have q' : tsW F r b (fun c => if c = bGo op then tsW F r e2 Q else Q c) := q
      refine wpAny_bind (wp_no (g.tv r _ q' A env bad bc s hA R) fun c s1 ⟨x1, q1⟩ => ?_)
      have rest : tsW F r e2 Q → wpAny (model T.prog T.w) A (allTrue op (a2 :: as2) env) (fun b s' => Ext s s' ∧ Q b) No s1 := fun q3 =>
        wp_no (bopT_ok (.cons g2 gs) e1 hA (R.keep x1) q3) fun v s3 ⟨x2, h⟩ => ⟨x1.trans x2, h⟩
      cases op <;> cases c <;> simp [bGo] at q1 <;> first | exact rest q1 | exact wpAny_pure ⟨x1, q1⟩

theorem starEach_cons {e : Expr} {es : List Expr} {env : Env} (h : starred e = false) : starEach (e :: es) env = (false, eval e env) :: starEach es env := by
  cases e <;> first | rfl | cases h

theorem sp_ok {pos : Pos} {A : Around} {env : Env} {bad bc : Addr → Prop} : ∀ {vs : List Expr} {es : List E} {s : Shared} {Q : List (V × Nat) → Prop}, All2 (Good T k sc names F) vs es →
    AOk k A → Rd T env sc names r bad bc s → sems F r (toEs es) Q →
    wpAny (model T.prog T.w) A (spliced (backTo pos (starEach vs env))) (fun us s' => Ext s s' ∧ ∃ as, Q as ∧ All2 (Arg T bad bc s') us as) No s
  | _, _, s, Q, .nil, hA, R, q => by
    exact Calls.spliced_nil ⟨Ext.refl _, [], q, .nil⟩
  | _, _, s, Q, .cons (a := a) (b := b) (as := as) (bs := bs) g gs, hA, R, q => by
    rw [starEach_cons g.ns]
    have q' : evW F r b (fun t d => sems F r (toEs bs) fun as => Q ((t, d) :: as)) := q
    refine Calls.spliced_cons (wp_no (g.ev r _ q' A env bad bc s hA R) fun v s1 ⟨x1, t, d, q1, r1⟩ => ?_)
    refine wp_no (sp_ok gs hA (R.keep x1) q1) fun us s2 ⟨x2, as2, q2, r2⟩ => ⟨x1.trans x2, _, q2, .cons (r1.keep x2) r2⟩

theorem allZ_reps {bad bc : Addr → Prop} {s : Shared} : ∀ {us : List Value} {as : List (V × Nat)}, All2 (Arg T bad bc s) us as → allZ as → Reps T.prog T.w (Gb s.heap bad) us (as.map (·.1))
  | _, _, .nil, _ => .nil
  | _, _, .cons (b := (t, d)) a b, ⟨h, hs⟩ => by
    have h : d = 0 := h
    subst h
    exact .cons a (allZ_reps b hs)

theorem EVW.list {es p} {es' : List E} (g : All2 (Good T k sc names F) es es') (q : sems F r (toEs es') fun as => allZ as ∧ as.length ≤ 10000 ∧ Q (.list (as.map (·.1))) 0) :
    EVW T k sc names r (.List es p) Q := fun A env bad bc s hA R => by
  refine wpAny_List (wp_no (sp_ok g hA R q) fun us s1 ⟨x1, as, ⟨hz, hn, q⟩, rs⟩ => ?_)
  have hl := rs.length
  refine ⟨by rw [hl, sl_eq]; omega, .mk (x1.trans (Ext.push _ _ _)) q (.list (n := 0) (vs := us) ⟨Heap.get?_push_size _ rfl, fun hb => ?_⟩ rfl rfl (by rw [hl, sl_eq]; omega) ((allZ_reps rs hz).mono (Gb.keeps (Keeps.push _ _))))⟩
  exact not_alive_size _ ((R.badok _ hb).1.keeps x1.keeps)
theorem EVW.tup {es kk p} {es' : List E} (g : All2 (Good T k sc names F) es es') (q : sems F r (toEs es') fun as => allZ as ∧ as.length ≤ 10000 ∧ Q (.tup (as.map (·.1))) 0) :
    EVW T k sc names r (.Tuple es kk p) Q := fun A env bad bc s hA R => by
  refine wpAny_Tuple (wp_no (sp_ok g hA R q) fun us s1 ⟨x1, as, ⟨hz, hn, q⟩, rs⟩ => ?_)
  have hl := rs.length
  refine ⟨by rw [hl, sl_eq]; omega, .mk (x1.trans (Ext.push _ _ _)) q (.tup (n := 0) (vs := us) ⟨Heap.get?_push_size _ rfl, fun hb => ?_⟩ rfl rfl (by rw [hl, sl_eq]; omega) ((allZ_reps rs hz).mono (Gb.keeps (Keeps.push _ _))))⟩
  exact not_alive_size _ ((R.badok _ hb).1.keeps x1.keeps)

theorem slice_ops (slice : Expr) (o i : Value) : ∃ ops, subscripted slice false o i = operate ops (getItem o i) := by
  unfold subscripted
  split
  · exact ⟨_, rfl⟩
  · rename_i h; cases h
  · exact ⟨_, rfl⟩

noncomputable def kindW : V → Option (String × String)
  | .str _ => some ("str", "str.__getitem__")
  | .list _ => some ("list", "list.__getitem__")
  | .dS _ _ => some ("dict", "dict.__getitem__")
  | .dI _ _ => some ("dict", "dict.__getitem__")
  | _ => none
theorem kind_ok {bad bc : Addr → Prop} {s : Shared} {d v t Tn id} (h : RepD T.prog T.w (Gb s.heap bad) (Gb s.heap bc) d v t) (e : kindW t = some (Tn, id)) :
    s.TypeIs v Tn ∧ typeLookup (.type Tn) "__getitem__" = pure (some (.builtin id)) := by
  unfold kindW at e
  split at e <;> cases e
  · obtain ⟨u, rfl, _⟩ := h.str_inv; exact ⟨typeIs_str _ _ _, PySem.F.slot_str_getitem.lookup⟩
  · obtain ⟨a, o, vs, n, rfl, g, c, dt, z, r⟩ := h.list_inv
    exact ⟨(isList_of (g.elim (·.1) (·.1)) c dt).typeIs, PySem.F.slot_list_getitem.lookup⟩
  · cases d with
    | zero => have h : Rep T.prog T.w (Gb s.heap bad) v _ := h
              cases h with | dS g hz d r => exact ⟨(mapOf_dS g.1 d).typeIs, slot_dict_getitem.lookup⟩
    | succ d => obtain ⟨a, o, vs, n, ys, e1, e2, _⟩ := h; cases e2
  · cases d with
    | zero => have h : Rep T.prog T.w (Gb s.heap bad) v _ := h
              cases h with | dI g hz d r => exact ⟨(mapOf_dI g.1 d).typeIs, slot_dict_getitem.lookup⟩
    | succ d => obtain ⟨a, o, vs, n, ys, e1, e2, _⟩ := h; cases e2
theorem idx_kind {x d y} (h : idxW x d y Q) : ∃ p, kindW x = some p := by
  unfold idxW at h
  split at h <;> first | exact ⟨_, rfl⟩ | exact h.elim
theorem sl_kind {x d y z} (h : slW x d y z Q) : ∃ p, kindW x = some p := by
  unfold slW at h
  split at h <;> first | exact ⟨_, rfl⟩ | exact h.elim

theorem EVW.idx {v i p} {i' : E} (hv : EVW T k sc names r v (fun x d => evW F r i' fun y _ => idxW x d y Q)) (hi : ∀ Q, evW F r i' Q → EVW T k sc names r i Q) :
    EVW T k sc names r (.Subscript v i p) Q := fun A env bad bc s hA R =>
  Subscript_ (wp_no (hv A env bad bc s hA R) fun va s1 ⟨x1, ta, da, q, r1⟩ => wp_no (hi _ q A env bad bc s1 hA (R.keep x1)) fun vb s2 ⟨x2, tb, db, q2, r2⟩ => by
    obtain ⟨⟨Tn, id⟩, e⟩ := idx_kind q2
    obtain ⟨ops, ho⟩ := slice_ops i va vb
    obtain ⟨h1, h2⟩ := kind_ok (r1.keep x2) e
    exact tail_any h1 h2 (wp_no (idx_ok (r1.keep x2) r2 q2) fun v s3 h => h.trans (x1.trans x2)) ho)

theorem EVW.sl {v p pos} {lo hi : Option Expr} {lo' hi' : E} (hv : EVW T k sc names r v (fun x d => evW F r lo' fun l _ => evW F r hi' fun h _ => slW x d l h Q))
    (hlo : ∀ Q, evW F r lo' Q → ∀ A env bad bc s, AOk k A → Rd T env sc names r bad bc s → wpAny (model T.prog T.w) A (evalPart lo env) (Is T bad bc s Q) No s)
    (hhi : ∀ Q, evW F r hi' Q → ∀ A env bad bc s, AOk k A → Rd T env sc names r bad bc s → wpAny (model T.prog T.w) A (evalPart hi env) (Is T bad bc s Q) No s) :
    EVW T k sc names r (.Subscript v (.Slice lo hi none p) pos) Q := fun A env bad bc s hA R =>
  Subscript_ (wp_no (hv A env bad bc s hA R) fun va s1 ⟨x1, ta, da, q, r1⟩ => by
    refine wpAny_Slice (wp_no (hlo _ q A env bad bc s1 hA (R.keep x1)) fun vl s2 ⟨x2, tl, dl, q2, r2⟩ => wp_no (hhi _ q2 A env bad bc s2 hA ((R.keep x1).keep x2)) fun vh s3 ⟨x3, th, dh, q3, r3⟩ => ?_)
    refine wpAny_pure ?_
    obtain ⟨⟨Tn, id⟩, e⟩ := sl_kind q3
    have x4 : Ext s3 { s3 with heap := s3.heap.push { cls := .type "slice", data := .fields #[vl, vh, .none] } } := Ext.push _ _ _
    obtain ⟨ops, ho⟩ := slice_ops (.Slice lo hi none p) va (.ref s3.heap.objs.size)
    have R4 := (((R.keep x1).keep x2).keep x3).keep x4
    have ra := ((r1.keep x2).keep x3).keep x4
    obtain ⟨h1, h2⟩ := kind_ok ra e
    exact tail_any h1 h2 (wp_no (sl_ok ra ((r2.keep x3).keep x4) (r3.keep x4) (Heap.get?_push_size _ rfl) (fun a h => (R4.badok a h).1) q3) fun v s5 h => h.trans (((x1.trans x2).trans x3).trans x4)) ho)
end
end Mine
end

section
open PySem PySem.Calls PyProof.Rows
set_option linter.unusedVariables false
namespace Mine

section
variable {T : GT} {k : Nat} {sc : Scope} {names : List Str} {r : Rv} {F : Fenv} {Q : V → Nat → Prop} {QB : Bool → Prop}

theorem backTo_plain {pos : Pos} {env : Env} : ∀ {vs : List Expr} {es : List E}, All2 (Good T k sc names F) vs es → (backTo pos (starEach vs env)).any (·.1) = false
  | _, _, .nil => rfl
  | _, _, .cons g gs => by
    rw [starEach_cons g.ns]
    have := backTo_plain (pos := pos) (env := env) gs
    simpa [backTo] using this

theorem callWith_flat {M : Model} {A : Around} {E : Value → Shared → Prop} {s : Shared} {b : Bi} {pos : Pos} {x : Sem Value} {rest : List (Bool × Sem Value)} {Q : Value → Shared → Prop} (hp : ((false, x) :: rest).any (·.1) = false)
    (h : wpAny M A (spliced ((false, x) :: rest)) (fun vs s₁ => wpAny M A (call b.val vs) Q E s₁) E s) : wpAny M A (callWith pos b.val [] ((false, x) :: rest) []) Q E s := by
  cases b <;> first
    | exact Calls.callWith_builtin hp (Calls.evalArgs_plain h)
    | exact PyProof.Rows.callWith_type hp (Calls.evalArgs_plain h)

theorem EVW.bi {x : Str} {np p : Pos} {as : List Expr} {es : List E} {b : Bi} (FO : FOk T k F) (hb : b ∈ F.bis) (hx : (x == ("__debug__" : Str)) = false) (hg : sc.names.lookup x = some .globalImplicit) (hn : b.name = x)
    (g : All2 (Good T k sc names F) as es) (h0 : es ≠ []) (q : sems F r (toEs es) fun as => biW b as Q) : EVW T k sc names r (.Call (.Name x np) as [] p) Q := fun A env bad bc s hA R => by
  obtain ⟨h1, h2⟩ := FO.bis b hb
  refine Call_ (R.builtin hg (hn ▸ h1) (hn ▸ h2) hx ?_)
  have hplain := backTo_plain (pos := p) (env := env) g
  have sp := sp_ok (pos := p) g hA R q
  cases g with
  | nil => exact absurd rfl h0
  | cons g gs =>
    rw [starEach_cons g.ns] at sp hplain ⊢
    exact callWith_flat hplain (wp_no sp fun us s1 ⟨x1, as, q1, rs⟩ => wp_no (bi_ok hA.1 (fun a h => ((R.keep x1).badok a h).1) rs q1) fun v s2 h => h.trans x1)

theorem EVW.call {x : Str} {np p : Pos} {as : List Expr} {es : List E} {i : Nat} {y : Str} {sp : Spec} (FO : FOk T k F) (hi : F.fns[i]? = some (y, sp)) (hy : y = x) (hx : (x == ("__debug__" : Str)) = false)
    (hg : sc.names.lookup x = some .globalImplicit)
    (g : All2 (Good T k sc names F) as es) (h0 : es ≠ []) (q : sems F r (toEs es) fun as => allZ as ∧ specAt F i (as.map (·.1)) fun t => Q t 0) : EVW T k sc names r (.Call (.Name x np) as [] p) Q := fun A env bad bc s hA R => by
  subst hy
  obtain ⟨a, o, fd, h1, h2, h3, h4⟩ := FO.fns i y sp hi
  refine Call_ (R.global hg h1 hx ?_)
  have spl := sp_ok (pos := p) g hA R q
  cases g with
  | nil => exact absurd rfl h0
  | cons g gs =>
    refine callWith_def h3 (wp_no spl fun us s1 ⟨x1, as, ⟨q0, q1⟩, rs⟩ => ?_) (starEach_cons g.ns)
    have R1 := R.keep x1
    refine ⟨R1.base _ _ h2, ?_⟩
    have q1 : sp (as.map (·.1)) fun t => Q t 0 := by
      unfold specAt at q1; rw [hi] at q1; exact q1
    exact wp_no (h4 A s1 bad us _ _ hA R1.base R1.badok (allZ_reps rs q0) q1) fun v s2 ⟨x2, t, q2, r2⟩ => .mk (x1.trans x2) q2 r2

theorem base_plain {o : Expr} {m : Str} {env : Env} (h : noSuper o = true) : attributeBase o m env (eval o env) = eval o env := by
  unfold attributeBase
  split
  · cases h
  · rfl

theorem EVW.me0 {o : Expr} {m : Str} {apos pos : Pos} {x : Me} (hs : noSuper o = true) (hl : (apos.endLine == pos.line) = true) (hm : x.name = m)
    (h : EVW T k sc names r o (fun t d => me0W x t d Q)) : EVW T k sc names r (.Call (.Attribute o m apos) [] [] pos) Q := fun A env bad bc s hA R =>
  wpAny_Call_method_lateS (base_plain hs) rfl hl (wp_no (h A env bad bc s hA R) fun v s1 ⟨x1, t, d, q, r1⟩ => by
    subst hm
    obtain ⟨Tn, id, h1, h2, h3, h4, h5, h6⟩ := me0_ok (A := A) (E := No) (pos := pos) r1 q
    exact ⟨Tn, id, h1, h2, h3, h4, h5, wp_no h6 fun v s2 h => h.trans x1⟩)

theorem EVW.me1 {o a : Expr} {a' : E} {m : Str} {apos pos : Pos} {x : Me} (hs : noSuper o = true) (hl : (apos.endLine == pos.line) = true) (hm : x.name = m) (g : Good T k sc names F a a')
    (h : EVW T k sc names r o (fun t d => meOk x t = true ∧ evW F r a' fun y dy => me1W x t d y dy Q)) : EVW T k sc names r (.Call (.Attribute o m apos) [a] [] pos) Q := fun A env bad bc s hA R => by
  have hst : starEach [a] env = [(false, eval a env)] := starEach_cons g.ns
  refine wpAny_Call_method_lateS (base_plain hs) (by rw [hst]; rfl) hl (wp_no (h A env bad bc s hA R) fun v s1 ⟨x1, t, d, ⟨q0, q⟩, r1⟩ => ?_)
  subst hm
  rw [hst]
  obtain ⟨Tn, id, h1, h2, h3, h4, h5, h6⟩ := me1_ok (A := A) (E := No) (pos := pos) (fun a h => ((R.keep x1).badok a h).1) q0 r1 (g.ev r _ q A env bad bc s1 hA (R.keep x1))
  exact ⟨Tn, id, h1, h2, h3, h4, h5, wp_no h6 fun v s2 h => h.trans x1⟩
end

theorem EVW.sub {T : GT} {k : Nat} {sc : Scope} {names : List Str} {r : Rv} {F : Fenv} {Q : V → Nat → Prop} {x y : Str} {np apos pos : Pos} {a b : Expr} {a' b' : E} {i : Nat} {rr : List Nat} {gg : List Nat → List Nat} (FO : FOk T k F) (hi : F.subs[i]? = some (y, rr, gg)) (hy : y = x)
    (hx : (x == ("__debug__" : Str)) = false) (hl : (apos.endLine == pos.line) = true) (hg : sc.names.lookup x = some .globalImplicit)
    (g1 : Good T k sc names F a a') (g2 : Good T k sc names F b b') (q : evW F r a' fun x _ => evW F r b' fun y _ => subW F i x y Q) :
    EVW T k sc names r (.Call (.Attribute (.Name x np) "sub" apos) [a, b] [] pos) Q := fun A env bad bc s hA R => by
  subst hy
  obtain ⟨pa, h1, h2⟩ := FO.subs i y rr gg hi
  have hst : starEach [a, b] env = [(false, eval a env), (false, eval b env)] := by rw [starEach_cons g1.ns, starEach_cons g2.ns]; rfl
  refine wpAny_Call_method_lateS (base_plain rfl) (by rw [hst]; rfl) hl (R.global hg h1 hx ?_)
  rw [hst]
  refine h2 A s pos _ _ _ R.base (wp_no (g1.ev r _ q A env bad bc s hA R) fun va s1 ⟨x1, ta, da, q1, r1⟩ => ?_)
  refine wp_no (g2.ev r _ q1 A env bad bc s1 hA (R.keep x1)) fun vb s2 ⟨x2, tb, db, q2, r2⟩ => ?_
  unfold subW at q2
  dsimp only at q2
  split at q2
  · rename_i e1 _
    have e1 := hi.symm.trans ‹F.subs[i]? = some _›
    cases e1
    obtain ⟨rfl, hz, hz2, q3⟩ := q2
    obtain ⟨u, rfl, _⟩ := r1.str_inv
    obtain ⟨u', rfl, _⟩ := r2.str_inv
    exact ⟨u, _, u', rfl, rfl, hz, x1.trans x2, fun s' t X => .mk (d := 0) ((x1.trans x2).trans X) q3 (Rep.str _ _ (by rw [sl_eq]; omega))⟩
  · exact q2.elim

theorem Good.of {T : GT} {k : Nat} {sc : Scope} {names : List Str} {F : Fenv} {e : Expr} {e' : E} (hp : plainTest e = true) (hs : starred e = false) (h : ∀ r, sem F r e' = ofV (evW F r e'))
    (ev : ∀ r Q, evW F r e' Q → EVW T k sc names r e Q) : Good T k sc names F e e' :=
  ⟨ev, fun r Q q => TVW.of hp (ev _ _ (by unfold tsW at q; rw [h r] at q; exact q)), hs⟩
theorem findIdx_some {α : Type} {p : α → Bool} {l : List α} {i : Nat} (h : l.findIdx? p = some i) : ∃ a, l[i]? = some a ∧ p a = true := by
  obtain ⟨h1, h2⟩ := List.findIdx?_eq_some_iff_getElem.mp h
  exact ⟨l[i], by rw [List.getElem?_eq_getElem h1], h2.1⟩

theorem callE_inv {F : Fenv} {sc : Scope} {names : List Str} {x : Str} {es : List E} {e' : E} (h : callE F sc names x es = some e') :
    (x == ("__debug__" : Str)) = false ∧ sc.names.lookup x = some .globalImplicit ∧ es ≠ [] ∧ ((∃ i sp, F.fns[i]? = some (x, sp) ∧ e' = .call i (toEs es)) ∨ ∃ b, b ∈ F.bis ∧ b.name = x ∧ e' = .bi b (toEs es)) := by
  unfold callE at h
  by_cases hd : (x == ("__debug__" : Str)) = true
  · rw [if_pos hd] at h; cases h
  rw [if_neg hd] at h
  by_cases hn : names.contains x = true
  · rw [if_pos hn] at h; cases h
  rw [if_neg hn] at h
  by_cases hg : (sc.names.lookup x == some .globalImplicit) = true
  · rw [if_pos hg] at h
    have h0 : ∀ {o : E}, (if es.isEmpty = true then none else some o) = some e' → es ≠ [] ∧ e' = o := fun h => by
      cases es with
      | nil => cases h
      | cons a l => cases h; exact ⟨List.cons_ne_nil _ _, rfl⟩
    refine ⟨Bool.eq_false_iff.mpr hd, by simpa using hg, ?_⟩
    cases hf : F.fns.findIdx? (·.1 == x) with
    | some i =>
      rw [hf] at h
      obtain ⟨h1, h2⟩ := h0 h
      obtain ⟨⟨y, sp⟩, h3, h4⟩ := findIdx_some hf
      have hy : y = x := by simpa using h4
      subst hy
      exact ⟨h1, .inl ⟨i, sp, h3, h2⟩⟩
    | none =>
      rw [hf] at h
      cases hb : F.bis.find? (·.name == x) with
      | none => rw [hb] at h; cases h
      | some b =>
        rw [hb] at h
        obtain ⟨h1, h2⟩ := h0 h
        exact ⟨h1, .inr ⟨b, List.mem_of_find?_eq_some hb, by simpa using List.find?_some hb, h2⟩⟩
  · rw [if_neg hg] at h; cases h
theorem subE_inv {F : Fenv} {sc : Scope} {names : List Str} {x : Str} {a b e' : E} (h : subE F sc names x a b = some e') :
    (x == ("__debug__" : Str)) = false ∧ sc.names.lookup x = some .globalImplicit ∧ ∃ i rr gg, F.subs[i]? = some (x, rr, gg) ∧ e' = .sub i a b := by
  unfold subE at h
  by_cases hd : (x == ("__debug__" : Str)) = true
  · rw [if_pos hd] at h; cases h
  rw [if_neg hd] at h
  by_cases hn : names.contains x = true
  · rw [if_pos hn] at h; cases h
  rw [if_neg hn] at h
  by_cases hg : (sc.names.lookup x == some .globalImplicit) = true
  · rw [if_pos hg] at h
    refine ⟨Bool.eq_false_iff.mpr hd, by simpa using hg, ?_⟩
    cases hf : F.subs.findIdx? (·.1 == x) with
    | some i =>
      rw [hf] at h
      obtain ⟨⟨y, rr, gg⟩, h3, h4⟩ := findIdx_some hf
      have hy : y = x := by simpa using h4
      subst hy
      cases h
      exact ⟨i, rr, gg, h3, rfl⟩
    | none => rw [hf] at h; cases h
  · rw [if_neg hg] at h; cases h
theorem bind_inv {α β : Type} {o : Option α} {f : α → Option β} {b : β} (h : o.bind f = some b) : ∃ a, o = some a ∧ f a = some b := by
  cases o with
  | none => cases h
  | some a => exact ⟨a, rfl, h⟩
theorem ite_inv {α : Type} {c : Bool} {o : Option α} {b : α} (h : (if c = true then o else none) = some b) : c = true ∧ o = some b := by
  cases c with
  | false => cases h
  | true => exact ⟨rfl, h⟩
theorem ite_inv' {α : Type} {c : Prop} [Decidable c] {o : Option α} {b : α} (h : (if c then none else o) = some b) : ¬ c ∧ o = some b := by
  by_cases hc : c
  · rw [if_pos hc] at h; cases h
  · rw [if_neg hc] at h; exact ⟨hc, h⟩
section
variable {T : GT} {k : Nat} {sc : Scope} {names : List Str} {F : Fenv}
theorem const_good {c : Const} {kd : Nat} {p : Pos} {e' : E} (h : trConst c = some e') : Good T k sc names F (.Constant c kd p) e' := by
  cases c with
  | none =>
    cases h
    exact Good.of rfl rfl (fun _ => rfl) (fun r Q q A env bad bc s hA R => wpAny_pure (.mk (Ext.refl _) q .none))
  | bool b =>
    cases h
    exact Good.of rfl rfl (fun _ => rfl) (fun r Q q A env bad bc s hA R => wpAny_pure (.mk (Ext.refl _) q (.bool _)))
  | int i =>
    cases h
    exact Good.of rfl rfl (fun _ => rfl) (fun r Q q A env bad bc s hA R => wpAny_Constant_int (Is.int q))
  | str str =>
    have h : (if str.cps.size ≤ 10000 then some (E.lit (.str str.cps.toList)) else none) = some e' := h
    by_cases hz : str.cps.size ≤ 10000
    · rw [if_pos hz] at h
      cases h
      exact Good.of rfl rfl (fun _ => rfl) (fun r Q q A env bad bc s hA R => Constant_str (Is.str q (stOf_cps _).symm (by rw [sl_eq]; simp; omega)))
    · rw [if_neg hz] at h; cases h
  | _ => cases h
theorem name_good {x : Str} {p : Pos} {e' : E} (FO : FOk T k F) (h : nameE F sc names x = some e') : Good T k sc names F (.Name x p) e' := by
  unfold nameE at h
  obtain ⟨hd, h⟩ := ite_inv' h
  simp only [Bool.or_eq_true, not_or, Bool.not_eq_true] at hd
  cases hi : names.findIdx? (· == x) with
  | some i =>
    rw [hi] at h
    obtain ⟨hk, h⟩ := ite_inv h
    cases h
    obtain ⟨y, h1, h2⟩ := findIdx_some hi
    obtain rfl : y = x := by simpa using h2
    have ev : ∀ r Q, evW F r (.var i) Q → EVW T k sc names r (.Name y p) Q := fun r Q q => by
      have q : (match r.lookup i with | some (t, d) => Q t d | none => False) := q
      cases hr : r.lookup i with
      | none => rw [hr] at q; exact q.elim
      | some td => rw [hr] at q; exact EVW.var hd.1 hd.2 h1 hk hr q
    exact ⟨ev, fun r Q q => TVW.of rfl (ev _ _ q), rfl⟩
  | none =>
    rw [hi] at h
    obtain ⟨hg, h⟩ := ite_inv h
    obtain ⟨t, hc, rfl⟩ := map_inv h
    exact Good.of rfl rfl (fun _ => rfl) (fun r Q q => EVW.con FO hd.1 (by simpa using hg) hc q)
theorem call_good {x : Str} {np p : Pos} {as : List Expr} {es : List E} {e' : E} (FO : FOk T k F) (g : All2 (Good T k sc names F) as es) (h : callE F sc names x es = some e') : Good T k sc names F (.Call (.Name x np) as [] p) e' := by
  obtain ⟨hd, hg, h0, ⟨i, sp, h1, rfl⟩ | ⟨b, hb, hy, rfl⟩⟩ := callE_inv h
  · exact Good.of rfl rfl (fun _ => rfl) (fun r Q q => EVW.call FO h1 rfl hd hg g h0 q)
  · exact Good.of rfl rfl (fun _ => rfl) (fun r Q q => EVW.bi FO hb hd hg hy g h0 q)
theorem meOf_eq {m : Str} {x : Me} (h : meOf m = some x) : x.name = m := by simpa using List.find?_some h
theorem me_good {t : Expr → Option E} {o : Expr} {m : Str} {apos pos : Pos} {as : List Expr} {e' : E} (FO : FOk T k F) (hl : (apos.endLine == pos.line) = true) (ih : ∀ e e', t e = some e' → Good T k sc names F e e')
    (h : trMe F sc names t o m as = some e') : Good T k sc names F (.Call (.Attribute o m apos) as [] pos) e' := by
  cases as with
  | nil =>
    obtain ⟨hs, h⟩ := ite_inv h
    obtain ⟨x, hm, h⟩ := bind_inv h
    obtain ⟨a, ha, rfl⟩ := map_inv h
    exact Good.of rfl rfl (fun _ => rfl) (fun r Q q => EVW.me0 hs hl (meOf_eq hm) ((ih _ _ ha).ev _ _ q))
  | cons a l => cases l with
    | nil =>
      obtain ⟨hs, h⟩ := ite_inv h
      obtain ⟨x, hm, h⟩ := bind_inv h
      obtain ⟨b, hb, h⟩ := bind_inv h
      obtain ⟨c, hc, rfl⟩ := map_inv h
      exact Good.of rfl rfl (fun _ => rfl) (fun r Q q => EVW.me1 hs hl (meOf_eq hm) (ih _ _ hc) ((ih _ _ hb).ev _ _ q))
    | cons b l =>
      obtain ⟨hc, h⟩ := ite_inv h
      obtain ⟨hl0, hm⟩ := Bool.and_eq_true_iff.mp hc
      obtain rfl : m = ("sub" : Str) := by simpa using hm
      cases l with
      | cons c l => cases hl0
      | nil =>
        obtain ⟨⟨⟨x, np⟩, hx⟩, _, h⟩ := bind_inv h
        subst hx
        obtain ⟨a', ha, h⟩ := bind_inv h
        obtain ⟨b', hb, h⟩ := bind_inv h
        obtain ⟨hd, hg, i, rr, gg, h1, rfl⟩ := subE_inv h
        exact Good.of rfl rfl (fun _ => rfl) (fun r Q q => EVW.sub FO h1 rfl hd hl hg (ih _ _ ha) (ih _ _ hb) q)

theorem tr_ok (FO : FOk T k F) : ∀ (n : Nat) (e : Expr) (e' : E), tr F sc names n e = some e' → Good T k sc names F e e'
  | 0, _, _, h => by cases h
  | n + 1, e, e', h => by
    have ih := tr_ok FO n
    have ihs : ∀ {es es'}, es.mapM (tr F sc names n) = some es' → All2 (Good T k sc names F) es es' := fun h => (mapM_all2 h).mono ih
    cases e with
    | Constant c kd p => exact const_good h
    | Name x p => exact name_good FO h
    | BinOp l op rr p =>
      obtain ⟨a, ha, h⟩ := bind_inv h
      obtain ⟨b, hb, rfl⟩ := map_inv h
      exact Good.of rfl rfl (fun _ => rfl) (fun r Q q => EVW.bin ((ih _ _ ha).ev _ _ q) fun Q q => (ih _ _ hb).ev _ _ q)
    | UnaryOp op x p =>
      cases op with
      | USub =>
        obtain ⟨a, ha, rfl⟩ := map_inv h
        exact Good.of rfl rfl (fun _ => rfl) (fun r Q q => EVW.neg ((ih _ _ ha).ev _ _ q))
      | Not =>
        obtain ⟨a, ha, rfl⟩ := map_inv h
        exact ⟨fun r Q q => EVW.not ((ih _ _ ha).ev _ _ q), fun r Q q => TVW.not ((ih _ _ ha).tv _ _ q), rfl⟩
      | _ => cases h
    | Compare l ops rs p =>
      obtain ⟨op, ho, h⟩ := bind_inv h
      obtain ⟨rr, hr, h⟩ := bind_inv h
      obtain ⟨hm, h⟩ := ite_inv' h
      obtain ⟨a, ha, h⟩ := bind_inv h
      obtain ⟨b, hb, rfl⟩ := map_inv h
      obtain rfl := one_eq ho
      obtain rfl := one_eq hr
      have hm' := Bool.eq_false_iff.mpr hm
      exact ⟨fun r Q q => EVW.cmp hm' ((ih _ _ ha).ev _ _ q) fun Q q => (ih _ _ hb).ev _ _ q, fun r Q q => TVW.cmp hm' ((ih _ _ ha).ev _ _ q) fun Q q => (ih _ _ hb).ev _ _ q, rfl⟩
    | BoolOp op vs p =>
      obtain ⟨_, h⟩ := ite_inv' h
      obtain ⟨es, hes, h⟩ := bind_inv h
      have g := ihs hes
      exact ⟨fun r Q q A env bad bc s hA R => bop_ok (pos := p) g h hA R q, fun r Q q A env bad bc s hA R => bopT_ok g h hA R q, rfl⟩
    | IfExp t a b p =>
      obtain ⟨t, ht, h⟩ := bind_inv h
      obtain ⟨a, ha, h⟩ := bind_inv h
      obtain ⟨b, hb, rfl⟩ := map_inv h
      exact ⟨fun r Q q => EVW.ife ((ih _ _ ht).tv _ _ q) (fun Q q => (ih _ _ ha).ev _ _ q) fun Q q => (ih _ _ hb).ev _ _ q,
        fun r Q q => TVW.ife ((ih _ _ ht).tv _ _ q) (fun Q q => (ih _ _ ha).tv _ _ q) fun Q q => (ih _ _ hb).tv _ _ q, rfl⟩
    | Subscript v i p =>
      have h : (match sliceV i with
        | some q => if q.1.1.2.2.isSome then none else (tr F sc names n v).bind fun a => (trOpt (tr F sc names n) q.1.1.1).bind fun l => (trOpt (tr F sc names n) q.1.1.2.1).map fun u => E.sl a l u
        | none => if isSlice i then none else (tr F sc names n v).bind fun a => (tr F sc names n i).map fun b => E.idx a b) = some e' := h
      cases hs : sliceV i with
      | none =>
        rw [hs] at h
        obtain ⟨hi, h⟩ := ite_inv' h
        obtain ⟨a, ha, h⟩ := bind_inv h
        obtain ⟨b, hb, rfl⟩ := map_inv h
        exact Good.of rfl rfl (fun _ => rfl) (fun r Q q => EVW.idx ((ih _ _ ha).ev _ _ q) fun Q q => (ih _ _ hb).ev _ _ q)
      | some t =>
        obtain ⟨⟨⟨lo, hi, st⟩, sp⟩, hx⟩ := t
        rw [hs] at h
        subst hx
        obtain ⟨hst, h⟩ := ite_inv' h
        obtain ⟨a, ha, h⟩ := bind_inv h
        obtain ⟨l, hl, h⟩ := bind_inv h
        obtain ⟨u, hu, rfl⟩ := map_inv h
        cases st with
        | some _ => exact absurd rfl hst
        | none =>
          have part : ∀ {x : Option Expr} {x' : E}, trOpt (tr F sc names n) x = some x' → ∀ r Q, evW F r x' Q → ∀ A env bad bc s, AOk k A → Rd T env sc names r bad bc s → wpAny (model T.prog T.w) A (evalPart x env) (Is T bad bc s Q) No s := by
            intro x x' hx r Q q A env bad bc s hA R
            cases x with
            | none => cases hx; exact wpAny_pure (.mk (Ext.refl _) q .none)
            | some e => exact (ih _ _ hx).ev r Q q A env bad bc s hA R
          exact Good.of rfl rfl (fun _ => rfl) (fun r Q q => EVW.sl ((ih _ _ ha).ev _ _ q) (part hl r) (part hu r))
    | List es p =>
      obtain ⟨es', hes, rfl⟩ := map_inv h
      exact Good.of rfl rfl (fun _ => rfl) (fun r Q q => EVW.list (ihs hes) q)
    | Tuple es kk p =>
      obtain ⟨es', hes, rfl⟩ := map_inv h
      exact Good.of rfl rfl (fun _ => rfl) (fun r Q q => EVW.tup (ihs hes) q)
    | Call f as kws p =>
      obtain ⟨hk, h1⟩ := ite_inv h
      clear h
      obtain rfl := List.isEmpty_iff.mp hk
      have h := h1
      clear h1
      cases hf : nameV f with
      | some x =>
        obtain ⟨⟨x, np⟩, hx⟩ := x
        rw [hf] at h
        subst hx
        obtain ⟨es, hes, h⟩ := bind_inv h
        exact call_good FO (ihs hes) h
      | none =>
        rw [hf] at h
        obtain ⟨⟨⟨o, m, ap⟩, hx⟩, ha, h2⟩ := bind_inv h
        obtain ⟨hl, h3⟩ := ite_inv h2
        clear h h2 ha hf
        subst hx
        exact me_good FO hl ih h3
    | _ => exact nomatch (show (none : Option E) = some e' from h)
end
end Mine
end

section
open PySem PySem.Calls PyProof.Rows
set_option linter.unusedVariables false
set_option genSizeOf false
set_option genSizeOfSpec false
set_option genInjectivity false
namespace Mine

/-! going through a value -/
noncomputable def itemsV : V → Option (List V)
  | .list xs => some xs
  | .tup xs => some xs
  | .str s => some (s.map fun c => .str [c])
  | .rng a b c => some ((rngL a b c).map .int)
  | _ => none
noncomputable def iterOk : V → Prop
  | .rng a b c => rOk a b c
  | _ => True

structure Iter (T : GT) (bad : Addr → Prop) (s : Shared) (items : List V) (it : Value) (s' : Shared) (I : Addr) (fp wr : List Addr) (P : Nat → Value → Prop) (St : Nat → Heap → Prop) : Prop where
  ext : Ext s s'
  it : it = .ref I
  W : ∀ A' : Around, A'.handled = none → Walks T.prog T.w A' I fp wr items.length P St
  st : St 0 s'.heap
  wrok : ∀ b ∈ wr, s.heap.get? b = none ∧ Alive s'.heap b
  fpok : ∀ b ∈ fp, b ∈ wr ∨ (¬ bad b ∧ Alive s.heap b)
  alive : ∀ i h, St i h → ∀ b ∈ fp, Alive h b
  item : ∀ i v, P i v → i < items.length → ∃ t, items[i]? = some t ∧ Rep T.prog T.w (Gb s.heap bad) v t

theorem iter_ok {T : GT} {bad : Addr → Prop} {s : Shared} {A : Around} {E : Value → Shared → Prop} {va t items} (h : Rep T.prog T.w (Gb s.heap bad) va t) (hi : itemsV t = some items) (ho : iterOk t) :
    wpAny (model T.prog T.w) A (pyIter va) (fun it s' => ∃ I fp wr P St, Iter T bad s items it s' I fp wr P St) E s := by
  have nsz : s.heap.get? s.heap.objs.size = none := none_of_ge (Nat.le_refl _)
  unfold itemsV at hi
  split at hi <;> cases hi
  · cases h with
    | list g c d z r =>
      rename_i a o vs n
      have hl := isList_of g.1 c d
      have hne : a ≠ s.heap.objs.size := Nat.ne_of_lt (Heap.lt_size g.1)
      have hlen := r.length
      have W : ∀ A' : Around, A'.handled = none → _ := fun A' hA => Walks.list (prog := T.prog) (w := T.w) (A := A') hA s.heap.objs.size a hne vs.toArray
      rw [show vs.toArray.size = items.length by simp [hlen]] at W
      refine wpAny_pyIter_list hl ⟨s.heap.objs.size, [s.heap.objs.size, a], [s.heap.objs.size], _, _, Ext.push _ _ _, rfl, W, ?_, ?_, ?_, ?_, ?_⟩
      · exact ⟨⟨_, Heap.get?_push_size _ rfl, rfl, rfl⟩, hl.at fun o e => Heap.get?_push_of_some _ e⟩
      · intro b hb; rw [List.mem_singleton.mp hb]; exact ⟨nsz, _, Heap.get?_push_size _ rfl⟩
      · intro b hb
        rcases List.mem_cons.mp hb with rfl | hb
        · exact .inl (List.mem_singleton.mpr rfl)
        · rw [List.mem_singleton.mp hb]; exact .inr ⟨g.2, _, g.1⟩
      · rintro i h ⟨⟨o1, e1, _⟩, ⟨o2, e2, _⟩⟩ b hb
        rcases List.mem_cons.mp hb with rfl | hb
        · exact ⟨_, e1⟩
        · rw [List.mem_singleton.mp hb]; exact ⟨_, e2⟩
      · intro i v hv hlt
        have hv : vs.toArray[i]? = some v := hv
        rw [List.getElem?_toArray] at hv
        exact r.get' hv
  · cases h with
    | tup g c d z r =>
      rename_i a o vs n
      have hl := isTuple_of g.1 c d
      have hne : a ≠ s.heap.objs.size := Nat.ne_of_lt (Heap.lt_size g.1)
      have hlen := r.length
      have W : ∀ A' : Around, A'.handled = none → _ := fun A' hA => Walks.tuple (prog := T.prog) (w := T.w) (A := A') hA s.heap.objs.size a hne vs.toArray
      rw [show vs.toArray.size = items.length by simp [hlen]] at W
      refine wpAny_pyIter_tuple hl ⟨s.heap.objs.size, [s.heap.objs.size, a], [s.heap.objs.size], _, _, Ext.push _ _ _, rfl, W, ?_, ?_, ?_, ?_, ?_⟩
      · exact ⟨⟨_, Heap.get?_push_size _ rfl, rfl, rfl⟩, ⟨_, Heap.get?_push_of_some _ g.1, c, _, d⟩⟩
      · intro b hb; rw [List.mem_singleton.mp hb]; exact ⟨nsz, _, Heap.get?_push_size _ rfl⟩
      · intro b hb
        rcases List.mem_cons.mp hb with rfl | hb
        · exact .inl (List.mem_singleton.mpr rfl)
        · rw [List.mem_singleton.mp hb]; exact .inr ⟨g.2, _, g.1⟩
      · rintro i h ⟨⟨o1, e1, _⟩, ⟨o2, e2, _⟩⟩ b hb
        rcases List.mem_cons.mp hb with rfl | hb
        · exact ⟨_, e1⟩
        · rw [List.mem_singleton.mp hb]; exact ⟨_, e2⟩
      · intro i v hv hlt
        have hv : vs.toArray[i]? = some v := hv
        rw [List.getElem?_toArray] at hv
        exact r.get' hv
  · obtain ⟨tk, rfl, hz⟩ := h.str_inv
    rename_i l
    have e : (stOf l).cps.size = (l.map fun c => V.str [c]).length := by simp
    have item : ∀ i v, SignAt (stOf l) i v → i < (l.map fun c => V.str [c]).length → ∃ t, (l.map fun c => V.str [c])[i]? = some t ∧ Rep T.prog T.w (Gb s.heap bad) v t := by
      rintro i v ⟨c, u, h1, rfl⟩ _
      refine ⟨.str [c], ?_, .str [c] u (by rw [sl_eq]; simp)⟩
      have h1 : l[i]? = some c := by simpa [stOf] using h1
      simp [h1]
    cases ha : (stOf l).cps.all (· < 128)
    · have W : ∀ A' : Around, A'.handled = none → _ := fun A' hA => Walks.strWide (prog := T.prog) (w := T.w) (A := A') hA s.heap.objs.size (stOf l) tk
      rw [e] at W
      refine wpAny_pyIter_wide ha ⟨s.heap.objs.size, [s.heap.objs.size], [s.heap.objs.size], _, _, Ext.push _ _ _, rfl, W, ⟨_, Heap.get?_push_size _ rfl, rfl, rfl⟩, ?_, fun b hb => .inl hb, fun i h ⟨o, e, _⟩ b hb => by rw [List.mem_singleton.mp hb]; exact ⟨o, e⟩, item⟩
      · intro b hb; rw [List.mem_singleton.mp hb]; exact ⟨nsz, _, Heap.get?_push_size _ rfl⟩
    · have W : ∀ A' : Around, A'.handled = none → _ := fun A' hA => Walks.strAscii (prog := T.prog) (w := T.w) (A := A') hA s.heap.objs.size (stOf l) tk
      rw [e] at W
      refine wpAny_pyIter_ascii ha ⟨s.heap.objs.size, [s.heap.objs.size], [s.heap.objs.size], _, _, Ext.push _ _ _, rfl, W, ⟨_, Heap.get?_push_size _ rfl, rfl, rfl⟩, ?_, fun b hb => .inl hb, fun i h ⟨o, e, _⟩ b hb => by rw [List.mem_singleton.mp hb]; exact ⟨o, e⟩, item⟩
      · intro b hb; rw [List.mem_singleton.mp hb]; exact ⟨nsz, _, Heap.get?_push_size _ rfl⟩
  · cases h with
    | rng g =>
      rename_i a b c ad t u x
      obtain ⟨e1, e2⟩ := rsize_le ho
      have e : rsize a b c = ((rngL a b c).map V.int).length := by rw [List.length_map, rngL_length]
      have W : ∀ A' : Around, A'.handled = none → _ := fun A' hA => Walks.range (prog := T.prog) (w := T.w) (A := A') hA s.heap.objs.size a c (rsize a b c)
      rw [e] at W
      refine wpAny_pyIter_range g.1 (small_ok ho) ⟨s.heap.objs.size, [s.heap.objs.size], [s.heap.objs.size], _, _, Ext.push _ _ _, rfl, W, ?_, ?_, fun b hb => .inl hb, fun i h e b hb => by rw [List.mem_singleton.mp hb]; exact ⟨_, e⟩, ?_⟩
      · rw [← e, e1]
        have : (s.heap.push { cls := .type "range_iterator", data := .fields #[rawInt a, rawInt (rsize a b c), rawInt c] }).get? s.heap.objs.size = some { cls := .type "range_iterator", data := .fields #[rawInt a, rawInt (rsize a b c), rawInt c] } := Heap.get?_push_size _ rfl
        simpa [IsRangeIter] using this
      · intro b hb; rw [List.mem_singleton.mp hb]; exact ⟨nsz, _, Heap.get?_push_size _ rfl⟩
      · rintro i v ⟨tk, rfl⟩ hlt
        refine ⟨.int (a + i * c), ?_, .int _ _⟩
        rw [← e] at hlt
        simp [rngL, List.getElem?_range hlt]
end Mine
end

section
open PySem PySem.Calls PyProof.Rows
set_option linter.unusedVariables false
set_option genSizeOf false
set_option genSizeOfSpec false
namespace Mine

/-! what a name holds -/
inductive B where
  | val (t : V)
  | own (xs : List V)
  | own2 (xss : List (List V))
noncomputable def B.read : B → V × Nat
  | .val t => (t, 0)
  | .own xs => (.list xs, 1)
  | .own2 xss => (.list (xss.map .list), 2)
abbrev St := List (Nat × B)
noncomputable def rd (st : St) : Rv := st.map fun p => (p.1, p.2.read)
theorem rd_lookup (st : St) (i : Nat) : (rd st).lookup i = (st.lookup i).map B.read := by
  induction st with
  | nil => rfl
  | cons p st ih =>
    obtain ⟨j, b⟩ := p
    show List.lookup i ((j, b.read) :: rd st) = _
    simp only [List.lookup_cons]
    split <;> simp_all

noncomputable def Sub (st' st : St) : Prop := ∀ i b, st'.lookup i = some b → st.lookup i = some b

structure FC where
  T : GT
  k : Nat
  F : Fenv
  env : Env
  names : List Str
  A : Around
  aok : AOk k A
  FO : FOk T k F
  kind : env.scope.kind = .function
  glo : env.globals = mainGlobals
  blt : env.builtins = builtinsNs
  nodup : names.Nodup
  cellInj : ∀ n n' c, env.cells.lookup n = some c → env.cells.lookup n' = some c → n = n'
  cellLoc : ∀ n, env.cells.lookup n ≠ some env.locals
  cellOk : ∀ nm, env.kindOf nm = some .cell → (env.cells.lookup nm).isSome = true

abbrev Ads := Nat → List Addr
noncomputable def Mut (C : FC) (ad : Ads) (a : Addr) : Prop := a = C.env.locals ∨ (∃ n, C.env.cells.lookup n = some a) ∨ ∃ i, a ∈ ad i
noncomputable def Bad (C : FC) (bad : Addr → Prop) (ad : Ads) (a : Addr) : Prop := bad a ∨ Mut C ad a

noncomputable def IsL (h : Heap) (a : Addr) (vs : List Value) : Prop := h.PlainList a vs.toArray ∧ vs.length ≤ sizeLine
noncomputable def RepB (C : FC) (bad : Addr → Prop) (ad : Ads) (h : Heap) (al : List Addr) (v : Value) : B → Prop
  | .val t => Rep C.T.prog C.T.w (Gb h (Bad C bad ad)) v t
  | .own xs => ∃ a vs, v = .ref a ∧ al = [a] ∧ IsL h a vs ∧ Reps C.T.prog C.T.w (Gb h (Bad C bad ad)) vs xs
  | .own2 xss => ∃ a bs, v = .ref a ∧ al = a :: bs ∧ IsL h a (bs.map .ref) ∧ All2 (fun b xs => ∃ vs, IsL h b vs ∧ Reps C.T.prog C.T.w (Gb h (Bad C bad ad)) vs xs) bs xss

structure Sim (C : FC) (bad : Addr → Prop) (st : St) (ad : Ads) (s : Shared) : Prop where
  base : Keeps C.T.h0 s.heap
  badok : ∀ a, bad a → Alive s.heap a ∧ C.T.h0.get? a = none
  loc : C.T.h0.get? C.env.locals = none ∧ ¬ bad C.env.locals
  cells : ∀ n c, C.env.cells.lookup n = some c → C.T.h0.get? c = none ∧ ¬ bad c
  owned : ∀ i a, a ∈ ad i → C.T.h0.get? a = none ∧ ¬ bad a ∧ a ≠ C.env.locals ∧ (∀ n, C.env.cells.lookup n ≠ some a) ∧ Alive s.heap a
  disj : ∀ i j, i ≠ j → ∀ a, a ∈ ad i → a ∉ ad j
  nodup : ∀ i, (ad i).Nodup
  vals : ∃ m cm, Frm C.env s.heap m cm ∧ ∀ i b, st.lookup i = some b → ∃ x v, C.names[i]? = some x ∧ valAt C.env m cm x = some v ∧ RepB C bad ad s.heap (ad i) v b

theorem IsL.keeps {h h' : Heap} {a vs} (x : IsL h a vs) (k : Keeps h h') : IsL h' a vs := ⟨x.1.at fun o e => k _ _ e, x.2⟩
theorem IsL.at {h h' : Heap} {a vs} (x : IsL h a vs) (k : ∀ o, h.get? a = some o → h'.get? a = some o) : IsL h' a vs := ⟨x.1.at k, x.2⟩
theorem IsL.alive {h : Heap} {a vs} (x : IsL h a vs) : Alive h a := let ⟨⟨_, e⟩, _⟩ := x; ⟨_, e⟩

section
variable {C : FC} {bad : Addr → Prop} {st st' : St} {ad ad' : Ads} {s s' : Shared}

theorem RepB.mono {bad' : Addr → Prop} {h h' : Heap} {al v b} (x : RepB C bad ad h al v b) (g : ∀ a o, Gb h (Bad C bad ad) a o → Gb h' (Bad C bad' ad') a o) (k : ∀ a ∈ al, ∀ o, h.get? a = some o → h'.get? a = some o) : RepB C bad' ad' h' al v b := by
  cases b with
  | val t => exact Rep.mono g x
  | own xs =>
    obtain ⟨a, vs, e, e', i, r⟩ := x
    exact ⟨a, vs, e, e', i.at (k a (by rw [e']; exact List.mem_cons_self)), r.mono g⟩
  | own2 xss =>
    obtain ⟨a, bs, e, e', i, r⟩ := x
    subst e'
    refine ⟨a, bs, e, rfl, i.at (k a List.mem_cons_self), All2.of_get r.length fun j b xs hb hx => ?_⟩
    obtain ⟨b', hb', vs, h1, h2⟩ := r.get hx
    rw [hb] at hb'; cases hb'
    exact ⟨vs, h1.at (k b (List.mem_cons_of_mem _ (List.mem_of_getElem? hb))), h2.mono g⟩

theorem Sim.sub (S : Sim C bad st ad s) (h : Sub st' st) : Sim C bad st' ad s :=
  { S with vals := let ⟨m, cm, F, v⟩ := S.vals; ⟨m, cm, F, fun i b e => v i b (h i b e)⟩ }
theorem Sim.keep (S : Sim C bad st ad s) (x : Ext s s') : Sim C bad st ad s' := by
  have k := x.keeps
  obtain ⟨m, cm, F, v⟩ := S.vals
  exact ⟨S.base.trans k, fun a h => ⟨(S.badok a h).1.keeps k, (S.badok a h).2⟩, S.loc, S.cells, fun i a h => let ⟨h1, h2, h3, h4, h5⟩ := S.owned i a h; ⟨h1, h2, h3, h4, h5.keeps k⟩, S.disj, S.nodup,
    m, cm, F.keeps k, fun i b e => let ⟨x, u, h1, h2, h3⟩ := v i b e; ⟨x, u, h1, h2, h3.mono (Gb.keeps k) fun a _ o e => k _ _ e⟩⟩

theorem Sim.locAlive (S : Sim C bad st ad s) : Alive s.heap C.env.locals := let ⟨m, cm, F, v⟩ := S.vals; let ⟨o, _, _, e, _⟩ := F.ns; ⟨o, e⟩
theorem Sim.cellAlive (S : Sim C bad st ad s) {n c} (h : C.env.cells.lookup n = some c) : Alive s.heap c := let ⟨m, cm, F, v⟩ := S.vals; let ⟨o, e, _⟩ := F.cell n c h; ⟨o, e⟩
theorem Sim.badAll (S : Sim C bad st ad s) : ∀ a, Bad C bad ad a → Alive s.heap a ∧ C.T.h0.get? a = none := by
  rintro a (h | rfl | ⟨n, h⟩ | ⟨i, h⟩)
  · exact S.badok a h
  · exact ⟨S.locAlive, S.loc.1⟩
  · exact ⟨S.cellAlive h, (S.cells n a h).1⟩
  · have := S.owned i a h; exact ⟨this.2.2.2.2, this.1⟩
theorem Sim.rd (S : Sim C bad st ad s) : Rd C.T C.env C.env.scope C.names (rd st) (Bad C bad ad) bad s := by
  obtain ⟨m, cm, F, v⟩ := S.vals
  refine ⟨S.base, C.kind, C.glo, C.blt, fun x h => h, S.badAll, fun a h => .inl h, m, cm, F, fun i t d x e hx hk => ?_⟩
  rw [rd_lookup] at e
  cases hb : st.lookup i with
  | none => rw [hb] at e; cases e
  | some b =>
    rw [hb] at e
    obtain ⟨y, u, h1, h2, h3⟩ := v i b hb
    rw [hx] at h1; cases h1
    refine ⟨u, h2, ?_⟩
    cases b with
    | val t => cases e; exact h3
    | own xs =>
      cases e
      obtain ⟨a, vs, rfl, ha, ⟨⟨n, eo⟩, z⟩, r⟩ := h3
      exact ⟨a, _, vs, n, xs, rfl, rfl, ⟨eo, (S.owned i a (by rw [ha]; exact List.mem_cons_self)).2.1⟩, rfl, rfl, z, r.all2⟩
    | own2 xss =>
      cases e
      obtain ⟨a, bs, rfl, ha, ⟨⟨n, eo⟩, z⟩, r⟩ := h3
      refine ⟨a, _, bs.map .ref, n, xss.map .list, rfl, rfl, ⟨eo, (S.owned i a (by rw [ha]; exact List.mem_cons_self)).2.1⟩, rfl, rfl, z, ?_⟩
      refine All2.of_get (by simp [r.length]) fun j v t hv ht => ?_
      simp only [List.getElem?_map, Option.map_eq_some_iff] at hv ht
      obtain ⟨b, hb, rfl⟩ := hv
      obtain ⟨xs, hx, rfl⟩ := ht
      obtain ⟨b', hb', vs, ⟨⟨n', eo'⟩, z'⟩, r'⟩ := r.get hx
      rw [hb] at hb'; cases hb'
      exact ⟨b, _, vs, n', xs, rfl, rfl, ⟨eo', (S.owned i b (by rw [ha]; exact List.mem_cons_of_mem _ (List.mem_of_getElem? hb))).2.1⟩, rfl, rfl, z', r'.all2⟩

/-! what a statement leaves alone -/
noncomputable def Fram (C : FC) (ad : Ads) (s s' : Shared) : Prop :=
  (∃ h' tk, s' = { s with heap := h', toks := tk }) ∧ ∀ b o, s.heap.get? b = some o → ¬ Mut C ad b → s'.heap.get? b = some o
noncomputable def Grow (s : Shared) (ad ad' : Ads) : Prop := ∀ i a, a ∈ ad' i → (∃ j, a ∈ ad j) ∨ s.heap.get? a = none

theorem Fram.refl : Fram C ad s s := ⟨⟨s.heap, s.toks, rfl⟩, fun _ _ e _ => e⟩
theorem Fram.of_ext (x : Ext s s') : Fram C ad s s' := by
  obtain ⟨h, tk, rfl, k⟩ := x
  exact ⟨⟨h, tk, rfl⟩, fun b o e _ => k b o e⟩
theorem Grow.refl : Grow s ad ad := fun i a h => .inl ⟨i, h⟩
theorem Fram.trans {s₁ s₂ s₃ : Shared} {ad₁ ad₂ : Ads} (x : Fram C ad₁ s₁ s₂) (g : Grow s₁ ad₁ ad₂) (y : Fram C ad₂ s₂ s₃) : Fram C ad₁ s₁ s₃ := by
  obtain ⟨⟨h1, t1, rfl⟩, x⟩ := x
  obtain ⟨⟨h2, t2, rfl⟩, y⟩ := y
  refine ⟨⟨h2, t2, rfl⟩, fun b o e n => y b o (x b o e n) fun hm => n ?_⟩
  rcases hm with h | h | ⟨i, h⟩
  · exact .inl h
  · exact .inr (.inl h)
  · rcases g i b h with q | q
    · exact .inr (.inr q)
    · rw [q] at e; cases e
theorem Grow.trans {s₁ s₂ : Shared} {ad₁ ad₂ ad₃ : Ads} (x : Grow s₁ ad₁ ad₂) (f : Fram C ad₁ s₁ s₂) (A1 : ∀ i a, a ∈ ad₁ i → Alive s₁.heap a) (L : Mut C ad₁ C.env.locals) (y : Grow s₂ ad₂ ad₃)
    (nl : ∀ i a, a ∈ ad₃ i → a ≠ C.env.locals ∧ ∀ n, C.env.cells.lookup n ≠ some a) : Grow s₁ ad₁ ad₃ := by
  intro i a h
  rcases y i a h with ⟨j, q⟩ | q
  · exact x j a q
  · by_cases hm : ∃ j, a ∈ ad₁ j
    · exact .inl hm
    · refine .inr ?_
      cases e : s₁.heap.get? a with
      | none => rfl
      | some o =>
        have : s₂.heap.get? a = some o := f.2 a o e fun hmut => by
          rcases hmut with h1 | ⟨n, h1⟩ | h1
          · exact (nl i a h).1 h1
          · exact (nl i a h).2 n h1
          · exact hm h1
        rw [q] at this; cases this

inductive Out where
  | next (st : St)
  | brk (st : St)
  | cont (st : St)
  | ret (t : V)

noncomputable def After (C : FC) (bad : Addr → Prop) (ad : Ads) (s : Shared) (Q : St → Prop) (s' : Shared) : Prop := ∃ st' ad', Q st' ∧ Sim C bad st' ad' s' ∧ Grow s ad ad'
noncomputable def Post (C : FC) (bad : Addr → Prop) (ad : Ads) (s : Shared) (Q : Out → Prop) (f : Flow) (s' : Shared) : Prop :=
  Fram C ad s s' ∧ match f with
  | .next => After C bad ad s (fun st => Q (.next st)) s'
  | .brk => After C bad ad s (fun st => Q (.brk st)) s'
  | .cont => After C bad ad s (fun st => Q (.cont st)) s'
  | .ret v => ∃ t, Q (.ret t) ∧ Rep C.T.prog C.T.w (Gb s'.heap bad) v t

noncomputable def SX (C : FC) (st : St) (x : Stmt) (Q : Out → Prop) : Prop :=
  ∀ bad ad s, Sim C bad st ad s → wpAny (model C.T.prog C.T.w) C.A (exec x C.env) (Post C bad ad s Q) No s
noncomputable def SW (C : FC) (st : St) (xs : List Stmt) (Q : Out → Prop) : Prop :=
  ∀ bad ad s, Sim C bad st ad s → wpAny (model C.T.prog C.T.w) C.A (execs xs C.env) (Post C bad ad s Q) No s

theorem Post.mono {Q Q' : Out → Prop} {f} (h : Post C bad ad s Q f s') (q : ∀ o, Q o → Q' o) : Post C bad ad s Q' f s' := by
  refine ⟨h.1, ?_⟩
  have h := h.2
  cases f with
  | next => obtain ⟨st, ad, a, b⟩ := h; exact ⟨st, ad, q _ a, b⟩
  | brk => obtain ⟨st, ad, a, b⟩ := h; exact ⟨st, ad, q _ a, b⟩
  | cont => obtain ⟨st, ad, a, b⟩ := h; exact ⟨st, ad, q _ a, b⟩
  | ret v => obtain ⟨t, a, b⟩ := h; exact ⟨t, q _ a, b⟩

/-- a later part of the run, told from an earlier state -/
theorem Post.from {s₁ s₂ : Shared} {ad₁ ad₂ : Ads} {st₁ : St} {Q : Out → Prop} {f} (S₁ : Sim C bad st₁ ad₁ s₁) (x : Fram C ad₁ s₁ s₂) (g : Grow s₁ ad₁ ad₂) (h : Post C bad ad₂ s₂ Q f s') : Post C bad ad₁ s₁ Q f s' := by
  have A1 : ∀ i a, a ∈ ad₁ i → Alive s₁.heap a := fun i a h => (S₁.owned i a h).2.2.2.2
  refine ⟨x.trans g h.1, ?_⟩
  have h2 := h.2
  have nl : ∀ {st' ad'}, Sim C bad st' ad' s' → ∀ i a, a ∈ ad' i → a ≠ C.env.locals ∧ ∀ n, C.env.cells.lookup n ≠ some a := fun S i a h => let ⟨_, _, h3, h4, _⟩ := S.owned i a h; ⟨h3, h4⟩
  cases f with
  | next => obtain ⟨st, ad, q, S, g'⟩ := h2; exact ⟨st, ad, q, S, g.trans x A1 (.inl rfl) g' (nl S)⟩
  | brk => obtain ⟨st, ad, q, S, g'⟩ := h2; exact ⟨st, ad, q, S, g.trans x A1 (.inl rfl) g' (nl S)⟩
  | cont => obtain ⟨st, ad, q, S, g'⟩ := h2; exact ⟨st, ad, q, S, g.trans x A1 (.inl rfl) g' (nl S)⟩
  | ret v => exact h2

theorem SW.nil {Q : Out → Prop} (q : Q (.next st)) : SW C st [] Q := fun bad ad s S => wpAny_execs_nil ⟨Fram.refl, st, ad, q, S, Grow.refl⟩
theorem SW.cons {x xs} {Q : Out → Prop} (h : SX C st x (fun o => match o with | .next st' => SW C st' xs Q | o => Q o)) : SW C st (x :: xs) Q := fun bad ad s S => by
  refine wpAny_execs_cons (wp_no (h bad ad s S) fun f s1 hp => ?_)
  cases f with
  | next =>
    obtain ⟨fr, st1, ad1, q, S1, g⟩ := hp
    exact wp_no (q bad ad1 s1 S1) fun f2 s2 h2 => Post.from S fr g h2
  | brk => exact hp
  | cont => exact hp
  | ret v => exact hp
theorem SW.weak {xs} {Q : Out → Prop} (h : Sub st' st) (w : SW C st' xs Q) : SW C st xs Q := fun bad ad s S => w bad ad s (S.sub h)
theorem SX.mono {x} {Q Q' : Out → Prop} (h : SX C st x Q) (q : ∀ o, Q o → Q' o) : SX C st x Q' := fun bad ad s S => wp_no (h bad ad s S) fun f s1 hp => hp.mono q
theorem SW.mono {xs} {Q Q' : Out → Prop} (h : SW C st xs Q) (q : ∀ o, Q o → Q' o) : SW C st xs Q' := fun bad ad s S => wp_no (h bad ad s S) fun f s1 hp => hp.mono q

/-! storing into a name -/
theorem nodup_idx {l : List Str} (h : l.Nodup) {i j : Nat} {x : Str} (hi : l[i]? = some x) (hj : l[j]? = some x) : i = j := by
  obtain ⟨h1, e1⟩ := List.getElem?_eq_some_iff.mp hi
  obtain ⟨h2, e2⟩ := List.getElem?_eq_some_iff.mp hj
  rcases Nat.lt_trichotomy i j with q | q | q
  · exact absurd (e1.trans e2.symm) (List.pairwise_iff_getElem.mp h i j h1 h2 q)
  · exact q
  · exact absurd (e2.trans e1.symm) (List.pairwise_iff_getElem.mp h j i h2 h1 q)

noncomputable def setAd (ad : Ads) (i : Nat) (al : List Addr) : Ads := fun j => if j = i then al else ad j

theorem Sim.store {s₁ : Shared} (S : Sim C bad st ad s) (x : Ext s s₁) {i : Nat} {nm : Str} (hn : C.names[i]? = some nm) (hk : varKind (C.env.kindOf nm) = true) (hfree : C.env.kindOf nm ≠ some .free)
    (hcell : C.env.kindOf nm = some .cell → (C.env.cells.lookup nm).isSome = true) {v : Value} {b : B} {al : List Addr}
    (hal : ∀ a ∈ al, s.heap.get? a = none ∧ Alive s₁.heap a) (hnd : al.Nodup) (hr : RepB C bad (setAd ad i al) s₁.heap al v b) {E : Value → Shared → Prop} :
    wpAny (model C.T.prog C.T.w) C.A (storeName C.env nm v) (fun _ s₂ => Fram C ad s s₂ ∧ After C bad ad s (fun st' => st' = (i, b) :: st) s₂) E s₁ := by
  have k := x.keeps
  obtain ⟨m, cm, F, vals⟩ := S.vals
  have fresh : ∀ a ∈ al, ∀ h, Alive s.heap h → a ≠ h := fun a ha h ⟨o, e⟩ q => by rw [← q, (hal a ha).1] at e; cases e
  have g : Grow s ad (setAd ad i al) := fun j a h => by
    unfold setAd at h; split at h
    · exact .inr (hal a h).1
    · exact .inl ⟨j, h⟩
  have own' : ∀ j a, a ∈ setAd ad i al j → C.T.h0.get? a = none ∧ ¬ bad a ∧ a ≠ C.env.locals ∧ (∀ n, C.env.cells.lookup n ≠ some a) ∧ Alive s₁.heap a := fun j a h => by
    unfold setAd at h; split at h
    · refine ⟨?_, fun hb => fresh a h a (S.badok a hb).1 rfl, fresh a h _ S.locAlive, fun n hc => fresh a h a (S.cellAlive hc) rfl, (hal a h).2⟩
      cases e : C.T.h0.get? a with
      | none => rfl
      | some o => have := S.base a o e; rw [(hal a h).1] at this; cases this
    · obtain ⟨h1, h2, h3, h4, h5⟩ := S.owned j a h; exact ⟨h1, h2, h3, h4, h5.keeps k⟩
  have disj' : ∀ j l, j ≠ l → ∀ a, a ∈ setAd ad i al j → a ∉ setAd ad i al l := fun j l hjl a h1 h2 => by
    unfold setAd at h1 h2
    split at h1 <;> split at h2
    · omega
    · exact fresh a h1 a (S.owned _ _ h2).2.2.2.2 rfl
    · exact fresh a h2 a (S.owned _ _ h1).2.2.2.2 rfl
    · exact S.disj j l hjl a h1 h2
  have nod' : ∀ j, (setAd ad i al j).Nodup := fun j => by
    unfold setAd; split
    · exact hnd
    · exact S.nodup j
  -- the parts that hold whatever cell of memory the name lies in
  have fin : ∀ (h₂ : Heap) (tk : Nat) (q : Addr) (m' cm' : Str → Option Value), Heap.SameBut q s₁.heap h₂ → (q = C.env.locals ∨ ∃ n, C.env.cells.lookup n = some q) → Frm C.env h₂ m' cm' →
      (valAt C.env m' cm' nm = some v) → (∀ y u, y ≠ nm → valAt C.env m cm y = some u → valAt C.env m' cm' y = some u) →
      Fram C ad s { s₁ with heap := h₂, toks := tk } ∧ After C bad ad s (fun st' => st' = (i, b) :: st) { s₁ with heap := h₂, toks := tk } := by
    intro h₂ tk q m' cm' sb hq F' hv hothers
    have hqm : Mut C ad q := hq.elim (fun e => .inl e) fun e => .inr (.inl e)
    have notMut : ∀ a, a ∈ setAd ad i al i ∨ (∃ j, a ∈ setAd ad i al j) → a ≠ q := fun a ha => by
      have ⟨j, ha⟩ : ∃ j, a ∈ setAd ad i al j := ha.elim (fun h => ⟨i, h⟩) id
      obtain ⟨_, _, h3, h4, _⟩ := own' j a ha
      rintro rfl
      rcases hq with e | ⟨n, e⟩
      · exact h3 e
      · exact h4 n e
    have gk : ∀ a o, Gb s₁.heap (Bad C bad (setAd ad i al)) a o → Gb h₂ (Bad C bad (setAd ad i al)) a o := fun a o ⟨e, hb⟩ => ⟨(sb.2 a fun e' => hb (e' ▸ .inr (hq.elim (fun e => .inl e) fun e => .inr (.inl e)))).trans e, hb⟩
    have gs : ∀ a o, Gb s.heap (Bad C bad ad) a o → Gb h₂ (Bad C bad (setAd ad i al)) a o := fun a o ⟨e, hb⟩ => by
      refine gk a o ⟨k _ _ e, fun hb' => hb ?_⟩
      rcases hb' with h | h | h | ⟨j, h⟩
      · exact .inl h
      · exact .inr (.inl h)
      · exact .inr (.inr (.inl h))
      · unfold setAd at h; split at h
        · exact (fresh a h a ⟨o, e⟩ rfl).elim
        · exact .inr (.inr (.inr ⟨j, h⟩))
    have alive₂ : ∀ a, Alive s₁.heap a → a ≠ q → Alive h₂ a := fun a ⟨o, e⟩ n => ⟨o, (sb.2 a n).trans e⟩
    obtain ⟨h₁, t₁, rfl, k₁⟩ := x
    refine ⟨⟨⟨h₂, tk, rfl⟩, fun a o e nm' => (sb.2 a fun e' => nm' (e' ▸ hqm)).trans (k _ _ e)⟩, (i, b) :: st, setAd ad i al, rfl, ?_, g⟩
    refine ⟨fun a o e => ?_, fun a h => ?_, S.loc, S.cells, fun j a h => ?_, disj', nod', m', cm', F', fun j c hj => ?_⟩
    · refine (sb.2 a ?_).trans (k _ _ (S.base _ _ e))
      rintro rfl
      rcases hq with rfl | ⟨n, hq⟩
      · rw [S.loc.1] at e; cases e
      · rw [(S.cells n _ hq).1] at e; cases e
    · refine ⟨alive₂ a ((S.badok a h).1.keeps k) ?_, (S.badok a h).2⟩
      rintro rfl
      rcases hq with rfl | ⟨n, hq⟩
      · exact S.loc.2 h
      · exact (S.cells n _ hq).2 h
    · obtain ⟨h1, h2, h3, h4, h5⟩ := own' j a h
      exact ⟨h1, h2, h3, h4, alive₂ a h5 (notMut a (.inr ⟨j, h⟩))⟩
    · rw [List.lookup_cons] at hj
      split at hj
      · rename_i hji
        cases hj
        have hji : j = i := by simpa using hji
        subst hji
        refine ⟨nm, v, hn, hv, ?_⟩
        have : setAd ad j al j = al := by unfold setAd; rw [if_pos rfl]
        rw [this]
        exact hr.mono gk fun a ha o e => (sb.2 a (notMut a (.inl (by rw [this]; exact ha)))).trans e
      · rename_i hji
        have hji : j ≠ i := by simpa using hji
        obtain ⟨y, u, h1, h2, h3⟩ := vals j c hj
        refine ⟨y, u, h1, hothers y u (fun e => hji (nodup_idx C.nodup h1 (e ▸ hn))) h2, ?_⟩
        have : setAd ad i al j = ad j := by unfold setAd; rw [if_neg hji]
        rw [this]
        exact h3.mono gs fun a ha o e => (sb.2 a (notMut a (.inr ⟨j, by rw [this]; exact ha⟩))).trans (k _ _ e)
  have F₁ := F.keeps k
  cases hkn : C.env.kindOf nm with
  | none => rw [hkn] at hk; cases hk
  | some kd =>
    cases kd with
    | «local» =>
      refine wpAny_storeName_local hkn F₁.ns (fun h₂ hns hsb => ?_) (by rw [C.kind]; rfl)
      refine fin h₂ _ C.env.locals _ cm hsb (.inl rfl) ⟨hns, fun n c hc => (F₁.cell n c hc).sameBut hsb fun e => C.cellLoc n (e ▸ hc)⟩ ?_ ?_
      · unfold valAt; rw [hkn]; simp
      · intro y u hy hu
        unfold valAt at hu ⊢
        split <;> simp_all
    | cell =>
      obtain ⟨c, hc⟩ := Option.isSome_iff_exists.mp (hcell hkn)
      refine wpAny_storeName_cell C.kind hkn hc (F₁.cell _ _ hc) fun h₂ hcl hsb => ?_
      refine fin h₂ _ c m (fun y => if y = nm then some v else cm y) hsb (.inr ⟨nm, hc⟩) ⟨F₁.ns.sameBut hsb fun e => C.cellLoc nm (e ▸ hc), fun n d hd => ?_⟩ ?_ ?_
      · by_cases e : d = c
        · subst e
          have := C.cellInj _ _ _ hd hc
          subst this
          simpa using hcl
        · have : n ≠ nm := fun e' => by subst e'; rw [hc] at hd; cases hd; exact e rfl
          simp only [if_neg this]
          exact (F₁.cell n d hd).sameBut hsb e
      · unfold valAt; rw [hkn]; simp [hc]
      · intro y u hy hu
        unfold valAt at hu ⊢
        split <;> simp_all
    | free => exact absurd hkn hfree
    | _ => rw [hkn] at hk; cases hk
end
end Mine
end

section
open PySem PySem.Calls PyProof.Rows
set_option linter.unusedVariables false
set_option genSizeOf false
set_option genSizeOfSpec false
set_option genInjectivity false
namespace Mine

section
variable {C : FC} {bad : Addr → Prop} {st : St} {Q : Out → Prop}

/-- a name that may be stored into -/
structure Slot1 (C : FC) (i : Nat) (nm : Str) : Prop where
  at' : C.names[i]? = some nm
  kind : varKind (C.env.kindOf nm) = true
  free : C.env.kindOf nm ≠ some .free
  cell : C.env.kindOf nm = some .cell → (C.env.cells.lookup nm).isSome = true

theorem After.of {ad s s'} {st1 : St} {q : St → Prop} (h : After C bad ad s (fun st' => st' = st1) s') (hq : q st1) : After C bad ad s q s' := by
  obtain ⟨st', ad', rfl, S, g⟩ := h; exact ⟨_, ad', hq, S, g⟩

abbrev EVC (C : FC) (st : St) (e : Expr) (Q : V → Nat → Prop) : Prop := EVW C.T C.k C.env.scope C.names (rd st) e Q
abbrev TVC (C : FC) (st : St) (e : Expr) (Q : Bool → Prop) : Prop := TVW C.T C.k C.env.scope C.names (rd st) e Q

theorem EVC.run {e : Expr} {QV : V → Nat → Prop} (h : EVC C st e QV) {ad s} (S : Sim C bad st ad s) : wpAny (model C.T.prog C.T.w) C.A (eval e C.env) (Is C.T (Bad C bad ad) bad s QV) No s := h _ _ _ _ _ C.aok S.rd
theorem TVC.run {e : Expr} {QV : Bool → Prop} (h : TVC C st e QV) {ad s} (S : Sim C bad st ad s) : wpAny (model C.T.prog C.T.w) C.A (isTrue e C.env (eval e C.env)) (fun b s' => Ext s s' ∧ QV b) No s := h _ _ _ _ _ C.aok S.rd

/-! value of a comprehension is bound on a road of its own -/
noncomputable def noComp : Expr → Bool
  | .ListComp .. | .SetComp .. | .DictComp .. => false
  | _ => true
theorem swaps_none {e : Expr} (h : noComp e = true) (t : Option Expr) (l : Nat) (env : Env) : swapsWith e t l env = pure false := by
  unfold swapsWith
  cases e <;> first | rfl | cases h

theorem Sim.storeVal {ad s s₁} (S : Sim C bad st ad s) (x : Ext s s₁) {i nm} (sl : Slot1 C i nm) {v t} (hr : Rep C.T.prog C.T.w (Gb s₁.heap (Bad C bad ad)) v t) {E : Value → Shared → Prop} :
    wpAny (model C.T.prog C.T.w) C.A (storeName C.env nm v) (fun _ s₂ => Fram C ad s s₂ ∧ After C bad ad s (fun st' => st' = (i, .val t) :: st) s₂) E s₁ :=
  S.store x sl.at' sl.kind sl.free sl.cell (al := []) (by simp) List.nodup_nil (b := .val t) (hr.mono fun a o ⟨e, n⟩ => ⟨e, fun hb => n (by
    rcases hb with h | h | h | ⟨j, h⟩
    · exact .inl h
    · exact .inr (.inl h)
    · exact .inr (.inr (.inl h))
    · unfold setAd at h; split at h
      · cases h
      · exact .inr (.inr (.inr ⟨j, h⟩)))⟩)

theorem SX.asg {x : Str} {i : Nat} {p pos : Pos} {e : Expr} (sl : Slot1 C i x) (hc : noComp e = true) (h : EVC C st e (fun t d => d = 0 ∧ Q (.next ((i, .val t) :: st)))) : SX C st (.Assign [.Name x p] e pos) Q := fun bad ad s S => by
  refine wpAny_Assign_Name (wp_no (h.run S) fun v s1 ⟨x1, t, d, ⟨hd, q⟩, r⟩ => ?_) (swaps_none hc _ _ _)
  subst hd
  exact wp_no (S.storeVal (E := No) x1 sl r) fun _ s2 ⟨f, a⟩ => ⟨f, a.of q⟩

/-! fresh lists -/
noncomputable def EVF (C : FC) (st : St) (e : Expr) (Q : List V → Prop) : Prop :=
  ∀ bad ad s, Sim C bad st ad s → wpAny (model C.T.prog C.T.w) C.A (eval e C.env) (fun v s' => Ext s s' ∧ ∃ a vs xs, Q xs ∧ v = .ref a ∧ s.heap.get? a = none ∧ IsL s'.heap a vs ∧ Reps C.T.prog C.T.w (Gb s'.heap fun b => Bad C bad ad b ∨ b = a) vs xs) No s

theorem SX.own {x : Str} {i : Nat} {p pos : Pos} {e : Expr} (sl : Slot1 C i x) (hc : noComp e = true) (h : EVF C st e (fun xs => Q (.next ((i, .own xs) :: st)))) : SX C st (.Assign [.Name x p] e pos) Q := fun bad ad s S => by
  refine wpAny_Assign_Name (wp_no (h bad ad s S) fun v s1 ⟨x1, a, vs, xs, q, hv, hn, hl, r⟩ => ?_) (swaps_none hc _ _ _)
  refine wp_no (S.store (E := No) x1 sl.at' sl.kind sl.free sl.cell (al := [a]) (b := .own xs) (by intro b hb; rw [List.mem_singleton.mp hb]; exact ⟨hn, hl.alive⟩) (by simp) ⟨a, vs, hv, rfl, hl, r.mono fun b o ⟨e, n⟩ => ⟨e, fun hb => n ?_⟩⟩) fun _ s2 ⟨f, a⟩ => ⟨f, a.of q⟩
  rcases hb with h | h | h | ⟨j, h⟩
  · exact .inl (.inl h)
  · exact .inl (.inr (.inl h))
  · exact .inl (.inr (.inr (.inl h)))
  · unfold setAd at h; split at h
    · exact .inr (List.mem_singleton.mp h)
    · exact .inl (.inr (.inr (.inr ⟨j, h⟩)))

/-! changing what a name owns -/
theorem Sim.upd {ad s s₁} (S : Sim C bad st ad s) (x : Ext s s₁) {i : Nat} {b₀ b : B} {q : Addr} {h₂ : Heap} {tk : Tok} (hi : st.lookup i = some b₀) (hq : q ∈ ad i) (sb : Heap.SameBut q s₁.heap h₂) (hal : Alive h₂ q)
    (hr : ∀ v, RepB C bad ad s₁.heap (ad i) v b₀ → RepB C bad ad h₂ (ad i) v b) :
    Fram C ad s { s₁ with heap := h₂, toks := tk } ∧ After C bad ad s (fun st' => st' = (i, b) :: st) { s₁ with heap := h₂, toks := tk } := by
  have k := x.keeps
  obtain ⟨m, cm, F, vals⟩ := S.vals
  obtain ⟨o1, o2, o3, o4, o5⟩ := S.owned i q hq
  have gk : ∀ a o, Gb s.heap (Bad C bad ad) a o → Gb h₂ (Bad C bad ad) a o := fun a o ⟨e, hb⟩ => ⟨(sb.2 a fun e' => hb (e' ▸ .inr (.inr (.inr ⟨i, hq⟩)))).trans (k _ _ e), hb⟩
  have alive₂ : ∀ a, Alive s.heap a → Alive h₂ a := fun a h => by
    by_cases e : a = q
    · rw [e]; exact hal
    · obtain ⟨o, h⟩ := h; exact ⟨o, (sb.2 a e).trans (k _ _ h)⟩
  obtain ⟨h₁, t₁, rfl, k₁⟩ := x
  refine ⟨⟨⟨h₂, tk, rfl⟩, fun a o e nm => (sb.2 a fun e' => nm (e' ▸ .inr (.inr ⟨i, hq⟩))).trans (k _ _ e)⟩, (i, b) :: st, ad, rfl, ?_, Grow.refl⟩
  refine ⟨fun a o e => (sb.2 a fun e' => ?_).trans (k _ _ (S.base _ _ e)), fun a h => ⟨alive₂ a (S.badok a h).1, (S.badok a h).2⟩, S.loc, S.cells, fun j a h => ?_, S.disj, S.nodup, m, cm, ?_, fun j c hj => ?_⟩
  · rw [e', o1] at e; cases e
  · obtain ⟨h1, h2, h3, h4, h5⟩ := S.owned j a h; exact ⟨h1, h2, h3, h4, alive₂ a h5⟩
  · exact ⟨(F.ns.keeps k).sameBut sb (Ne.symm o3), fun n c hc => ((F.cell n c hc).keeps k).sameBut sb fun e => o4 n (e ▸ hc)⟩
  · rw [List.lookup_cons] at hj
    split at hj
    · rename_i hji
      cases hj
      have hji : j = i := by simpa using hji
      subst hji
      obtain ⟨y, u, h1, h2, h3⟩ := vals j b₀ hi
      exact ⟨y, u, h1, h2, hr u (h3.mono (Gb.keeps k) fun a _ o e => k _ _ e)⟩
    · rename_i hji
      have hji : j ≠ i := by simpa using hji
      obtain ⟨y, u, h1, h2, h3⟩ := vals j c hj
      exact ⟨y, u, h1, h2, h3.mono gk fun a ha o e => (sb.2 a fun e' => S.disj j i hji a ha (e' ▸ hq)).trans (k _ _ e)⟩

/-- the list that a name owns -/
theorem Sim.ownAt {ad s} (S : Sim C bad st ad s) {i xs} (hi : st.lookup i = some (.own xs)) : ∃ m cm x a vs, Frm C.env s.heap m cm ∧ C.names[i]? = some x ∧ valAt C.env m cm x = some (.ref a) ∧ ad i = [a] ∧ IsL s.heap a vs ∧ Reps C.T.prog C.T.w (Gb s.heap (Bad C bad ad)) vs xs := by
  obtain ⟨m, cm, F, vals⟩ := S.vals
  obtain ⟨x, v, h1, h2, a, vs, rfl, h3, h4, h5⟩ := vals i _ hi
  exact ⟨m, cm, x, a, vs, F, h1, h2, h3, h4, h5⟩
theorem Sim.loadOwn {ad s s₁} (S : Sim C bad st ad s) (x : Ext s s₁) {i xs nm} {p : Pos} (hi : st.lookup i = some (.own xs)) (hn : C.names[i]? = some nm) (hx : (nm == ("__debug__" : Str)) = false) (hx' : (nm == ("__classdict__" : Str)) = false)
    {E : Value → Shared → Prop} {QQ : Value → Shared → Prop} (h : ∀ a vs, ad i = [a] → IsL s₁.heap a vs → Reps C.T.prog C.T.w (Gb s₁.heap (Bad C bad ad)) vs xs → QQ (.ref a) s₁) :
    wpAny (model C.T.prog C.T.w) C.A (eval (.Name nm p) C.env) QQ E s₁ := by
  have S₁ := S.keep x
  obtain ⟨m, cm, y, a, vs, F, h1, h2, h3, h4, h5⟩ := S₁.ownAt hi
  rw [hn] at h1; cases h1
  exact wpAny_Name (wpAny_loadName_env S₁.rd F h2 hx' (h a vs h3 h4 h5)) hx

theorem plain_set {h : Heap} {a : Addr} {vs : List Value} {n : Nat} (k : Nat) (v : Value) (ho : h.get? a = some { cls := .type "list", data := .seq vs.toArray n }) :
    (h.update a (Obj.mapSeq (·.setIfInBounds k v))).PlainList a (vs.set k v).toArray := by
  refine ⟨n, (Heap.get?_update_self _ ho (by simp [Obj.mapSeq, Obj.isFreed])).trans ?_⟩
  simp [Obj.mapSeq]

theorem SX.sto {x : Str} {i : Nat} {xp sp pos : Pos} {ie e : Expr} {ie' : E} {xs : List V} (hn : C.names[i]? = some x) (hx : (x == ("__debug__" : Str)) = false) (hx' : (x == ("__classdict__" : Str)) = false) (hc : noComp e = true)
    (hi : st.lookup i = some (.own xs)) (gi : ∀ Q, evW C.F (rd st) ie' Q → EVC C st ie Q)
    (h : EVC C st e (fun t d => d = 0 ∧ evW C.F (rd st) ie' fun u _ => match u with | .int j => 0 ≤ j ∧ j < xs.length ∧ Q (.next ((i, .own (xs.set j.toNat t)) :: st)) | _ => False)) :
    SX C st (.Assign [.Subscript (.Name x xp) ie sp] e pos) Q := fun bad ad s S => by
  refine wpAny_Assign_Subscript (wp_no (h.run S) fun v s1 ⟨x1, t, d, ⟨hd, q⟩, r⟩ => ?_) (swaps_none hc _ _ _)
  subst hd
  refine S.loadOwn x1 hi hn hx hx' fun a vs ha hl hrs => ?_
  refine wp_no ((gi _ q).run (S.keep x1)) fun w s2 ⟨x2, u, d, q2, r2⟩ => ?_
  cases u with
  | int j =>
    obtain ⟨tk, rfl⟩ := r2.int_inv
    obtain ⟨h0, h1, q2⟩ := q2
    have k2 := x2.keeps
    have hl2 := hl.keeps k2
    have hz := hl.2
    rw [sl_eq] at hz
    have hlen := hrs.length
    obtain ⟨nn, ho⟩ := hl2.1
    refine PySem.W.ki_setAt ho h0 (by omega) (by simp; omega) ?_
    have sb := Heap.SameBut.update s2.heap a (Obj.mapSeq (·.setIfInBounds j.toNat v))
    have hl' := plain_set j.toNat v ho
    generalize s2.heap.update a (Obj.mapSeq (·.setIfInBounds j.toNat v)) = h' at sb hl'
    have := S.upd (x1.trans x2) (b := .own (xs.set j.toNat t)) (tk := s2.toks) hi (by rw [ha]; exact List.mem_cons_self) sb (IsL.alive ⟨hl', by simpa using hl.2⟩) fun v' hv' => by
      obtain ⟨a', vs', rfl, ha', hl3, hr3⟩ := hv'
      rw [ha] at ha'; cases ha'
      have hbad : Bad C bad ad a := .inr (.inr (.inr ⟨i, by rw [ha]; exact List.mem_cons_self⟩))
      have gk : ∀ b o, Gb s2.heap (Bad C bad ad) b o → Gb h' (Bad C bad ad) b o := fun b o ⟨e, n⟩ => ⟨(sb.2 b fun e' => n (e' ▸ hbad)).trans e, n⟩
      refine ⟨a, vs.set j.toNat v, rfl, ha, ⟨hl', by simpa using hl.2⟩, ?_⟩
      exact ((hrs.mono (Gb.keeps k2)).mono gk).set _ ((Rep.mono (Gb.keeps k2) r).mono gk)
    exact ⟨this.1, this.2.of q2⟩
  | _ => exact q2.elim

theorem SX.ret {e : Expr} {pos : Pos} (h : EVC C st e (fun t d => Q (.ret t))) : SX C st (.Return (some e) pos) Q := fun bad ad s S => by
  refine wpAny_Return_some (wp_no (h.run S) fun v s1 ⟨x1, t, d, q, r⟩ => ⟨Fram.of_ext x1, t, q, r.rep (fun a o ⟨e, n⟩ => ⟨e, fun hb => n (.inl hb)⟩) fun a o g => g⟩)

theorem SX.ifs {t : Expr} {a b : List Stmt} {pos : Pos} (h : TVC C st t (fun c => if c = true then SW C st a Q else SW C st b Q)) : SX C st (.If t a b pos) Q := fun bad ad s S => by
  refine wpAny_If (wp_no (h.run S) fun c s1 ⟨x1, q⟩ => ?_)
  cases c with
  | true =>
    simp only [if_true] at q ⊢
    exact wp_no (q bad ad s1 (S.keep x1)) fun f s2 h2 => Post.from S (Fram.of_ext x1) Grow.refl h2
  | false =>
    simp only [Bool.false_eq_true, if_false] at q ⊢
    exact wp_no (q bad ad s1 (S.keep x1)) fun f s2 h2 => Post.from S (Fram.of_ext x1) Grow.refl h2

noncomputable def loopOut (I : St → Prop) (Q : Out → Prop) : Out → Prop
  | .next st' => ∃ st3, Sub st3 st' ∧ I st3
  | .cont st' => ∃ st3, Sub st3 st' ∧ I st3
  | .brk st' => Q (.next st')
  | .ret t => Q (.ret t)

theorem SX.whl {t : Expr} {body : List Stmt} {pos : Pos} (I : Nat → St → Prop) (h0 : ∃ n st', Sub st' st ∧ I n st')
    (turn : ∀ n st', I n st' → TVC C st' t (fun c => if c = true then SW C st' body (loopOut (fun st3 => ∃ m, m < n ∧ I m st3) Q) else Q (.next st'))) : SX C st (.While t body [] pos) Q := fun bad ad s S => by
  obtain ⟨n0, st0, hs0, hI0⟩ := h0
  have A1 : ∀ i a, a ∈ ad i → Alive s.heap a := fun i a h => (S.owned i a h).2.2.2.2
  refine wpAny_While (codeAny_whileLoop (fun n s' => ∃ st' ad', I n st' ∧ Sim C bad st' ad' s' ∧ Fram C ad s s' ∧ Grow s ad ad') ?_ n0 ⟨st0, ad, hI0, S.sub hs0, Fram.refl, Grow.refl⟩)
  rintro n s1 ⟨st1, ad1, hI, S1, f1, g1⟩
  refine wp_no ((turn n st1 hI).run S1) fun c s2 ⟨x2, q⟩ => ?_
  have S2 := S1.keep x2
  have f2 : Fram C ad s s2 := f1.trans g1 (Fram.of_ext x2)
  have up : ∀ {Q' : Out → Prop} {f s3}, Post C bad ad1 s2 Q' f s3 → Post C bad ad s Q' f s3 := fun h => Post.from S f2 (by
    intro i a h; exact g1 i a h) h
  cases c with
  | true =>
    simp only [if_true] at q ⊢
    refine wp_no (q bad ad1 s2 S2) fun f s3 h3 => ?_
    have h3 := up h3
    cases f with
    | next =>
      obtain ⟨fr, st4, ad4, ⟨st5, hs, m, hm, hI'⟩, S4, g4⟩ := h3
      exact ⟨m, hm, st5, ad4, hI', S4.sub hs, fr, g4⟩
    | cont =>
      obtain ⟨fr, st4, ad4, ⟨st5, hs, m, hm, hI'⟩, S4, g4⟩ := h3
      exact ⟨m, hm, st5, ad4, hI', S4.sub hs, fr, g4⟩
    | brk =>
      obtain ⟨fr, st4, ad4, q4, S4, g4⟩ := h3
      exact ⟨fr, st4, ad4, q4, S4, g4⟩
    | ret v => exact h3
  | false =>
    simp only [Bool.false_eq_true, if_false] at q ⊢
    exact wpAny_execs_nil (up ⟨Fram.refl, st1, ad1, q, S2, Grow.refl⟩)
end
end Mine
end

section
open PySem PySem.Calls PyProof.Rows
set_option linter.unusedVariables false
namespace Mine

section
variable {C : FC} {bad : Addr → Prop} {st : St} {Q : Out → Prop}

theorem Sim.loadVal {ad s s₁} (S : Sim C bad st ad s) (x : Ext s s₁) {i t nm} (hi : st.lookup i = some (.val t)) (hn : C.names[i]? = some nm) (hx' : (nm == ("__classdict__" : Str)) = false)
    {E : Value → Shared → Prop} {QQ : Value → Shared → Prop} (h : ∀ v, Rep C.T.prog C.T.w (Gb s₁.heap (Bad C bad ad)) v t → QQ v s₁) :
    wpAny (model C.T.prog C.T.w) C.A (loadName C.env nm) QQ E s₁ := by
  have S₁ := S.keep x
  obtain ⟨m, cm, F, vals⟩ := S₁.vals
  obtain ⟨y, v, h1, h2, h3⟩ := vals i _ hi
  rw [hn] at h1; cases h1
  exact wpAny_loadName_env S₁.rd F h2 hx' (h v h3)

noncomputable def augOk : Operator → V → Bool
  | .Add, t => t.flat
  | .Sub, _ => true
  | .FloorDiv, _ => true
  | _, _ => false
theorem iop_ok {T : GT} {bad bc : Addr → Prop} {s : Shared} {A : Around} {E : Value → Shared → Prop} {op a da b db va vb} {QV : V → Nat → Prop} (ho : augOk op a = true) (ha : RepD T.prog T.w (Gb s.heap bad) (Gb s.heap bc) da va a)
    (hb : RepD T.prog T.w (Gb s.heap bad) (Gb s.heap bc) db vb b) (h : binW op a da b db QV) : wpAny (model T.prog T.w) A (inplaceOp op va vb) (Is T bad bc s QV) E s := by
  unfold augOk at ho
  split at ho <;> first | cases ho | skip
  · exact iadd_ok ha hb ho h
  · exact isub_ok ha hb h
  · exact ifloordiv_ok ha hb h

theorem SX.aug {x : Str} {i : Nat} {xp pos : Pos} {op : Operator} {e : Expr} {t : V} (sl : Slot1 C i x) (hx' : (x == ("__classdict__" : Str)) = false) (hi : st.lookup i = some (.val t)) (ho : augOk op t = true)
    (h : EVC C st e (fun u du => binW op t 0 u du fun w dw => dw = 0 ∧ Q (.next ((i, .val w) :: st)))) : SX C st (.AugAssign (.Name x xp) op e pos) Q := fun bad ad s S => by
  refine wpAny_AugAssign_Name (S.loadVal (Ext.refl _) hi sl.at' hx' fun v hv => wp_no (h.run S) fun w s1 ⟨x1, u, d, q, r⟩ => ?_)
  have hv : RepD C.T.prog C.T.w (Gb s.heap (Bad C bad ad)) (Gb s.heap bad) 0 v t := hv
  refine wp_no (iop_ok (E := No) ho (RepD.keep hv x1) r q) fun y s2 ⟨x2, ty, dy, ⟨hd, q2⟩, r2⟩ => ?_
  subst hd
  exact wp_no (S.storeVal (E := No) (x1.trans x2) sl r2) fun _ s3 ⟨f, a⟩ => ⟨f, a.of q2⟩

theorem SX.augS {x : Str} {i : Nat} {xp sp pos : Pos} {op : Operator} {ie e : Expr} {e' : E} {xs : List V} (hn : C.names[i]? = some x) (hx : (x == ("__debug__" : Str)) = false) (hx' : (x == ("__classdict__" : Str)) = false)
    (hsl : isSlice ie = false) (hi : st.lookup i = some (.own xs)) (ge : ∀ Q, evW C.F (rd st) e' Q → EVC C st e Q)
    (h : EVC C st ie (fun u _ => match u with
      | .int j => 0 ≤ j ∧ j < xs.length ∧ augOk op (xs.getD j.toNat .none) = true ∧ evW C.F (rd st) e' fun w dw => binW op (xs.getD j.toNat .none) 0 w dw fun t d => d = 0 ∧ Q (.next ((i, .own (xs.set j.toNat t)) :: st))
      | _ => False)) :
    SX C st (.AugAssign (.Subscript (.Name x xp) ie sp) op e pos) Q := fun bad ad s S => by
  refine wpAny_AugAssign_SubscriptAny (S.loadOwn (Ext.refl _) hi hn hx hx' fun a vs ha hl hrs => wp_no (h.run S) fun iv s1 ⟨x1, u, d, q, r⟩ => ?_) (by intro ov iv new; unfold augStore; cases ie <;> first | rfl | cases hsl)
  cases u with
  | int j =>
    obtain ⟨tk, rfl⟩ := r.int_inv
    obtain ⟨h0, h1, h2, q⟩ := q
    have hz := hl.2
    rw [sl_eq] at hz
    have hlen := hrs.length
    have hj : j.toNat < xs.length := by omega
    obtain ⟨old, hold, hro⟩ := hrs.get (getD_some .none hj)
    have hl1 := hl.keeps x1.keeps
    refine wpAny_getItem_list hl1.1.isList h0 (by omega) (x := old) (by simpa using hold) ?_
    refine wp_no ((ge _ q).run (S.keep x1)) fun wv s2 ⟨x2, w, dw, q2, r2⟩ => ?_
    have hro' : RepD C.T.prog C.T.w (Gb s.heap (Bad C bad ad)) (Gb s.heap bad) 0 old (xs.getD j.toNat .none) := hro
    refine wp_no (iop_ok (E := No) h2 ((RepD.keep hro' x1).keep x2) r2 q2) fun nv s3 ⟨x3, tn, dn, ⟨hd, q3⟩, r3⟩ => ?_
    subst hd
    have hl3 := (hl1.keeps x2.keeps).keeps x3.keeps
    have x13 := (x1.trans x2).trans x3
    have k13 := x13.keeps
    obtain ⟨nn, ho⟩ := hl3.1
    refine PySem.W.ki_setAt ho h0 (by omega) (by simp; omega) ?_
    have sb := Heap.SameBut.update s3.heap a (Obj.mapSeq (·.setIfInBounds j.toNat nv))
    have hl' := plain_set j.toNat nv ho
    generalize s3.heap.update a (Obj.mapSeq (·.setIfInBounds j.toNat nv)) = h' at sb hl'
    have := S.upd x13 (b := .own (xs.set j.toNat tn)) (tk := s3.toks) hi (by rw [ha]; exact List.mem_cons_self) sb (IsL.alive ⟨hl', by simpa using hl.2⟩) fun v' hv' => by
      obtain ⟨a', vs', rfl, ha', hl4, hr4⟩ := hv'
      rw [ha] at ha'; cases ha'
      have hbad : Bad C bad ad a := .inr (.inr (.inr ⟨i, by rw [ha]; exact List.mem_cons_self⟩))
      have gk : ∀ b o, Gb s3.heap (Bad C bad ad) b o → Gb h' (Bad C bad ad) b o := fun b o ⟨e, n⟩ => ⟨(sb.2 b fun e' => n (e' ▸ hbad)).trans e, n⟩
      refine ⟨a, vs.set j.toNat nv, rfl, ha, ⟨hl', by simpa using hl.2⟩, ?_⟩
      exact ((hrs.mono (Gb.keeps k13)).mono gk).set _ (Rep.mono gk r3)
    exact ⟨this.1, this.2.of q3⟩
  | _ => exact q.elim

/-- x = y = e -/
theorem SX.asg2 {x y : Str} {i j : Nat} {p p' pos : Pos} {e : Expr} (sl : Slot1 C i x) (sl' : Slot1 C j y)
    (h : EVC C st e (fun t d => d = 0 ∧ t.flat = true ∧ Q (.next ((j, .val t) :: (i, .val t) :: st)))) : SX C st (.Assign [.Name x p, .Name y p'] e pos) Q := fun bad ad s S => by
  have hw : swappedStores [.Name x p, .Name y p'] e C.env = pure none := by
    unfold swappedStores; rfl
  refine wpAny_Assign_two (wp_no (h.run S) fun v s1 ⟨x1, t, d, ⟨hd, hf, q⟩, r⟩ => ?_) rfl hw
  subst hd
  refine wpAny_assign_Name (wp_no (S.storeVal (E := No) x1 sl r) fun _ s2 ⟨f, st2, ad2, e2, S2, g2⟩ => ?_)
  subst e2
  refine wpAny_assign_Name (wp_no (S2.storeVal (E := No) (Ext.refl _) sl' (Rep.flat r hf)) fun _ s3 ⟨f3, a3⟩ => ?_)
  exact Post.from S f g2 ⟨f3, a3.of (q := fun st => Q (.next st)) q⟩

/-- x, y = y, x -/
theorem swap_names {x y : Str} {p p' p1 p2 tp vp : Pos} {k1 k2 : Nat} {env : Env} (hk : env.scope.kind = .function) (hxy : x ≠ y) (hkx : env.kindOf x = some .local) (hky : env.kindOf y = some .local) (hl : p'.line = p.line)
    (hdx : (x == ("__debug__" : Str)) = false) (hdy : (y == ("__debug__" : Str)) = false) :
    swappedStores [.Tuple [.Name x p, .Name y p'] k1 tp] (.Tuple [.Name y p1, .Name x p2] k2 vp) env = pure (some [x, y]) := by
  have hyx : (y == x) = false := by simpa using fun h => hxy h.symm
  have f1 : ∀ n p, foldedForSure 8 (.Name n p) = false := fun _ _ => rfl
  have c1 : ∀ n p, constantsAlone 8 (.Name n p) = (n == ("__debug__" : Str)) := fun _ _ => rfl
  unfold swappedStores
  simp [Env.blockKind, hk, ScopeKind.isAnnotationScope, Expr.pos, hkx, hky, hl, List.filterMap, List.eraseDups, List.eraseDupsBy, List.eraseDupsBy.loop, hyx, f1, c1, hdx, hdy]

/-- x, y = y, x -/
theorem SX.swap {x y : Str} {i j : Nat} {p p' p1 p2 tp vp pos : Pos} {k1 k2 : Nat} {a b : V} (sl : Slot1 C i x) (sl' : Slot1 C j y) (hxy : x ≠ y) (hkx : C.env.kindOf x = some .local) (hky : C.env.kindOf y = some .local) (hl : p'.line = p.line)
    (hdx : (x == ("__debug__" : Str)) = false) (hdy : (y == ("__debug__" : Str)) = false) (hcx : (x == ("__classdict__" : Str)) = false) (hcy : (y == ("__classdict__" : Str)) = false)
    (hi : st.lookup i = some (.val a)) (hj : st.lookup j = some (.val b)) (hfa : a.flat = true) (hfb : b.flat = true)
    (q : Q (.next ((i, .val b) :: (j, .val a) :: st))) : SX C st (.Assign [.Tuple [.Name x p, .Name y p'] k1 tp] (.Tuple [.Name y p1, .Name x p2] k2 vp) pos) Q := fun bad ad s S => by
  have hs : swapsWithSole [.Tuple [.Name x p, .Name y p'] k1 tp] (.Tuple [.Name y p1, .Name x p2] k2 vp) pos.line C.env = pure false := by rfl
  refine Assign_Tuple_swapped (names := [x, y]) ?_ hs (swap_names C.kind hxy hkx hky hl hdx hdy)
  refine wpAny_Tuple ?_
  refine Calls.spliced_cons (wpAny_Name (S.loadVal (Ext.refl _) hj sl'.at' hcy fun vb hb => ?_) hdy)
  refine Calls.spliced_cons (wpAny_Name (S.loadVal (Ext.refl _) hi sl.at' hcx fun va ha => ?_) hdx)
  refine Calls.spliced_nil ⟨by rw [sl_eq]; simp, ?_⟩
  have ht : (s.heap.push { cls := .type "tuple", data := .seq [vb, va].toArray }).IsTuple s.heap.objs.size #[vb, va] := ⟨_, Heap.get?_push_size _ rfl, rfl, 0, rfl⟩
  have x1 : Ext s { s with heap := s.heap.push { cls := .type "tuple", data := .seq [vb, va].toArray } } := Ext.push _ _ _
  refine wpAny_unpackItems_tuple (items := #[vb, va]) C.aok.1 ht fun h2 he => ?_
  have x2 : Ext s { s with heap := h2 } := x1.trans (Ext.of (s := { s with heap := s.heap.push { cls := .type "tuple", data := .seq [vb, va].toArray } }) fun b o e => he b o (Nat.ne_of_lt (Heap.lt_size e)) e)
  show wpAny _ _ (do holding [vb] (bindName C.env y va); assignInOrder [bindName C.env x] [vb]) _ _ _
  refine wpAny_bind (wpAny_holding (wpAny_bindName (wp_no (S.storeVal (E := No) x2 sl' (Rep.flat ha hfa)) fun _ s2 ⟨f, st2, ad2, e2, S2, g2⟩ => ?_)))
  subst e2
  show wpAny _ _ (do holding [] (bindName C.env x vb); assignInOrder [] []) _ _ _
  refine wpAny_bind (wpAny_holding (wpAny_bindName (wp_no (S2.storeVal (E := No) (Ext.refl _) sl (Rep.flat hb hfb)) fun _ s3 ⟨f3, a3⟩ => ?_)))
  refine wpAny_pure ?_
  exact Post.from S f g2 ⟨f3, a3.of (q := fun st => Q (.next st)) q⟩

theorem Sim.more {ad s s₁} {wr : List Addr} (S : Sim C bad st ad s) (x : Ext s s₁) (hw : ∀ b ∈ wr, s.heap.get? b = none ∧ Alive s₁.heap b) : Sim C (fun a => bad a ∨ a ∈ wr) st ad s₁ := by
  have k := x.keeps
  obtain ⟨m, cm, F, vals⟩ := S.vals
  have nw : ∀ a, Alive s.heap a → a ∉ wr := fun a ⟨o, e⟩ h => by rw [(hw a h).1] at e; cases e
  refine ⟨S.base.trans k, fun a h => ?_, ⟨S.loc.1, fun h => h.elim S.loc.2 (nw _ S.locAlive)⟩, fun n c hc => ⟨(S.cells n c hc).1, fun h => h.elim (S.cells n c hc).2 (nw _ (S.cellAlive hc))⟩, fun i a h => ?_, S.disj, S.nodup, m, cm, F.keeps k, fun i b e => ?_⟩
  · rcases h with h | h
    · exact ⟨(S.badok a h).1.keeps k, (S.badok a h).2⟩
    · refine ⟨(hw a h).2, ?_⟩
      cases e : C.T.h0.get? a with
      | none => rfl
      | some o => have := S.base a o e; rw [(hw a h).1] at this; cases this
  · obtain ⟨h1, h2, h3, h4, h5⟩ := S.owned i a h
    exact ⟨h1, fun q => q.elim h2 (nw _ h5), h3, h4, h5.keeps k⟩
  · obtain ⟨y, v, h1, h2, h3⟩ := vals i b e
    refine ⟨y, v, h1, h2, h3.mono (fun a o ⟨e, n⟩ => ⟨k _ _ e, fun q => ?_⟩) fun a _ o e => k _ _ e⟩
    rcases q with (q | q) | q
    · exact n (.inl q)
    · exact nw a ⟨o, e⟩ q
    · exact n (.inr q)

theorem Sim.step {ad s} {bad' : Addr → Prop} {wr : List Addr} {h' : Heap} {tk : Tok} (S : Sim C bad' st ad s) (hb : ∀ a, bad a → bad' a ∧ (a ∈ wr → Alive h' a)) (hwr : ∀ b ∈ wr, bad' b)
    (k : ∀ b o, b ∉ wr → s.heap.get? b = some o → h'.get? b = some o) : Sim C bad st ad { s with heap := h', toks := tk } := by
  obtain ⟨m, cm, F, vals⟩ := S.vals
  have al : ∀ a, Alive s.heap a → a ∉ wr → Alive h' a := fun a ⟨o, e⟩ n => ⟨o, k a o n e⟩
  have lw : C.env.locals ∉ wr := fun h => S.loc.2 (hwr _ h)
  have cw : ∀ n c, C.env.cells.lookup n = some c → c ∉ wr := fun n c hc h => (S.cells n c hc).2 (hwr _ h)
  have ow : ∀ i a, a ∈ ad i → a ∉ wr := fun i a h q => (S.owned i a h).2.1 (hwr _ q)
  refine ⟨fun a o e => ?_, fun a h => ?_, ⟨S.loc.1, fun h => S.loc.2 (hb _ h).1⟩, fun n c hc => ⟨(S.cells n c hc).1, fun h => (S.cells n c hc).2 (hb _ h).1⟩, fun i a h => ?_, S.disj, S.nodup, m, cm, ?_, fun i b e => ?_⟩
  · refine k a o (fun h => ?_) (S.base a o e)
    rw [(S.badok a (hwr a h)).2] at e; cases e
  · obtain ⟨h1, h2⟩ := hb a h
    refine ⟨?_, (S.badok a h1).2⟩
    by_cases hw : a ∈ wr
    · exact h2 hw
    · exact al a (S.badok a h1).1 hw
  · obtain ⟨h1, h2, h3, h4, h5⟩ := S.owned i a h
    exact ⟨h1, fun q => h2 (hb _ q).1, h3, h4, al a h5 (ow i a h)⟩
  · refine ⟨F.ns.at fun o e => k _ o lw e, fun n c hc => ?_⟩
    obtain ⟨o, e, d⟩ := F.cell n c hc
    exact ⟨o, k _ o (cw n c hc) e, d⟩
  · obtain ⟨y, v, h1, h2, h3⟩ := vals i b e
    refine ⟨y, v, h1, h2, h3.mono (fun a o ⟨e, n⟩ => ⟨k _ _ (fun q => n (.inl (hwr _ q))) e, fun q => ?_⟩) fun a ha o e => k _ _ (ow i a ha) e⟩
    rcases q with q | q
    · exact n (.inl (hb _ q).1)
    · exact n (.inr q)

theorem SX.for {x : Str} {i : Nat} {xp pos : Pos} {it : Expr} {body : List Stmt} (sl : Slot1 C i x) (hs : ∀ x, foldedSetIterable it C.env x = pure x)
    (h : EVC C st it (fun t d => d = 0 ∧ iterOk t ∧ ∃ items, itemsV t = some items ∧ ∃ I : Nat → St → Prop, (∃ st', Sub st' st ∧ I 0 st') ∧
      (∀ (j : Nat) st' v, items[j]? = some v → I j st' → SW C ((i, .val v) :: st') body (loopOut (I (j + 1)) Q)) ∧ ∀ st', I items.length st' → Q (.next st'))) :
    SX C st (.For (.Name x xp) it body [] pos) Q := fun bad ad s S => by
  refine wpAny_For (wp_no (h.run S) fun v s0 ⟨x0, t, d, ⟨hd, hok, items, hit, I, ⟨st0, hs0, hI0⟩, turn, fin⟩, r⟩ => ?_) hs
  subst hd
  refine wp_no (iter_ok (A := C.A) (E := No) r hit hok) fun itv s1 ⟨Ia, fp, wr, P, Stt, IT⟩ => ?_
  have S0 := S.keep x0
  have hitv := IT.it
  subst hitv
  have A0 : ∀ i a, a ∈ ad i → Alive s0.heap a := fun i a h => (S0.owned i a h).2.2.2.2
  have nw : ∀ a, Alive s0.heap a → a ∉ wr := fun a ⟨o, e⟩ h => by rw [(IT.wrok a h).1] at e; cases e
  have wrMut : ∀ b ∈ wr, ¬ Mut C ad b := fun b hb hm => nw b (S0.badAll b (.inr hm)).1 hb
  have fpMut : ∀ b ∈ fp, ¬ Mut C ad b := fun b hb => (IT.fpok b hb).elim (wrMut b) fun h hm => h.1 (.inr hm)
  have S1 := S0.more IT.ext IT.wrok
  have W := IT.W C.A C.aok.1
  have less : ∀ {st' ad' s'}, Sim C (fun a => bad a ∨ a ∈ wr) st' ad' s' → Sim C bad st' ad' s' := fun {st' ad' s'} S' => by
    have := S'.step (bad := bad) (wr := []) (h' := s'.heap) (tk := s'.toks) (fun a h => ⟨.inl h, fun q => by cases q⟩) (fun b q => by cases q) (fun b o _ e => e)
    exact this
  suffices key : codeAny (model C.T.prog C.T.w) C.A (.forLoop (.Name x xp) (.ref Ia) body [] C.env) (fun r s' => match r with | .ok f => Post C bad ad s0 Q f s' | .error e => False) s1 by
    refine codeAny_mono key fun r s' hr => ?_
    cases r with
    | ok f => exact Post.from S (Fram.of_ext x0) Grow.refl hr
    | error e => exact hr.elim
  refine codeAny_forLoop_any (fun n s' => ∃ j st' ad', n = items.length + 1 - j ∧ j ≤ items.length ∧ I j st' ∧ Sim C (fun a => bad a ∨ a ∈ wr) st' ad' s' ∧ Fram C ad s0 s' ∧ Grow s0 ad ad' ∧ (∀ b ∈ fp, ¬ Mut C ad' b) ∧ Stt j s'.heap) ?_ (items.length + 1)
    ⟨0, st0, ad, rfl, Nat.zero_le _, hI0, S1.sub hs0, Fram.of_ext IT.ext, Grow.refl, fpMut, IT.st⟩
  rintro n s' ⟨j, st', ad', rfl, hj, hI, S', f', g', hfp, hst⟩
  have F2 : ∀ (h2 : Heap) (tk2 : Tok), (∀ b o, b ∉ wr → s'.heap.get? b = some o → h2.get? b = some o) → Fram C ad s0 { s' with heap := h2, toks := tk2 } := fun h2 tk2 k2 => by
    obtain ⟨⟨h1, t1, e1⟩, f'⟩ := f'
    exact ⟨⟨h2, tk2, by rw [e1]⟩, fun b o e nm => k2 b o (nw b ⟨o, e⟩) (f' b o e nm)⟩
  by_cases hlt : j < items.length
  · refine W.item j s' _ _ hlt hst fun v h2 tk2 hP hst2 k2 => ?_
    dsimp only
    refine wpAny_pure ?_
    have S2 : Sim C (fun a => bad a ∨ a ∈ wr) st' ad' { s' with heap := h2, toks := tk2 } := S'.step (wr := wr) (fun a h => ⟨h, fun q => IT.alive _ _ hst2 a (W.sub a q)⟩) (fun b q => .inr q) k2
    obtain ⟨tv, htv, hrv⟩ := IT.item j v hP hlt
    have hrv2 : Rep C.T.prog C.T.w (Gb h2 (Bad C (fun a => bad a ∨ a ∈ wr) ad')) v tv := hrv.mono fun a o ⟨e, nb⟩ => by
      refine ⟨k2 a o (nw a ⟨o, e⟩) (f'.2 a o e fun hm => nb (.inr hm)), fun q => ?_⟩
      rcases q with (q | q) | q | q | ⟨l, q⟩
      · exact nb (.inl q)
      · exact nw a ⟨o, e⟩ q
      · exact nb (.inr (.inl q))
      · exact nb (.inr (.inr (.inl q)))
      · rcases g' l a q with q | q
        · exact nb (.inr (.inr (.inr q)))
        · rw [q] at e; cases e
    refine wpAny_assign_Name (wp_no (S2.storeVal (E := No) (Ext.refl _) sl hrv2) fun _ s3 ⟨f3, st3, ad3, e3, S3, g3⟩ => ?_)
    subst e3
    refine wp_no (turn j st' tv htv hI _ ad3 s3 S3) fun f s4 hp => ?_
    have hp := Post.from S2 f3 g3 hp
    have f04 : Fram C ad s0 s4 := (F2 h2 tk2 k2).trans g' hp.1
    have g04 : ∀ {ad4 st4 bd}, Sim C bd st4 ad4 s4 → Grow { s' with heap := h2, toks := tk2 } ad' ad4 → Grow s0 ad ad4 := fun S4 g4 =>
      g'.trans (F2 h2 tk2 k2) A0 (.inl rfl) g4 fun i a h => let ⟨_, _, h3, h4, _⟩ := S4.owned i a h; ⟨h3, h4⟩
    have back : ∀ {ad4}, Grow { s' with heap := h2, toks := tk2 } ad' ad4 → (∀ b ∈ fp, ¬ Mut C ad4 b) := fun g4 b hb hm => by
      rcases hm with h | h | ⟨l, h⟩
      · exact hfp b hb (.inl h)
      · exact hfp b hb (.inr (.inl h))
      · rcases g4 l b h with q | q
        · exact hfp b hb (.inr (.inr q))
        · obtain ⟨o, e⟩ := IT.alive _ _ hst2 b hb
          rw [q] at e; cases e
    have hst4 : Stt (j + 1) s4.heap := W.frame _ _ _ hst2 fun b hb o e => hp.1.2 b o e (hfp b hb)
    cases f with
    | next =>
      obtain ⟨_, st4, ad4, ⟨st5, hsub, hI5⟩, S4, g4⟩ := hp
      exact ⟨items.length + 1 - (j + 1), by omega, j + 1, st5, ad4, rfl, hlt, hI5, S4.sub hsub, f04, g04 S4 g4, back g4, hst4⟩
    | cont =>
      obtain ⟨_, st4, ad4, ⟨st5, hsub, hI5⟩, S4, g4⟩ := hp
      exact ⟨items.length + 1 - (j + 1), by omega, j + 1, st5, ad4, rfl, hlt, hI5, S4.sub hsub, f04, g04 S4 g4, back g4, hst4⟩
    | brk =>
      obtain ⟨_, st4, ad4, q4, S4, g4⟩ := hp
      exact ⟨f04, st4, ad4, q4, less S4, g04 S4 g4⟩
    | ret v =>
      obtain ⟨_, tr, q4, r4⟩ := hp
      exact ⟨f04, tr, q4, r4.mono fun a o ⟨e, n⟩ => ⟨e, fun q => n (.inl q)⟩⟩
  · have : j = items.length := by omega
    subst this
    refine W.done s' _ _ hst fun h2 tk2 k2 => ?_
    refine wpAny_execs_nil ⟨F2 h2 tk2 k2, st', ad', fin st' hI, ?_, g'⟩
    exact S'.step (wr := wr) (fun a h => ⟨.inl h, fun q => absurd q (nw a (S0.badok a h).1)⟩) (fun b q => .inr q) k2
end
end Mine
end

section
open PySem PySem.Calls PyProof.Rows
set_option linter.unusedVariables false
namespace Mine

noncomputable def frW (F : Fenv) (r : Rv) (e : E) (Q : List V → Prop) : Prop :=
  match e with
  | .list es => sems F r es fun as => allZ as ∧ as.length ≤ 10000 ∧ Q (as.map (·.1))
  | .bi .list es => sems F r es fun as => match as with
    | [(.rng a b c, _)] => rOk a b c ∧ Q ((rngL a b c).map .int)
    | _ => False
  | _ => False

section
variable {C : FC} {bad : Addr → Prop} {st : St}

theorem EVF.list {es p} {es' : List E} {Q : List V → Prop} (g : All2 (Good C.T C.k C.env.scope C.names C.F) es es') (q : sems C.F (rd st) (toEs es') fun as => allZ as ∧ as.length ≤ 10000 ∧ Q (as.map (·.1))) :
    EVF C st (.List es p) Q := fun bad ad s S => by
  refine wpAny_List (wp_no (sp_ok g C.aok S.rd q) fun us s1 ⟨x1, as, ⟨hz, hn, q⟩, rs⟩ => ?_)
  have hl := rs.length
  have hna : ∀ {a}, Alive s1.heap a → a ≠ s1.heap.objs.size := fun h => Nat.ne_of_lt h.lt
  refine ⟨by rw [hl, sl_eq]; omega, x1.trans (Ext.push _ _ _), s1.heap.objs.size, us, _, q, rfl, ?_, ⟨⟨0, Heap.get?_push_size _ rfl⟩, by rw [hl, sl_eq]; omega⟩, (allZ_reps rs hz).mono fun a o ⟨e, n⟩ => ⟨Keeps.push _ _ _ _ e, fun h => h.elim n (hna ⟨o, e⟩)⟩⟩
  cases e : s.heap.get? s1.heap.objs.size with
  | none => rfl
  | some o => exact (hna ⟨o, x1.keeps _ _ e⟩ rfl).elim

theorem EVF.listR {x : Str} {np p : Pos} {as : List Expr} {es : List E} {Q : List V → Prop} (hb : Bi.list ∈ C.F.bis) (hx : (x == ("__debug__" : Str)) = false) (hg : C.env.scope.names.lookup x = some .globalImplicit) (hn : Bi.list.name = x)
    (g : All2 (Good C.T C.k C.env.scope C.names C.F) as es) (h0 : es ≠ []) (q : sems C.F (rd st) (toEs es) fun as => match as with
      | [(.rng a b c, _)] => rOk a b c ∧ Q ((rngL a b c).map .int)
      | _ => False) : EVF C st (.Call (.Name x np) as [] p) Q := fun bad ad s S => by
  obtain ⟨h1, h2⟩ := C.FO.bis .list hb
  have R := S.rd
  refine Call_ (R.builtin hg (hn ▸ h1) (hn ▸ h2) hx ?_)
  have hplain := backTo_plain (pos := p) (env := C.env) g
  have sp := sp_ok (pos := p) g C.aok R q
  cases g with
  | nil => exact absurd rfl h0
  | cons g gs =>
    rw [starEach_cons g.ns] at sp hplain ⊢
    refine callWith_flat (b := .list) hplain (wp_no sp fun us s1 ⟨x1, as, q1, rs⟩ => ?_)
    split at q1
    · obtain ⟨v, rfl, r⟩ := rs.one
      rename_i a b c d
      obtain ⟨ad', t, u, y, rfl, g⟩ := RepD.rng_inv r
      obtain ⟨q1, q⟩ := q1
      obtain ⟨e1, e2⟩ := rsize_le q1
      refine call_list_range C.aok.1 g.1 (small_ok q1) e1 (by omega) fun h' tk acc' c' hk hD hI => ?_
      have hsz : acc'.size ≤ sizeLine := by rw [hI.1, sl_eq]; omega
      refine ⟨x1.trans (Ext.of hk), s1.heap.objs.size, acc'.toList, _, q, rfl, ?_, ⟨⟨c', by simpa using hD⟩, by simpa using hsz⟩, Reps.of_get ?_ ?_⟩
      · cases e : s.heap.get? s1.heap.objs.size with
        | none => rfl
        | some o => exact (Nat.lt_irrefl _ (Heap.lt_size (x1.keeps _ _ e))).elim
      · simp only [Array.length_toList, List.length_map, rngL_length]; exact hI.1
      · intro i v t hv ht
        rw [Array.getElem?_toList] at hv
        obtain ⟨tk, rfl⟩ := hI.2 i v hv
        simp only [List.getElem?_map, Option.map_eq_some_iff, rngL] at ht
        obtain ⟨x, ⟨y, hy, rfl⟩, rfl⟩ := ht
        have : y = i := by
          rw [List.getElem?_range] at hy
          · cases hy; rfl
          · have := (Array.getElem?_eq_some_iff.mp hv).1; rw [hI.1] at this; exact this
        subst this
        exact .int _ _
    · exact q1.elim

noncomputable def isBL : E → Bool
  | .bi b _ => b == .list
  | _ => false
noncomputable def trOwn (F : Fenv) (sc : Scope) (names : List Str) (n : Nat) (e : Expr) : Option E := match listV e with
  | some q => (q.1.1.mapM (tr F sc names n)).map fun es => .list (toEs es)
  | none => (callV e).bind fun q => if q.1.2.2.1.isEmpty then (nameV q.1.1).bind fun x => (q.1.2.1.mapM (tr F sc names n)).bind fun es => (callE F sc names x.1.1 es).bind fun e' => if isBL e' then some e' else none else none
theorem fr_ok {n : Nat} {e : Expr} {e' : E} {Q : List V → Prop} (h : trOwn C.F C.env.scope C.names n e = some e') (q : frW C.F (rd st) e' Q) : EVF C st e Q := by
  have ihs : ∀ {es es'}, es.mapM (tr C.F C.env.scope C.names n) = some es' → All2 (Good C.T C.k C.env.scope C.names C.F) es es' := fun h => (mapM_all2 h).mono (tr_ok C.FO n)
  unfold trOwn at h
  cases hl : listV e with
  | some x =>
    obtain ⟨⟨es, p⟩, hx⟩ := x
    rw [hl] at h
    subst hx
    obtain ⟨es', hes, rfl⟩ := map_inv h
    exact EVF.list (ihs hes) q
  | none =>
    rw [hl] at h
    clear hl
    obtain ⟨⟨⟨f, as, kws, p⟩, hx⟩, _, h⟩ := bind_inv h
    subst hx
    obtain ⟨hk, h⟩ := ite_inv h
    obtain rfl := List.isEmpty_iff.mp hk
    obtain ⟨⟨⟨x, np⟩, hx⟩, _, h⟩ := bind_inv h
    obtain rfl : f = Expr.Name x np := hx
    obtain ⟨es, hes, h⟩ := bind_inv h
    obtain ⟨e1, hc, h⟩ := bind_inv h
    obtain ⟨hb, h⟩ := ite_inv h
    cases h
    obtain ⟨hd, hg, h0, ⟨i, sp, h1, rfl⟩ | ⟨b, hm, hy, rfl⟩⟩ := callE_inv hc
    · cases hb
    · have : b = .list := by simpa [isBL] using hb
      subst this
      exact EVF.listR hm hd hg hy (ihs hes) h0 q
end
end Mine
end

section
open PySem PySem.Calls PyProof.Rows
set_option linter.unusedVariables false
set_option genSizeOf false
set_option genSizeOfSpec false
set_option genInjectivity false
namespace Mine

mutual
inductive S where
  | asg (x : Nat) (e : E)
  | own (x : Nat) (e : E)
  | asg2 (x y : Nat) (e : E)
  | swap (x y : Nat)
  | aug (op : Operator) (x : Nat) (e : E)
  | sto (x : Nat) (i e : E)
  | augS (op : Operator) (x : Nat) (i e : E)
  | ifs (t : E) (a b : Ss)
  | whl (t : E) (b : Ss)
  | fr (x : Nat) (it : E) (b : Ss)
  | ret (e : E)
inductive Ss where
  | nil
  | cons (s : S) (ss : Ss)
end

noncomputable def contW (K : St → Prop) (Q : Out → Prop) : Out → Prop
  | .next st' => K st'
  | o => Q o

mutual
noncomputable def ex1 (F : Fenv) : S → St → (Out → Prop) → Prop
  | .asg x e, st, Q => evW F (rd st) e fun t d => d = 0 ∧ Q (.next ((x, .val t) :: st))
  | .own x e, st, Q => frW F (rd st) e fun xs => Q (.next ((x, .own xs) :: st))
  | .asg2 x y e, st, Q => evW F (rd st) e fun t d => d = 0 ∧ t.flat = true ∧ Q (.next ((y, .val t) :: (x, .val t) :: st))
  | .swap x y, st, Q => match st.lookup x, st.lookup y with
    | some (.val a), some (.val b) => a.flat = true ∧ b.flat = true ∧ Q (.next ((x, .val b) :: (y, .val a) :: st))
    | _, _ => False
  | .aug op x e, st, Q => match st.lookup x with
    | some (.val t) => augOk op t = true ∧ evW F (rd st) e fun u du => binW op t 0 u du fun w dw => dw = 0 ∧ Q (.next ((x, .val w) :: st))
    | _ => False
  | .sto x i e, st, Q => match st.lookup x with
    | some (.own xs) => evW F (rd st) e fun t d => d = 0 ∧ evW F (rd st) i fun u _ => match u with
      | .int j => 0 ≤ j ∧ j < xs.length ∧ Q (.next ((x, .own (xs.set j.toNat t)) :: st))
      | _ => False
    | _ => False
  | .augS op x i e, st, Q => match st.lookup x with
    | some (.own xs) => evW F (rd st) i fun u _ => match u with
      | .int j => 0 ≤ j ∧ j < xs.length ∧ augOk op (xs.getD j.toNat .none) = true ∧ evW F (rd st) e fun w dw => binW op (xs.getD j.toNat .none) 0 w dw fun t d => d = 0 ∧ Q (.next ((x, .own (xs.set j.toNat t)) :: st))
      | _ => False
    | _ => False
  | .ifs t a b, st, Q => tsW F (rd st) t fun c => if c = true then exs F a st Q else exs F b st Q
  | .whl t b, st, Q => ∃ I : Nat → St → Prop, (∃ n st', Sub st' st ∧ I n st') ∧ ∀ n st', I n st' →
      tsW F (rd st') t fun c => if c = true then exs F b st' (loopOut (fun st3 => ∃ m, m < n ∧ I m st3) Q) else Q (.next st')
  | .fr x it b, st, Q => evW F (rd st) it fun t d => d = 0 ∧ iterOk t ∧ ∃ items, itemsV t = some items ∧ ∃ I : Nat → St → Prop, (∃ st', Sub st' st ∧ I 0 st') ∧
      (∀ (j : Nat) st' v, items[j]? = some v → I j st' → exs F b ((x, .val v) :: st') (loopOut (I (j + 1)) Q)) ∧ ∀ st', I items.length st' → Q (.next st')
  | .ret e, st, Q => evW F (rd st) e fun t _ => Q (.ret t)
noncomputable def exs (F : Fenv) : Ss → St → (Out → Prop) → Prop
  | .nil, st, Q => Q (.next st)
  | .cons s ss, st, Q => ex1 F s st (contW (fun st' => exs F ss st' Q) Q)
end

/-! translation -/
noncomputable def slotOf (sc : Scope) (names : List Str) (x : Str) : Option Nat :=
  if (x == ("__debug__" : Str)) || (x == ("__classdict__" : Str)) then none else
  match names.findIdx? (· == x) with
  | some i => if sc.names.lookup x == some .local || sc.names.lookup x == some .cell then some i else none
  | none => none
noncomputable def toSs : List S → Ss
  | [] => .nil
  | s :: ss => .cons s (toSs ss)

noncomputable def names2 : (l : List Expr) → Option {q : (Str × Pos) × (Str × Pos) // l = [.Name q.1.1 q.1.2, .Name q.2.1 q.2.2]}
  | [] => none
  | a :: l => match nameV a with
    | none => none
    | some x => match l with
      | [] => none
      | b :: l => match nameV b with
        | none => none
        | some y => match l with
          | [] => some ⟨(x.1, y.1), by rw [← x.2, ← y.2]⟩
          | _ :: _ => none
noncomputable def tup2 (e : Expr) : Option {q : ((Str × Pos) × (Str × Pos)) × Nat × Pos // e = .Tuple [.Name q.1.1.1 q.1.1.2, .Name q.1.2.1 q.1.2.2] q.2.1 q.2.2} := match tupV e with
  | none => none
  | some q => match names2 q.1.1 with
    | none => none
    | some r => some ⟨(r.1, q.1.2), by rw [← r.2]; exact q.2⟩
noncomputable def trSwap (sc : Scope) (names : List Str) (t e : Expr) : Option S :=
  (tup2 t).bind fun q => (tup2 e).bind fun r =>
  if q.1.1.1.1 == r.1.1.2.1 && q.1.1.2.1 == r.1.1.1.1 && q.1.1.1.1 != q.1.1.2.1 && sc.names.lookup q.1.1.1.1 == some .local && sc.names.lookup q.1.1.2.1 == some .local && q.1.1.2.2.line == q.1.1.1.2.line then
    (slotOf sc names q.1.1.1.1).bind fun i => (slotOf sc names q.1.1.2.1).map fun j => .swap i j else none
noncomputable def trAsg (F : Fenv) (sc : Scope) (names owns : List Str) (t e : Expr) : Option S := match nameV t with
  | some x => if noComp e then (slotOf sc names x.1.1).bind fun i => if owns.contains x.1.1 then (trOwn F sc names 100 e).map (.own i) else (tr F sc names 100 e).map (.asg i) else none
  | none => match subV t with
    | some q => if noComp e then (nameV q.1.1).bind fun x => (slotOf sc names x.1.1).bind fun i => (tr F sc names 100 q.1.2.1).bind fun ie' => (tr F sc names 100 e).map fun e' => .sto i ie' e' else none
    | none => trSwap sc names t e
noncomputable def trAsgs (F : Fenv) (sc : Scope) (names owns : List Str) (ts : List Expr) (e : Expr) : Option S := match ts with
  | [] => none
  | t :: l => match l with
    | [] => trAsg F sc names owns t e
    | t2 :: l => if l.isEmpty then (nameV t).bind fun x => (nameV t2).bind fun y => (slotOf sc names x.1.1).bind fun i => (slotOf sc names y.1.1).bind fun j => (tr F sc names 100 e).map fun e' => .asg2 i j e' else none
noncomputable def trAug (F : Fenv) (sc : Scope) (names : List Str) (t : Expr) (op : Operator) (e : Expr) : Option S := match nameV t with
  | some x => (slotOf sc names x.1.1).bind fun i => (tr F sc names 100 e).map fun e' => .aug op i e'
  | none => (subV t).bind fun q => if isSlice q.1.2.1 then none else (nameV q.1.1).bind fun x => (slotOf sc names x.1.1).bind fun i => (tr F sc names 100 q.1.2.1).bind fun ie' => (tr F sc names 100 e).map fun e' => .augS op i ie' e'
noncomputable def trS (F : Fenv) (sc : Scope) (names : List Str) (owns : List Str) : Nat → Stmt → Option S
  | 0, _ => none
  | n + 1, s => match s with
    | .Assign ts e _ => trAsgs F sc names owns ts e
    | .AugAssign t op e _ => trAug F sc names t op e
    | .If t a b _ => (tr F sc names 100 t).bind fun t' => (a.mapM (trS F sc names owns n)).bind fun a' => (b.mapM (trS F sc names owns n)).map fun b' => .ifs t' (toSs a') (toSs b')
    | .While t b o _ => if o.isEmpty then (tr F sc names 100 t).bind fun t' => (b.mapM (trS F sc names owns n)).map fun b' => .whl t' (toSs b') else none
    | .For t it b o _ => if o.isEmpty then (nameV t).bind fun x => (slotOf sc names x.1.1).bind fun i => (tr F sc names 100 it).bind fun it' => (b.mapM (trS F sc names owns n)).map fun b' => .fr i it' (toSs b') else none
    | .Return o _ => o.bind fun e => (tr F sc names 100 e).map .ret
    | _ => none

section
variable {C : FC} {owns : List Str}

theorem slot_ok {x : Str} {i : Nat} (h : slotOf C.env.scope C.names x = some i) : Slot1 C i x ∧ (x == ("__debug__" : Str)) = false ∧ (x == ("__classdict__" : Str)) = false := by
  unfold slotOf at h
  split at h
  · cases h
  · rename_i hd
    simp only [Bool.or_eq_true, not_or, Bool.not_eq_true] at hd
    split at h
    · rename_i j hj
      obtain ⟨y, h1, h2⟩ := findIdx_some hj
      have : y = x := by simpa using h2
      subst this
      split at h
      · rename_i hk
        cases h
        have hk : C.env.kindOf y = some .local ∨ C.env.kindOf y = some .cell := by simpa [Env.kindOf] using hk
        refine ⟨⟨h1, ?_, ?_, fun e => C.cellOk _ e⟩, hd.1, hd.2⟩
        · rcases hk with e | e <;> rw [e] <;> rfl
        · rcases hk with e | e <;> rw [e] <;> simp
      · cases h
    · cases h

theorem noSet {n : Nat} {it : Expr} {it' : E} (h : tr C.F C.env.scope C.names n it = some it') : ∀ x, foldedSetIterable it C.env x = pure x := by
  intro x
  cases n with
  | zero => cases h
  | succ n =>
    cases it with
    | Set => exact nomatch (show (none : Option E) = some it' from h)
    | _ => rfl

structure GoodS (C : FC) (s : Stmt) (s' : S) : Prop where
  ok : ∀ st Q, ex1 C.F s' st Q → SX C st s Q

theorem goodSs : ∀ {ss : List Stmt} {ss' : List S}, All2 (GoodS C) ss ss' → ∀ st Q, exs C.F (toSs ss') st Q → SW C st ss Q
  | _, _, .nil, st, Q, h => SW.nil h
  | _, _, .cons g gs, st, Q, h => by
    refine SW.cons (SX.mono (g.ok st _ h) fun o ho => ?_)
    cases o with
    | next st' => exact goodSs gs st' Q ho
    | _ => exact ho

theorem G {e e'} (h : tr C.F C.env.scope C.names 100 e = some e') : Good C.T C.k C.env.scope C.names C.F e e' := tr_ok C.FO 100 _ _ h
theorem swap_ok {t e : Expr} {p : Pos} {s' : S} (h0 : trSwap C.env.scope C.names t e = some s') : GoodS C (.Assign [t] e p) s' := by
  obtain ⟨⟨⟨⟨⟨x, xp⟩, ⟨y, yp⟩⟩, k1, tp⟩, hx⟩, _, h1⟩ := bind_inv h0
  clear h0
  obtain ⟨⟨⟨⟨⟨y', yp'⟩, ⟨x', xp'⟩⟩, k2, ep⟩, hy⟩, _, h2⟩ := bind_inv h1
  clear h1
  obtain ⟨hc, h3⟩ := ite_inv h2
  clear h2
  obtain ⟨i, hi, h4⟩ := bind_inv h3
  clear h3
  obtain ⟨j, hj, h5⟩ := map_inv h4
  clear h4
  subst h5 hx hy
  simp only [Bool.and_eq_true, beq_iff_eq, bne_iff_ne] at hc
  obtain ⟨⟨⟨⟨⟨rfl, rfl⟩, hne⟩, hkx⟩, hky⟩, hl⟩ := hc
  obtain ⟨sl, d1, c1⟩ := slot_ok hi
  obtain ⟨sl', d2, c2⟩ := slot_ok hj
  refine ⟨fun st Q q => ?_⟩
  simp only [ex1] at q
  split at q
  · rename_i a b ha hb
    exact SX.swap sl sl' hne hkx hky hl d1 d2 c1 c2 ha hb q.1 q.2.1 q.2.2
  · exact q.elim
theorem asg_ok {t e : Expr} {p : Pos} {s' : S} (h : trAsg C.F C.env.scope C.names owns t e = some s') : GoodS C (.Assign [t] e p) s' := by
  unfold trAsg at h
  cases hn : nameV t with
  | some x =>
    rw [hn] at h
    obtain ⟨⟨x, xp⟩, hx⟩ := x
    subst hx
    obtain ⟨hc, h⟩ := ite_inv h
    obtain ⟨i, hi, h⟩ := bind_inv h
    obtain ⟨sl, _, _⟩ := slot_ok hi
    cases ho : owns.contains x with
    | true =>
      have h : (if owns.contains x = true then (trOwn C.F C.env.scope C.names 100 e).map (S.own i) else (tr C.F C.env.scope C.names 100 e).map (S.asg i)) = some s' := h
      rw [if_pos ho] at h
      obtain ⟨e', he, rfl⟩ := map_inv h
      exact ⟨fun st Q q => SX.own sl hc (fr_ok he q)⟩
    | false =>
      have h : (if owns.contains x = true then (trOwn C.F C.env.scope C.names 100 e).map (S.own i) else (tr C.F C.env.scope C.names 100 e).map (S.asg i)) = some s' := h
      rw [if_neg (by rw [ho]; decide)] at h
      obtain ⟨e', he, rfl⟩ := map_inv h
      exact ⟨fun st Q q => SX.asg sl hc ((G he).ev _ _ q)⟩
  | none =>
    rw [hn] at h
    clear hn
    cases hs : subV t with
    | none => rw [hs] at h; exact swap_ok h
    | some q =>
      rw [hs] at h
      obtain ⟨⟨v, ie, sp⟩, hx⟩ := q
      subst hx
      obtain ⟨hc, h⟩ := ite_inv h
      obtain ⟨⟨⟨x, xp⟩, hx⟩, _, h⟩ := bind_inv h
      obtain rfl : v = _ := hx
      obtain ⟨i, hi, h⟩ := bind_inv h
      obtain ⟨ie', hie, h⟩ := bind_inv h
      obtain ⟨e', he, rfl⟩ := map_inv h
      obtain ⟨sl, d1, c1⟩ := slot_ok hi
      refine ⟨fun st Q q => ?_⟩
      simp only [ex1] at q
      split at q
      · rename_i xs hx
        exact SX.sto sl.at' d1 c1 hc hx (fun Q q => (G hie).ev _ _ q) ((G he).ev _ _ q)
      · exact q.elim
theorem asgs_ok {ts : List Expr} {e : Expr} {p : Pos} {s' : S} (h : trAsgs C.F C.env.scope C.names owns ts e = some s') : GoodS C (.Assign ts e p) s' := by
  cases ts with
  | nil => cases h
  | cons t l => cases l with
    | nil => exact asg_ok h
    | cons t2 l =>
      obtain ⟨hl, h⟩ := ite_inv h
      obtain rfl := List.isEmpty_iff.mp hl
      obtain ⟨⟨⟨x, xp⟩, hx⟩, _, h⟩ := bind_inv h
      obtain rfl : t = _ := hx
      obtain ⟨⟨⟨y, yp⟩, hx⟩, _, h⟩ := bind_inv h
      obtain rfl : t2 = _ := hx
      obtain ⟨i, hi, h⟩ := bind_inv h
      obtain ⟨j, hj, h⟩ := bind_inv h
      obtain ⟨e', he, rfl⟩ := map_inv h
      exact ⟨fun st Q q => SX.asg2 (slot_ok hi).1 (slot_ok hj).1 ((G he).ev _ _ q)⟩
theorem aug_ok {t e : Expr} {op : Operator} {p : Pos} {s' : S} (h : trAug C.F C.env.scope C.names t op e = some s') : GoodS C (.AugAssign t op e p) s' := by
  unfold trAug at h
  cases hn : nameV t with
  | some x =>
    rw [hn] at h
    obtain ⟨⟨x, xp⟩, hx⟩ := x
    subst hx
    obtain ⟨i, hi, h⟩ := bind_inv h
    obtain ⟨e', he, rfl⟩ := map_inv h
    obtain ⟨sl, d1, c1⟩ := slot_ok hi
    refine ⟨fun st Q q => ?_⟩
    simp only [ex1] at q
    split at q
    · rename_i t ht
      exact SX.aug sl c1 ht q.1 ((G he).ev _ _ q.2)
    · exact q.elim
  | none =>
    rw [hn] at h
    clear hn
    obtain ⟨⟨⟨v, ie, sp⟩, hx⟩, _, h⟩ := bind_inv h
    subst hx
    obtain ⟨hc, h⟩ := ite_inv' h
    obtain ⟨⟨⟨x, xp⟩, hx⟩, _, h⟩ := bind_inv h
    obtain rfl : v = _ := hx
    obtain ⟨i, hi, h⟩ := bind_inv h
    obtain ⟨ie', hie, h⟩ := bind_inv h
    obtain ⟨e', he, rfl⟩ := map_inv h
    obtain ⟨sl, d1, c1⟩ := slot_ok hi
    refine ⟨fun st Q q => ?_⟩
    simp only [ex1] at q
    split at q
    · rename_i xs hx
      exact SX.augS sl.at' d1 c1 (Bool.eq_false_iff.mpr hc) hx (fun Q q => (G he).ev _ _ q) ((G hie).ev _ _ q)
    · exact q.elim
theorem trS_ok : ∀ (n : Nat) (s : Stmt) (s' : S), trS C.F C.env.scope C.names owns n s = some s' → GoodS C s s'
  | 0, _, _, h => by cases h
  | n + 1, s, s', h => by
    have ihs : ∀ {es es'}, es.mapM (trS C.F C.env.scope C.names owns n) = some es' → All2 (GoodS C) es es' := fun h => (mapM_all2 h).mono (trS_ok n)
    cases s with
    | Assign ts e p => exact asgs_ok h
    | AugAssign t op e p => exact aug_ok h
    | If t a b p =>
      obtain ⟨t', ht, h⟩ := bind_inv h
      obtain ⟨a', ha, h⟩ := bind_inv h
      obtain ⟨b', hb, rfl⟩ := map_inv h
      refine ⟨fun st Q q => SX.ifs ?_⟩
      have q : tsW C.F (rd st) t' fun c => if c = true then exs C.F (toSs a') st Q else exs C.F (toSs b') st Q := by simpa only [ex1] using q
      intro A env bad bc s hA R
      refine wp_no ((G ht).tv _ _ q A env bad bc s hA R) fun c s1 ⟨x1, q1⟩ => ⟨x1, ?_⟩
      cases c with
      | true => exact goodSs (ihs ha) _ _ (by simpa using q1)
      | false => exact goodSs (ihs hb) _ _ (by simpa using q1)
    | While t b o p =>
      obtain ⟨ho, h1⟩ := ite_inv h
      clear h
      obtain rfl := List.isEmpty_iff.mp ho
      obtain ⟨t', ht, h2⟩ := bind_inv h1
      obtain ⟨b', hb, rfl⟩ := map_inv h2
      refine ⟨fun st Q q => ?_⟩
      simp only [ex1] at q
      obtain ⟨I, h0, turn⟩ := q
      refine SX.whl I h0 fun n st' hI => ?_
      intro A env bad bc s hA R
      refine wp_no ((G ht).tv _ _ (turn n st' hI) A env bad bc s hA R) fun c s1 ⟨x1, q1⟩ => ⟨x1, ?_⟩
      cases c with
      | true => exact goodSs (ihs hb) _ _ (by simpa using q1)
      | false => simpa using q1
    | For t it b o p =>
      obtain ⟨ho, h1⟩ := ite_inv h
      clear h
      obtain rfl := List.isEmpty_iff.mp ho
      obtain ⟨⟨⟨x, xp⟩, hx⟩, _, h2⟩ := bind_inv h1
      obtain rfl : t = _ := hx
      obtain ⟨i, hi, h3⟩ := bind_inv h2
      obtain ⟨it', hit, h4⟩ := bind_inv h3
      obtain ⟨b', hb, rfl⟩ := map_inv h4
      refine ⟨fun st Q q => ?_⟩
      simp only [ex1] at q
      refine SX.for (slot_ok hi).1 (noSet hit) ?_
      intro A env bad bc s hA R
      refine wp_no ((G hit).ev _ _ q A env bad bc s hA R) fun v s1 ⟨x1, t, d, ⟨hd, ho, items, hi2, I, h0, turn, fin⟩, r⟩ => ⟨x1, t, d, ⟨hd, ho, items, hi2, I, h0, fun j st' v hv hI => goodSs (ihs hb) _ _ (turn j st' v hv hI), fin⟩, r⟩
    | Return o p =>
      obtain ⟨e, ho, h⟩ := bind_inv h
      subst ho
      obtain ⟨e', he, rfl⟩ := map_inv h
      refine ⟨fun st Q q => SX.ret ((G he).ev _ _ ?_)⟩
      simpa only [ex1] using q
    | _ => exact nomatch (show (none : Option S) = some s' from h)
end
end Mine
end

section
open PySem PySem.Calls PyProof.Rows
set_option linter.unusedVariables false
namespace Mine

theorem bindL_out {kd : Str → Option NameKind} {x : Str} : ∀ {ps : List Str} {vs : List Value} {m : Str → Option Value}, x ∉ ps → bindL kd (ps.zip vs) m x = m x
  | [], _, _, _ => rfl
  | p :: ps, [], _, _ => rfl
  | p :: ps, v :: vs, m, h => by
    simp only [List.zip_cons_cons, bindL]
    rw [bindL_out (fun q => h (List.mem_cons_of_mem _ q))]
    split
    · have : x ≠ p := fun e => h (e ▸ List.mem_cons_self)
      simp [this]
    · rfl
theorem bindC_out {kd : Str → Option NameKind} {x : Str} : ∀ {ps : List Str} {vs : List Value} {m : Str → Option Value}, x ∉ ps → bindC kd (ps.zip vs) m x = m x
  | [], _, _, _ => rfl
  | p :: ps, [], _, _ => rfl
  | p :: ps, v :: vs, m, h => by
    simp only [List.zip_cons_cons, bindC]
    rw [bindC_out (fun q => h (List.mem_cons_of_mem _ q))]
    split
    · rfl
    · have : x ≠ p := fun e => h (e ▸ List.mem_cons_self)
      simp [this]
theorem bindL_at {kd : Str → Option NameKind} {x : Str} (hk : kd x = some .local) : ∀ {ps : List Str} {vs : List Value} {m : Str → Option Value} {i : Nat} {v : Value}, ps.Nodup → ps[i]? = some x → vs[i]? = some v → bindL kd (ps.zip vs) m x = some v
  | [], _, _, _, _, _, h, _ => by simp at h
  | p :: ps, [], _, _, _, _, _, h => by simp at h
  | p :: ps, v :: vs, m, 0, u, hn, h1, h2 => by
    simp at h1 h2; subst h1 h2
    simp only [List.zip_cons_cons, bindL]
    rw [bindL_out (List.nodup_cons.mp hn).1, if_pos hk]; simp
  | p :: ps, v :: vs, m, i + 1, u, hn, h1, h2 => by
    simp only [List.zip_cons_cons, bindL]
    exact bindL_at hk (List.nodup_cons.mp hn).2 (by simpa using h1) (by simpa using h2)
theorem bindC_at {kd : Str → Option NameKind} {x : Str} (hk : kd x ≠ some .local) : ∀ {ps : List Str} {vs : List Value} {m : Str → Option Value} {i : Nat} {v : Value}, ps.Nodup → ps[i]? = some x → vs[i]? = some v → bindC kd (ps.zip vs) m x = some v
  | [], _, _, _, _, _, h, _ => by simp at h
  | p :: ps, [], _, _, _, _, _, h => by simp at h
  | p :: ps, v :: vs, m, 0, u, hn, h1, h2 => by
    simp at h1 h2; subst h1 h2
    simp only [List.zip_cons_cons, bindC]
    rw [bindC_out (List.nodup_cons.mp hn).1, if_neg hk]; simp
  | p :: ps, v :: vs, m, i + 1, u, hn, h1, h2 => by
    simp only [List.zip_cons_cons, bindC]
    exact bindC_at hk (List.nodup_cons.mp hn).2 (by simpa using h1) (by simpa using h2)

theorem cells_acc {x : Str} : ∀ {names : List (Str × NameKind)} {lo : Nat} {acc : List (Str × Addr)}, (acc.lookup x).isSome = true → ((cellsFrom lo names acc).lookup x).isSome = true
  | [], _, _, h => h
  | (n, k) :: r, lo, acc, h => by
    unfold cellsFrom
    split
    · refine cells_acc ?_
      rw [List.lookup_cons]; split
      · rfl
      · exact h
    · exact cells_acc h
theorem cells_some {x : Str} : ∀ {names : List (Str × NameKind)} {lo : Nat} {acc : List (Str × Addr)}, names.lookup x = some .cell → ((cellsFrom lo names acc).lookup x).isSome = true
  | [], _, _, h => by cases h
  | (n, k) :: r, lo, acc, h => by
    unfold cellsFrom
    rw [List.lookup_cons] at h
    split at h
    · rename_i e
      cases h
      rw [if_pos (by decide)]
      refine cells_acc ?_
      rw [List.lookup_cons, e]; rfl
    · split
      · exact cells_some h
      · exact cells_some h

noncomputable def varsOf (sc : Scope) : List Str := (sc.names.filter fun p => p.2 == .local || p.2 == .cell).map (·.1)
noncomputable def initFrom : Nat → List V → St
  | _, [] => []
  | i, t :: ts => (i, .val t) :: initFrom (i + 1) ts
theorem initFrom_lookup : ∀ {ts : List V} {i j : Nat} {b : B}, (initFrom i ts).lookup j = some b → ∃ t, b = .val t ∧ i ≤ j ∧ ts[j - i]? = some t
  | [], _, _, _, h => by cases h
  | t :: ts, i, j, b, h => by
    unfold initFrom at h
    rw [List.lookup_cons] at h
    split at h
    · rename_i e
      have : j = i := by simpa using e
      subst this
      cases h
      exact ⟨t, rfl, Nat.le_refl _, by simp⟩
    · rename_i e
      have hne : j ≠ i := by simpa using e
      obtain ⟨u, h1, h2, h3⟩ := initFrom_lookup h
      refine ⟨u, h1, by omega, ?_⟩
      have : j - i = (j - (i + 1)) + 1 := by omega
      rw [this]; simpa using h3

noncomputable def retOut (Q : V → Prop) : Out → Prop
  | .ret t => Q t
  | .next _ => Q .none
  | _ => False

/-- what may be looked up about a def, by computation -/
noncomputable def defOk (fd : FuncData) (params : List Str) : Bool :=
  let names := varsOf fd.scope
  decide names.Nodup && decide (names.take params.length = params) && (params.all fun p => fd.scope.names.lookup p == some .local || fd.scope.names.lookup p == some .cell) &&
  fd.scope.kind == .function && !fd.scope.isCoroutine && !fd.scope.isGenerator && fd.closure.isEmpty && fd.globals == mainGlobals && fd.builtins == builtinsNs

theorem FnOk.of {T : GT} {k : Nat} {F : Fenv} {a : Addr} {o : Obj} {fd : FuncData} {body : List Stmt} {params owns : List Str} {ss : List S} {sp : Spec} (FO : FOk T k F)
    (ho : T.h0.get? a = some o) (hdata : o.data = .func fd) (hcd : T.h0.CodeRec fd.code fd.qualname) (hbody : fd.body = .stmts body)
    (hbind : ∀ vals : List Value, vals.length = params.length → bindArgs fd ⟨vals, []⟩ = pure (params.zip vals)) (hok : defOk fd params = true)
    (htr : body.mapM (trS F fd.scope (varsOf fd.scope) owns 50) = some ss)
    (hsp : ∀ ts Q, sp ts Q → ts.length = params.length ∧ exs F (toSs ss) (initFrom 0 ts) (retOut Q)) : FnOk T (k + 1) (.ref a) sp := by
  intro A s bad vs ts Q hA hbase hbad hr hs
  obtain ⟨hlen, hex⟩ := hsp ts Q hs
  simp only [defOk, Bool.and_eq_true, decide_eq_true_eq, beq_iff_eq, Bool.not_eq_true', List.isEmpty_iff] at hok
  obtain ⟨⟨⟨⟨⟨⟨⟨⟨hnd, htake⟩, hall⟩, hk⟩, hco⟩, hgen⟩, hclo⟩, hglo⟩, hblt⟩ := hok
  have hvl := hr.length
  have hpn : params.Nodup := by rw [← htake]; exact hnd.sublist (List.take_sublist _ _)
  have kinds : ∀ p ∈ params, fd.scope.names.lookup p = some .local ∨ fd.scope.names.lookup p = some .cell := fun p hp => by
    have := List.all_eq_true.mp hall p hp
    simpa using this
  refine wpAny_call (codeAny_call_cells (by have := hA.2.1; omega) (hbase _ _ ho) hdata (T.lim.keeps hbase) (hcd.keeps hbase) hbody (hbind vs (by omega)) hclo (fun x hx => ?_) (fun s₁ IC => ?_) hco hgen hk)
  · have hx : x.1 ∈ params := (List.of_mem_zip hx).1
    rcases kinds _ hx with h | h
    · exact .inl h
    · exact .inr ⟨h, cells_some h⟩
  obtain ⟨x0, hcell, hapart, habove⟩ := IC
  obtain ⟨⟨h1, t1, e1⟩, hns, hkeep, hfresh⟩ := x0
  let env := callEnvC fd s.heap.objs.size a
  have henv : env = callEnvC fd s.heap.objs.size a := rfl
  have hL : env.locals = s.heap.objs.size := rfl
  have hsc : env.scope = fd.scope := rfl
  let C : FC := ⟨T, k, F, env, varsOf fd.scope, A.deeper env, hA.deeper, FO, hk, hglo, hblt, hnd,
    fun n n' c h h' => name_of_addr hapart (mem_of_lookup h) (mem_of_lookup h'), fun n h => Nat.lt_irrefl _ (habove n _ (mem_of_lookup h)), fun nm h => cells_some h⟩
  have k1 : Keeps s.heap s₁.heap := fun b o e => hkeep b o e
  have newA : ∀ c, s.heap.objs.size ≤ c → T.h0.get? c = none ∧ ¬ bad c := fun c hc => by
    refine ⟨?_, fun hb => ?_⟩
    · cases e : T.h0.get? c with
      | none => rfl
      | some o => exact absurd (Heap.lt_size (hbase c o e)) (Nat.not_lt.mpr hc)
    · exact absurd (hbad c hb).1.lt (Nat.not_lt.mpr hc)
  have mutNew : ∀ c, Mut C (fun _ => []) c → s.heap.objs.size ≤ c := fun c hm => by
    rcases hm with h | ⟨n, h⟩ | ⟨i, h⟩
    · exact Nat.le_of_eq (h ▸ rfl)
    · exact Nat.le_of_lt (habove n _ (mem_of_lookup h))
    · cases h
  have S : Sim C bad (initFrom 0 ts) (fun _ => []) s₁ := by
    refine ⟨fun b o e => k1 b o (hbase b o e), fun c hc => ⟨(hbad c hc).1.keeps k1, (hbad c hc).2⟩, newA _ (Nat.le_refl _), fun n c hc => newA c (Nat.le_of_lt (habove n _ (mem_of_lookup hc))), fun i c hc => (by cases hc), fun i j _ c hc => (by cases hc), fun i => List.nodup_nil,
      _, _, ⟨hns, fun n c hc => hcell n c hc⟩, fun i b hb => ?_⟩
    obtain ⟨t, rfl, _, ht⟩ := initFrom_lookup hb
    have ht : ts[i]? = some t := by simpa using ht
    obtain ⟨v, hv, hrv⟩ := hr.get ht
    have hi : i < params.length := by have := (List.getElem?_eq_some_iff.mp ht).1; omega
    obtain ⟨p, hp⟩ : ∃ p, params[i]? = some p := ⟨_, List.getElem?_eq_getElem hi⟩
    have hnp : (varsOf fd.scope)[i]? = some p := by
      have : (varsOf fd.scope)[i]? = ((varsOf fd.scope).take params.length)[i]? := by rw [List.getElem?_take_of_lt hi]
      rw [this, htake]; exact hp
    refine ⟨p, v, hnp, ?_, hrv.mono fun c o ⟨e, n⟩ => ⟨k1 c o e, fun hb => ?_⟩⟩
    · unfold valAt
      rcases kinds p (List.mem_of_getElem? hp) with h | h
      · have h' : env.kindOf p = some .local := h
        show (match env.kindOf p with | some .local => _ | some .cell => _ | some .free => _ | _ => _) = _
        rw [h']
        exact bindL_at (kd := env.kindOf) h' hpn hp hv
      · have h' : env.kindOf p = some .cell := h
        show (match env.kindOf p with | some .local => _ | some .cell => _ | some .free => _ | _ => _) = _
        rw [h']
        have hc : (env.cells.lookup p).isSome = true := cells_some h
        show (if (env.cells.lookup p).isSome = true then _ else _) = _
        rw [if_pos hc]
        exact bindC_at (kd := env.kindOf) (by rw [h']; decide) hpn hp hv
    · rcases hb with q | q
      · exact n q
      · exact Nat.lt_irrefl _ (Nat.lt_of_lt_of_le (Heap.lt_size e) (mutNew c q))
  have W := goodSs (C := C) ((mapM_all2 htr).mono fun s s' h => trS_ok (C := C) (owns := owns) 50 s s' h) _ _ hex bad _ s₁ S
  refine wp_no W fun f s' ⟨⟨⟨h2, t2, e2⟩, fr⟩, po⟩ => ?_
  have ext : Ext s s' := by
    rw [e2, e1]
    refine ⟨h2, t2, rfl, fun b o e => ?_⟩
    have := fr b o (k1 b o e) fun hm => Nat.lt_irrefl _ (Nat.lt_of_lt_of_le (Heap.lt_size e) (mutNew b hm))
    rw [e2] at this; exact this
  cases f with
  | next => obtain ⟨st', ad', q, _, _⟩ := po; exact ⟨ext, .none, q, .none⟩
  | brk => obtain ⟨st', ad', q, _, _⟩ := po; exact q.elim
  | cont => obtain ⟨st', ad', q, _, _⟩ := po; exact q.elim
  | ret v => obtain ⟨t, q, r⟩ := po; exact ⟨ext, t, q, r⟩
end Mine
end

section
open PySem PySem.Calls
set_option linter.unusedVariables false
namespace Mine
theorem subOk1 {T : GT} {pa : Addr} (P : Rx.Pat T.h0 pa Rx.code1) : SubOk T pa [46, 46] (Rx.dotL true) := fun A s pos ta tb Q k h => by
  have := Rx.method_sub (prog := T.prog) (w := T.w) (A := A) (E := No) (pos := pos) (ta := ta) (tb := tb) (Q := Q) (find := Rx.find1) (r := [46, 46]) (fun t hz => Rx.finds1 t hz) rfl (by decide) (P.keeps k) (by
    refine wpAny_mono h (fun va s1 h1 => wpAny_mono h1 (fun vb s2 ⟨ru, x, u, e1, e2, hz, X, q⟩ => ⟨ru, x, u, e1, e2, hz, X, ?_⟩) fun _ _ e => e) fun _ _ e => e
    rw [Rx.sub1_ok]; exact q)
  exact this
theorem subOk2 {T : GT} {pa : Addr} (P : Rx.Pat T.h0 pa Rx.code2) : SubOk T pa [13, 10] Rx.norm2 := fun A s pos ta tb Q k h => by
  have := Rx.method_sub (prog := T.prog) (w := T.w) (A := A) (E := No) (pos := pos) (ta := ta) (tb := tb) (Q := Q) (find := Rx.find2) (r := [13, 10]) (fun t hz => Rx.finds2 t) rfl (by decide) (P.keeps k) (by
    refine wpAny_mono h (fun va s1 h1 => wpAny_mono h1 (fun vb s2 ⟨ru, x, u, e1, e2, hz, X, q⟩ => ⟨ru, x, u, e1, e2, hz, X, ?_⟩) fun _ _ e => e) fun _ _ e => e
    rw [Rx.sub2_ok]; exact q)
  exact this
end Mine
end

section
open PySem PySem.Calls PyProof.Rows
set_option linter.unusedSimpArgs false
set_option linter.unusedVariables false
namespace Mine
noncomputable def dOf (p : Program) (x : Str) : DefRec := ((recsOf p).find? (·.name == x)).getD ⟨"", ⟨[], [], none, [], [], none, []⟩, [], { kind := .module, names := [], isGenerator := false, isCoroutine := false }, ⟨0,0,0,0⟩⟩
abbrev P1 := PySem.Challenge.pw_rw0070_01
noncomputable def trD (F : Fenv) (d : DefRec) (owns : List Str) : Option (List S) := d.body.mapM (trS F d.scope (varsOf d.scope) owns 50)
set_option maxRecDepth 100000
noncomputable def FS : Fenv := ⟨[("_CASE_COST", .int 1), ("_MOVE_COST", .int 2)], [], [], []⟩
noncomputable def dS := dOf P1 "_substitution_cost"
noncomputable def substC (x y : List Nat) : Int := if x = y then 0 else if lowL x = lowL y then 1 else 2
noncomputable def spS : Spec := fun ts Q => ∃ x y, ts = [.str x, .str y] ∧ x.length ≤ 1000 ∧ y.length ≤ 1000 ∧ Q (.int (substC x y))
theorem exs_cons (F : Fenv) (s : S) (ss : Ss) (st : St) (Q : Out → Prop) : exs F (.cons s ss) st Q = ex1 F s st (contW (fun st' => exs F ss st' Q) Q) := rfl
theorem exs_step {F : Fenv} {s : S} {ss : Ss} {st : St} {Q : Out → Prop} (h : ∀ K, K = (fun st' => exs F ss st' Q) → ex1 F s st (contW K Q)) : exs F (.cons s ss) st Q := h _ rfl
theorem mem_lookup {st : St} {i : Nat} {b : B} (h : st.lookup i = some b) : (i, b) ∈ st := by
  induction st with
  | nil => cases h
  | cons p st ih =>
    obtain ⟨j, c⟩ := p
    rw [List.lookup_cons] at h
    split at h
    · rename_i e
      cases h
      have : i = j := by simpa using e
      subst this; exact List.mem_cons_self
    · exact List.mem_cons_of_mem _ (ih h)
noncomputable def subP (st : St) : St → Prop
  | [] => True
  | p :: l => st.lookup p.1 = some p.2 ∧ subP st l
theorem subP_mem {st : St} : ∀ {st' : St}, subP st st' → ∀ p ∈ st', st.lookup p.1 = some p.2
  | [], _, _, h => by cases h
  | p :: l, h, q, hq => by
    rcases List.mem_cons.mp hq with rfl | hq
    · exact h.1
    · exact subP_mem h.2 q hq
theorem sub_of {st' st : St} (h : subP st st') : Sub st' st := fun i b e => subP_mem h (i, b) (mem_lookup e)
theorem exs_nil (F : Fenv) (st : St) (Q : Out → Prop) : exs F .nil st Q = Q (.next st) := rfl
local macro_rules | `(tactic| walk_at "sub") => `(tactic| ((repeat (refine And.intro (by first | rfl | (with_unfolding_all rfl) | (simp [List.lookup]; done) | (simp [List.lookup]; omega) | (simp [List.lookup, List.foldl_append]; omega)) ?_)); exact trivial))
local macro_rules | `(tactic| walk_at "vc") => `(tactic| (repeat (first | (dsimp only [List.reverse_cons, List.reverse_nil, List.nil_append, List.cons_append, toSs, toEs, exs_nil, ex1, contW, retOut, initFrom, rd, List.map, B.read, evW, tsW, sem, sems, ofV, List.lookup, cmpW, eqV, isV, inV, intOf, strOf, boolOf, Option.map, isVB, isVN, isVI, inS, oW, oWn, addW, mulW, asStr, truthW, me0W, me1W, meOk, binW, idxW, slW, optI, biW, asInt, w1, lenW, rngW, rangeW, minW, specAt, allZ, bGo, V.flat, augOk, frW, Nat.reduceBEq, Nat.reduceAdd]; try simp only [beq_self_eq_true, reduceCtorEq, decide_eq_true_eq, Bool.not_eq_true', decide_eq_false_iff_not, and_true, true_and, if_true, if_false, Bool.false_eq_true]) | simp only [beq_self_eq_true, reduceCtorEq, decide_eq_true_eq, Bool.not_eq_true', decide_eq_false_iff_not, and_true, true_and, if_true, if_false, Bool.false_eq_true])))

noncomputable def FL : Fenv := ⟨[("_MAX_STRING_SIZE", .int 40), ("_MOVE_COST", .int 2)], [("_substitution_cost", spS)], [.len, .list, .range, .min], []⟩
noncomputable def dL := dOf P1 "_levenshtein_distance"

noncomputable def stripP : List Nat → List Nat → List Nat × List Nat
  | x :: a, y :: b => if x = y then stripP a b else (x :: a, y :: b)
  | a, b => (a, b)
noncomputable def stripB (a b : List Nat) : List Nat × List Nat :=
  let p := stripP a b
  let q := stripP p.1.reverse p.2.reverse
  (q.1.reverse, q.2.reverse)
noncomputable def rowF (c : Nat) : List Nat → List Int → Int → Int → List Int × Int
  | x :: s, r :: row, dist, res =>
    let res' := min (min res r + 2) (dist + substC [c] [x])
    let p := rowF c s row r res'
    (res' :: p.1, p.2)
  | _, _, _, res => ([], res)
noncomputable def big : Int := 9223372036854775807
noncomputable def dpF (s : List Nat) (m : Int) : List Nat → Nat → List Int → Int → Int
  | [], _, _, res => res
  | c :: t, j, row, res =>
    let p := rowF c s row (2 * j) (2 * j)
    if p.1.foldl min big > m then m + 1 else dpF s m t (j + 1) p.1 p.2
noncomputable def row0 (n : Nat) : List Int := (List.range n).map fun (k : Nat) => 2 * (k : Int) + 2
noncomputable def levS (s t : List Nat) (m : Int) : Int := if 2 * ((t.length : Int) - s.length) > m then m + 1 else dpF s m t 0 (row0 s.length) 0
noncomputable def lev (a b : List Nat) (m : Int) : Int :=
  if a = b then 0 else
  let p := stripB a b
  if p.1 = [] ∨ p.2 = [] then 2 * (p.1.length + p.2.length : Int)
  else if p.1.length > 40 ∨ p.2.length > 40 then m + 1
  else if p.2.length < p.1.length then levS p.2 p.1 m else levS p.1 p.2 m
noncomputable def spL : Spec := fun ts Q => ∃ a b m, ts = [.str a, .str b, .int m] ∧ a.length ≤ 1000 ∧ b.length ≤ 1000 ∧ Q (.int (lev a b m))


theorem cut_from (xs : List α) (p : Nat) : cut xs (some (p : Int)) none = xs.drop p := by
  unfold cut
  simp only [Option.elim, clipAt_nat]
  by_cases h : p ≤ xs.length
  · rw [Nat.min_eq_left h, List.take_of_length_le (by simp)]
  · rw [Nat.min_eq_right (by omega), List.drop_eq_nil_of_le (Nat.le_refl _), List.drop_eq_nil_of_le (by omega)]; simp
theorem cut_upto (xs : List α) (k : Nat) (h : 1 ≤ k) : cut xs none (some (-(k : Int))) = xs.take (xs.length - k) := by
  unfold cut
  simp only [Option.elim, clipAt_neg _ _ h, List.drop_zero, Nat.sub_zero]
theorem cut_all (xs : List α) : cut xs none none = xs := by
  unfold cut; simp

theorem stripP_len : ∀ (a b : List Nat), (stripP a b).1.length ≤ a.length ∧ (stripP a b).2.length ≤ b.length
  | [], b => by simp [stripP]
  | x :: a, [] => by simp [stripP]
  | x :: a, y :: b => by
    unfold stripP
    split
    · have := stripP_len a b; simp; omega
    · simp
theorem stripB_len (a b : List Nat) : (stripB a b).1.length ≤ a.length ∧ (stripB a b).2.length ≤ b.length := by
  have h1 := stripP_len a b
  have h2 := stripP_len (stripP a b).1.reverse (stripP a b).2.reverse
  unfold stripB
  simp at h2 ⊢
  omega

theorem lev_loop1 {F : Fenv} {a b : List Nat} {m : Int} {K : St → Prop} {Q : Out → Prop}
    (h : ∀ p : Nat, p ≤ a.length → p ≤ b.length → stripP a b = (a.drop p, b.drop p) → K [(3, .val (.int p)), (0, .val (.str a)), (1, .val (.str b)), (2, .val (.int m))]) :
    ex1 F (.whl (.bop .And (.sl (.var 0) (.var 3) (.lit .none)) (.bop .And (.sl (.var 1) (.var 3) (.lit .none)) (.cmp .Eq (.idx (.var 0) (.var 3)) (.idx (.var 1) (.var 3)))))
      (.cons (.aug .Add 3 (.lit (.int 1))) .nil)) [(3, .val (.int 0)), (0, .val (.str a)), (1, .val (.str b)), (2, .val (.int m))] (contW K Q) := by
  walk_at "vc"
  refine ⟨fun n st => ∃ p : Nat, n = a.length - p ∧ p ≤ a.length ∧ p ≤ b.length ∧ stripP (a.drop p) (b.drop p) = stripP a b ∧ st = [(3, .val (.int p)), (0, .val (.str a)), (1, .val (.str b)), (2, .val (.int m))], ⟨_, _, ?_, 0, rfl, Nat.zero_le _, Nat.zero_le _, by simp, rfl⟩, ?_⟩
  · intro i b h; simpa using h
  rintro n _ ⟨p, rfl, hpa, hpb, hp, rfl⟩
  walk_at "vc"
  rw [cut_from, cut_from]
  cases ea : a.drop p with
  | nil =>
    simp only [ne_eq, not_true_eq_false, if_false, contW]
    exact h p hpa hpb (by rw [← hp, ea]; simp [stripP])
  | cons x a' =>
    simp only [ne_eq, reduceCtorEq, not_false_eq_true, if_true]
    cases eb : b.drop p with
    | nil =>
      simp only [ne_eq, not_true_eq_false, if_false, contW]
      exact h p hpa hpb (by rw [← hp, ea, eb]; simp [stripP])
    | cons y b' =>
      simp only [ne_eq, reduceCtorEq, not_false_eq_true, if_true]
      have la : p < a.length := by have := congrArg List.length ea; simp at this; omega
      have lb : p < b.length := by have := congrArg List.length eb; simp at this; omega
      have xa : a.getD p 0 = x := by
        have : (a.drop p)[0]? = some x := by rw [ea]; rfl
        rw [List.getElem?_drop] at this; simpa [List.getD_eq_getElem?_getD] using congrArg (·.getD 0) this
      have xb : b.getD p 0 = y := by
        have : (b.drop p)[0]? = some y := by rw [eb]; rfl
        rw [List.getElem?_drop] at this; simpa [List.getD_eq_getElem?_getD] using congrArg (·.getD 0) this
      rw [pix_pos (by omega), pix_pos (by omega)]
      simp only [Int.toNat_natCast, xa, xb]
      refine ⟨by omega, by omega, by omega, by omega, ?_⟩
      split
      · rename_i e
        have e : x = y := by simpa using e
        refine exs_step fun K hK => ?_
        walk_at "vc"
        simp only [hK, exs_nil, loopOut]
        refine ⟨_, sub_of ?_, a.length - (p + 1), by omega, p + 1, rfl, by omega, by omega, ?_, rfl⟩
        · walk_at "sub"
        · have e1 : a.drop (p + 1) = a' := by rw [← List.drop_drop, ea]; rfl
          have e2 : b.drop (p + 1) = b' := by rw [← List.drop_drop, eb]; rfl
          rw [← hp, ea, eb, e1, e2, stripP, if_pos e]
      · rename_i e
        have e : ¬ x = y := by simpa using e
        exact h p hpa hpb (by rw [← hp, ea, eb, stripP, if_neg e])

theorem getD_rev (l : List Nat) (k : Nat) (h : k < l.length) : l.getD (l.length - 1 - k) 0 = l.reverse.getD k 0 := by
  rw [List.getD_eq_getElem?_getD, List.getD_eq_getElem?_getD, List.getElem?_reverse h]
theorem take_rev (l : List Nat) (k : Nat) : l.take (l.length - k) = (l.reverse.drop k).reverse := by
  rw [List.reverse_drop, List.reverse_reverse, List.length_reverse]

theorem cut_get {l : List Nat} {k x : Nat} {l' : List Nat} (e : l.reverse.drop k = x :: l') : k < l.length ∧ l.getD (pix (-(k : Int) - 1) l.length) 0 = x := by
  have hl : k < l.length := by have := congrArg List.length e; simp at this; omega
  have p : pix (-(k : Int) - 1) l.length = l.length - 1 - k := by unfold pix; rw [if_pos (by clear e; omega)]; clear e; omega
  refine ⟨hl, ?_⟩
  rw [p, getD_rev l k hl]
  have : (l.reverse.drop k)[0]? = some x := by rw [e]; rfl
  rw [List.getElem?_drop] at this; simpa [List.getD_eq_getElem?_getD] using congrArg (·.getD 0) this
theorem cut_bd {l k : Nat} (h : k < l) : -(l : Int) ≤ -(k : Int) - 1 ∧ -(k : Int) - 1 < l := by omega
theorem if2 {A B X W Y Z : Prop} [Decidable A] [Decidable B] (h1 : A → B → X) (h2 : ¬ A → Y) (h3 : A → ¬ B → Z) : if A then (if B then X else if B then W else Z) else Y := by
  by_cases ha : A
  · rw [if_pos ha]
    by_cases hb : B
    · rw [if_pos hb]; exact h1 ha hb
    · rw [if_neg hb, if_neg hb]; exact h3 ha hb
  · rw [if_neg ha]; exact h2 ha

theorem lev_loop2 {F : Fenv} {a b : List Nat} {m : Int} {K : St → Prop} {Q : Out → Prop} (ha : a.length ≤ 1000) (hb : b.length ≤ 1000)
    (h : ∀ k : Nat, k ≤ a.length → k ≤ b.length → stripP a.reverse b.reverse = (a.reverse.drop k, b.reverse.drop k) → K [(4, .val (.int (-(k : Int)))), (1, .val (.str b)), (0, .val (.str a)), (2, .val (.int m))]) {st : St}
    (hst : Sub [(4, .val (.int 0)), (1, .val (.str b)), (0, .val (.str a)), (2, .val (.int m))] st) :
    ex1 F (.whl (.bop .And (.sl (.var 0) (.lit .none) (.bop .Or (.var 4) (.lit .none))) (.bop .And (.sl (.var 1) (.lit .none) (.bop .Or (.var 4) (.lit .none)))
        (.cmp .Eq (.idx (.var 0) (.bin .Sub (.var 4) (.lit (.int 1)))) (.idx (.var 1) (.bin .Sub (.var 4) (.lit (.int 1)))))))
      (.cons (.aug .Sub 4 (.lit (.int 1))) .nil)) st (contW K Q) := by
  walk_at "vc"
  refine ⟨fun n st => ∃ k : Nat, n = a.length - k ∧ k ≤ a.length ∧ k ≤ b.length ∧ stripP (a.reverse.drop k) (b.reverse.drop k) = stripP a.reverse b.reverse ∧ st = [(4, .val (.int (-(k : Int)))), (1, .val (.str b)), (0, .val (.str a)), (2, .val (.int m))], ⟨_, _, hst, 0, rfl, Nat.zero_le _, Nat.zero_le _, by simp, rfl⟩, ?_⟩
  rintro n _ ⟨k, rfl, hka, hkb, hk, rfl⟩
  walk_at "vc"
  have core : ∀ {x y : Nat} {a' b' : List Nat}, a.reverse.drop k = x :: a' → b.reverse.drop k = y :: b' → (-(a.length : Int) ≤ -(k : Int) - 1 ∧ -(k : Int) - 1 < a.length ∧ -(b.length : Int) ≤ -(k : Int) - 1 ∧ -(k : Int) - 1 < b.length ∧
      if [a.getD (pix (-(k : Int) - 1) a.length) 0] = [b.getD (pix (-(k : Int) - 1) b.length) 0] then
        exs F (.cons (.aug .Sub 4 (.lit (.int 1))) .nil) [(4, .val (.int (-(k : Int)))), (1, .val (.str b)), (0, .val (.str a)), (2, .val (.int m))]
          (loopOut (fun st3 => ∃ n', n' < a.length - k ∧ ∃ k : Nat, n' = a.length - k ∧ k ≤ a.length ∧ k ≤ b.length ∧ stripP (a.reverse.drop k) (b.reverse.drop k) = stripP a.reverse b.reverse ∧
            st3 = [(4, .val (.int (-(k : Int)))), (1, .val (.str b)), (0, .val (.str a)), (2, .val (.int m))]) (contW K Q))
      else K [(4, .val (.int (-(k : Int)))), (1, .val (.str b)), (0, .val (.str a)), (2, .val (.int m))]) := by
    intro x y a' b' ea eb
    obtain ⟨la, xa⟩ := cut_get ea
    obtain ⟨lb, xb⟩ := cut_get eb
    rw [xa, xb]
    refine ⟨(cut_bd la).1, (cut_bd la).2, (cut_bd lb).1, (cut_bd lb).2, ?_⟩
    clear xa xb
    by_cases e : x = y
    · subst e
      rw [if_pos rfl]
      refine exs_step fun K hK => ?_
      walk_at "vc"
      simp only [hK, exs_nil, loopOut]
      refine ⟨_, sub_of ?_, a.length - (k + 1), Nat.sub_lt_sub_left la (Nat.lt_succ_self k), k + 1, rfl, la, lb, ?_, rfl⟩
      · walk_at "sub"
      · have e1 : a.reverse.drop (k + 1) = a' := by rw [← List.drop_drop, ea]; rfl
        have e2 : b.reverse.drop (k + 1) = b' := by rw [← List.drop_drop, eb]; rfl
        rw [← hk, ea, eb, e1, e2, stripP, if_pos rfl]
    · rw [if_neg (by simpa using e)]
      exact h k hka hkb (by rw [← hk, ea, eb, stripP, if_neg e])
  have endA : (a.reverse.drop k).reverse = [] → K [(4, .val (.int (-(k : Int)))), (1, .val (.str b)), (0, .val (.str a)), (2, .val (.int m))] := fun e => by
    have e := List.reverse_eq_nil_iff.mp e
    exact h k hka hkb (by rw [← hk, e]; simp [stripP])
  have endB : (b.reverse.drop k).reverse = [] → K [(4, .val (.int (-(k : Int)))), (1, .val (.str b)), (0, .val (.str a)), (2, .val (.int m))] := fun e => by
    have e := List.reverse_eq_nil_iff.mp e
    refine h k hka hkb ?_
    rw [← hk, e]
    cases a.reverse.drop k <;> rfl
  have main : ∀ {W Y Z : Prop}, (Z = K [(4, .val (.int (-(k : Int)))), (1, .val (.str b)), (0, .val (.str a)), (2, .val (.int m))]) → ((a.reverse.drop k).reverse = [] → Y) → _ := fun {W Y Z} hZ hY => if2 (A := (a.reverse.drop k).reverse ≠ []) (B := (b.reverse.drop k).reverse ≠ []) (W := W) (Y := Y) (Z := Z) (X := _) (fun h1 h2 => by
      cases ea : a.reverse.drop k with
      | nil => rw [ea] at h1; exact absurd rfl h1
      | cons x a' => cases eb : b.reverse.drop k with
        | nil => rw [eb] at h2; exact absurd rfl h2
        | cons y b' => exact core ea eb) (fun h1 => hY (Classical.not_not.mp h1)) (fun _ h2 => hZ ▸ endB (Classical.not_not.mp h2))
  by_cases h0 : k = 0
  · have e1 : ¬ (-(k : Int) ≠ 0) := by subst h0; decide
    have cut0 : ∀ l : List Nat, cut l none none = (l.reverse.drop k).reverse := fun l => by subst h0; rw [cut_all]; simp
    simp only [e1, not_false_eq_true, if_true, if_false, cut0 _, contW]
    exact main rfl fun e => by rw [if_neg (fun h => h e)]; exact endA e
  · have e1 : -(k : Int) ≠ 0 := by omega
    have cutA : ∀ l : List Nat, cut l none (some (-(k : Int))) = (l.reverse.drop k).reverse := fun l => by rw [cut_upto _ _ (by omega), take_rev]
    simp only [e1, not_true_eq_false, not_false_eq_true, if_true, if_false, cutA _, contW, ne_eq, reduceCtorEq]
    exact main rfl fun e => by rw [if_neg (fun h => h e)]; exact endA e
end Mine
end

section
open PySem PySem.Calls PyProof.Rows
set_option linter.unusedSimpArgs false
set_option linter.unusedVariables false
set_option maxRecDepth 100000
namespace Mine
local macro_rules | `(tactic| walk_at "sub") => `(tactic| ((repeat (refine And.intro (by first | rfl | (with_unfolding_all rfl) | (simp [List.lookup]; done) | (simp [List.lookup]; omega) | (simp [List.lookup, List.foldl_append]; omega)) ?_)); exact trivial))
local macro_rules | `(tactic| walk_at "vc") => `(tactic| (repeat (first | (dsimp only [List.reverse_cons, List.reverse_nil, List.nil_append, List.cons_append, toSs, toEs, exs_nil, ex1, contW, retOut, initFrom, rd, List.map, B.read, evW, tsW, sem, sems, ofV, List.lookup, cmpW, eqV, isV, inV, intOf, strOf, boolOf, Option.map, isVB, isVN, isVI, inS, oW, oWn, addW, mulW, asStr, truthW, me0W, me1W, meOk, binW, idxW, slW, optI, biW, asInt, w1, lenW, rngW, rangeW, minW, specAt, allZ, bGo, V.flat, augOk, frW, Nat.reduceBEq, Nat.reduceAdd]; try simp only [beq_self_eq_true, reduceCtorEq, decide_eq_true_eq, Bool.not_eq_true', decide_eq_false_iff_not, and_true, true_and, if_true, if_false, Bool.false_eq_true]) | simp only [beq_self_eq_true, reduceCtorEq, decide_eq_true_eq, Bool.not_eq_true', decide_eq_false_iff_not, and_true, true_and, if_true, if_false, Bool.false_eq_true])))


theorem rsize01 (n : Nat) : rsize 0 (n : Int) 1 = n := by
  unfold rsize Builtin.Range.rangeSize; split <;> (try split) <;> omega
theorem rng_item {n j : Nat} {v : V} (h : ((rngL 0 (n : Int) 1).map V.int)[j]? = some v) : j < n ∧ v = .int j := by
  unfold rngL at h
  rw [rsize01] at h
  simp only [List.map_map, List.getElem?_map, Option.map_eq_some_iff] at h
  obtain ⟨k, hk, rfl⟩ := h
  have := List.getElem?_eq_some_iff.mp hk
  obtain ⟨h1, h2⟩ := this
  simp at h1 h2
  subst h2
  exact ⟨h1, by simp⟩
theorem rng_len (n : Nat) : ((rngL 0 (n : Int) 1).map V.int).length = n := by
  simp [rngL, rsize01]
theorem rowF_len (c : Nat) : ∀ (s : List Nat) (row : List Int) (d r : Int), row.length = s.length → (rowF c s row d r).1.length = s.length
  | [], [], _, _, _ => rfl
  | x :: s, y :: row, d, r, h => by simp only [rowF, List.length_cons]; rw [rowF_len c s row _ _ (by simpa using h)]
theorem row0_eq (n : Nat) : (rngL 2 (2 * ((n : Int) + 1)) 2).map V.int = (row0 n).map V.int := by
  have : rsize 2 (2 * ((n : Int) + 1)) 2 = n := by unfold rsize Builtin.Range.rangeSize; split <;> (try split) <;> omega
  unfold rngL row0
  rw [this]
  simp only [List.map_map]
  apply List.map_congr_left
  intro k _
  simp; omega

abbrev innerB : Ss := (.cons (.asg 12 (.bin .Add (.var 9) (.call 0 (.cons (.var 8) (.cons (.idx (.var 0) (.var 11)) .nil)))))
  (.cons (.asg 9 (.idx (.var 5) (.var 11)))
  (.cons (.asg 13 (.bin .Add (.bi .min (.cons (.var 6) (.cons (.var 9) .nil))) (.lit (.int 2))))
  (.cons (.asg 6 (.bi .min (.cons (.var 13) (.cons (.var 12) .nil))))
  (.cons (.sto 5 (.var 11) (.var 6))
  (.cons (.ifs (.cmp .Lt (.var 6) (.var 10)) (.cons (.asg 10 (.var 6)) .nil) .nil) .nil))))))
abbrev outerB : Ss := (.cons (.asg 8 (.idx (.var 1) (.var 7))) (.cons (.asg2 9 6 (.bin .Mult (.var 7) (.lit (.int 2)))) (.cons (.asg 10 (.lit (.int 9223372036854775807)))
  (.cons (.fr 11 (.bi .range (.cons (.bi .len (.cons (.var 0) .nil)) .nil)) innerB)
  (.cons (.ifs (.cmp .Gt (.var 10) (.var 2)) (.cons (.ret (.bin .Add (.var 2) (.lit (.int 1)))) .nil) .nil) .nil)))))
set_option maxHeartbeats 4000000 in
theorem lev_inner {s t : List Nat} {c : Nat} {row : List Int} {m r0 d0 : Int} {K0 : St → Prop} {Q : Out → Prop} {st : St} (hs : s.length ≤ 1000) (hr : row.length = s.length)
    (hst : Sub [(5, .own (row.map .int)), (6, .val (.int r0)), (9, .val (.int d0)), (10, .val (.int big)), (8, .val (.str [c])), (1, .val (.str t)), (0, .val (.str s)), (2, .val (.int m))] st)
    (h : ∀ d, K0 [(5, .own ((rowF c s row d0 r0).1.map .int)), (6, .val (.int (rowF c s row d0 r0).2)), (9, .val (.int d)), (10, .val (.int ((rowF c s row d0 r0).1.foldl min big))), (8, .val (.str [c])), (1, .val (.str t)), (0, .val (.str s)), (2, .val (.int m))]) :
    ex1 FL (.fr 11 (.bi .range (.cons (.bi .len (.cons (.var 0) .nil)) .nil)) innerB) st (contW K0 Q) := by
  have hl : st.lookup 0 = some (.val (.str s)) := hst _ _ rfl
  have hl' : (rd st).lookup 0 = some (.str s, 0) := by rw [rd_lookup, hl]; rfl
  simp only [ex1, evW, sem, sems, ofV, hl', biW]
  refine ⟨rfl, by simp only [iterOk]; unfold rOk; omega, _, rfl, fun i st => ∃ (pre : List Int) (r d : Int), pre.length = i ∧ i ≤ s.length ∧ pre ++ (rowF c (s.drop i) (row.drop i) d r).1 = (rowF c s row d0 r0).1 ∧ (rowF c (s.drop i) (row.drop i) d r).2 = (rowF c s row d0 r0).2 ∧
    st = [(5, .own ((pre ++ row.drop i).map .int)), (6, .val (.int r)), (9, .val (.int d)), (10, .val (.int (pre.foldl min big))), (8, .val (.str [c])), (1, .val (.str t)), (0, .val (.str s)), (2, .val (.int m))],
    ⟨_, hst, [], r0, d0, rfl, Nat.zero_le _, by simp, by simp, by simp⟩, ?_, ?_⟩
  · rintro i _ v hi ⟨pre, r, d, hpl, hile, h1, h2, rfl⟩
    obtain ⟨hi, rfl⟩ := rng_item hi
    obtain ⟨x, s', hs'⟩ : ∃ x s', s.drop i = x :: s' := by
      cases e : s.drop i with
      | nil => have := congrArg List.length e; simp at this; omega
      | cons x s' => exact ⟨x, s', rfl⟩
    obtain ⟨y, row', hr'⟩ : ∃ x s', row.drop i = x :: s' := by
      cases e : row.drop i with
      | nil => have := congrArg List.length e; simp at this; omega
      | cons x s' => exact ⟨x, s', rfl⟩
    have es : s.drop (i + 1) = s' := by rw [← List.drop_drop, hs']; rfl
    have er : row.drop (i + 1) = row' := by rw [← List.drop_drop, hr']; rfl
    have gx : s.getD i 0 = x := by
      have : (s.drop i)[0]? = some x := by rw [hs']; rfl
      rw [List.getElem?_drop] at this; simpa [List.getD_eq_getElem?_getD] using congrArg (·.getD 0) this
    have gy : ((pre ++ row.drop i).map V.int).getD i .none = .int y := by
      rw [hr']; simp [List.getD_eq_getElem?_getD, ← hpl]
    have se : ((pre ++ row.drop i).map V.int).set i (.int (min (min r y + 2) (d + substC [c] [x]))) = ((pre ++ [min (min r y + 2) (d + substC [c] [x])]) ++ row').map V.int := by
      rw [hr']; simp [List.map_append, ← hpl]
    refine exs_step fun K hK => ?_
    walk_at "vc"
    refine ⟨by omega, by omega, [c], _, rfl, by simp, by simp, ?_⟩
    rw [pix_pos (by omega)]
    simp only [Int.toNat_natCast, gx]
    rw [hK]; clear hK K
    refine exs_step fun K hK => ?_
    walk_at "vc"
    rw [pix_pos (by omega)]
    simp only [Int.toNat_natCast, gy]
    refine ⟨by omega, by simp; omega, ?_⟩
    rw [hK]; clear hK K
    refine exs_step fun K hK => ?_
    walk_at "vc"
    rw [hK]; clear hK K
    refine exs_step fun K hK => ?_
    walk_at "vc"
    rw [hK]; clear hK K
    refine exs_step fun K hK => ?_
    walk_at "vc"
    simp only [Int.toNat_natCast, se]
    refine ⟨by omega, by simp; omega, ?_⟩
    rw [hK]; clear hK K
    have fin : ∀ st3, Sub [(5, .own (((pre ++ [min (min r y + 2) (d + substC [c] [x])]) ++ row').map .int)), (6, .val (.int (min (min r y + 2) (d + substC [c] [x])))), (9, .val (.int y)), (10, .val (.int ((pre ++ [min (min r y + 2) (d + substC [c] [x])]).foldl min big))), (8, .val (.str [c])), (1, .val (.str t)), (0, .val (.str s)), (2, .val (.int m))] st3 →
        loopOut ((fun i st => ∃ (pre : List Int) (r d : Int), pre.length = i ∧ i ≤ s.length ∧ pre ++ (rowF c (s.drop i) (row.drop i) d r).1 = (rowF c s row d0 r0).1 ∧ (rowF c (s.drop i) (row.drop i) d r).2 = (rowF c s row d0 r0).2 ∧
    st = [(5, .own ((pre ++ row.drop i).map .int)), (6, .val (.int r)), (9, .val (.int d)), (10, .val (.int (pre.foldl min big))), (8, .val (.str [c])), (1, .val (.str t)), (0, .val (.str s)), (2, .val (.int m))]) (i + 1)) (contW K0 Q) (.next st3) := fun st3 h3 => by
      rw [hs', hr'] at h1 h2
      simp only [rowF] at h1 h2
      refine ⟨_, h3, pre ++ [min (min r y + 2) (d + substC [c] [x])], min (min r y + 2) (d + substC [c] [x]), y, by simp [hpl], by omega, ?_, ?_, ?_⟩
      · rw [es, er]; simpa using h1
      · rw [es, er]; exact h2
      · rw [er]
    refine exs_step fun K hK => ?_
    walk_at "vc"
    split
    · rename_i hlt
      rw [exs_cons]; walk_at "vc"
      rw [hK]
      refine fin _ (sub_of ?_)
      walk_at "sub"
    · rename_i hlt
      rw [hK]
      refine fin _ (sub_of ?_)
      walk_at "sub"
  · rintro _ ⟨pre, r, d, hpl, hile, h1, h2, rfl⟩
    rw [rng_len] at hpl h1 h2
    simp only [contW]
    rw [rng_len]
    have e1 : row.drop s.length = [] := List.drop_eq_nil_of_le (by omega)
    rw [List.drop_length, e1] at h1 h2
    simp only [rowF, List.append_nil] at h1 h2
    have h' := h d
    rw [← h1, ← h2] at h'
    rw [e1, List.append_nil]
    exact h'
set_option maxHeartbeats 4000000 in
theorem lev_outer {s t : List Nat} {row : List Int} {m : Int} {K : St → Prop} {Q : V → Prop} {st : St} (hs : s.length ≤ 1000) (ht : t.length ≤ 1000) (hr : row.length = s.length)
    (hst : Sub [(5, .own (row.map .int)), (6, .val (.int 0)), (1, .val (.str t)), (0, .val (.str s)), (2, .val (.int m))] st)
    (q : Q (.int (dpF s m t 0 row 0)))
    (h : ∀ row r, Q (.int r) → K [(5, .own row), (6, .val (.int r)), (1, .val (.str t)), (0, .val (.str s)), (2, .val (.int m))]) :
    ex1 FL (.fr 7 (.bi .range (.cons (.bi .len (.cons (.var 1) .nil)) .nil)) outerB) st (contW K (retOut Q)) := by
  have hl : st.lookup 1 = some (.val (.str t)) := hst _ _ rfl
  have hl' : (rd st).lookup 1 = some (.str t, 0) := by rw [rd_lookup, hl]; rfl
  simp only [ex1, evW, sem, sems, ofV, hl', biW]
  refine ⟨rfl, by simp only [iterOk]; unfold rOk; omega, _, rfl, fun j st => ∃ (row' : List Int) (r : Int), row'.length = s.length ∧ j ≤ t.length ∧ dpF s m (t.drop j) j row' r = dpF s m t 0 row 0 ∧
    st = [(5, .own (row'.map .int)), (6, .val (.int r)), (1, .val (.str t)), (0, .val (.str s)), (2, .val (.int m))],
    ⟨_, hst, row, 0, hr, Nat.zero_le _, by simp, rfl⟩, ?_, ?_⟩
  · rintro j _ v hj ⟨row', r, hlen, hjle, h1, rfl⟩
    obtain ⟨hj, rfl⟩ := rng_item hj
    obtain ⟨x, t', ht'⟩ : ∃ x s', t.drop j = x :: s' := by
      cases e : t.drop j with
      | nil => have := congrArg List.length e; simp at this; omega
      | cons x s' => exact ⟨x, s', rfl⟩
    have es : t.drop (j + 1) = t' := by rw [← List.drop_drop, ht']; rfl
    have gx : t.getD j 0 = x := by
      have : (t.drop j)[0]? = some x := by rw [ht']; rfl
      rw [List.getElem?_drop] at this; simpa [List.getD_eq_getElem?_getD] using congrArg (·.getD 0) this
    rw [ht'] at h1
    simp only [dpF] at h1
    refine exs_step fun K1 hK => ?_
    walk_at "vc"
    rw [pix_pos (by omega)]
    simp only [Int.toNat_natCast, gx]
    refine ⟨by omega, by omega, ?_⟩
    rw [hK]; clear hK K1
    refine exs_step fun K1 hK => ?_
    walk_at "vc"
    refine ⟨by omega, ?_⟩
    rw [hK]; clear hK K1
    refine exs_step fun K1 hK => ?_
    walk_at "vc"
    rw [hK]; clear hK K1
    refine exs_step fun K1 hK => ?_
    have e2 : ((j : Int) * 2) = 2 * j := by omega
    simp only [e2]
    refine lev_inner (s := s) (t := t) (c := x) (row := row') (m := m) (r0 := 2 * j) (d0 := 2 * j) hs hlen (sub_of (by walk_at "sub")) fun d => ?_
    rw [hK]; clear hK K1
    refine exs_step fun K1 hK => ?_
    walk_at "vc"
    by_cases hm : (rowF x s row' (2 * j) (2 * j)).1.foldl min big > m
    · rw [if_pos hm] at h1
      rw [if_pos (by omega), exs_cons]; walk_at "vc"
      rw [h1]; exact q
    · rw [if_neg hm] at h1
      rw [if_neg (by omega)]
      rw [hK]; clear hK K1
      refine ⟨_, sub_of ?_, (rowF x s row' (2 * j) (2 * j)).1, (rowF x s row' (2 * j) (2 * j)).2, rowF_len _ _ _ _ _ hlen, by omega, by rw [es]; exact h1, rfl⟩
      walk_at "sub"
  · rintro _ ⟨row', r, hlen, hjle, h1, rfl⟩
    simp only [contW]
    rw [rng_len, List.drop_length] at h1
    simp only [dpF] at h1
    exact h _ _ (h1 ▸ q)
set_option maxHeartbeats 4000000 in
theorem lev_ok : ∃ ss, trD FL dL ["row"] = some ss ∧ ∀ ts Q, spL ts Q → ts.length = 3 ∧ exs FL (toSs ss) (initFrom 0 ts) (retOut Q) := by
  refine ⟨_, (by with_unfolding_all rfl), ?_⟩
  dsimp only [List.reverse, List.reverseAux, List.nil_append, List.cons_append, toSs, toEs, Nat.reduceAdd, Nat.zero_add]
  rintro _ Q ⟨a, b, m, rfl, ha, hb, q⟩
  refine ⟨rfl, ?_⟩
  dsimp only [initFrom, Nat.zero_add, Nat.reduceAdd]
  refine exs_step fun K hK => ?_
  walk_at "vc"
  by_cases hab : a = b
  · rw [if_pos (by simpa using hab)]
    unfold lev at q; rw [if_pos hab] at q
    exact q
  rw [if_neg (by simpa using hab)]
  rw [hK]; clear hK K
  refine exs_step fun K hK => ?_
  walk_at "vc"
  rw [hK]; clear hK K
  refine exs_step fun K hK => ?_
  refine lev_loop1 fun p hpa hpb hp => ?_
  rw [hK]; clear hK K
  refine exs_step fun K hK => ?_
  walk_at "vc"
  rw [hK]; clear hK K
  refine exs_step fun K hK => ?_
  walk_at "vc"
  rw [hK]; clear hK K
  refine exs_step fun K hK => ?_
  walk_at "vc"
  rw [hK]; clear hK K
  refine exs_step fun K hK => ?_
  rw [cut_from, cut_from]
  refine lev_loop2 (a := a.drop p) (b := b.drop p) (m := m) (by simp; omega) (by simp; omega) (fun k hka hkb hk => ?_) (sub_of (by walk_at "sub")) 
  rw [hK]; clear hK K
  have cutA : ∀ l : List Nat, k ≠ 0 → cut l none (some (-(k : Int))) = (l.reverse.drop k).reverse := fun l h0 => by rw [cut_upto _ _ (by omega), take_rev]
  have cut0 : ∀ l : List Nat, k = 0 → cut l none none = (l.reverse.drop k).reverse := fun l h0 => by subst h0; rw [cut_all]; simp
  have sB : stripB a b = (((a.drop p).reverse.drop k).reverse, ((b.drop p).reverse.drop k).reverse) := by
    unfold stripB; simp only [hp, hk]
  have sl := stripB_len a b
  unfold lev at q
  rw [if_neg hab] at q
  simp only [sB] at q sl
  refine exs_step fun K hK => ?_
  walk_at "vc"
  have step1 : ∀ a', a' = ((a.drop p).reverse.drop k).reverse → K [(0, .val (.str a')), (4, .val (.int (-(k : Int)))), (1, .val (.str (b.drop p))), (0, .val (.str (a.drop p))), (2, .val (.int m))] := by
    intro a' ha'
    rw [hK]; clear hK K
    refine exs_step fun K hK => ?_
    walk_at "vc"
    have step2 : ∀ b', b' = ((b.drop p).reverse.drop k).reverse → K [(1, .val (.str b')), (0, .val (.str a')), (4, .val (.int (-(k : Int)))), (1, .val (.str (b.drop p))), (0, .val (.str (a.drop p))), (2, .val (.int m))] := by
      intro b' hb'
      rw [hK]; clear hK K
      rw [← ha', ← hb'] at q sl
      clear cutA cut0 sB hk hp
      refine exs_step fun K hK => ?_
      walk_at "vc"
      by_cases ea : a' = []
      · subst ea
        simp only [true_or, if_true] at q
        simp only [ne_eq, not_true_eq_false, not_false_eq_true, decide_false, Bool.not_false, if_true, if_false]
        rw [exs_cons]; walk_at "vc"
        exact ⟨by decide, q⟩
      by_cases eb : b' = []
      · subst eb
        simp only [or_true, if_true] at q
        simp only [ea, ne_eq, not_true_eq_false, not_false_eq_true, decide_true, decide_false, Bool.not_true, Bool.not_false, if_true, if_false, Bool.false_eq_true]
        rw [exs_cons]; walk_at "vc"
        exact ⟨by decide, q⟩
      simp only [ea, eb, or_self, if_false] at q
      simp only [ea, eb, ne_eq, not_false_eq_true, decide_true, Bool.not_true, if_true, if_false, Bool.false_eq_true, contW]
      rw [hK]; clear hK K
      refine exs_step fun K hK => ?_
      walk_at "vc"
      by_cases la : a'.length > 40
      · rw [if_pos (.inl la)] at q
        simp only [show (40 : Int) < a'.length from by omega, not_true_eq_false, not_false_eq_true, if_true, if_false, Bool.false_eq_true, contW]
        rw [exs_cons]; walk_at "vc"
        exact q
      simp only [show ¬ (40 : Int) < a'.length from by omega, not_true_eq_false, not_false_eq_true, if_true, if_false, Bool.false_eq_true, contW]
      by_cases lb : b'.length > 40
      · rw [if_pos (.inr lb)] at q
        simp only [show (40 : Int) < b'.length from by omega, not_true_eq_false, not_false_eq_true, if_true, if_false, Bool.false_eq_true, contW]
        rw [exs_cons]; walk_at "vc"
        exact q
      rw [if_neg (by omega)] at q
      simp only [show ¬ (40 : Int) < b'.length from by omega, not_true_eq_false, not_false_eq_true, if_true, if_false, Bool.false_eq_true, contW]
      rw [hK]; clear hK K
      refine exs_step fun K hK => ?_
      walk_at "vc"
      by_cases lab : b'.length < a'.length
      · rw [if_pos lab] at q
        simp only [show (b'.length : Int) < a'.length from by omega, not_true_eq_false, not_false_eq_true, if_true, if_false, Bool.false_eq_true, contW]
        rw [exs_cons]; walk_at "vc"
        rw [hK]; clear hK K
        unfold levS at q
        refine exs_step fun K hK => ?_
        walk_at "vc"
        refine ⟨by omega, ?_⟩
        by_cases hm : 2 * ((a'.length : Int) - b'.length) > m
        · rw [if_pos hm] at q
          rw [if_pos (by omega), exs_cons]; walk_at "vc"
          exact q
        rw [if_neg hm] at q
        rw [if_neg (by omega)]
        rw [hK]; clear hK K
        refine exs_step fun K hK => ?_
        walk_at "vc"
        rw [row0_eq]
        refine ⟨by omega, by decide, by decide, by unfold rOk; omega, ?_⟩
        rw [hK]; clear hK K
        refine exs_step fun K hK => ?_
        walk_at "vc"
        rw [hK]; clear hK K
        refine exs_step fun K hK => ?_
        refine lev_outer (s := b') (t := a') (m := m) (row := row0 b'.length) (by omega) (by omega) (by simp [row0]) (sub_of (by walk_at "sub")) ?_ ?_
        · exact q
        · intro row r hq
          rw [hK]
          show exs FL _ _ _
          rw [exs_cons]; walk_at "vc"
          exact hq
      · rw [if_neg lab] at q
        simp only [show ¬ (b'.length : Int) < a'.length from by omega, not_true_eq_false, not_false_eq_true, if_true, if_false, Bool.false_eq_true, contW]
        rw [hK]; clear hK K
        unfold levS at q
        refine exs_step fun K hK => ?_
        walk_at "vc"
        refine ⟨by omega, ?_⟩
        by_cases hm : 2 * ((b'.length : Int) - a'.length) > m
        · rw [if_pos hm] at q
          rw [if_pos (by omega), exs_cons]; walk_at "vc"
          exact q
        rw [if_neg hm] at q
        rw [if_neg (by omega)]
        rw [hK]; clear hK K
        refine exs_step fun K hK => ?_
        walk_at "vc"
        rw [row0_eq]
        refine ⟨by omega, by decide, by decide, by unfold rOk; omega, ?_⟩
        rw [hK]; clear hK K
        refine exs_step fun K hK => ?_
        walk_at "vc"
        rw [hK]; clear hK K
        refine exs_step fun K hK => ?_
        refine lev_outer (s := a') (t := b') (m := m) (row := row0 a'.length) (by omega) (by omega) (by simp [row0]) (sub_of (by walk_at "sub")) ?_ ?_
        · exact q
        · intro row r hq
          rw [hK]
          show exs FL _ _ _
          rw [exs_cons]; walk_at "vc"
          exact hq
    split
    · exact step2 _ (cut0 _ (by omega))
    · exact step2 _ (cutA _ (by omega))
  split
  · exact step1 _ (cut0 _ (by omega))
  · exact step1 _ (cutA _ (by omega))
end Mine
end

section
open PySem PySem.Calls PyProof.Rows
set_option linter.unusedSimpArgs false
set_option linter.unusedVariables false
set_option maxRecDepth 100000
namespace Mine
local macro_rules | `(tactic| walk_at "vc") => `(tactic| (repeat (first | (dsimp only [List.reverse_cons, List.reverse_nil, List.nil_append, List.cons_append, toSs, toEs, exs_nil, ex1, contW, retOut, initFrom, rd, List.map, B.read, evW, tsW, sem, sems, ofV, List.lookup, cmpW, eqV, isV, inV, intOf, strOf, boolOf, Option.map, isVB, isVN, isVI, inS, oW, oWn, addW, mulW, asStr, truthW, me0W, me1W, meOk, binW, idxW, slW, optI, biW, asInt, w1, lenW, rngW, rangeW, minW, specAt, allZ, bGo, V.flat, augOk, frW, subW, Nat.reduceBEq, Nat.reduceAdd]; try simp only [beq_self_eq_true, reduceCtorEq, decide_eq_true_eq, Bool.not_eq_true', decide_eq_false_iff_not, and_true, true_and, if_true, if_false, Bool.false_eq_true]) | simp only [beq_self_eq_true, reduceCtorEq, decide_eq_true_eq, Bool.not_eq_true', decide_eq_false_iff_not, and_true, true_and, if_true, if_false, Bool.false_eq_true])))
noncomputable def FQ : Fenv := ⟨[("CRLF", .str [13, 10])], [], [], [("_twin_re_1", [46, 46], Rx.dotL true), ("_twin_re_2", [13, 10], Rx.norm2)]⟩
noncomputable def dQ := dOf P1 "quotedata"
noncomputable def spQ : Spec := fun ts Q => ∃ x, ts = [.str x] ∧ x.length ≤ 2000 ∧ Q (.str (Rx.quoteL x))
set_option maxHeartbeats 4000000 in
theorem quote_ok : ∃ ss, trD FQ dQ [] = some ss ∧ ∀ ts Q, spQ ts Q → ts.length = 1 ∧ exs FQ (toSs ss) (initFrom 0 ts) (retOut Q) := by
  refine ⟨_, (by with_unfolding_all rfl), ?_⟩
  rintro _ Q ⟨x, rfl, hx, q⟩
  refine ⟨rfl, ?_⟩
  dsimp only [initFrom, Nat.zero_add, Nat.reduceAdd, List.reverse, List.reverseAux, List.nil_append, List.cons_append, toSs, toEs]
  rw [exs_cons]; walk_at "vc"
  have l1 := Rx.norm2_len x
  have l2 := Rx.dotL_len true (Rx.norm2 x)
  exact ⟨rfl, by omega, by omega, rfl, by omega, by omega, q⟩

set_option maxHeartbeats 4000000 in
theorem subst_ok : ∃ ss, trD FS dS [] = some ss ∧ ∀ ts Q, spS ts Q → ts.length = 2 ∧ exs FS (toSs ss) (initFrom 0 ts) (retOut Q) := by
  refine ⟨_, (by with_unfolding_all rfl), ?_⟩
  rintro _ Q ⟨x, y, rfl, hx, hy, q⟩
  refine ⟨rfl, ?_⟩
  dsimp only [initFrom, Nat.zero_add, Nat.reduceAdd, List.reverse, List.reverseAux, List.nil_append, List.cons_append, toSs, toEs]
  unfold substC at q
  rw [exs_cons]; walk_at "vc"
  split at q
  · rw [if_pos (by assumption), exs_cons]; walk_at "vc"; exact q
  · rw [if_neg (by assumption), exs_cons]; walk_at "vc"
    refine ⟨by omega, by omega, ?_⟩
    split at q
    · rw [if_pos (by assumption), exs_cons]; walk_at "vc"; exact q
    · rw [if_neg (by assumption), exs_cons]; walk_at "vc"; exact q

noncomputable def FT : Fenv := ⟨[("NT_OFFSET", .int 256), ("ENDMARKER", .int 0)], [], [], []⟩
noncomputable def spT : Spec := fun ts Q => ∃ i : Int, ts = [.int i] ∧ Q (.bool (decide (i < 256)))
noncomputable def spN : Spec := fun ts Q => ∃ i : Int, ts = [.int i] ∧ Q (.bool (decide (256 ≤ i)))
noncomputable def spE : Spec := fun ts Q => ∃ i : Int, ts = [.int i] ∧ Q (.bool (decide (i = 0)))
set_option maxHeartbeats 4000000 in
theorem term_ok : ∃ ss, trD FT (dOf P1 "ISTERMINAL") [] = some ss ∧ ∀ ts Q, spT ts Q → ts.length = 1 ∧ exs FT (toSs ss) (initFrom 0 ts) (retOut Q) := by
  refine ⟨_, (by with_unfolding_all rfl), ?_⟩
  rintro _ Q ⟨x, rfl, q⟩
  refine ⟨rfl, ?_⟩
  dsimp only [initFrom, Nat.zero_add, Nat.reduceAdd, List.reverse, List.reverseAux, List.nil_append, List.cons_append, toSs, toEs]
  rw [exs_cons]; walk_at "vc"
  exact q
set_option maxHeartbeats 4000000 in
theorem nont_ok : ∃ ss, trD FT (dOf P1 "ISNONTERMINAL") [] = some ss ∧ ∀ ts Q, spN ts Q → ts.length = 1 ∧ exs FT (toSs ss) (initFrom 0 ts) (retOut Q) := by
  refine ⟨_, (by with_unfolding_all rfl), ?_⟩
  rintro _ Q ⟨x, rfl, q⟩
  refine ⟨rfl, ?_⟩
  dsimp only [initFrom, Nat.zero_add, Nat.reduceAdd, List.reverse, List.reverseAux, List.nil_append, List.cons_append, toSs, toEs]
  rw [exs_cons]; walk_at "vc"
  exact q
set_option maxHeartbeats 4000000 in
theorem eof_ok : ∃ ss, trD FT (dOf P1 "ISEOF") [] = some ss ∧ ∀ ts Q, spE ts Q → ts.length = 1 ∧ exs FT (toSs ss) (initFrom 0 ts) (retOut Q) := by
  refine ⟨_, (by with_unfolding_all rfl), ?_⟩
  rintro _ Q ⟨x, rfl, q⟩
  refine ⟨rfl, ?_⟩
  dsimp only [initFrom, Nat.zero_add, Nat.reduceAdd, List.reverse, List.reverseAux, List.nil_append, List.cons_append, toSs, toEs]
  rw [exs_cons]; walk_at "vc"
  exact q
end Mine
end

section
open PySem PySem.Calls PyProof.Rows
set_option linter.unusedSimpArgs false
set_option linter.unusedVariables false
set_option maxRecDepth 100000
namespace Mine
noncomputable def extK : List (List Nat) := [[33], [33, 61], [37], [37, 61], [38], [38, 61], [40], [41], [42], [42, 42], [42, 42, 61], [42, 61], [43], [43, 61], [44], [45], [45, 61], [45, 62], [46], [46, 46, 46], [47], [47, 47], [47, 47, 61], [47, 61], [58], [58, 61], [59], [60], [60, 60], [60, 60, 61], [60, 61], [61], [61, 61], [62], [62, 61], [62, 62], [62, 62, 61], [64], [64, 61], [91], [93], [94], [94, 61], [123], [124], [124, 61], [125], [126]]
noncomputable def extN : List Int := [54, 28, 24, 40, 19, 41, 7, 8, 16, 35, 46, 38, 14, 36, 12, 15, 37, 51, 23, 52, 17, 47, 48, 39, 11, 53, 13, 20, 33, 44, 29, 22, 27, 21, 30, 34, 45, 49, 50, 9, 10, 32, 43, 25, 18, 42, 26, 31]
noncomputable def extT : V := .dS extK (extN.map .int)
noncomputable def FLt : Fenv := ⟨[("EXACT_TOKEN_TYPES", extT)], [("ISTERMINAL", spT), ("ISNONTERMINAL", spN)], [.chr], []⟩
noncomputable def dLt := dOf P1 "_law_letters"
noncomputable def dots (n : Nat) : List Nat := List.replicate n 46
noncomputable def letN (n : Nat) : List Nat := List.replicate (n / 3) 65 ++ List.replicate (n % 3) 97
noncomputable def spLt : Spec := fun ts Q => ∃ (n : Nat) (m : Int), ts = [.str (dots n), .int m] ∧ n ≤ 1000 ∧ 204 ≤ m ∧ m ≤ 232 ∧ Q (.str (letN n))
theorem cut_to (xs : List α) (p : Nat) : cut xs none (some (p : Int)) = xs.take p := by
  unfold cut
  simp only [Option.elim, clipAt_nat, List.drop_zero, Nat.sub_zero]
  by_cases h : p ≤ xs.length
  · rw [Nat.min_eq_left h]
  · rw [Nat.min_eq_right (by omega), List.take_of_length_le (Nat.le_refl _), List.take_of_length_le (by omega)]
theorem ext_in1 : ([46] : List Nat) ∈ extK := by decide
theorem ext_in2 : ¬ ([46, 46] : List Nat) ∈ extK := by decide
theorem ext_in3 : ([46, 46, 46] : List Nat) ∈ extK := by decide
theorem ext_at1 : lkS extK (extN.map .int) [46] = some (.int 23) := by rfl
theorem ext_at3 : lkS extK (extN.map .int) [46, 46, 46] = some (.int 52) := by rfl
theorem letN3 (m : Nat) (h : 3 ≤ m) : letN m = 65 :: letN (m - 3) := by
  unfold letN
  have e1 : m / 3 = (m - 3) / 3 + 1 := by omega
  have e2 : m % 3 = (m - 3) % 3 := by omega
  rw [e1, e2]; rfl
theorem letN1 (m : Nat) (h : 1 ≤ m) (h3 : m < 3) : letN m = 97 :: letN (m - 1) := by
  match m, h, h3 with
  | 1, _, _ => rfl
  | 2, _, _ => rfl

theorem inV_ext (a : List Nat) : inV (.str a) extT = some (decide (a ∈ extK)) := rfl
theorem idx_ext (a : List Nat) (d : Nat) (Q : V → Nat → Prop) : idxW extT d (.str a) Q = (match lkS extK (extN.map .int) a with | some v => Q v 0 | none => False) := rfl
theorem dots_take (m k : Nat) : (dots m).take k = dots (min k m) := by simp [dots, List.take_replicate]
theorem dots_drop (m k : Nat) : (dots m).drop k = dots (m - k) := by simp [dots, List.drop_replicate]
theorem dots_ne (m : Nat) : (dots m = []) ↔ m = 0 := by cases m <;> simp [dots, List.replicate_succ]
local macro_rules | `(tactic| walk_at "sub") => `(tactic| ((repeat (refine And.intro (by first | rfl | (with_unfolding_all rfl) | (simp [List.lookup]; done) | (simp [List.lookup]; omega) | (simp [List.lookup, List.foldl_append]; omega)) ?_)); exact trivial))
local macro_rules | `(tactic| walk_at "vc") => `(tactic| (repeat (first | (dsimp only [List.reverse_cons, List.reverse_nil, List.nil_append, List.cons_append, toSs, toEs, exs_nil, ex1, contW, retOut, initFrom, rd, List.map, B.read, evW, tsW, sem, sems, ofV, List.lookup, cmpW, eqV, isV, intOf, strOf, boolOf, Option.map, isVB, isVN, isVI, oW, oWn, addW, mulW, asStr, inV_ext, idx_ext, truthW, me0W, me1W, meOk, binW, idxW, slW, optI, biW, asInt, w1, lenW, rngW, rangeW, minW, specAt, allZ, bGo, V.flat, augOk, frW, subW, Nat.reduceBEq, Nat.reduceAdd]; try simp only [beq_self_eq_true, reduceCtorEq, decide_eq_true_eq, Bool.not_eq_true', decide_eq_false_iff_not, and_true, true_and, if_true, if_false, Bool.false_eq_true]) | simp only [beq_self_eq_true, reduceCtorEq, decide_eq_true_eq, Bool.not_eq_true', decide_eq_false_iff_not, and_true, true_and, if_true, if_false, Bool.false_eq_true])))
set_option maxHeartbeats 4000000 in
theorem letters_ok : ∃ ss, trD FLt dLt [] = some ss ∧ ∀ ts Q, spLt ts Q → ts.length = 2 ∧ exs FLt (toSs ss) (initFrom 0 ts) (retOut Q) := by
  refine ⟨_, (by with_unfolding_all rfl), ?_⟩
  dsimp only [List.reverse, List.reverseAux, List.nil_append, List.cons_append, toSs, toEs, Nat.reduceAdd, Nat.zero_add]
  rintro _ Q ⟨n, more, rfl, hn, hm1, hm2, q⟩
  refine ⟨rfl, ?_⟩
  dsimp only [initFrom, Nat.zero_add, Nat.reduceAdd]
  refine exs_step fun K hK => ?_
  walk_at "vc"
  have e0 : (Str.ofString "").cps.toList = [] := rfl
  simp only [e0] at hK ⊢
  rw [hK]; clear hK K
  refine exs_step fun K hK => ?_
  walk_at "vc"
  refine ⟨fun k st => ∃ acc : List Nat, k ≤ n ∧ acc.length + k ≤ 1000 ∧ acc ++ letN k = letN n ∧ st = [(2, .val (.str acc)), (0, .val (.str (dots k))), (1, .val (.int more))], ⟨n, _, ?_, [], Nat.le_refl _, by simpa using hn, rfl, rfl⟩, ?_⟩
  · exact sub_of (by walk_at "sub")
  rintro m _ ⟨acc, hmn, hlen, hacc, rfl⟩
  walk_at "vc"
  simp only [dots_ne]
  by_cases hm0 : m = 0
  · subst hm0
    simp only [not_true_eq_false, if_false, contW]
    rw [hK]; clear hK K
    show exs _ _ _ _
    rw [exs_cons]; walk_at "vc"
    have : acc = letN n := by rw [← hacc]; simp [letN]
    rw [this]; exact q
  simp only [hm0, not_false_eq_true, if_true]
  clear hK
  generalize K = K0
  refine exs_step fun K hK => ?_
  walk_at "vc"
  rw [hK]; clear hK K
  refine exs_step fun K hK => ?_
  walk_at "vc"
  refine ⟨fun j st => ∃ z : Nat, j = z ∧ 1 ≤ z ∧ z ≤ 3 ∧ (3 ≤ m → z = 3) ∧ (m = 1 → z = 3) ∧ st = [(3, .val (.int z)), (2, .val (.str acc)), (0, .val (.str (dots m))), (1, .val (.int more))], ⟨3, _, ?_, 3, rfl, by omega, by omega, fun _ => rfl, fun _ => rfl, rfl⟩, ?_⟩
  · exact sub_of (by walk_at "sub")
  rintro z _ ⟨_, rfl, hz1, hz3, hzm, hzm1, rfl⟩
  walk_at "vc"
  simp only [cut_to, dots_take, inV_ext]
  have out : ((3 ≤ m ∧ z = 3) ∨ (m = 2 ∧ z = 1) ∨ (m = 1 ∧ z = 3)) → K [(3, .val (.int z)), (2, .val (.str acc)), (0, .val (.str (dots m))), (1, .val (.int more))] := by
    intro hc
    rw [hK]; clear hK K
    refine exs_step fun K hK => ?_
    walk_at "vc"
    simp only [cut_to, dots_take, idx_ext]
    have big : ∀ (num : Int) (c : Nat) (m' : Nat), (num = 52 ∧ c = 65 ∨ num = 23 ∧ c = 97) → m - z = m' → letN m = c :: letN m' → m' < m → K [(4, .val (.int num)), (3, .val (.int z)), (2, .val (.str acc)), (0, .val (.str (dots m))), (1, .val (.int more))] := by
      intro num c m' hnc hm' hlet hlt
      rw [hK]; clear hK K
      refine exs_step fun K hK => ?_
      walk_at "vc"
      have endS : ∀ (K2 : St → Prop), (K2 = fun st' => exs FLt (Ss.cons (S.asg 0 ((E.var 0).sl (E.var 3) (E.lit V.none))) Ss.nil) st'
          (loopOut (fun st3 => ∃ m_1, m_1 < m ∧ ∃ acc : List Nat, m_1 ≤ n ∧ acc.length + m_1 ≤ 1000 ∧ acc ++ letN m_1 = letN n ∧
                      st3 = [(2, B.val (V.str acc)), (0, B.val (V.str (dots m_1))), (1, B.val (V.int more))]) (contW K0 (retOut Q)))) →
          K2 [(2, .val (.str (acc ++ [c]))), (4, .val (.int num)), (3, .val (.int z)), (2, .val (.str acc)), (0, .val (.str (dots m))), (1, .val (.int more))] := by
        intro K2 hK2
        rw [hK2]
        show exs _ _ _ _
        rw [exs_cons]; walk_at "vc"
        simp only [cut_from, dots_drop, hm', loopOut]
        refine ⟨_, sub_of ?_, m', hlt, acc ++ [c], by omega, by simp; omega, by rw [← hacc, hlet]; simp, rfl⟩
        walk_at "sub"
      rcases hnc with ⟨rfl, rfl⟩ | ⟨rfl, rfl⟩
      · refine ⟨_, rfl, ?_⟩
        simp only [show ¬ ((52 : Int) + more < 256) from by omega, decide_false, beq_self_eq_true, reduceCtorEq, if_false, Bool.false_eq_true, show (false == true) = false from rfl]
        rw [hK]; clear hK K
        refine exs_step fun K hK => ?_
        walk_at "vc"
        refine ⟨_, rfl, ?_⟩
        simp only [show (256 : Int) ≤ 52 + more from by omega, decide_true, beq_self_eq_true, if_true]
        rw [exs_cons]; walk_at "vc"
        refine ⟨by omega, by omega, by simp; omega, ?_⟩
        exact endS _ hK
      · refine ⟨_, rfl, ?_⟩
        simp only [show ((23 : Int) + more < 256) from by omega, decide_true, beq_self_eq_true, if_true]
        rw [exs_cons]; walk_at "vc"
        refine ⟨by omega, by omega, by simp; omega, ?_⟩
        rw [hK]; clear hK K
        refine exs_step fun K hK => ?_
        walk_at "vc"
        refine ⟨_, rfl, ?_⟩
        simp only [show ¬ ((256 : Int) ≤ 23 + more) from by omega, decide_false, beq_self_eq_true, reduceCtorEq, if_false, Bool.false_eq_true, show (false == true) = false from rfl]
        exact endS _ hK
    rcases hc with ⟨h1, rfl⟩ | ⟨rfl, rfl⟩ | ⟨rfl, rfl⟩
    · have : dots (min 3 m) = [46, 46, 46] := by rw [Nat.min_eq_left h1]; rfl
      simp only [this, ext_at3]
      exact big 52 65 (m - 3) (.inl ⟨rfl, rfl⟩) rfl (letN3 m h1) (by omega)
    · have : dots (min 1 2) = [46] := rfl
      simp only [this, ext_at1]
      exact big 23 97 1 (.inr ⟨rfl, rfl⟩) rfl (letN1 2 (by omega) (by omega)) (by omega)
    · have : dots (min 3 1) = [46] := rfl
      simp only [this, ext_at1]
      exact big 23 97 0 (.inr ⟨rfl, rfl⟩) rfl (letN1 1 (by omega) (by omega)) (by omega)
  clear hK
  have c2 : m = 1 ∨ m = 2 ∨ 3 ≤ m := by clear out hzm hzm1; omega
  by_cases hz : z = 1
  · subst hz
    simp only [show ¬ (1 : Int) < ((1 : Nat) : Int) from by decide, if_false, contW]
    rcases c2 with h | h | h
    · exact absurd (hzm1 h) (by decide)
    · exact out (.inr (.inl ⟨h, rfl⟩))
    · exact absurd (hzm h) (by decide)
  · have hz2 : 2 ≤ z := by clear out hzm hzm1 c2; omega
    simp only [show (1 : Int) < (z : Int) from Int.ofNat_lt.mpr hz2, if_true, contW]
    rcases c2 with h1 | h1 | h1
    · have h2 := hzm1 h1
      subst h1 h2
      have : dots (min 3 1) = [46] := rfl
      simp only [this, ext_in1, not_true_eq_false, decide_true, decide_false, Bool.not_true, Bool.false_eq_true, if_false, if_true, contW]
      exact out (.inr (.inr ⟨rfl, rfl⟩))
    · subst h1
      have : dots (min z 2) = [46, 46] := by rw [Nat.min_eq_right hz2]; rfl
      simp only [this, ext_in2, not_false_eq_true, decide_true, decide_false, Bool.not_true, Bool.not_false, Bool.false_eq_true, if_false, if_true, contW]
      refine exs_step fun K1 hK1 => ?_
      walk_at "vc"
      simp only [hK1, exs_nil, loopOut]
      clear out hzm hzm1 hK1
      refine ⟨_, sub_of ?_, z - 1, by omega, z - 1, rfl, by omega, by omega, by omega, by omega, rfl⟩
      walk_at "sub"
    · have h2 := hzm h1
      subst h2
      have : dots (min 3 m) = [46, 46, 46] := by rw [Nat.min_eq_left h1]; rfl
      simp only [this, ext_in3, not_true_eq_false, decide_true, decide_false, Bool.not_true, Bool.false_eq_true, if_false, if_true, contW]
      exact out (.inl ⟨h1, rfl⟩)
end Mine
end

section
open PySem
set_option linter.unusedVariables false
set_option maxRecDepth 100000
set_option genSizeOf false
set_option genSizeOfSpec false
set_option genInjectivity false
namespace Mine
/-! the distance with any cost -/
noncomputable def rowG (w : Nat → Nat → Int) (c : Nat) : List Nat → List Int → Int → Int → List Int × Int
  | x :: s, r :: row, dist, res =>
    let res' := min (min res r + 2) (dist + w c x)
    let p := rowG w c s row r res'
    (res' :: p.1, p.2)
  | _, _, _, res => ([], res)
noncomputable def dpG (w : Nat → Nat → Int) (s : List Nat) (m : Int) : List Nat → Nat → List Int → Int → Int
  | [], _, _, res => res
  | c :: t, j, row, res =>
    let p := rowG w c s row (2 * j) (2 * j)
    if p.1.foldl min big > m then m + 1 else dpG w s m t (j + 1) p.1 p.2
noncomputable def levSG (w : Nat → Nat → Int) (s t : List Nat) (m : Int) : Int := if 2 * ((t.length : Int) - s.length) > m then m + 1 else dpG w s m t 0 (row0 s.length) 0
noncomputable def levG (w : Nat → Nat → Int) (a b : List Nat) (m : Int) : Int :=
  if a = b then 0 else
  let p := stripB a b
  if p.1 = [] ∨ p.2 = [] then 2 * (p.1.length + p.2.length : Int)
  else if p.1.length > 40 ∨ p.2.length > 40 then m + 1
  else if p.2.length < p.1.length then levSG w p.2 p.1 m else levSG w p.1 p.2 m

theorem rowG_eq {w : Nat → Nat → Int} (c : Nat) : ∀ (s : List Nat) (row : List Int) (d r : Int), (∀ x ∈ s, w c x = substC [c] [x]) → rowF c s row d r = rowG w c s row d r
  | [], _, _, _, _ => by unfold rowF rowG; rfl
  | x :: s, [], _, _, _ => by unfold rowF rowG; rfl
  | x :: s, y :: row, d, r, h => by
    unfold rowF rowG
    dsimp only
    rw [h x List.mem_cons_self, rowG_eq c s row _ _ fun z hz => h z (List.mem_cons_of_mem _ hz)]
theorem dpG_eq {w : Nat → Nat → Int} (s : List Nat) (m : Int) : ∀ (t : List Nat) (j : Nat) (row : List Int) (res : Int), (∀ c ∈ t, ∀ x ∈ s, w c x = substC [c] [x]) → dpF s m t j row res = dpG w s m t j row res
  | [], _, _, _, _ => by unfold dpF dpG; rfl
  | c :: t, j, row, res, h => by
    unfold dpF dpG
    dsimp only
    rw [rowG_eq c s row _ _ (h c List.mem_cons_self)]
    split
    · rfl
    · exact dpG_eq s m t _ _ _ fun z hz => h z (List.mem_cons_of_mem _ hz)
theorem stripP_sub : ∀ (a b : List Nat), (∀ x ∈ (stripP a b).1, x ∈ a) ∧ (∀ x ∈ (stripP a b).2, x ∈ b)
  | [], b => by simp [stripP]
  | x :: a, [] => by simp [stripP]
  | x :: a, y :: b => by
    unfold stripP
    split
    · have := stripP_sub a b
      exact ⟨fun z hz => List.mem_cons_of_mem _ (this.1 z hz), fun z hz => List.mem_cons_of_mem _ (this.2 z hz)⟩
    · exact ⟨fun z hz => hz, fun z hz => hz⟩
theorem stripB_sub (a b : List Nat) : (∀ x ∈ (stripB a b).1, x ∈ a) ∧ (∀ x ∈ (stripB a b).2, x ∈ b) := by
  have h1 := stripP_sub a b
  have h2 := stripP_sub (stripP a b).1.reverse (stripP a b).2.reverse
  unfold stripB
  exact ⟨fun x hx => h1.1 x (List.mem_reverse.mp (h2.1 x (List.mem_reverse.mp hx))), fun x hx => h1.2 x (List.mem_reverse.mp (h2.2 x (List.mem_reverse.mp hx)))⟩
theorem levG_eq {w : Nat → Nat → Int} (a b : List Nat) (m : Int) (h : ∀ c ∈ a ++ b, ∀ x ∈ a ++ b, w c x = substC [c] [x]) : lev a b m = levG w a b m := by
  have hs := stripB_sub a b
  have h1 : ∀ c ∈ (stripB a b).1, ∀ x ∈ (stripB a b).2, w c x = substC [c] [x] := fun c hc x hx => h c (List.mem_append_left _ (hs.1 c hc)) x (List.mem_append_right _ (hs.2 x hx))
  have h2 : ∀ c ∈ (stripB a b).2, ∀ x ∈ (stripB a b).1, w c x = substC [c] [x] := fun c hc x hx => h c (List.mem_append_right _ (hs.2 c hc)) x (List.mem_append_left _ (hs.1 x hx))
  unfold lev levG levS levSG
  dsimp only
  rw [dpG_eq (stripB a b).2 m (stripB a b).1 0 _ 0 h1, dpG_eq (stripB a b).1 m (stripB a b).2 0 _ 0 h2]

/-- the cost among . A a b -/
noncomputable def w4 (x y : Nat) : Int := if x = y then 0 else if (x = 65 ∧ y = 97) ∨ (x = 97 ∧ y = 65) then 1 else 2
theorem low4 : lowL [46] = [46] ∧ lowL [65] = [97] ∧ lowL [97] = [97] ∧ lowL [98] = [98] := by
  refine ⟨?_, ?_, ?_, ?_⟩ <;> decide +kernel
theorem w4_eq (x y : Nat) (hx : x = 46 ∨ x = 65 ∨ x = 97 ∨ x = 98) (hy : y = 46 ∨ y = 65 ∨ y = 97 ∨ y = 98) : w4 x y = substC [x] [y] := by
  obtain ⟨l1, l2, l3, l4⟩ := low4
  rcases hx with rfl | rfl | rfl | rfl <;> rcases hy with rfl | rfl | rfl | rfl <;> simp [w4, substC, l1, l2, l3, l4]

structure Lv where
  a : Nat
  b : Nat
  c : Nat
  k : Nat
  odd : Int
  twos : Int
noncomputable def bs (k : Nat) : List Nat := List.replicate k 98
noncomputable def lvTold (x : Lv) : Int := levG w4 (letN x.a ++ letN x.b ++ bs x.k) (letN x.c) 9
noncomputable def two2 (l : List Nat) : Int := if (l.count 97 : Int) = 2 then 1 else 0
noncomputable def lvOk (fs : Nat) (L : Nat) (x : Lv) : Bool :=
  let left := letN x.a
  let right := letN x.b
  let whole := letN x.c
  let told := lvTold x
  let bound : Int := if told = 5 then 3 else 0
  decide (x.a ≤ 100) && decide (x.b ≤ 100) && decide (x.c ≤ 100) && decide (x.k ≤ 100) && (decide (x.c = 0) == decide (fs < 3 ^ L)) &&
  decide (told = 5 ∨ told = 2 * min (left.count 97 : Int) (right.count 65) + 2 * x.k) &&
  decide (levG w4 whole (left ++ right ++ bs x.k) (told - 1) = told) &&
  decide (levG w4 (left ++ right ++ bs x.k) whole bound = min told (bound + 1)) &&
  decide (levG w4 (dots x.a) (dots x.c) 0 = 2 * ((x.c : Int) - x.a)) &&
  decide (levG w4 (left ++ [98]) (98 :: left) 9 = 4 * min 1 (left.length : Int))
noncomputable def lvNext (x : Lv) : Lv := ⟨(letN x.a).count 65, (letN x.b).count 65, (letN x.c).count 65, (lvTold x % 2).toNat, x.odd + lvTold x % 2, x.twos + two2 (letN x.a) + two2 (letN x.b) + two2 (letN x.c)⟩
noncomputable def ways (s : Int) : Nat → Int
  | 0 => 1
  | k + 1 => ways s k * (s + (k + 1 : Nat)) / (k + 1 : Nat)
noncomputable def strip3 : Nat → Int → Int → Int × Int
  | 0, w, t => (w, t)
  | n + 1, w, t => if w % 3 = 0 then strip3 n (w / 3) (t + 1) else (w, t)
noncomputable def check (f s : Nat) : Bool :=
  let x0 : Lv := ⟨f, s, f + s, 0, 0, 0⟩
  let x1 := lvNext x0
  let x2 := lvNext x1
  let x3 := lvNext x2
  let x4 := lvNext x3
  let r := strip3 25 (ways s f) 0
  lvOk (f + s) 0 x0 && lvOk (f + s) 1 x1 && lvOk (f + s) 2 x2 && lvOk (f + s) 3 x3 && decide (x4.odd = r.2) && decide (r.1 % 3 = 1 + (x4.odd + x4.twos) % 2) &&
  (List.range (f + 1)).all (fun k => decide (0 < ways s k ∧ ways s k < 10000000000))
theorem check_row (i : Nat) (j : Nat) (h : check (i + 2) (j + 2) = true) : check (i + 2) (j + 2) = true := h
set_option maxHeartbeats 4000000 in
theorem check_all : ∀ i, i < 15 → ∀ j, j < 15 → check (i + 2) (j + 2) = true := by decide +kernel
end Mine
end

section
open PySem
set_option linter.unusedVariables false
set_option maxRecDepth 100000
namespace Mine
open Rx
noncomputable def mailX (f s k : Nat) : List Nat := dots f ++ ([13, 10] ++ (dots s ++ ([13, 10, 13, 10, 97, 13, 10] ++ (dots k ++ [97]))))
noncomputable def endX (e : Nat) : List Nat := match e with | 0 => [10] | 1 => [13] | _ => [13, 10]
noncomputable def mail0 (f s e1 e2 : Nat) : List Nat := dots f ++ (endX e1 ++ (dots s ++ (endX e2 ++ [13, 97, 10, 46, 97])))
theorem flat_dots (n : Nat) : (List.replicate n [46]).flatten = dots n := by
  unfold dots
  induction n with
  | zero => rfl
  | succ n ih => rw [List.replicate_succ, List.flatten_cons, ih, List.replicate_succ]; rfl
theorem dots_succ (n : Nat) (t : List Nat) : dots (n + 1) ++ t = 46 :: (dots n ++ t) := by simp [dots, List.replicate_succ]
theorem norm2_dots (n : Nat) (t : List Nat) : norm2 (dots n ++ t) = dots n ++ norm2 t := by
  induction n with
  | zero => simp [dots]
  | succ n ih => rw [dots_succ, norm2_cons _ _ (by omega), ih, dots_succ]; rfl
theorem dotL_no (n : Nat) (t : List Nat) : dotL false (dots n ++ t) = dots n ++ dotL false t := by
  induction n with
  | zero => simp [dots]
  | succ n ih => rw [dots_succ, dotL, dots_succ]; simp [ih]
theorem dotL_yes (n : Nat) (t : List Nat) (h : 1 ≤ n) : dotL true (dots n ++ t) = dots (n + 1) ++ dotL false t := by
  obtain ⟨m, rfl⟩ : ∃ m, n = m + 1 := ⟨n - 1, by omega⟩
  rw [dots_succ, dotL, dots_succ, dots_succ]
  simp [dotL_no]
theorem norm2_13 (t : List Nat) (h : t.head? ≠ some 10) : norm2 (13 :: t) = [13, 10] ++ norm2 t := by
  rw [norm2_cons _ _ (fun x => h x.2)]; rfl
theorem norm2_10 (t : List Nat) : norm2 (10 :: t) = [13, 10] ++ norm2 t := by
  rw [norm2_cons _ _ (by omega)]; rfl
theorem norm2_end (e : Nat) (t : List Nat) (h : t.head? ≠ some 10) : norm2 (endX e ++ t) = [13, 10] ++ norm2 t := by
  match e with
  | 0 => exact norm2_10 t
  | 1 => exact norm2_13 t h
  | _ + 2 => rfl
theorem head_dots (n : Nat) (t : List Nat) (h : 1 ≤ n) : (dots n ++ t).head? ≠ some 10 := by
  obtain ⟨m, rfl⟩ : ∃ m, n = m + 1 := ⟨n - 1, by omega⟩
  rw [dots_succ]; simp
theorem dotL_crlf (b : Bool) (t : List Nat) : dotL b ([13, 10] ++ t) = [13, 10] ++ dotL true t := by simp [dotL]
theorem quote0 (f s e1 e2 : Nat) (hf : 1 ≤ f) (hs : 1 ≤ s) : quoteL (mail0 f s e1 e2) = mailX (f + 1) (s + 1) 2 := by
  unfold quoteL mail0 mailX
  rw [norm2_dots, norm2_end _ _ (head_dots s _ hs), norm2_dots, norm2_end _ _ (by simp), dotL_yes _ _ hf, dotL_crlf, dotL_yes _ _ hs, dotL_crlf]
  congr 1
theorem quoteX (f s k : Nat) (hf : 1 ≤ f) (hs : 1 ≤ s) (hk : 1 ≤ k) : quoteL (mailX f s k) = mailX (f + 1) (s + 1) (k + 1) := by
  unfold quoteL mailX
  have e1 : ∀ t, norm2 ([13, 10] ++ t) = [13, 10] ++ norm2 t := fun t => rfl
  have e2 : ∀ t, norm2 ([13, 10, 13, 10, 97, 13, 10] ++ t) = [13, 10, 13, 10, 97, 13, 10] ++ norm2 t := fun t => by
    show norm2 (13 :: 10 :: 13 :: 10 :: 97 :: 13 :: 10 :: t) = _
    rw [norm2, norm2, norm2_cons 97 _ (by omega), norm2]; rfl
  have e3 : norm2 [97] = [97] := rfl
  have e4 : ∀ b t, dotL b ([13, 10, 13, 10, 97, 13, 10] ++ t) = [13, 10, 13, 10, 97, 13, 10] ++ dotL true t := fun b t => by simp [dotL]
  have e5 : dotL false [97] = [97] := rfl
  rw [norm2_dots, e1, norm2_dots, e2, norm2_dots, e3, dotL_yes _ _ hf, dotL_crlf, dotL_yes _ _ hs, e4, dotL_yes _ _ hk, e5]
theorem spl_dots (n : Nat) (t : List Nat) : spl (dots n ++ t) = glueHead (dots n) (spl t) := by
  induction n with
  | zero => cases e : spl t with
    | nil => exact absurd e (spl_ne _)
    | cons p ps => simp [dots, glueHead, e]
  | succ n ih => rw [dots_succ, spl_cons _ _ (by omega), ih, glue_glue]; rfl
theorem spl_mail (f s k : Nat) : spl (mailX f s k) = [dots f, dots s, [], [97], dots k ++ [97]] := by
  unfold mailX
  have e1 : ∀ t, spl ([13, 10] ++ t) = [] :: spl t := fun t => rfl
  have e2 : ∀ t, spl ([13, 10, 13, 10, 97, 13, 10] ++ t) = [] :: [] :: [97] :: spl t := fun t => by
    show spl (13 :: 10 :: 13 :: 10 :: 97 :: 13 :: 10 :: t) = _
    rw [spl, spl, spl_cons 97 _ (by omega), spl]; rfl
  have e3 : spl [97] = [[97]] := rfl
  rw [spl_dots, e1, spl_dots, e2, spl_dots, e3]
  simp [glueHead]
theorem mailX_len (f s k : Nat) : (mailX f s k).length = f + s + k + 10 := by simp [mailX, dots]; omega
theorem mail0_len (f s e1 e2 : Nat) : (mail0 f s e1 e2).length ≤ f + s + 9 := by
  have h : ∀ e, (endX e).length ≤ 2 := fun e => by unfold endX; split <;> simp
  have h1 := h e1
  have h2 := h e2
  simp [mail0, dots]; omega
end Mine
end

section
open PySem
set_option linter.unusedVariables false
set_option maxRecDepth 100000
namespace Mine
noncomputable def lvAt (F S : Nat) : Nat → Lv
  | 0 => ⟨F, S, F + S, 0, 0, 0⟩
  | j + 1 => lvNext (lvAt F S j)
theorem check_use {F S : Nat} (hF : 2 ≤ F ∧ F ≤ 16) (hS : 2 ≤ S ∧ S ≤ 16) :
    (∀ j, j < 4 → lvOk (F + S) j (lvAt F S j) = true) ∧ (lvAt F S 4).odd = (strip3 25 (ways S F) 0).2 ∧ (strip3 25 (ways S F) 0).1 % 3 = 1 + ((lvAt F S 4).odd + (lvAt F S 4).twos) % 2 ∧
      ∀ k, k ≤ F → 0 < ways S k ∧ ways S k < 10000000000 := by
  have h := check_all (F - 2) (by omega) (S - 2) (by omega)
  rw [show F - 2 + 2 = F by omega, show S - 2 + 2 = S by omega] at h
  unfold check at h
  simp only [Bool.and_eq_true, decide_eq_true_eq, List.all_eq_true, List.mem_range] at h
  obtain ⟨⟨⟨⟨⟨⟨h0, h1⟩, h2⟩, h3⟩, h4⟩, h5⟩, h6⟩ := h
  refine ⟨fun j hj => ?_, h4, h5, fun k hk => h6 k (by omega)⟩
  match j, hj with
  | 0, _ => exact h0
  | 1, _ => exact h1
  | 2, _ => exact h2
  | 3, _ => exact h3
noncomputable def inA (c : Nat) : Prop := c = 46 ∨ c = 65 ∨ c = 97 ∨ c = 98
theorem lev4 (a b : List Nat) (m : Int) (ha : ∀ c ∈ a, inA c) (hb : ∀ c ∈ b, inA c) : lev a b m = levG w4 a b m :=
  levG_eq a b m fun c hc x hx => w4_eq c x
    (by rcases List.mem_append.mp hc with h | h <;> first | exact ha c h | exact hb c h) (by rcases List.mem_append.mp hx with h | h <;> first | exact ha x h | exact hb x h)
theorem in_dots (n : Nat) : ∀ c ∈ dots n, inA c := fun c h => .inl (List.eq_of_mem_replicate h)
theorem in_bs (n : Nat) : ∀ c ∈ bs n, inA c := fun c h => .inr (.inr (.inr (List.eq_of_mem_replicate h)))
theorem in_let (n : Nat) : ∀ c ∈ letN n, inA c := fun c h => by
  rcases List.mem_append.mp h with h | h
  · exact .inr (.inl (List.eq_of_mem_replicate h))
  · exact .inr (.inr (.inl (List.eq_of_mem_replicate h)))
theorem in_app {a b : List Nat} (ha : ∀ c ∈ a, inA c) (hb : ∀ c ∈ b, inA c) : ∀ c ∈ a ++ b, inA c := fun c h => by
  rcases List.mem_append.mp h with h | h
  · exact ha c h
  · exact hb c h
theorem len_let (n : Nat) : (letN n).length ≤ n := by unfold letN; simp; omega
theorem len_dots (n : Nat) : (dots n).length = n := by simp [dots]
theorem len_bs (n : Nat) : (bs n).length = n := by simp [bs]
theorem flat_rep (c n : Nat) : (List.replicate n [c]).flatten = List.replicate n c := by
  induction n with
  | zero => rfl
  | succ n ih => rw [List.replicate_succ, List.flatten_cons, ih, List.replicate_succ]; rfl
theorem lvOk_use {fs L : Nat} {x : Lv} (h : lvOk fs L x = true) : (x.a ≤ 100 ∧ x.b ≤ 100 ∧ x.c ≤ 100 ∧ x.k ≤ 100) ∧ (x.c = 0 ↔ fs < 3 ^ L) ∧
    (lvTold x = 5 ∨ lvTold x = 2 * min ((letN x.a).count 97 : Int) ((letN x.b).count 65) + 2 * x.k) ∧
    lev (letN x.a ++ letN x.b ++ bs x.k) (letN x.c) 9 = lvTold x ∧
    lev (letN x.c) (letN x.a ++ letN x.b ++ bs x.k) (lvTold x - 1) = lvTold x ∧
    lev (letN x.a ++ letN x.b ++ bs x.k) (letN x.c) (if lvTold x = 5 then 3 else 0) = min (lvTold x) ((if lvTold x = 5 then 3 else 0) + 1) ∧
    lev (dots x.a) (dots x.c) 0 = 2 * ((x.c : Int) - x.a) ∧
    lev (letN x.a ++ [98]) (98 :: letN x.a) 9 = 4 * min 1 ((letN x.a).length : Int) := by
  unfold lvOk at h
  simp only [Bool.and_eq_true, decide_eq_true_eq, beq_iff_eq, decide_eq_decide] at h
  obtain ⟨⟨⟨⟨⟨⟨⟨⟨⟨h1, h2⟩, h3⟩, h4⟩, h5⟩, h6⟩, h7⟩, h8⟩, h9⟩, h10⟩ := h
  have i3 := in_app (in_app (in_let x.a) (in_let x.b)) (in_bs x.k)
  have i98 : ∀ c ∈ [98], inA c := fun c hc => .inr (.inr (.inr (by simpa using hc)))
  refine ⟨⟨h1, h2, h3, h4⟩, h5, h6, ?_, ?_, ?_, ?_, ?_⟩
  · rw [lev4 _ _ _ i3 (in_let _)]; rfl
  · rw [lev4 _ _ _ (in_let _) i3]; exact h7
  · rw [lev4 _ _ _ i3 (in_let _)]; exact h8
  · rw [lev4 _ _ _ (in_dots _) (in_dots _)]; exact h9
  · rw [lev4 (letN x.a ++ [98]) (98 :: letN x.a) _ (in_app (in_let _) i98) (in_app (a := [98]) i98 (in_let _))]; exact h10
theorem far_all : ∀ F, F < 16 → levG w4 (dots 40 ++ dots (F + 1)) [97] 999 = 1000 := by decide +kernel
theorem far (F : Nat) (h0 : 1 ≤ F) (h : F ≤ 16) : lev (dots 40 ++ dots F) [97] 999 = 1000 := by
  rw [lev4 _ _ _ (in_app (in_dots _) (in_dots _)) (fun c hc => .inr (.inr (.inl (by simpa using hc)))), show F = (F - 1) + 1 by omega, far_all (F - 1) (by omega)]
theorem dots_app (a b : Nat) : dots a ++ dots b = dots (a + b) := by simp [dots, List.replicate_append_replicate]
noncomputable def mailAt (f s e1 e2 : Nat) : Nat → List Nat
  | 0 => mail0 f s e1 e2
  | j + 1 => mailX (f + (j + 1)) (s + (j + 1)) (j + 2)
theorem mailAt_next (f s e1 e2 j : Nat) (hf : 1 ≤ f) (hs : 1 ≤ s) : Rx.quoteL (mailAt f s e1 e2 j) = mailAt f s e1 e2 (j + 1) := by
  cases j with
  | zero => exact quote0 f s e1 e2 hf hs
  | succ j => exact quoteX _ _ _ (by omega) (by omega) (by omega)
theorem mailAt_len (f s e1 e2 j : Nat) (hf : f ≤ 13) (hs : s ≤ 13) (hj : j ≤ 3) : (mailAt f s e1 e2 j).length ≤ 100 := by
  cases j with
  | zero => have := mail0_len f s e1 e2; show (mail0 f s e1 e2).length ≤ 100; omega
  | succ j => show (mailX _ _ _).length ≤ 100; rw [mailX_len]; omega
theorem count_le (n c : Nat) : (letN n).count c ≤ n := Nat.le_trans List.count_le_length (len_let n)
theorem strip3_pos (r : Int × Int) : ∀ (n : Nat) (w t : Int), 0 < w → w < 3 ^ n → strip3 n w t = r → w % 3 ≠ 0 → r = (w, t)
  | 0, w, t, h, h', _, _ => by simp at h'; omega
  | n + 1, w, t, h, h', e, c => by unfold strip3 at e; rw [if_neg c] at e; exact e.symm
end Mine
end

section
open PySem PySem.Calls PyProof.Rows
set_option linter.unusedSimpArgs false
set_option linter.unusedVariables false
set_option maxRecDepth 100000
namespace Mine
local macro_rules | `(tactic| walk_at "sub") => `(tactic| ((repeat (refine And.intro (by first | rfl | (with_unfolding_all rfl) | (simp [List.lookup]; done) | (simp [List.lookup]; omega) | (simp [List.lookup, List.foldl_append]; omega)) ?_)); exact trivial))
local macro_rules | `(tactic| walk_at "vc") => `(tactic| (repeat (first | (dsimp only [List.reverse_cons, List.reverse_nil, List.nil_append, List.cons_append, toSs, toEs, exs_nil, ex1, contW, retOut, initFrom, rd, List.map, B.read, evW, tsW, sem, sems, ofV, List.lookup, cmpW, eqV, isV, inV, intOf, strOf, boolOf, Option.map, isVB, isVN, isVI, inS, oW, oWn, addW, mulW, asStr, truthW, me0W, me1W, meOk, binW, idxW, slW, optI, biW, asInt, w1, lenW, rngW, rangeW, minW, specAt, allZ, bGo, V.flat, augOk, frW, subW, Nat.reduceBEq, Nat.reduceAdd]; try simp only [beq_self_eq_true, reduceCtorEq, decide_eq_true_eq, Bool.not_eq_true', decide_eq_false_iff_not, and_true, true_and, if_true, if_false, Bool.false_eq_true]) | simp only [beq_self_eq_true, reduceCtorEq, decide_eq_true_eq, Bool.not_eq_true', decide_eq_false_iff_not, and_true, true_and, if_true, if_false, Bool.false_eq_true])))
noncomputable def FW : Fenv := ⟨[], [("quotedata", spQ), ("_levenshtein_distance", spL), ("_law_letters", spLt), ("ISEOF", spE)], [.len, .range, .min], []⟩
noncomputable def dW := dOf P1 "law"
noncomputable def spW : Spec := fun ts Q => ∃ ns : List Int, ts = [.list (ns.map .int)] ∧ ns.length ≤ 63 ∧ Q (.bool true)
local macro_rules | `(tactic| walk_at "side") => `(tactic| repeat (refine And.intro (by first | omega | decide | (simp only [List.length_append, List.length_cons, List.length_nil, len_dots, len_bs]; omega) | (simp; done)) ?_))
noncomputable def tailSs : Nat → Ss → Ss
  | n + 1, .cons _ s => tailSs n s
  | _, s => s
/-- what is left from the levels on -/
noncomputable def levelsSt (F S : Nat) (rest : St) : St := (13, .val (.int 0)) :: (12, .val (.int 0)) :: (11, .val (.str [])) :: (10, .val (.str (dots (F + S)))) :: (9, .val (.str (dots S))) :: (8, .val (.str (dots F))) :: rest
theorem one_mod (x : Int) (k : Nat) (hk : 0 < k) : ∃ n : Nat, 1 + x % (k : Int) = n ∧ 1 ≤ n ∧ n ≤ k := by
  have h1 := Int.emod_nonneg x (b := k) (by omega)
  have h2 := Int.emod_lt_of_pos x (b := k) (by omega)
  exact ⟨(1 + x % (k : Int)).toNat, by omega, by omega, by omega⟩
theorem low_mod (x : Int) (k : Nat) (hk : 0 < k) : ∃ n : Nat, x % (k : Int) = n ∧ n < k := by
  have h1 := Int.emod_nonneg x (b := k) (by omega)
  have h2 := Int.emod_lt_of_pos x (b := k) (by omega)
  exact ⟨(x % (k : Int)).toNat, by omega, by omega⟩
theorem rOk_nat {a : Int} (n : Nat) (ha : a.natAbs ≤ 1000000) (h : n ≤ 1000000) : rOk a n 1 := ⟨ha, h, by decide, by decide⟩
theorem mod3 (i : Nat) : (i : Int) % 3 = 0 ∨ (i : Int) % 3 = 1 ∨ (i : Int) % 3 = 2 := by omega
theorem lit1 : (Str.ofString "\n").cps.toList = [10] := rfl
theorem lit2 : (Str.ofString "\x0d").cps.toList = [13] := rfl
theorem lit3 : (Str.ofString "\x0d\n").cps.toList = [13, 10] := rfl
theorem lit4 : (Str.ofString ".").cps.toList = [46] := rfl
theorem lit5 : (Str.ofString "\x0da\n.a").cps.toList = [13, 97, 10, 46, 97] := rfl
theorem lit6 : (Str.ofString "\x0d\n\x0d\na\x0d\n").cps.toList = [13, 10, 13, 10, 97, 13, 10] := rfl
theorem lit7 : (Str.ofString "a").cps.toList = [97] := rfl
theorem lit8 : (Str.ofString "A").cps.toList = [65] := rfl
theorem lit9 : (Str.ofString "b").cps.toList = [98] := rfl
theorem lit10 : (Str.ofString "").cps.toList = [] := rfl
set_option maxHeartbeats 4000000 in
theorem law_front : ∃ ss, trD FW dW ["heaps"] = some ss ∧ ∀ ts Q, spW ts Q →
    (∀ F S mail h0 h1 h2, 2 ≤ F ∧ F ≤ 16 → 2 ≤ S ∧ S ≤ 16 → exs FW (tailSs 15 (toSs ss)) (levelsSt F S [(6, .val mail), (4, .val (.int S)), (3, .val (.int F)), (1, .own [.int h0, .int h1, .int h2])]) (retOut Q)) →
    ts.length = 1 ∧ exs FW (toSs ss) (initFrom 0 ts) (retOut Q) := by
  refine ⟨_, (by with_unfolding_all rfl), ?_⟩
  dsimp only [List.reverse, List.reverseAux, List.nil_append, List.cons_append, toSs, toEs, tailSs, levelsSt, Nat.reduceAdd, Nat.zero_add]
  rintro _ Q ⟨ns, rfl, hn, q⟩ back
  refine ⟨rfl, ?_⟩
  dsimp only [initFrom, Nat.zero_add, Nat.reduceAdd, lit1, lit2, lit3, lit4, lit5, lit6, lit7, lit8, lit9, lit10] at back ⊢
  refine exs_step fun K hK => ?_
  walk_at "vc"
  refine ⟨by simp, ?_⟩
  rw [hK]; clear hK K
  refine exs_step fun K hK => ?_
  walk_at "vc"
  refine ⟨rOk_nat _ (by decide) (by simp; omega), _, rfl, fun _ st => ∃ h0 h1 h2 : Int, st = [(1, .own [.int h0, .int h1, .int h2]), (0, .val (.list (ns.map .int)))], ⟨_, sub_of ?_, 11, 12, 15, rfl⟩, ?_, ?_⟩
  · walk_at "sub"
  · rintro i _ v hi ⟨h0, h1, h2, rfl⟩
    obtain ⟨hi, rfl⟩ := rng_item hi
    rw [exs_cons]; walk_at "vc"
    have gi : (ns.map V.int).getD (pix (i : Int) (ns.map V.int).length) .none = .int (ns.getD i 0) := by
      rw [pix_pos (by omega)]
      have hi' : i < ns.length := by simpa using ‹i < (List.map V.int ns).length›
      simp [List.getD_eq_getElem?_getD, List.getElem?_map, List.getElem?_eq_getElem hi']
    rw [gi]
    refine ⟨by decide, by omega, by simp; omega, ?_⟩
    have hr := mod3 i
    rcases hr with hr | hr | hr <;> rw [hr]
    · exact ⟨rfl, by omega, by omega, by decide, _, sub_of (by walk_at "sub"), h0 + ns.getD i 0 % 1000000, h1, h2, rfl⟩
    · exact ⟨rfl, by omega, by omega, by decide, _, sub_of (by walk_at "sub"), h0, h1 + ns.getD i 0 % 1000000, h2, rfl⟩
    · exact ⟨rfl, by omega, by omega, by decide, _, sub_of (by walk_at "sub"), h0, h1, h2 + ns.getD i 0 % 1000000, rfl⟩
  rintro _ ⟨h0, h1, h2, rfl⟩
  have g0 : [V.int h0, V.int h1, V.int h2].getD (pix 0 [V.int h0, V.int h1, V.int h2].length) V.none = .int h0 := rfl
  have g1 : [V.int h0, V.int h1, V.int h2].getD (pix 1 [V.int h0, V.int h1, V.int h2].length) V.none = .int h1 := rfl
  have g2 : [V.int h0, V.int h1, V.int h2].getD (pix 2 [V.int h0, V.int h1, V.int h2].length) V.none = .int h2 := rfl
  rw [hK]; clear hK K
  refine exs_step fun K hK => ?_
  walk_at "vc"
  rw [g0]
  refine ⟨by simp, by simp, by decide, ?_⟩
  rw [hK]; clear hK K
  refine exs_step fun K hK => ?_
  walk_at "vc"
  rw [g1]
  refine ⟨by simp, by simp, by decide, ?_⟩
  obtain ⟨f, hf, hf1, hf13⟩ : ∃ f : Nat, 1 + h0 % 13 = f ∧ 1 ≤ f ∧ f ≤ 13 := one_mod h0 13 (by decide)
  obtain ⟨s, hs, hs1, hs13⟩ : ∃ s : Nat, 1 + h1 % 13 = s ∧ 1 ≤ s ∧ s ≤ 13 := one_mod h1 13 (by decide)
  rw [hf, hs]
  clear hf hs
  rw [hK]; clear hK K
  refine exs_step fun K hK => ?_
  walk_at "vc"
  refine ⟨by simp, ?_⟩
  rw [hK]; clear hK K
  refine exs_step fun K hK => ?_
  walk_at "vc"
  simp only [g2]
  obtain ⟨e1, he1, he13⟩ : ∃ e : Nat, h2 / 3 % 3 = e ∧ e < 3 := low_mod (h2 / 3) 3 (by decide)
  obtain ⟨e2, he2, he23⟩ : ∃ e : Nat, h2 / 9 % 3 = e ∧ e < 3 := low_mod (h2 / 9) 3 (by decide)
  have ge : ∀ e : Nat, e < 3 → [V.str [10], V.str [13], V.str [13, 10]].getD (pix (e : Int) [V.str [10], V.str [13], V.str [13, 10]].length) V.none = .str (endX e) := fun e he => by
    match e, he with
    | 0, _ => rfl
    | 1, _ => rfl
    | 2, _ => rfl
  simp only [he1, he2, ge e1 he13, ge e2 he23, Int.toNat_natCast, flat_dots]
  clear he1 he2
  have lx : ∀ e, (endX e).length ≤ 2 := fun e => by unfold endX; split <;> simp
  have lx1 := lx e1
  have lx2 := lx e2
  have em : dots f ++ endX e1 ++ dots s ++ endX e2 ++ [13, 97, 10, 46, 97] = mailAt f s e1 e2 0 := by simp [mailAt, mail0]
  walk_at "side"
  rw [em]
  rw [hK]; clear hK K
  refine exs_step fun K hK => ?_
  obtain ⟨n, hn', hn1, hn3⟩ : ∃ n : Nat, 1 + h2 % 3 = n ∧ 1 ≤ n ∧ n ≤ 3 := one_mod h2 3 (by decide)
  walk_at "vc"
  rw [g2]
  refine ⟨by simp, by simp, by decide, ?_⟩
  have ht : 2 + h2 % 3 = ((n + 1 : Nat) : Int) := by omega
  rw [hn']
  clear hn'
  refine ⟨rOk_nat n (by decide) (Nat.le_trans hn3 (by decide)), _, rfl, fun j st => st = [(6, .val (.str (mailAt f s e1 e2 j))), (4, .val (.int (s + j : Nat))), (3, .val (.int (f + j : Nat))), (1, .own [.int h0, .int h1, .int h2])], ⟨_, sub_of ?_, rfl⟩, ?_, ?_⟩
  · walk_at "sub"
  · rintro j _ v hj rfl
    obtain ⟨hj, rfl⟩ := rng_item hj
    have hl := mailAt_len f s e1 e2 j hf13 hs13 (by omega)
    refine exs_step fun K1 hK1 => ?_
    walk_at "vc"
    refine ⟨_, rfl, by omega, ?_⟩
    rw [mailAt_next f s e1 e2 j hf1 hs1]
    rw [hK1]; clear hK1 K1
    refine exs_step fun K1 hK1 => ?_
    walk_at "vc"
    rw [hK1]; clear hK1 K1
    show exs _ _ _ _
    rw [exs_cons]; walk_at "vc"
    refine ⟨_, sub_of ?_, rfl⟩
    walk_at "sub"
  rintro _ rfl
  rw [rng_len]
  obtain ⟨F, hF⟩ : ∃ F, F = f + n := ⟨_, rfl⟩
  obtain ⟨S, hS⟩ : ∃ S, S = s + n := ⟨_, rfl⟩
  have em2 : mailAt f s e1 e2 n = mailX F S (n + 1) := by
    obtain ⟨k, rfl⟩ : ∃ k, n = k + 1 := ⟨n - 1, by omega⟩
    rw [hF, hS]; rfl
  rw [em2, ← hF, ← hS]
  have hF2 : 2 ≤ F ∧ F ≤ 16 := by omega
  have hS2 : 2 ≤ S ∧ S ≤ 16 := by omega
  clear em2 em lx lx1 lx2 ge he13 he23 hf1 hs1 hf13 hs13 g0 g1
  clear hF hS e1 e2 f s
  rw [hK]; clear hK K
  refine exs_step fun K hK => ?_
  walk_at "vc"
  simp only [g2, ht, Int.toNat_natCast, flat_dots]
  clear ht
  have em : dots F ++ [13, 10] ++ dots S ++ [13, 10, 13, 10, 97, 13, 10] ++ dots (n + 1) ++ [97] = mailX F S (n + 1) := by simp [mailX]
  walk_at "side"
  simp only [em, not_true_eq_false, if_false, contW]
  rw [hK]; clear hK K
  refine exs_step fun K hK => ?_
  have sp0 : ([dots F, dots S, [], [97], dots (n + 1) ++ [97]].map V.str).getD (pix 0 ([dots F, dots S, [], [97], dots (n + 1) ++ [97]].map V.str).length) V.none = .str (dots F) := rfl
  have sp1 : ([dots F, dots S, [], [97], dots (n + 1) ++ [97]].map V.str).getD (pix 1 ([dots F, dots S, [], [97], dots (n + 1) ++ [97]].map V.str).length) V.none = .str (dots S) := rfl
  have spl5 : ∀ p ∈ [dots F, dots S, [], [97], dots (n + 1) ++ [97]], p.length ≤ 1000000 := by
    intro p hp
    simp only [List.mem_cons, List.not_mem_nil, or_false] at hp
    rcases hp with rfl | rfl | rfl | rfl | rfl <;> simp only [List.length_append, len_dots, List.length_cons, List.length_nil] <;> omega
  walk_at "vc"
  simp only [split_crlf, spl_mail, sp0]
  refine ⟨by simp, by simp, spl5, by simp, by simp, ?_⟩
  rw [hK]; clear hK K
  refine exs_step fun K hK => ?_
  walk_at "vc"
  simp only [split_crlf, spl_mail, sp1]
  refine ⟨by simp, by simp, spl5, by simp, by simp, ?_⟩
  clear sp0 sp1 spl5
  rw [hK]; clear hK K
  refine exs_step fun K hK => ?_
  walk_at "vc"
  rw [dots_app]
  walk_at "side"
  rw [hK]; clear hK K
  refine exs_step fun K hK => ?_
  walk_at "vc"
  have e40 : (List.replicate (40 : Int).toNat [46]).flatten = dots 40 := flat_dots 40
  simp only [e40]
  walk_at "side"
  refine ⟨_, _, _, rfl, by simp only [List.length_append, len_dots]; omega, by simp, ?_⟩
  simp only [far F (by omega) hF2.2, not_true_eq_false, if_false, contW]
  rw [hK]; clear hK K
  refine exs_step fun K hK => ?_
  walk_at "vc"
  rw [hK]; clear hK K
  refine exs_step fun K hK => ?_
  walk_at "vc"
  rw [hK]; clear hK K
  refine exs_step fun K hK => ?_
  walk_at "vc"
  rw [hK]; clear hK K
  exact back F S _ _ _ _ hF2 hS2
end Mine
end

section
open PySem PySem.Calls PyProof.Rows
set_option linter.unusedSimpArgs false
set_option linter.unusedVariables false
set_option maxRecDepth 100000
namespace Mine
local macro_rules | `(tactic| walk_at "sub") => `(tactic| ((repeat (refine And.intro (by first | rfl | (with_unfolding_all rfl) | (simp [List.lookup]; done) | (simp [List.lookup]; omega) | (simp [List.lookup, List.foldl_append]; omega)) ?_)); exact trivial))
local macro_rules | `(tactic| walk_at "vc") => `(tactic| (repeat (first | (dsimp only [List.reverse_cons, List.reverse_nil, List.nil_append, List.cons_append, toSs, toEs, exs_nil, ex1, contW, retOut, initFrom, rd, List.map, B.read, evW, tsW, sem, sems, ofV, List.lookup, cmpW, eqV, isV, inV, intOf, strOf, boolOf, Option.map, isVB, isVN, isVI, inS, oW, oWn, addW, mulW, asStr, truthW, me0W, me1W, meOk, binW, idxW, slW, optI, biW, asInt, w1, lenW, rngW, rangeW, minW, specAt, allZ, bGo, V.flat, augOk, frW, subW, Nat.reduceBEq, Nat.reduceAdd]; try simp only [beq_self_eq_true, reduceCtorEq, decide_eq_true_eq, Bool.not_eq_true', decide_eq_false_iff_not, and_true, true_and, if_true, if_false, Bool.false_eq_true]) | simp only [beq_self_eq_true, reduceCtorEq, decide_eq_true_eq, Bool.not_eq_true', decide_eq_false_iff_not, and_true, true_and, if_true, if_false, Bool.false_eq_true])))
local macro_rules | `(tactic| walk_at "side") => `(tactic| repeat (refine And.intro (by first | omega | decide | (simp only [List.length_append, List.length_cons, List.length_nil, len_dots, len_bs]; omega) | (simp; done)) ?_))
noncomputable def twoAt (t : Int) (l r w : List Nat) : Nat → Int
  | 0 => t
  | 1 => t + two2 l
  | 2 => t + two2 l + two2 r
  | _ => t + two2 l + two2 r + two2 w
theorem rngL1 (n : Nat) : (rngL 1 ((n : Int) + 1) 1).map V.int = (List.range n).map fun (k : Nat) => V.int (k + 1 : Nat) := by
  have : rsize 1 ((n : Int) + 1) 1 = n := by unfold rsize Builtin.Range.rangeSize; split <;> (try split) <;> omega
  unfold rngL
  rw [this]
  simp only [List.map_map]
  apply List.map_congr_left
  intro k _
  simp; omega
theorem or_if {A B c1 c2 : Prop} [Decidable c1] [Decidable c2] (h : c1 ∨ c2) (hb : B) : (if ¬ c1 then Int.natAbs 2 < 2 ^ 60 ∧ Int.natAbs 2 < 2 ^ 60 ∧ (if ¬ c2 then A else B) else if ¬ c1 then A else B) := by
  by_cases h1 : c1
  · rw [if_neg (fun h => h h1), if_neg (fun h => h h1)]; exact hb
  · rw [if_pos h1, if_neg (fun h' => h' (h.resolve_left h1))]; exact ⟨by decide, by decide, hb⟩
theorem ite_k {P : Int → Prop} {c : Prop} [Decidable c] (h : P (if c then 3 else 0)) : (if c then P 3 else P 0) := by
  split at h <;> simp_all
set_option maxHeartbeats 4000000 in
theorem law_back : ∃ ss, trD FW dW ["heaps"] = some ss ∧ ∀ (F S : Nat) mail h0 h1 h2 (Q : V → Prop), 2 ≤ F ∧ F ≤ 16 → 2 ≤ S ∧ S ≤ 16 → Q (.bool true) →
    exs FW (tailSs 15 (toSs ss)) (levelsSt F S [(6, .val mail), (4, .val (.int S)), (3, .val (.int F)), (1, .own [.int h0, .int h1, .int h2])]) (retOut Q) := by
  refine ⟨_, (by with_unfolding_all rfl), ?_⟩
  dsimp only [List.reverse, List.reverseAux, List.nil_append, List.cons_append, toSs, toEs, tailSs, levelsSt, Nat.reduceAdd, Nat.zero_add]
  rintro F S mail h0 h1 h2 Q hF2 hS2 q
  dsimp only [lit4, lit7, lit8, lit9]
  obtain ⟨ok, e1, e2, hw⟩ := check_use hF2 hS2
  refine exs_step fun K hK => ?_
  walk_at "vc"
  refine ⟨by simp only [iterOk]; unfold rOk; decide, _, rfl, fun j st => st = [(13, .val (.int (lvAt F S j).twos)), (12, .val (.int (lvAt F S j).odd)), (11, .val (.str (bs (lvAt F S j).k))), (10, .val (.str (dots (lvAt F S j).c))), (9, .val (.str (dots (lvAt F S j).b))), (8, .val (.str (dots (lvAt F S j).a))), (4, .val (.int S)), (3, .val (.int F))], ⟨_, sub_of ?_, rfl⟩, ?_, ?_⟩
  · walk_at "sub"
  · rintro j _ v hj rfl
    obtain ⟨hj4, rfl⟩ := rng_item (n := 4) hj
    clear hK hj
    generalize K = K0
    obtain ⟨⟨b1, b2, b3, b4⟩, hc0, ht, l1, l2, l3, l4, l5⟩ := lvOk_use (ok j hj4)
    have nx : lvAt F S (j + 1) = lvNext (lvAt F S j) := rfl
    dsimp only
    rw [nx]
    clear nx ok
    generalize lvAt F S j = x at *
    refine exs_step fun K hK => ?_
    walk_at "vc"
    simp only [len_dots]
    refine ⟨by simp, by simp only [iterOk], _, rfl, fun _ st => st = [(14, .val (.int j)), (13, .val (.int x.twos)), (12, .val (.int x.odd)), (11, .val (.str (bs x.k))), (10, .val (.str (dots x.c))), (9, .val (.str (dots x.b))), (8, .val (.str (dots x.a))), (4, .val (.int S)), (3, .val (.int F))], ⟨_, sub_of ?_, rfl⟩, ?_, ?_⟩
    · walk_at "sub"
    · rintro i _ v hi rfl
      have hv : v = .int x.c ∨ v = .int (-(x.c : Int)) := by
        match i, hi with
        | 0, hi => simp at hi; exact .inl hi.symm
        | 1, hi => simp at hi; exact .inr hi.symm
      have hp : ∀ c : Int, v = .int c → (decide (c = 0)) = decide ((F : Int) + S < 3 ^ j) := by
        intro c hc
        have : (c = 0) ↔ (x.c = 0) := by rcases hv with h | h <;> rw [hc] at h <;> cases h <;> omega
        rw [decide_eq_decide, this, hc0]
        have : ((3 : Int) ^ j) = ((3 ^ j : Nat) : Int) := by simp
        rw [this]; omega
      obtain ⟨c, rfl⟩ : ∃ c, v = .int c := by rcases hv with h | h <;> exact ⟨_, h⟩
      have hp := hp c rfl
      rw [exs_cons]; walk_at "vc"
      refine ⟨_, rfl, by omega, by omega, by decide, ?_⟩
      simp only [Int.toNat_natCast, hp, beq_self_eq_true, Bool.not_true, Bool.false_eq_true, if_false]
      exact ⟨_, sub_of (by walk_at "sub"), rfl⟩
    rintro _ rfl
    rw [hK]; clear hK K
    refine exs_step fun K hK => ?_
    walk_at "vc"
    refine ⟨by decide, by omega, ?_⟩
    obtain ⟨mo, hmo, hm1, hm2⟩ : ∃ mo : Int, 204 + (j : Int) % 2 * 28 = mo ∧ 204 ≤ mo ∧ mo ≤ 232 := ⟨_, rfl, by omega, by omega⟩
    rw [hmo]
    have la := Nat.le_trans (len_let x.a) b1
    have lb := Nat.le_trans (len_let x.b) b2
    have lc := Nat.le_trans (len_let x.c) b3
    rw [hK]; clear hK K
    refine exs_step fun K hK => ?_
    walk_at "vc"
    refine ⟨x.a, mo, rfl, by omega, hm1, hm2, ?_⟩
    rw [hK]; clear hK K
    refine exs_step fun K hK => ?_
    walk_at "vc"
    refine ⟨x.b, mo, rfl, by omega, hm1, hm2, ?_⟩
    rw [hK]; clear hK K
    refine exs_step fun K hK => ?_
    walk_at "vc"
    refine ⟨x.c, mo, rfl, by omega, hm1, hm2, ?_⟩
    rw [hK]; clear hK K
    clear hmo hm1 hm2 hc0 hj4
    refine exs_step fun K hK => ?_
    walk_at "vc"
    walk_at "side"
    refine ⟨_, _, _, rfl, by simp only [List.length_append, len_bs]; omega, by omega, ?_⟩
    rw [l1]
    rw [hK]; clear hK K
    refine exs_step fun K hK => ?_
    walk_at "vc"
    simp only [count_one, len_bs]
    refine or_if ht ?_
    clear ht
    rw [hK]; clear hK K
    refine exs_step fun K hK => ?_
    walk_at "vc"
    walk_at "side"
    refine ⟨_, _, _, rfl, by omega, by simp only [List.length_append, len_bs]; omega, ?_⟩
    simp only [l2, not_true_eq_false, if_false, contW]
    rw [hK]; clear hK K
    refine exs_step fun K hK => ?_
    walk_at "vc"
    refine ite_k (P := fun b => K ((21, .val (.int b)) :: _)) ?_
    generalize (if lvTold x = 5 then (3 : Int) else 0) = bnd at *
    rw [hK]; clear hK K
    refine exs_step fun K hK => ?_
    walk_at "vc"
    walk_at "side"
    refine ⟨_, _, _, rfl, by simp only [List.length_append, len_bs]; omega, by omega, ?_⟩
    simp only [l3, not_true_eq_false, if_false, contW]
    rw [hK]; clear hK K
    refine exs_step fun K hK => ?_
    walk_at "vc"
    refine ⟨_, _, _, rfl, by rw [len_dots]; omega, by rw [len_dots]; omega, ?_⟩
    simp only [l4, len_dots, not_true_eq_false, if_false, contW]
    walk_at "side"
    rw [hK]; clear hK K
    refine exs_step fun K hK => ?_
    walk_at "vc"
    walk_at "side"
    refine ⟨_, _, _, rfl, by simp only [List.length_append, List.length_cons, List.length_nil]; omega, by simp only [List.length_cons]; omega, ?_⟩
    simp only [l5, not_true_eq_false, if_false, contW]
    walk_at "side"
    rw [hK]; clear hK K
    refine exs_step fun K hK => ?_
    walk_at "vc"
    refine ⟨by decide, ?_⟩
    clear l1 l2 l3 l4 l5
    rw [hK]; clear hK K
    refine exs_step fun K hK => ?_
    walk_at "vc"
    refine ⟨by simp, by simp only [iterOk], _, rfl, fun i st => st = [(13, .val (.int (twoAt x.twos (letN x.a) (letN x.b) (letN x.c) i))), (12, .val (.int (x.odd + lvTold x % 2))), (20, .val (.int (lvTold x))), (19, .val (.str (letN x.c))), (18, .val (.str (letN x.b))), (17, .val (.str (letN x.a))), (4, .val (.int S)), (3, .val (.int F))], ⟨_, sub_of ?_, rfl⟩, ?_, ?_⟩
    · walk_at "sub"
    · rintro i _ v hi rfl
      obtain ⟨l, rfl, hl⟩ : ∃ l, v = .str l ∧ twoAt x.twos (letN x.a) (letN x.b) (letN x.c) (i + 1) = twoAt x.twos (letN x.a) (letN x.b) (letN x.c) i + two2 l := by
        match i, hi with
        | 0, hi => simp at hi; exact ⟨_, hi.symm, rfl⟩
        | 1, hi => simp at hi; exact ⟨_, hi.symm, rfl⟩
        | 2, hi => simp at hi; exact ⟨_, hi.symm, rfl⟩
      dsimp only
      rw [hl]
      rw [exs_cons]; walk_at "vc"
      simp only [count_one]
      unfold two2
      by_cases h2 : (l.count 97 : Int) = 2
      · rw [if_pos h2, if_pos h2, exs_cons]; walk_at "vc"
        exact ⟨_, sub_of (by walk_at "sub"), rfl⟩
      · rw [if_neg h2, if_neg h2, Int.add_zero]
        exact ⟨_, sub_of (by walk_at "sub"), rfl⟩
    rintro _ rfl
    have htw : twoAt x.twos (letN x.a) (letN x.b) (letN x.c) 3 = (lvNext x).twos := rfl
    have hod : x.odd + lvTold x % 2 = (lvNext x).odd := rfl
    rw [hK]; clear hK K
    show exs _ _ _ _
    refine exs_step fun K hK => ?_
    walk_at "vc"
    have hk : (List.replicate (lvTold x % 2).toNat [98]).flatten = bs (lvNext x).k := flat_rep 98 _
    rw [hk]
    refine ⟨by decide, by omega, by omega, by simp, ?_⟩
    rw [hK]; clear hK K
    refine exs_step fun K hK => ?_
    walk_at "vc"
    simp only [count_one, Int.toNat_natCast, flat_dots]
    have ca := count_le x.a 65
    have cb := count_le x.b 65
    have cc := count_le x.c 65
    refine ⟨by omega, by omega, by simp, ?_⟩
    rw [hK]; clear hK K
    refine exs_step fun K hK => ?_
    walk_at "vc"
    simp only [count_one, Int.toNat_natCast, flat_dots]
    refine ⟨by omega, by omega, by simp, ?_⟩
    rw [hK]; clear hK K
    show exs _ _ _ _
    rw [exs_cons]
    walk_at "vc"
    simp only [count_one, Int.toNat_natCast, flat_dots]
    refine ⟨by omega, by omega, by simp, ?_⟩
    refine ⟨_, sub_of ?_, rfl⟩
    walk_at "sub"
  rintro _ rfl
  have l4 : (List.map V.int (rngL 0 4 1)).length = 4 := rfl
  rw [l4]
  clear ok l4
  generalize (lvAt F S 4).odd = odd at *
  generalize (lvAt F S 4).twos = twos at *
  rw [hK]; clear hK K
  show exs _ _ _ _
  refine exs_step fun K hK => ?_
  walk_at "vc"
  rw [hK]; clear hK K
  refine exs_step fun K hK => ?_
  walk_at "vc"
  refine ⟨by simp only [iterOk]; unfold rOk; omega, _, rfl, fun j st => st = [(23, .val (.int (ways S j))), (13, .val (.int twos)), (12, .val (.int odd)), (4, .val (.int S)), (3, .val (.int F))], ⟨_, sub_of ?_, rfl⟩, ?_, ?_⟩
  · walk_at "sub"
  · rintro j _ v hj rfl
    rw [rngL1] at hj
    simp only [List.getElem?_map, Option.map_eq_some_iff] at hj
    obtain ⟨j', hj, rfl⟩ := hj
    obtain ⟨hj1, hj2⟩ := List.getElem?_eq_some_iff.mp hj
    simp at hj1 hj2
    subst hj2
    have w := hw j (by omega)
    rw [exs_cons]; walk_at "vc"
    refine ⟨by omega, by omega, by omega, _, sub_of ?_, rfl⟩
    walk_at "sub"
  rintro _ rfl
  rw [rngL1, List.length_map, List.length_range]
  have w := hw F (Nat.le_refl _)
  rw [hK]; clear hK K
  show exs _ _ _ _
  refine exs_step fun K hK => ?_
  walk_at "vc"
  rw [hK]; clear hK K
  refine exs_step fun K hK => ?_
  walk_at "vc"
  obtain ⟨r, hr⟩ : ∃ r, strip3 25 (ways S F) 0 = r := ⟨_, rfl⟩
  rw [hr] at e1 e2
  refine ⟨fun n st => ∃ w t : Int, 0 < w ∧ w < 3 ^ n ∧ strip3 n w t = r ∧ st = [(25, .val (.int t)), (23, .val (.int w)), (13, .val (.int twos)), (12, .val (.int odd))], ⟨25, _, sub_of ?_, ways S F, 0, w.1, Int.lt_of_lt_of_le w.2 (by decide), hr, rfl⟩, ?_⟩
  · walk_at "sub"
  rintro n _ ⟨u, t, hu0, hu3, hur, rfl⟩
  walk_at "vc"
  refine ⟨by decide, ?_⟩
  by_cases c : u % 3 = 0
  · rw [if_pos c]
    obtain ⟨n', rfl⟩ : ∃ n', n = n' + 1 := by
      cases n with
      | zero => simp at hu3; omega
      | succ n' => exact ⟨n', rfl⟩
    have hp : (3 : Int) ^ (n' + 1) = 3 * 3 ^ n' := by rw [Int.pow_succ]; omega
    unfold strip3 at hur
    rw [if_pos c] at hur
    refine exs_step fun K1 hK1 => ?_
    walk_at "vc"
    refine ⟨by decide, by decide, ?_⟩
    rw [hK1]; clear hK1 K1
    show exs _ _ _ _
    rw [exs_cons]; walk_at "vc"
    refine ⟨_, sub_of ?_, n', by omega, u / 3, t + 1, by omega, by omega, hur, rfl⟩
    walk_at "sub"
  · rw [if_neg c]
    have hrr : r = (u, t) := strip3_pos r n u t hu0 hu3 hur c
    rw [hrr] at e1 e2
    dsimp only at e1 e2
    rw [hK]; clear hK K
    show exs _ _ _ _
    rw [exs_cons]; walk_at "vc"
    simp only [e1, if_true]
    have e2' : u % 3 = 1 + (t + twos) % 2 := by rw [← e1]; exact e2
    refine ⟨by decide, by decide, ?_⟩
    simp only [e2', decide_true]
    exact q
end Mine

namespace Mine
theorem law_ok : ∃ ss, trD FW dW ["heaps"] = some ss ∧ ∀ ts Q, spW ts Q → ts.length = 1 ∧ exs FW (toSs ss) (initFrom 0 ts) (retOut Q) := by
  obtain ⟨ss, h1, h2⟩ := law_front
  obtain ⟨ss', h1', h2'⟩ := law_back
  have e : ss = ss' := by rw [h1] at h1'; injection h1'
  subst e
  refine ⟨ss, h1, fun ts Q sp => h2 ts Q sp fun F S mail h0 h1 h2 hF hS => h2' F S mail h0 h1 h2 Q hF hS ?_⟩
  obtain ⟨ns, _, _, q⟩ := sp
  exact q
end Mine
end

section
open PySem PySem.Calls PyProof.Rows
set_option linter.unusedVariables false
set_option maxRecDepth 100000
namespace Mine
theorem ints_reps {p : Program} {w : World} {G : Addr → Obj → Prop} : ∀ {vs : List Value} {ns : List Int}, IntsAre vs ns → Reps p w G vs (ns.map .int) := by
  intro vs ns h
  induction h with
  | nil => exact .nil
  | cons n t _ ih => exact .cons (.int _ _) ih
theorem top_walk {T : GT} {k : Nat} {F : Fenv} {A : Around} {nm : Str} {sc : Scope} {L fa l : Addr} {cd : Value} {body : List Stmt} {owns : List Str} {ss : List S} {param : Str} {s : Shared} {m : Str → Option Value} {vs : List Value} {ns : List Int}
    (FO : FOk T k F) (hA : AOk k A) (Fr' : Fr T.h0 L s.heap m) (hm : m param = some (.ref l)) (hl : T.h0.IsList l vs.toArray) (hI : IntsAre vs ns) (hlen : vs.length ≤ 1000)
    (hk : sc.kind = .function) (hnd : (varsOf sc).Nodup) (h0 : (varsOf sc)[0]? = some param) (hloc : sc.names.lookup param = some .local) (hnc : ∀ x, sc.names.lookup x ≠ some .cell)
    (htr : body.mapM (trS F sc (varsOf sc) owns 50) = some ss) (hvc : ∀ Q : V → Prop, Q (.bool true) → exs F (toSs ss) (initFrom 0 [.list (ns.map .int)]) (retOut Q)) :
    wpAny (model T.prog T.w) A (execs body (envOf nm sc L fa cd)) (fun f s' => f = .ret (.bool true) ∧ Keeps T.h0 s'.heap ∧ s'.os = s.os ∧ s'.gens = s.gens) No s := by
  let env := envOf nm sc L fa cd
  let C : FC := ⟨T, k, F, env, varsOf sc, A, hA, FO, hk, rfl, rfl, hnd, fun n n' c h => (by cases h), fun n h => (by cases h), fun n h => (hnc n h).elim⟩
  have hLn : T.h0.get? L = none := by
    cases e : T.h0.get? L with
    | none => rfl
    | some o => exact absurd (Heap.lt_size e) (Nat.not_lt.mpr Fr'.above)
  obtain ⟨o, ho, hc, n, hd⟩ := hl
  have S : Sim C (fun _ => False) (initFrom 0 [.list (ns.map .int)]) (fun _ => []) s := by
    refine ⟨Fr'.keep, fun c hc => hc.elim, ⟨hLn, fun h => h⟩, fun n c hc => (by cases hc), fun i c hc => (by cases hc), fun i j _ c hc => (by cases hc), fun i => List.nodup_nil,
      m, fun _ => none, ⟨Fr'.ns, fun n c hc => by cases hc⟩, fun i b hb => ?_⟩
    obtain ⟨t, rfl, _, ht⟩ := initFrom_lookup hb
    have ht : ([V.list (ns.map .int)] : List V)[i]? = some t := by simpa using ht
    cases i with
    | succ i => cases ht
    | zero =>
      cases ht
      refine ⟨param, .ref l, h0, ?_, ?_⟩
      · have h' : env.kindOf param = some .local := hloc
        unfold valAt
        show (match env.kindOf param with | some .local => _ | some .cell => _ | some .free => _ | _ => _) = _
        rw [h']; exact hm
      · exact Rep.list ⟨Fr'.keep _ _ ho, fun h => (h.elim id fun h => h.elim (fun e => (by subst e; rw [hLn] at ho; cases ho)) fun h => h.elim (fun ⟨n, e⟩ => (by cases e)) fun ⟨i, e⟩ => (by cases e))⟩ hc hd (by rw [sl_eq]; omega) (ints_reps hI)
  have W := goodSs (C := C) ((mapM_all2 htr).mono fun s s' h => trS_ok (C := C) (owns := owns) 50 s s' h) _ _ (hvc (fun t => t = .bool true) rfl) (fun _ => False) _ s S
  refine wp_no W fun f s' ⟨⟨⟨h2, t2, e2⟩, fr⟩, po⟩ => ?_
  cases f with
  | next => obtain ⟨st', ad', q, _, _⟩ := po; cases q
  | brk => obtain ⟨st', ad', q, _, _⟩ := po; exact q.elim
  | cont => obtain ⟨st', ad', q, _, _⟩ := po; exact q.elim
  | ret v =>
    obtain ⟨t, rfl, r⟩ := po
    have r : v = .bool true := by cases r; rfl
    subst r
    refine ⟨rfl, fun b o e => ?_, by rw [e2], by rw [e2]⟩
    refine fr b o (Fr'.keep b o e) fun hm => ?_
    rcases hm with h | ⟨n, h⟩ | ⟨i, h⟩
    · subst h; rw [hLn] at e; cases e
    · cases h
    · cases h
end Mine
end

section
open PySem PySem.Calls PyProof.Rows
set_option linter.unusedVariables false
set_option maxRecDepth 100000
namespace Mine
theorem FnOk.mono {T : GT} {k k' : Nat} {f : Value} {sp : Spec} (h : FnOk T k f sp) (hk : k ≤ k') : FnOk T k' f sp :=
  fun A s bad vs ts Q hA hb hbad hr hs => h A s bad vs ts Q (hA.down hk) hb hbad hr hs
theorem fn_of {T : GT} {p : Program} {loose : List Str} {mean : ExcName → Option Value} (TT : Top p loose mean T.mg T.mb T.h0) {d : DefRec} {x : Str} (hd : d ∈ recsOf p) (hx : d.name = x) {params owns : List Str} {F : Fenv} {k : Nat} {ss : List S} {sp : Spec}
    (FO : FOk T k F) (hbind : ∀ pm code doc (vals : List Value), vals.length = params.length → bindArgs (docDef d.name d.params d.body d.scope pm code doc) ⟨vals, []⟩ = pure (params.zip vals))
    (hok : ∀ pm code doc, defOk (docDef d.name d.params d.body d.scope pm code doc) params = true)
    (htr : trD F d owns = some ss) (hsp : ∀ ts Q, sp ts Q → ts.length = params.length ∧ exs F (toSs ss) (initFrom 0 ts) (retOut Q)) :
    ∃ a o fd, T.mg x = some (.ref a) ∧ T.h0.get? a = some o ∧ o.data = .func fd ∧ FnOk T (k + 1) (.ref a) sp := by
  obtain ⟨a, o, pm, code, doc, h1, h2, h3, h4⟩ := TT.fn d hd
  exact ⟨a, o, _, hx ▸ h1, h2, h3, FnOk.of FO h2 h3 h4 rfl (hbind pm code doc) (hok pm code doc) htr hsp⟩
theorem fn_up {T : GT} {k k' : Nat} {x : Str} {sp : Spec} (hk : k ≤ k') : (∃ a o fd, T.mg x = some (.ref a) ∧ T.h0.get? a = some o ∧ o.data = .func fd ∧ FnOk T k (.ref a) sp) →
    ∃ a o fd, T.mg x = some (.ref a) ∧ T.h0.get? a = some o ∧ o.data = .func fd ∧ FnOk T k' (.ref a) sp := fun ⟨a, o, fd, h1, h2, h3, h4⟩ => ⟨a, o, fd, h1, h2, h3, h4.mono hk⟩
theorem mem_of_lookup' {α : Type} {l : List (Str × α)} {x : Str} {t : α} (h : l.lookup x = some t) : (x, t) ∈ l := by
  induction l with
  | nil => cases h
  | cons p l ih =>
    obtain ⟨y, u⟩ := p
    rw [List.lookup_cons] at h
    split at h
    · rename_i e
      cases h
      have : x = y := by simpa using e
      subst this; exact List.mem_cons_self
    · exact List.mem_cons_of_mem _ (ih h)
theorem no_cell {l : List (Str × NameKind)} (h : l.all (fun q => match q.2 with | .cell => false | _ => true) = true) : ∀ x, l.lookup x ≠ some .cell := fun x e => by
  have := List.all_eq_true.mp h _ (mem_of_lookup' e)
  simp at this
theorem mg_eq {h : Heap} {mg : Str → Option Value} {a : Addr} {o : Obj} {es : Array DictEntry} {ep : Nat} (hn : h.Ns a mg) (ho : h.get? a = some o) (hd : o.data = .dict es ep) (x : Str) : mg x = nsFind es x := by
  obtain ⟨o', es', ep', ho', hd', _, h⟩ := hn
  rw [ho] at ho'; cases ho'
  rw [hd] at hd'; cases hd'
  exact (h x).symm
noncomputable def intIs (v : Value) (n : Int) : Bool := match v with | .int i _ => i == n | _ => false
noncomputable def keyStr (v : Value) : Str := match v with | .str x _ => x | _ => Str.empty
theorem dict_rep {p : Program} {w : World} {G : Addr → Obj → Prop} {a : Addr} {es : Array DictEntry} {ep : Nat} {ks : List (List Nat)} {ns : List Int} (hG : G a { cls := .type "dict", data := .dict es ep }) (ha : (a == sysModules) = false)
    (h1 : es.toList.map (·.hash) = es.toList.map (fun e => hashStr w (keyStr e.key))) (h2 : es.toList.map (fun e => e.key) = es.toList.map (fun e => .str (keyStr e.key) (match e.key with | .str _ t => t | _ => 0)))
    (h3 : es.toList.map (fun e => keyStr e.key) = ks.map stOf) (h4 : es.toList.map (fun e => e.val) = (es.toList.zip ns).map (fun q => .int q.2 (match q.1.val with | .int _ t => t | _ => 0)))
    (h5 : ks.Nodup) (hl : es.toList.length = ns.length) (hz : ns.length ≤ 1000) : Rep p w G (.ref a) (.dS ks (ns.map .int)) := by
  have lk : es.toList.length = ks.length := by have := congrArg List.length h3; simpa using this
  have kst : ∀ e ∈ es.toList, ∃ t, e.key = .str (keyStr e.key) t := fun e he => by
    have : ∀ l : List DictEntry, l.map (fun e => e.key) = l.map (fun e => Value.str (keyStr e.key) (match e.key with | .str _ t => t | _ => 0)) → ∀ e ∈ l, ∃ t, e.key = .str (keyStr e.key) t := by
      intro l
      induction l with
      | nil => intro _ e h; cases h
      | cons x l ih =>
        intro h e he
        simp only [List.map_cons, List.cons.injEq] at h
        rcases List.mem_cons.mp he with rfl | he
        · exact ⟨_, h.1⟩
        · exact ih h.2 e he
    exact this _ h2 e he
  have hh : ∀ e ∈ es.toList, e.hash = hashStr w (keyStr e.key) := fun e he => by
    have : ∀ l : List DictEntry, l.map (·.hash) = l.map (fun e => hashStr w (keyStr e.key)) → ∀ e ∈ l, e.hash = hashStr w (keyStr e.key) := by
      intro l
      induction l with
      | nil => intro _ e h; cases h
      | cons x l ih =>
        intro h e he
        simp only [List.map_cons, List.cons.injEq] at h
        rcases List.mem_cons.mp he with rfl | he
        · exact h.1
        · exact ih h.2 e he
    exact this _ h1 e he
  have nd : (ks.map stOf).Nodup := by
    refine List.Pairwise.map _ (fun x y hxy h => hxy (stOf_inj h)) h5
  refine .dS (vals := es.toList.map (fun e => e.val)) hG ⟨by simpa using lk.symm, by rw [sl_eq, List.length_map]; omega, ha⟩ ⟨⟨rfl, rfl, rfl⟩, es, ep, rfl, fun e he => ?_, ?_, ?_⟩ ?_
  · have he := Array.mem_def.mp he
    obtain ⟨t, ht⟩ := kst e he
    refine ⟨keyStr e.key, ?_, hh e he⟩
    show Value.isStrOf (keyStr e.key) e.key = true
    rw [ht]; simp [Value.isStrOf, keyStr]
  · have : ∀ (l : List DictEntry) (ks : List Str), (∀ e ∈ l, ∃ t, e.key = .str (keyStr e.key) t) → l.map (fun e => keyStr e.key) = ks → Pairs (PySem.strKind p w) l (ks.zip (l.map (fun e => e.val))) := by
      intro l
      induction l with
      | nil => intro ks _ h; subst h; exact .nil
      | cons x l ih =>
        intro ks hk h
        subst h
        refine .cons ?_ rfl (ih _ (fun e he => hk e (List.mem_cons_of_mem _ he)) rfl)
        obtain ⟨t, ht⟩ := hk x List.mem_cons_self
        show Value.isStrOf (keyStr x.key) x.key = true
        rw [ht]; simp [Value.isStrOf, keyStr]
    exact this _ _ kst h3
  · rw [List.map_fst_zip (by simp [← lk])]; exact nd
  · rw [h4]
    have : ∀ (l : List DictEntry) (ns : List Int), l.length = ns.length → Reps p w G ((l.zip ns).map (fun q => Value.int q.2 (match q.1.val with | .int _ t => t | _ => 0))) (ns.map .int) := by
      intro l
      induction l with
      | nil => intro ns h; cases ns with | nil => exact .nil | cons => cases h
      | cons x l ih => intro ns h; cases ns with
        | nil => cases h
        | cons n ns => exact .cons (.int _ _) (ih ns (by simpa using h))
    exact this _ _ hl
theorem mem_rec {q : Program} {x : Str} {d : DefRec} (h : (recsOf q).find? (fun d => d.name == x) = some d) : d ∈ recsOf q := List.mem_of_find?_eq_some h
abbrev FnIs (T : GT) (k : Nat) (x : Str) (sp : Spec) : Prop := ∃ a o fd, T.mg x = some (.ref a) ∧ T.h0.get? a = some o ∧ o.data = .func fd ∧ FnOk T k (.ref a) sp
abbrev ConIs (T : GT) (x : Str) (t : V) : Prop := ∃ v, T.mg x = some v ∧ Rep T.prog T.w (fun a o => T.h0.get? a = some o) v t
noncomputable def ConOk (T : GT) (l : List (Str × V)) : Prop := ∀ x t, l.lookup x = some t → ConIs T x t
theorem ConOk.nil {T : GT} : ConOk T [] := fun _ _ h => nomatch h
theorem ConOk.cons {T : GT} {x : Str} {t : V} {l : List (Str × V)} (h : ConIs T x t) (r : ConOk T l) : ConOk T ((x, t) :: l) := fun y u e => by
  rw [List.lookup_cons] at e
  cases hy : y == x with
  | false => rw [hy] at e; exact r y u e
  | true =>
    rw [hy] at e; cases e
    have : y = x := by simpa using hy
    subst this; exact h
noncomputable def FnsOk (T : GT) (k : Nat) (l : List (Str × Spec)) : Prop := ∀ (i : Nat) x sp, l[i]? = some (x, sp) → FnIs T k x sp
theorem FnsOk.nil {T : GT} {k : Nat} : FnsOk T k [] := fun _ _ _ h => nomatch h
theorem FnsOk.cons {T : GT} {k : Nat} {x : Str} {sp : Spec} {l : List (Str × Spec)} (h : FnIs T k x sp) (r : FnsOk T k l) : FnsOk T k ((x, sp) :: l)
  | 0, _, _, e => by cases e; exact h
  | i + 1, y, u, e => r i y u e
noncomputable def SubsOk (T : GT) (l : List (Str × List Nat × (List Nat → List Nat))) : Prop := ∀ (i : Nat) x r g, l[i]? = some (x, r, g) → ∃ pa, T.mg x = some (.ref pa) ∧ SubOk T pa r g
theorem SubsOk.nil {T : GT} : SubsOk T [] := fun _ _ _ _ h => nomatch h
theorem SubsOk.cons {T : GT} {x : Str} {r : List Nat} {g : List Nat → List Nat} {l : List (Str × List Nat × (List Nat → List Nat))} (h : ∃ pa, T.mg x = some (.ref pa) ∧ SubOk T pa r g) (hr : SubsOk T l) : SubsOk T ((x, r, g) :: l)
  | 0, _, _, _, e => by cases e; exact h
  | i + 1, y, u, v, e => hr i y u v e
noncomputable def BisOk (T : GT) (l : List Bi) : Prop := ∀ b, b ∈ l → T.mg b.name = none ∧ T.mb b.name = some b.val
theorem BisOk.nil {T : GT} : BisOk T [] := fun _ h => nomatch h
theorem BisOk.cons {T : GT} {b : Bi} {l : List Bi} (h : T.mg b.name = none ∧ T.mb b.name = some b.val) (r : BisOk T l) : BisOk T (b :: l) := fun c hc => by
  rcases List.mem_cons.mp hc with rfl | hc
  · exact h
  · exact r c hc
theorem BisOk.sub {T : GT} {l l' : List Bi} (h : BisOk T l) (hs : ∀ b ∈ l', b ∈ l) : BisOk T l' := fun b hb => h b (hs b hb)
@[elab_as_elim] theorem len1 {P : List Value → Prop} {vals : List Value} (hl : vals.length = 1) (h : ∀ a, P [a]) : P vals := by
  obtain ⟨a, rfl⟩ := List.length_eq_one_iff.mp hl; exact h a
@[elab_as_elim] theorem len2 {P : List Value → Prop} {vals : List Value} (hl : vals.length = 2) (h : ∀ a b, P [a, b]) : P vals := by
  obtain ⟨a, l, rfl⟩ := List.exists_cons_of_length_eq_add_one hl; obtain ⟨b, rfl⟩ := List.length_eq_one_iff.mp (Nat.succ.inj hl); exact h a b
@[elab_as_elim] theorem len3 {P : List Value → Prop} {vals : List Value} (hl : vals.length = 3) (h : ∀ a b c, P [a, b, c]) : P vals := by
  obtain ⟨a, l, rfl⟩ := List.exists_cons_of_length_eq_add_one hl; exact len2 (P := fun l => P (a :: l)) (Nat.succ.inj hl) (h a)
set_option maxHeartbeats 4000000 in
theorem env_ok {q : Program} {loose : List Str} {mean : ExcName → Option Value} {T : GT} (TT : Top q loose mean T.mg T.mb T.h0)
    (m1 : dOf P1 "_substitution_cost" ∈ recsOf q) (m2 : dOf P1 "_levenshtein_distance" ∈ recsOf q) (m3 : dOf P1 "quotedata" ∈ recsOf q) (m4 : dOf P1 "ISEOF" ∈ recsOf q) (m5 : dOf P1 "ISTERMINAL" ∈ recsOf q)
    (m6 : dOf P1 "ISNONTERMINAL" ∈ recsOf q) (m7 : dOf P1 "_law_letters" ∈ recsOf q)
    (c1 : ∃ t, T.mg "_CASE_COST" = some (.int 1 t)) (c2 : ∃ t, T.mg "_MOVE_COST" = some (.int 2 t)) (c3 : ∃ t, T.mg "_MAX_STRING_SIZE" = some (.int 40 t)) (c4 : ∃ t, T.mg "NT_OFFSET" = some (.int 256 t))
    (c5 : ∃ t, T.mg "ENDMARKER" = some (.int 0 t)) (c6 : ∃ t, T.mg "CRLF" = some (.str (stOf [13, 10]) t)) (c7 : ConIs T "EXACT_TOKEN_TYPES" extT)
    (b : BisOk T [.len, .list, .range, .min, .chr]) (r1 : ∃ pa, T.mg "_twin_re_1" = some (.ref pa) ∧ Rx.Pat T.h0 pa Rx.code1) (r2 : ∃ pa, T.mg "_twin_re_2" = some (.ref pa) ∧ Rx.Pat T.h0 pa Rx.code2) : FOk T 2 FW := by
  have ci : ∀ {x : Str} {i : Int}, (∃ t, T.mg x = some (.int i t)) → ConIs T x (.int i) := fun ⟨t, h⟩ => ⟨_, h, .int _ _⟩
  have FOS : FOk T 0 FS := ⟨ConOk.cons (ci c1) (ConOk.cons (ci c2) ConOk.nil), FnsOk.nil, BisOk.nil, SubsOk.nil⟩
  obtain ⟨s1, t1, u1⟩ := subst_ok
  have fS : FnIs T 1 "_substitution_cost" spS := fn_of (T := T) (x := "_substitution_cost") (params := ["ch_a", "ch_b"]) TT m1 (by kernel_rfl) FOS (fun pm code doc vals h => len2 h (fun _ _ => rfl)) (fun pm code doc => by with_unfolding_all rfl) t1 u1
  have FOQ : FOk T 0 FQ := by
    obtain ⟨t6, c6⟩ := c6
    obtain ⟨pa, h1, h2⟩ := r1
    obtain ⟨pb, h3, h4⟩ := r2
    exact ⟨ConOk.cons ⟨_, c6, .str _ _ (by decide)⟩ ConOk.nil, FnsOk.nil, BisOk.nil, SubsOk.cons ⟨pa, h1, subOk1 h2⟩ (SubsOk.cons ⟨pb, h3, subOk2 h4⟩ SubsOk.nil)⟩
  obtain ⟨s2, t2, u2⟩ := quote_ok
  have fQ : FnIs T 1 "quotedata" spQ := fn_of (T := T) (x := "quotedata") (params := ["data"]) TT m3 (by kernel_rfl) FOQ (fun pm code doc vals h => len1 h (fun _ => rfl)) (fun pm code doc => by with_unfolding_all rfl) t2 u2
  have FOT : FOk T 0 FT := ⟨ConOk.cons (ci c4) (ConOk.cons (ci c5) ConOk.nil), FnsOk.nil, BisOk.nil, SubsOk.nil⟩
  obtain ⟨s3, t3, u3⟩ := term_ok
  have fT : FnIs T 1 "ISTERMINAL" spT := fn_of (T := T) (x := "ISTERMINAL") (params := ["x"]) TT m5 (by kernel_rfl) FOT (fun pm code doc vals h => len1 h (fun _ => rfl)) (fun pm code doc => by with_unfolding_all rfl) t3 u3
  obtain ⟨s4, t4, u4⟩ := nont_ok
  have fN : FnIs T 1 "ISNONTERMINAL" spN := fn_of (T := T) (x := "ISNONTERMINAL") (params := ["x"]) TT m6 (by kernel_rfl) FOT (fun pm code doc vals h => len1 h (fun _ => rfl)) (fun pm code doc => by with_unfolding_all rfl) t4 u4
  obtain ⟨s5, t5, u5⟩ := eof_ok
  have fE : FnIs T 1 "ISEOF" spE := fn_of (T := T) (x := "ISEOF") (params := ["x"]) TT m4 (by kernel_rfl) FOT (fun pm code doc vals h => len1 h (fun _ => rfl)) (fun pm code doc => by with_unfolding_all rfl) t5 u5
  have FOL : FOk T 1 FL := ⟨ConOk.cons (ci c3) (ConOk.cons (ci c2) ConOk.nil), FnsOk.cons fS FnsOk.nil, b.sub (by decide), SubsOk.nil⟩
  obtain ⟨s6, t6, u6⟩ := lev_ok
  have fL : FnIs T 2 "_levenshtein_distance" spL := fn_of (T := T) (x := "_levenshtein_distance") (params := ["a", "b", "max_cost"]) TT m2 (by kernel_rfl) FOL (fun pm code doc vals h => len3 h (fun _ _ _ => rfl)) (fun pm code doc => by with_unfolding_all rfl) t6 u6
  have FOLt : FOk T 1 FLt := ⟨ConOk.cons c7 ConOk.nil, FnsOk.cons fT (FnsOk.cons fN FnsOk.nil), b.sub (by decide), SubsOk.nil⟩
  obtain ⟨s7, t7, u7⟩ := letters_ok
  have fLt : FnIs T 2 "_law_letters" spLt := fn_of (T := T) (x := "_law_letters") (params := ["dots", "more"]) TT m7 (by kernel_rfl) FOLt (fun pm code doc vals h => len2 h (fun _ _ => rfl)) (fun pm code doc => by with_unfolding_all rfl) t7 u7
  exact ⟨ConOk.nil, FnsOk.cons (fn_up (by decide) fQ) (FnsOk.cons fL (FnsOk.cons fLt (FnsOk.cons (fn_up (by decide) fE) FnsOk.nil))), b.sub (by decide), SubsOk.nil⟩
end Mine
end

section
open PySem PySem.W PyProof.Rows
set_option linter.unusedVariables false
set_option maxRecDepth 100000
set_option maxHeartbeats 8000000
namespace Mine
theorem caller_ok (env : Env) : AOk 2 (callerA.deeper env) := by
  refine ⟨rfl, ?_, ?_⟩
  · show callerA.depth + 1 + 2 < recursionLimit; decide
  · show callerA.units + 3 + 100 * 2 + 100 < cLine; decide
noncomputable def top.tw7740461459972228597 : Nat := 0
noncomputable def top.tw1195175773429642966 : Nat := 0
noncomputable def top.tw16541100652227675460 : Nat := 0
noncomputable def top.tw18064794426631996164 : Nat := 0
noncomputable def top.tw12979980638135278934 : Nat := 0
noncomputable def top.tw15687024161871657608 : Nat := 0
noncomputable def top.tw11424894988859586721 : Nat := 0
noncomputable def top.tw10816355053677723559 : Nat := 0
noncomputable def top.tw14349089067433371257 : Nat := 0
noncomputable def top.tw14861896470697024400 : Nat := 0
noncomputable def top.tw2835187731363253809 : Nat := 0
noncomputable def top.tw7297446738713254254 : Nat := 0
noncomputable def top.tw12540527436937284434 : Nat := 0
noncomputable def top.tw14436450140739016385 : Nat := 0
noncomputable def top.tw4133729456124951355 : Nat := 0
noncomputable def top.tw13120753694373217308 : Nat := 0
noncomputable def top.tw6491118196486620199 : Nat := 0
noncomputable def top.tw956942650209027819 : Nat := 0
noncomputable def top.tw609860122456452193 : Nat := 0
noncomputable def top.tw8263863092937893816 : Nat := 0
noncomputable def top.tw11396854449078567652 : Nat := 0
noncomputable def top.tw17836783524569865436 : Nat := 0
noncomputable def top.tw8813761850579938390 : Nat := 0
noncomputable def top.tw12425085872883035938 : Nat := 0
noncomputable def top.tw6286779285267259847 : Nat := 0
noncomputable def top.tw5868845118606482295 : Nat := 0
noncomputable def top.tw12772138429114895339 : Nat := 0
noncomputable def top.tw9800703332001039478 : Nat := 0
noncomputable def top.tw11423202765487971197 : Nat := 0
noncomputable def top.tw7990429038631628895 : Nat := 0
noncomputable def top.tw10187264123177260123 : Nat := 0
noncomputable def top.tw3844969445664438809 : Nat := 0
noncomputable def top.tw5604026686304666287 : Nat := 0
noncomputable def top.tw987869383939708018 : Nat := 0
noncomputable def top.tw16058212318047004132 : Nat := 0
noncomputable def top.tw13359135706311490777 : Nat := 0
noncomputable def top.tw2383874813549526199 : Nat := 0
noncomputable def top.tw13498101095514990694 : Nat := 0
noncomputable def top.tw7512850731694144728 : Nat := 0
noncomputable def top.tw1893503896311436057 : Nat := 0
noncomputable def top.tw17746469131012936561 : Nat := 0
noncomputable def top.tw10648311167861321448 : Nat := 0
noncomputable def top.tw4166218997396506358 : Nat := 0
noncomputable def top.tw12392516345856041104 : Nat := 0
noncomputable def top.tw15466825709929456502 : Nat := 0
noncomputable def top.tw17177869089781658578 : Nat := 0
noncomputable def top.tw17315540178315561739 : Nat := 0
noncomputable def top.tw16840627104734473223 : Nat := 0
noncomputable def top.tw16128099981359696397 : Nat := 0
noncomputable def top.tw4299629679881509495 : Nat := 0
noncomputable def top.tw2464713573024523455 : Nat := 0
noncomputable def top.tw17810072253543177317 : Nat := 0
noncomputable def top.tw7458633546980236471 : Nat := 0
noncomputable def top.tw5303079699428457377 : Nat := 0
noncomputable def top.tw2741389259953327712 : Nat := 0
noncomputable def top.tw12535971307161669396 : Nat := 0
noncomputable def top.tw5766051744304087583 : Nat := 0
noncomputable def top.tw12094960947251128927 : Nat := 0
noncomputable def top.tw5434309568573575005 : Nat := 0
noncomputable def top.tw8598144960395782539 : Nat := 0
noncomputable def top.tw7527032243904285869 : Nat := 0
noncomputable def top.tw6812286434817487243 : Nat := 0
noncomputable def top.tw12385144161495827662 : Nat := 0
noncomputable def top.tw15058813355848621054 : Nat := 0
noncomputable def top.tw1245559373397905713 : Nat := 0
noncomputable def top.tw8507776931139520737 : Nat := 0
noncomputable def top.tw2617719716777270872 : Nat := 0
noncomputable def top.tw1403432094787535595 : Nat := 0
noncomputable def top.tw10936122117785486979 : Nat := 0
noncomputable def top.tw2555065506035805374 : Nat := 0
noncomputable def top.tw13701811295701783437 : Nat := 0
noncomputable def top.tw10617020205504526918 : Nat := 0
noncomputable def top.tw12819366960792805191 : Nat := 0
noncomputable def top.tw81815255157605957 : Nat := 0
noncomputable def top.tw13928562000808390012 : Nat := 0
noncomputable def top.tw5244899138074338376 : Nat := 0
end Mine
set_option Elab.async true in
open Mine in
theorem Mine.top : PySem.Challenge.rw_rw0070_01.Holds := by
  w_on; o_law; k_head; (case hw => w_witness2)
  k_go0
  rename Frag.In _ _ => KX
  rename Top _ _ _ _ _ _ => TT
  rename Fr _ _ _ _ => FF
  rename Heap.IsList _ _ _ => hL
  rename IntsAre _ _ => hI
  rename (¬ _ < _) => hlen
  rename (_ = #[]) => hg
  rename World => w
  obtain ⟨ss, h1, h2⟩ := law_ok
  let T : GT := ⟨PySem.Challenge.rw_rw0070_01.row.prog, w, _, _, _, TT.g, TT.b, TT.nolimit⟩
  have hmg := mg_eq TT.g (KX 3 _ rfl) rfl
  have hns := (ints_reps (p := PySem.Challenge.rw_rw0070_01.row.prog) (w := w) (G := fun _ _ => True) hI).length
  rw [List.length_map] at hns
  have FO : FOk T 2 FW := env_ok (T := T) TT (mem_rec (x := "_substitution_cost") (by kernel_rfl)) (mem_rec (x := "_levenshtein_distance") (by kernel_rfl)) (mem_rec (x := "quotedata") (by kernel_rfl)) (mem_rec (x := "ISEOF") (by kernel_rfl))
    (mem_rec (x := "ISTERMINAL") (by kernel_rfl)) (mem_rec (x := "ISNONTERMINAL") (by kernel_rfl)) (mem_rec (x := "_law_letters") (by kernel_rfl))
    ⟨_, (hmg _).trans rfl⟩ ⟨_, (hmg _).trans rfl⟩ ⟨_, (hmg _).trans rfl⟩ ⟨_, (hmg _).trans rfl⟩ ⟨_, (hmg _).trans rfl⟩ ⟨_, (hmg _).trans rfl⟩
    ⟨.ref 63, (hmg _).trans rfl, dict_rep (KX 63 _ rfl) (by decide) (by kernel_rfl) (by kernel_rfl) (by kernel_rfl) (by kernel_rfl) (by decide) (by kernel_rfl) (by decide)⟩
    (.cons ⟨(hmg _).trans (by kernel_rfl), (TT.builtins _ (by decide)).trans (by kernel_rfl)⟩ (.cons ⟨(hmg _).trans (by kernel_rfl), (TT.builtins _ (by decide)).trans (by kernel_rfl)⟩ (.cons ⟨(hmg _).trans (by kernel_rfl), (TT.builtins _ (by decide)).trans (by kernel_rfl)⟩
      (.cons ⟨(hmg _).trans (by kernel_rfl), (TT.builtins _ (by decide)).trans (by kernel_rfl)⟩ (.cons ⟨(hmg _).trans (by kernel_rfl), (TT.builtins _ (by decide)).trans (by kernel_rfl)⟩ .nil)))))
    ⟨50, (hmg _).trans rfl, ⟨⟨_, _, _, _, KX 50 _ rfl, rfl, rfl, rfl, KX 49 _ rfl, by simp [Builtin.Re.reRawOf, Rx.code1]⟩⟩⟩
    ⟨55, (hmg _).trans rfl, ⟨⟨_, _, _, _, KX 55 _ rfl, rfl, rfl, rfl, KX 54 _ rfl, by simp [Builtin.Re.reRawOf, Rx.code2]⟩⟩⟩
  refine wpAny_mono (top_walk (T := T) (k := 2) (F := FW) (owns := ["heaps"]) (ss := ss) (param := "script") FO (caller_ok _) FF ?_ hL hI ?_ ?_ ?_ ?_ ?_ ?_ ?_ ?_) ?_ (fun e s' h => h.elim)
  · rfl
  · omega
  · rfl
  · decide
  · rfl
  · rfl
  · exact no_cell (by rfl)
  · with_unfolding_all exact h1
  · exact fun Q q => (h2 _ Q ⟨_, rfl, by omega, q⟩).2
  · rintro f s' ⟨rfl, hk, ho, hg'⟩
    exact ⟨.inl ⟨.bool true, .bool true, [], rfl, fun _ => rfl, .bool true, (by kernel_rfl), unshared_nil⟩, hk, ho, hg'.trans hg⟩
end

theorem PySem.Challenge.cw_rw0070_01_holds : PySem.Challenge.rw_rw0070_01.Holds :=
  Mine.top
