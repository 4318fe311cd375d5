import PyProof.Rows.All
import Wide.All
import OpenK.AllK
import Wide.FinOn
import PySem.Challenge.RW_ut0019_03
section
open PySem PySem.W PyProof.Rows
set_option Elab.async false
set_option linter.unusedVariables false
namespace Mine

/-- how old a number's token is: not older than the context's beginning, older, or nothing is known -/
inductive Ag where
  | new
  | old
  | any
  deriving DecidableEq, Inhabited
/-- deep values -/
inductive D where
  | none
  | bool (b : Bool)
  | int (i : Int)
  | flt (x : UInt64) (fr : Ag)
  | str (l : List Nat)
  | tup (l : List D)
  | lst (l : List D)
  | raw (v : Value)
  | obj (C : Addr) (f : List (Str × D))
  | dct (f : List (Str × D))
  deriving Inhabited

structure Cx where
  prog : Program
  w : World
  K : Frag
  h₀ : Heap
  mg : Str → Option Value
  mb : Str → Option Value
  p : Program
  loose : List Str
  X : K.In h₀
  T : TopRead p loose mg mb h₀
  lo : Nat
  nb : NoneBooked h₀

abbrev seqO (cls : String) (vs : List Value) (n : Nat) : Obj := { cls := .type cls, data := .seq vs.toArray n }

mutual
inductive R (c : Cx) (s : Shared) (P : Addr → Prop) : Value → D → Prop
  | none : R c s P .none .none
  | bool (b) : R c s P (.bool b) (.bool b)
  | int (i t) : R c s P (.int i t) (.int i)
  | flt (x fr) {t : Tok} (h0 : t ≠ 0) (hl : (fr = .new → c.lo ≤ t) ∧ (fr = .old → t < c.lo)) (hu : t < s.toks) : R c s P (.float x t) (.flt x fr)
  | str (l t) : R c s P (.str ⟨l.toArray⟩ t) (.str l)
  | raw (v) : R c s P v (.raw v)
  | tup {a vs n ds} : P a → s.heap.get? a = some (seqO "tuple" vs n) → RL c s P vs ds → R c s P (.ref a) (.tup ds)
  | lst {a vs n ds} : P a → s.heap.get? a = some (seqO "list" vs n) → RL c s P vs ds → R c s P (.ref a) (.lst ds)
  | obj {a dx C es n fs} : P a → P dx → s.heap.get? a = some (instObj C dx) → s.heap.get? dx = some (dictOf es n) → RF c s P es fs → R c s P (.ref a) (.obj C fs)
  | dct {a kvs fs} : P a → s.heap.DictOf (PySem.strKind c.prog c.w) a kvs → RK c s P kvs fs → R c s P (.ref a) (.dct fs)
inductive RL (c : Cx) (s : Shared) (P : Addr → Prop) : List Value → List D → Prop
  | nil : RL c s P [] []
  | cons {v d vs ds} : R c s P v d → RL c s P vs ds → RL c s P (v :: vs) (d :: ds)
inductive RF (c : Cx) (s : Shared) (P : Addr → Prop) : List DictEntry → List (Str × D) → Prop
  | nil : RF c s P [] []
  | cons {hs f t v d es fs} : R c s P v d → RF c s P es fs → RF c s P (⟨hs, .str f t, v⟩ :: es) ((f, d) :: fs)
inductive RK (c : Cx) (s : Shared) (P : Addr → Prop) : List (Str × Value) → List (Str × D) → Prop
  | nil : RK c s P [] []
  | cons {f v d es fs} : R c s P v d → RK c s P es fs → RK c s P ((f, v) :: es) ((f, d) :: fs)
end

theorem DictOf_at {prog : Program} {w : World} {h h' : Heap} {a : Addr} {kvs : List (Str × Value)} (x : h.DictOf (PySem.strKind prog w) a kvs) (e : ∀ o, h.get? a = some o → h'.get? a = some o) : h'.DictOf (PySem.strKind prog w) a kvs := by
  obtain ⟨o, es, ep, ho, r⟩ := x
  exact ⟨o, es, ep, e o ho, r⟩
theorem DictOf_get {prog : Program} {w : World} {h : Heap} {a : Addr} {kvs : List (Str × Value)} (x : h.DictOf (PySem.strKind prog w) a kvs) : ∃ o, h.get? a = some o := by
  obtain ⟨o, es, ep, ho, r⟩ := x
  exact ⟨o, ho⟩

section
variable {c : Cx} {s s' : Shared} {P P' : Addr → Prop}
mutual
theorem R.trans (ht : s.toks ≤ s'.toks) (k : ∀ a o, P a → s.heap.get? a = some o → P' a ∧ s'.heap.get? a = some o) : ∀ {v d}, R c s P v d → R c s' P' v d
  | _, _, .none => .none
  | _, _, .bool b => .bool b
  | _, _, .int i t => .int i t
  | _, _, .flt i t a b e => .flt i t a b (Nat.lt_of_lt_of_le e ht)
  | _, _, .str i t => .str i t
  | _, _, .raw v => .raw v
  | _, _, .tup p g l => .tup (k _ _ p g).1 (k _ _ p g).2 (RL.trans ht k l)
  | _, _, .lst p g l => .lst (k _ _ p g).1 (k _ _ p g).2 (RL.trans ht k l)
  | _, _, .obj p q g g' l => .obj (k _ _ p g).1 (k _ _ q g').1 (k _ _ p g).2 (k _ _ q g').2 (RF.trans ht k l)
  | _, _, .dct p g l => .dct (let ⟨_, e⟩ := DictOf_get g; (k _ _ p e).1) (DictOf_at g fun o e => (k _ _ p e).2) (RK.trans ht k l)
theorem RL.trans (ht : s.toks ≤ s'.toks) (k : ∀ a o, P a → s.heap.get? a = some o → P' a ∧ s'.heap.get? a = some o) : ∀ {vs ds}, RL c s P vs ds → RL c s' P' vs ds
  | _, _, .nil => .nil
  | _, _, .cons a b => .cons (R.trans ht k a) (RL.trans ht k b)
theorem RF.trans (ht : s.toks ≤ s'.toks) (k : ∀ a o, P a → s.heap.get? a = some o → P' a ∧ s'.heap.get? a = some o) : ∀ {vs ds}, RF c s P vs ds → RF c s' P' vs ds
  | _, _, .nil => .nil
  | _, _, .cons a b => .cons (R.trans ht k a) (RF.trans ht k b)
theorem RK.trans (ht : s.toks ≤ s'.toks) (k : ∀ a o, P a → s.heap.get? a = some o → P' a ∧ s'.heap.get? a = some o) : ∀ {vs ds}, RK c s P vs ds → RK c s' P' vs ds
  | _, _, .nil => .nil
  | _, _, .cons a b => .cons (R.trans ht k a) (RK.trans ht k b)
end
theorem RL.length {vs ds} (x : RL c s P vs ds) : vs.length = ds.length := by
  induction vs generalizing ds with
  | nil => cases x; rfl
  | cons v vs ih => cases x with | cons _ b => simp [ih b]
theorem RL.append {vs ds us es} (x : RL c s P vs ds) (y : RL c s P us es) : RL c s P (vs ++ us) (ds ++ es) := by
  induction vs generalizing ds with
  | nil => cases x; exact y
  | cons v vs ih => cases x with | cons a b => exact .cons a (ih b)
theorem RL.get {vs ds} (x : RL c s P vs ds) : ∀ {i : Nat} {d}, ds[i]? = some d → ∃ v, vs[i]? = some v ∧ R c s P v d := by
  induction vs generalizing ds with
  | nil => cases x; intro i d e; simp at e
  | cons v vs ih =>
    cases x with
    | cons a b =>
      intro i d e
      cases i with
      | zero => simp at e; subst e; exact ⟨v, by simp, a⟩
      | succ i => simp at e; obtain ⟨u, hu, r⟩ := ih b e; exact ⟨u, by simpa using hu, r⟩
theorem RL.take {vs ds} (x : RL c s P vs ds) (n : Nat) : RL c s P (vs.take n) (ds.take n) := by
  induction vs generalizing ds n with
  | nil => cases x; simp; exact .nil
  | cons v vs ih => cases x with | cons a b => cases n with | zero => simp; exact .nil | succ n => simp; exact .cons a (ih b n)
theorem RL.drop {vs ds} (x : RL c s P vs ds) (n : Nat) : RL c s P (vs.drop n) (ds.drop n) := by
  induction vs generalizing ds n with
  | nil => cases x; simp; exact .nil
  | cons v vs ih => cases x with | cons a b => cases n with | zero => simp; exact .cons a b | succ n => simp; exact ih b n
theorem RL.set {vs ds v d} (x : RL c s P vs ds) (y : R c s P v d) (n : Nat) : RL c s P (vs.set n v) (ds.set n d) := by
  induction vs generalizing ds n with
  | nil => cases x; exact .nil
  | cons u vs ih => cases x with | cons a b => cases n with | zero => exact .cons y b | succ n => exact .cons a (ih b n)
theorem RL.erase {vs ds} (x : RL c s P vs ds) (n : Nat) : RL c s P (vs.eraseIdx n) (ds.eraseIdx n) := by
  induction vs generalizing ds n with
  | nil => cases x; exact .nil
  | cons u vs ih => cases x with | cons a b => cases n with | zero => exact b | succ n => exact .cons a (ih b n)
end

/-- as R, with nothing asked of the root's own address -/
inductive Rt (c : Cx) (s : Shared) (P : Addr → Prop) : Value → D → Prop
  | of {v d} : R c s P v d → Rt c s P v d
  | tup {a vs n ds} : s.heap.get? a = some (seqO "tuple" vs n) → RL c s P vs ds → Rt c s P (.ref a) (.tup ds)
  | lst {a vs n ds} : s.heap.get? a = some (seqO "list" vs n) → RL c s P vs ds → Rt c s P (.ref a) (.lst ds)
  | dct {a kvs fs} : s.heap.DictOf (PySem.strKind c.prog c.w) a kvs → RK c s P kvs fs → Rt c s P (.ref a) (.dct fs)

section
variable {c : Cx} {s s' : Shared} {P P' : Addr → Prop} {v : Value}
theorem Rt.trans (ht : s.toks ≤ s'.toks) (kk : ∀ a o, s.heap.get? a = some o → s'.heap.get? a = some o) (k : ∀ a o, P a → s.heap.get? a = some o → P' a) {d} (x : Rt c s P v d) : Rt c s' P' v d := by
  have K := fun a o (p : P a) (e : s.heap.get? a = some o) => And.intro (k a o p e) (kk a o e)
  cases x with
  | of r => exact .of (r.trans ht K)
  | tup g l => exact .tup (kk _ _ g) (l.trans ht K)
  | lst g l => exact .lst (kk _ _ g) (l.trans ht K)
  | dct g l => exact .dct (DictOf_at g fun o e => kk _ _ e) (l.trans ht K)
theorem Rt.none_inv (x : Rt c s P v .none) : v = .none := by cases x with | of r => cases r; rfl
theorem Rt.bool_inv {b} (x : Rt c s P v (.bool b)) : v = .bool b := by cases x with | of r => cases r; rfl
theorem Rt.int_inv {i} (x : Rt c s P v (.int i)) : ∃ t, v = .int i t := by cases x with | of r => cases r; exact ⟨_, rfl⟩
theorem Rt.flt_inv {i fr} (x : Rt c s P v (.flt i fr)) : ∃ t, v = .float i t ∧ t ≠ 0 ∧ ((fr = .new → c.lo ≤ t) ∧ (fr = .old → t < c.lo)) ∧ t < s.toks := by cases x with | of r => cases r with | flt _ _ h0 hl hu => exact ⟨_, rfl, h0, hl, hu⟩
theorem Rt.str_inv {i} (x : Rt c s P v (.str i)) : ∃ t, v = .str ⟨i.toArray⟩ t := by cases x with | of r => cases r; exact ⟨_, rfl⟩
theorem Rt.raw_inv {u} (x : Rt c s P v (.raw u)) : v = u := by cases x with | of r => cases r; rfl
theorem Rt.tup_inv {ds} (x : Rt c s P v (.tup ds)) : ∃ a vs n, v = .ref a ∧ s.heap.get? a = some (seqO "tuple" vs n) ∧ RL c s P vs ds := by
  cases x with
  | of r => cases r with | tup p g l => exact ⟨_, _, _, rfl, g, l⟩
  | tup g l => exact ⟨_, _, _, rfl, g, l⟩
theorem Rt.lst_inv {ds} (x : Rt c s P v (.lst ds)) : ∃ a vs n, v = .ref a ∧ s.heap.get? a = some (seqO "list" vs n) ∧ RL c s P vs ds := by
  cases x with
  | of r => cases r with | lst p g l => exact ⟨_, _, _, rfl, g, l⟩
  | lst g l => exact ⟨_, _, _, rfl, g, l⟩
theorem Rt.obj_inv {C fs} (x : Rt c s P v (.obj C fs)) : ∃ a dx es n, v = .ref a ∧ s.heap.get? a = some (instObj C dx) ∧ s.heap.get? dx = some (dictOf es n) ∧ RF c s P es fs := by
  cases x with
  | of r => cases r with | obj p q g g' l => exact ⟨_, _, _, _, rfl, g, g', l⟩
theorem Rt.dct_inv {fs} (x : Rt c s P v (.dct fs)) : ∃ a kvs, v = .ref a ∧ s.heap.DictOf (PySem.strKind c.prog c.w) a kvs ∧ RK c s P kvs fs := by
  cases x with
  | of r => cases r with | dct p g l => exact ⟨_, _, rfl, g, l⟩
  | dct g l => exact ⟨_, _, rfl, g, l⟩
theorem isList_of {h : Heap} {a vs n} (g : h.get? a = some (seqO "list" vs n)) : h.IsList a vs.toArray := ⟨_, g, rfl, n, rfl⟩
end

/-- a value whose root holds no object of the heap -/
def D.scal : D → Bool
  | .none | .bool _ | .int _ | .flt _ _ | .str _ => true
  | .raw (.ref _) => false
  | .raw _ => true
  | _ => false
theorem Rt.scal {c : Cx} {s : Shared} {P P' : Addr → Prop} {v d} (x : Rt c s P v d) (hs : d.scal = true) : R c s P' v d ∧ ∀ a, v ≠ .ref a := by
  cases x with
  | of r =>
    cases r with
    | none => exact ⟨.none, fun _ e => nomatch e⟩
    | bool b => exact ⟨.bool b, fun _ e => nomatch e⟩
    | int i t => exact ⟨.int i t, fun _ e => nomatch e⟩
    | flt x fr a b e => exact ⟨.flt x fr a b e, fun _ e => nomatch e⟩
    | str l t => exact ⟨.str l t, fun _ e => nomatch e⟩
    | raw v => exact ⟨.raw v, fun a e => by subst e; cases hs⟩
    | _ => cases hs
  | _ => cases hs

/-- fr: the root is new; cl: the root is nobody's own; rt: nothing is known of the root -/
inductive Fl where
  | fr
  | cl
  | rt
  | ow
  deriving DecidableEq, Inhabited
def Fr (s : Shared) (v : Value) : Prop := ∀ a, v = .ref a → s.heap.get? a = none
abbrev NZ (Z : Addr → Prop) : Addr → Prop := fun a => ¬ Z a
/-- nothing below the root leads back to it -/
def Own (c : Cx) (Z : Addr → Prop) (s' : Shared) (v : Value) (d : D) : Prop := Rt c s' (fun b => ¬ Z b ∧ v ≠ .ref b) v d
theorem R.nonref {c : Cx} {s : Shared} {P P' : Addr → Prop} {v : Value} {d : D} (r : R c s P v d) (h : ∀ a, v ≠ .ref a) : R c s P' v d := by
  cases r with
  | none => exact .none
  | bool b => exact .bool b
  | int i t => exact .int i t
  | flt x fr a b e => exact .flt x fr a b e
  | str l t => exact .str l t
  | raw v => exact .raw v
  | _ => exact absurd rfl (h _)
theorem RL.off {c : Cx} {s : Shared} {P : Addr → Prop} {a : Addr} {vs ds} (r : RL c s P vs ds) (h : s.heap.get? a = none) : RL c s (fun b => P b ∧ Value.ref a ≠ .ref b) vs ds :=
  r.trans (Nat.le_refl _) fun b o p e => ⟨⟨p, fun q => by cases q; rw [h] at e; cases e⟩, e⟩
theorem RL.offPush {c : Cx} {s : Shared} {P : Addr → Prop} {o : Obj} {vs ds} (r : RL c s P vs ds) (h : s.heap.get? s.heap.objs.size = none) : RL c { s with heap := s.heap.push o } (fun b => P b ∧ Value.ref s.heap.objs.size ≠ .ref b) vs ds :=
  RL.trans (s := s) (s' := { s with heap := s.heap.push o }) (Nat.le_refl _) (fun b o' p e => ⟨⟨p, fun q => by cases q; rw [h] at e; cases e⟩, Heap.get?_push_of_some _ e⟩) r
def Res (c : Cx) (Z W : Addr → Prop) (s s' : Shared) : Fl → Value → D → Prop
  | .fr, v, d => R c s' (NZ Z) v d ∧ Fr s v ∧ Own c Z s' v d
  | .cl, v, d => R c s' (NZ Z) v d
  | .rt, v, d => Rt c s' (NZ Z) v d ∧ ∀ a, v = .ref a → ¬ W a
  | .ow, v, d => Rt c s' (NZ Z) v d
theorem Res.rt {c : Cx} {Z W : Addr → Prop} {s s' : Shared} {fl : Fl} {v d} (x : Res c Z W s s' fl v d) : Rt c s' (NZ Z) v d := by
  cases fl with
  | fr => exact .of x.1
  | cl => exact .of x
  | rt => exact x.1
  | ow => exact x
def Fl.isR : Fl → Bool
  | .fr | .cl => true
  | _ => false
theorem Res.r {c : Cx} {Z W : Addr → Prop} {s s' : Shared} {fl : Fl} {v d} (x : Res c Z W s s' fl v d) (h : fl.isR = true) : R c s' (NZ Z) v d := by
  cases fl with
  | fr => exact x.1
  | cl => exact x
  | rt => cases h
  | ow => cases h

inductive Slot where
  | un
  | cl (d : D)
  | rt (d : D)
  | ow (d : D)
  deriving Inhabited

inductive Loc (env : Env) (h : Heap) (x : Str) (v : Value) : Prop
  | loc (m) : env.kindOf x = some .local → h.Ns env.locals m → m x = some v → Loc env h x v
  | cell (a) : (env.kindOf x = some .cell ∨ (env.kindOf x = some .free ∧ (x == ("__classdict__" : Str)) = false)) → env.cells.lookup x = some a → h.IsCell a (some v) → Loc env h x v
theorem Loc.keeps {env : Env} {h h' : Heap} {x : Str} {v : Value} (l : Loc env h x v) (k : ∀ b o, h.get? b = some o → h'.get? b = some o) : Loc env h' x v := by
  cases l with
  | loc m a b e => exact .loc m a (b.keeps k) e
  | cell a b e f => exact .cell a b e (f.keeps k)

/-- W: what the running code may turn -/
def SlotR (c : Cx) (env : Env) (s : Shared) (Z W : Addr → Prop) (x : Str) : Slot → Prop
  | .un => True
  | .cl d => ∃ v, Loc env s.heap x v ∧ R c s (NZ Z) v d
  | .rt d => ∃ v, Loc env s.heap x v ∧ Rt c s (NZ Z) v d ∧ ∀ a, v = .ref a → ¬ W a ∧ ∃ o, s.heap.get? a = some o
  | .ow d => ∃ a, Loc env s.heap x (.ref a) ∧ Rt c s (NZ Z) (.ref a) d ∧ W a

structure EnvOk (env : Env) : Prop where
  kind : env.scope.kind = .function
  glob : env.globals = mainGlobals
  blt : env.builtins = builtinsNs

structure Kp (s s' : Shared) : Prop where
  ex : Keeps s s'
  tk : s.toks ≤ s'.toks
theorem Kp.of {s : Shared} {h' : Heap} {tk : Nat} (k : ∀ b o, s.heap.get? b = some o → h'.get? b = some o) (ht : s.toks ≤ tk) : Kp s { s with heap := h', toks := tk } := ⟨⟨h', tk, rfl, k⟩, ht⟩
theorem Kp.rfl' {s : Shared} : Kp s s := ⟨⟨s.heap, s.toks, rfl, fun _ _ e => e⟩, Nat.le_refl _⟩
theorem Kp.tok {s : Shared} {t : Nat} (ht : s.toks ≤ t) : Kp s { s with toks := t } := ⟨⟨s.heap, t, rfl, fun _ _ e => e⟩, ht⟩
theorem Kp.tok1 {s : Shared} : Kp s { s with toks := s.toks + 1 } := .tok (Nat.le_succ _)
theorem Kp.trans {s s' s'' : Shared} (x : Kp s s') (y : Kp s' s'') : Kp s s'' := by
  obtain ⟨⟨h', t', rfl, k⟩, a⟩ := x
  obtain ⟨⟨h'', t'', rfl, k'⟩, b⟩ := y
  exact ⟨⟨h'', t'', rfl, fun b o e => k' b o (k b o e)⟩, Nat.le_trans a b⟩
theorem Kp.get {s s' : Shared} (x : Kp s s') : ∀ b o, s.heap.get? b = some o → s'.heap.get? b = some o := by
  obtain ⟨h', t', rfl, k⟩ := x.ex; exact k
theorem Kp.push {s : Shared} {o : Obj} : Kp s { s with heap := s.heap.push o } := ⟨⟨_, _, rfl, fun _ _ e => Heap.get?_push_of_some _ e⟩, Nat.le_refl _⟩
theorem kpw {α : Type} {M : Model} {A : Around} {s : Shared} {t : Sem α} {E : Value → Shared → Prop} {P : α → Shared → Prop} (h : wpAny M A t (fun v s' => Keeps s s' ∧ P v s') E s) : wpAny M A t (fun v s' => Kp s s' ∧ P v s') E s :=
  wpAny_mono (wpAny_toks_of (Nat.le_refl s.toks) h) (fun _ _ x => ⟨⟨x.2.1, x.1⟩, x.2.2⟩) fun _ _ x => x.2
theorem keeps_tk {s : Shared} {t : Nat} : Keeps s { s with toks := t } := ⟨s.heap, t, rfl, fun _ _ e => e⟩

/-- what holds of a heap while an expression is evaluated -/
structure Pre (c : Cx) (Z : Addr → Prop) (s : Shared) : Prop where
  keep : ∀ b o, c.h₀.get? b = some o → s.heap.get? b = some o
  zin : ∀ a, Z a → ∃ o, s.heap.get? a = some o
  tks : c.lo ≤ s.toks
theorem Pre.keeps {c : Cx} {Z : Addr → Prop} {s s' : Shared} (x : Pre c Z s) (k : Kp s s') : Pre c Z s' :=
  ⟨fun b o e => k.get b o (x.keep b o e), fun a z => let ⟨o, e⟩ := x.zin a z; ⟨o, k.get a o e⟩, Nat.le_trans x.tks k.tk⟩
section
variable {c : Cx} {Z : Addr → Prop} {s s' : Shared} {v : Value} {d : D}
theorem R.keeps (r : R c s (NZ Z) v d) (k : Kp s s') : R c s' (NZ Z) v d := r.trans k.tk fun a o p e => ⟨p, k.get a o e⟩
theorem Rt.keeps (r : Rt c s (NZ Z) v d) (k : Kp s s') : Rt c s' (NZ Z) v d := r.trans k.tk k.get fun a o p e => p
theorem RL.keeps {vs ds} (r : RL c s (NZ Z) vs ds) (k : Kp s s') : RL c s' (NZ Z) vs ds := r.trans k.tk fun a o p e => ⟨p, k.get a o e⟩
theorem RF.keeps {vs ds} (r : RF c s (NZ Z) vs ds) (k : Kp s s') : RF c s' (NZ Z) vs ds := r.trans k.tk fun a o p e => ⟨p, k.get a o e⟩
theorem Fr.keeps (f : Fr s' v) (k : Kp s s') : Fr s v := fun a e => by
  have := f a e
  cases q : s.heap.get? a with
  | none => rfl
  | some o => rw [k.get a o q] at this; cases this
theorem Fr.scal (h : ∀ a, v ≠ .ref a) : Fr s v := fun a e => absurd e (h a)
/-- later, behind a beginning further back -/
theorem Res.keeps {W : Addr → Prop} {s₀ s₁ s₂ : Shared} {fl : Fl} (r : Res c Z W s₀ s₁ fl v d) (k : Kp s₁ s₂) : Res c Z W s₀ s₂ fl v d := by
  cases fl with
  | fr => exact ⟨R.keeps r.1 k, r.2.1, Rt.trans k.tk k.get (fun a o p e => p) r.2.2⟩
  | cl => exact R.keeps (Z := Z) r k
  | rt => exact ⟨Rt.keeps r.1 k, r.2⟩
  | ow => exact Rt.keeps (Z := Z) r k
theorem Res.back {W : Addr → Prop} {s₀ s₁ s₂ : Shared} {fl : Fl} (r : Res c Z W s₁ s₂ fl v d) (k : Kp s₀ s₁) : Res c Z W s₀ s₂ fl v d := by
  cases fl with
  | fr => exact ⟨r.1, r.2.1.keeps k, r.2.2⟩
  | cl => exact r
  | rt => exact r
  | ow => exact r
theorem Rt.scalRes {W : Addr → Prop} {s₀ : Shared} (x : Rt c s (NZ Z) v d) (hs : d.scal = true) (fl : Fl) : Res c Z W s₀ s fl v d := by
  obtain ⟨r, h⟩ := x.scal (P' := NZ Z) hs
  cases fl with
  | fr => exact ⟨r, .scal h, .of (r.nonref h)⟩
  | cl => exact r
  | rt => exact ⟨.of r, fun a e => absurd e (h a)⟩
  | ow => exact .of r
end

theorem Res.sc {c : Cx} {Z W : Addr → Prop} {s s' : Shared} {v : Value} {d : D} (r : R c s' (NZ Z) v d) (h : ∀ a, v ≠ .ref a := by intro _ e; cases e) : Res c Z W s s' .fr v d := ⟨r, .scal h, .of (r.nonref h)⟩
structure RSt (c : Cx) (env : Env) (Z W : Addr → Prop) (ns : List Str) (σ : List Slot) (s : Shared) : Prop where
  pre : Pre c Z s
  vars : ∀ (i : Nat) (x : Str) (sl : Slot), ns[i]? = some x → σ[i]? = some sl → SlotR c env s Z W x sl
theorem SlotR.keeps {c : Cx} {env : Env} {Z W : Addr → Prop} {s s' : Shared} {x : Str} {sl : Slot} (r : SlotR c env s Z W x sl) (k : Kp s s') : SlotR c env s' Z W x sl := by
  cases sl with
  | un => trivial
  | cl d => obtain ⟨v, l, r⟩ := r; exact ⟨v, l.keeps k.get, r.keeps k⟩
  | rt d => obtain ⟨v, l, r, q⟩ := r; exact ⟨v, l.keeps k.get, r.keeps k, fun a e => ⟨(q a e).1, let ⟨o, h⟩ := (q a e).2; ⟨o, k.get a o h⟩⟩⟩
  | ow d => obtain ⟨v, l, r, q⟩ := r; exact ⟨v, l.keeps k.get, r.keeps k, q⟩
theorem RSt.keeps {c : Cx} {env : Env} {Z W : Addr → Prop} {ns : List Str} {σ : List Slot} {s s' : Shared} (x : RSt c env Z W ns σ s) (k : Kp s s') : RSt c env Z W ns σ s' :=
  ⟨x.pre.keeps k, fun i y sl h1 h2 => (x.vars i y sl h1 h2).keeps k⟩

abbrev ZIn (Z : Addr → Prop) (h : Heap) : Prop := ∀ a, Z a → ∃ o, h.get? a = some o
theorem ZIn.keeps {Z : Addr → Prop} {s s' : Shared} (z : ZIn Z s.heap) (k : Kp s s') : ZIn Z s'.heap := fun a h => let ⟨o, e⟩ := z a h; ⟨o, k.get a o e⟩
theorem ZIn.fresh {Z : Addr → Prop} {h : Heap} (z : ZIn Z h) {a : Addr} (e : h.get? a = none) : ¬ Z a := fun hz => by obtain ⟨o, q⟩ := z a hz; rw [e] at q; cases q
theorem get_size (h : Heap) : h.get? h.objs.size = none := Heap.get?_none_of_le (Nat.le_refl _)

structure Good (k : Nat) (A : Around) : Prop where
  handled : A.handled = none
  depth : A.depth + k < 900
  units : A.units + 30 * k < 9000

theorem tok_ne {t : Tok} (h : (1 : Nat) ≤ t) : t ≠ 0 := Nat.pos_iff_ne_zero.mp h

/-- a new float -/
theorem R.newF {c : Cx} {Z : Addr → Prop} {s : Shared} {x : UInt64} (hp : 1 ≤ c.lo) (hs : c.lo ≤ s.toks) : R c { s with toks := s.toks + 1 } (NZ Z) (.float x s.toks) (.flt x .new) :=
  .flt x .new (tok_ne (Nat.le_trans hp hs)) ⟨fun _ => hs, fun h => nomatch h⟩ (Nat.lt_succ_self _)

section
variable (c : Cx) (A : Around)
/-- an answer of an operation: new, if it is an object at all -/
def New (Z : Addr → Prop) (s : Shared) (d : D) (v : Value) (s' : Shared) : Prop := Kp s s' ∧ R c s' (NZ Z) v d ∧ Fr s v ∧ Own c Z s' v d
def BinR (op : Operator) (d₁ d₂ d : D) : Prop := ∀ (Z : Addr → Prop) (E : Value → Shared → Prop) (s : Shared) (v₁ v₂ : Value), Pre c Z s → Rt c s (NZ Z) v₁ d₁ → Rt c s (NZ Z) v₂ d₂ →
  wpAny (model c.prog c.w) A (binaryOp op v₁ v₂) (New c Z s d) E s
def IBinR (op : Operator) (d₁ d₂ d : D) : Prop := ∀ (Z : Addr → Prop) (E : Value → Shared → Prop) (s : Shared) (v₁ v₂ : Value), Pre c Z s → Rt c s (NZ Z) v₁ d₁ → Rt c s (NZ Z) v₂ d₂ →
  wpAny (model c.prog c.w) A (inplaceOp op v₁ v₂) (New c Z s d) E s
def UnR (op : UnaryOp) (d₁ d : D) : Prop := ∀ (Z : Addr → Prop) (E : Value → Shared → Prop) (s : Shared) (v₁ : Value), Pre c Z s → Rt c s (NZ Z) v₁ d₁ →
  wpAny (model c.prog c.w) A (unaryOp op v₁) (New c Z s d) E s
def CmpR (op : CmpOp) (d₁ d₂ : D) (b : Bool) : Prop := ∀ (Z : Addr → Prop) (E : Value → Shared → Prop) (s : Shared) (v₁ v₂ : Value), Pre c Z s → Rt c s (NZ Z) v₁ d₁ → Rt c s (NZ Z) v₂ d₂ →
  wpAny (model c.prog c.w) A (compareOp op v₁ v₂) (fun v s' => Kp s s' ∧ v = .bool b) E s
def TruR (d : D) (b : Bool) : Prop := ∀ (Z : Addr → Prop) (E : Value → Shared → Prop) (s : Shared) (v : Value), Pre c Z s → Rt c s (NZ Z) v d →
  wpAny (model c.prog c.w) A (truthy v) (fun r s' => Kp s s' ∧ r = b) E s
end
theorem New.sc {c : Cx} {Z : Addr → Prop} {s s' : Shared} {d : D} {v : Value} (k : Kp s s') (r : R c s' (NZ Z) v d) (h : ∀ a, v ≠ .ref a := by intro _ e; cases e) : New c Z s d v s' := ⟨k, r, .scal h, .of (r.nonref h)⟩
theorem newSeq_R {c : Cx} {A : Around} {T : String} {vs : List Value} {ds : List D} {Z : Addr → Prop} {E : Value → Shared → Prop} {s : Shared} (z : ZIn Z s.heap) (r : RL c s (NZ Z) vs ds) (hl : vs.length ≤ sizeLine) (Q : Value → Shared → Prop)
    (h : ∀ s', Kp s s' → ¬ Z s.heap.objs.size → s'.heap.get? s.heap.objs.size = some (seqO T vs 0) → RL c s' (NZ Z) vs ds → RL c s' (fun b => ¬ Z b ∧ Value.ref s.heap.objs.size ≠ .ref b) vs ds → s.heap.get? s.heap.objs.size = none → Q (.ref s.heap.objs.size) s') : wpAny (model c.prog c.w) A (newObj (.type T) (.seq vs.toArray)) Q E s := by
  refine wpAny_newObj_type (h _ .push (z.fresh (get_size _)) (Heap.get?_push_size _ rfl) (r.keeps (s' := { s with heap := s.heap.push _ }) .push) (r.offPush (get_size _)) (get_size _)) ?_
  show vs.toArray.size ≤ sizeLine
  rw [List.size_toArray]; exact hl
theorem Fr.size {s : Shared} : Fr s (.ref s.heap.objs.size) := fun a e => by cases e; exact get_size _
end Mine

end

section
open PySem PySem.W PyProof.Rows
set_option Elab.async false
set_option linter.unusedVariables false
set_option maxRecDepth 4000
namespace Mine

abbrev divII (a b : Int) : UInt64 := Float64.ofFrac (decide (a < 0) != decide (b < 0)) a.natAbs b.natAbs
abbrev fmodF (a b : UInt64) : UInt64 := (Float64.divmod a b).2

section
variable {c : Cx} {A : Around}

theorem strN_append (a b : List Nat) : ((⟨a.toArray⟩ : Str) ++ (⟨b.toArray⟩ : Str)) = ⟨(a ++ b).toArray⟩ := by
  show Str.append _ _ = _; simp [Str.append]
theorem strN_length (a : List Nat) : (⟨a.toArray⟩ : Str).length = a.length := by show a.toArray.size = _; simp
theorem BinR.ints {op : Operator} {a b r : Int} (h : ∀ (E : Value → Shared → Prop) (s : Shared) (t u : Tok) (Q : Value → Shared → Prop), Q (.int r s.toks) { s with toks := s.toks + 1 } → wpAny (model c.prog c.w) A (binaryOp op (.int a t) (.int b u)) Q E s) : BinR c A op (.int a) (.int b) (.int r) := by
  intro Z E s v₁ v₂ z h₁ h₂
  obtain ⟨t, rfl⟩ := h₁.int_inv
  obtain ⟨u, rfl⟩ := h₂.int_inv
  with_reducible refine h _ _ _ _ _ ?_
  exact .sc Kp.tok1 (R.int _ _)
theorem BinR.intF {op : Operator} {a b : Int} {r : UInt64} (hp : 1 ≤ c.lo) (h : ∀ (E : Value → Shared → Prop) (s : Shared) (t u : Tok) (Q : Value → Shared → Prop), Q (.float r s.toks) { s with toks := s.toks + 1 } → wpAny (model c.prog c.w) A (binaryOp op (.int a t) (.int b u)) Q E s) : BinR c A op (.int a) (.int b) (.flt r .new) := by
  intro Z E s v₁ v₂ z h₁ h₂
  obtain ⟨t, rfl⟩ := h₁.int_inv
  obtain ⟨u, rfl⟩ := h₂.int_inv
  with_reducible refine h _ _ _ _ _ ?_
  exact .sc Kp.tok1 (R.newF hp z.tks)
theorem BinR.flts {op : Operator} {a b r : UInt64} (hp : 1 ≤ c.lo) (h : ∀ (E : Value → Shared → Prop) (s : Shared) (t u : Tok) (Q : Value → Shared → Prop), Q (.float r s.toks) { s with toks := s.toks + 1 } → wpAny (model c.prog c.w) A (binaryOp op (.float a t) (.float b u)) Q E s) : BinR c A op (.flt a fa) (.flt b fb) (.flt r .new) := by
  intro Z E s v₁ v₂ z h₁ h₂
  obtain ⟨t, rfl, _⟩ := h₁.flt_inv
  obtain ⟨u, rfl, _⟩ := h₂.flt_inv
  with_reducible refine h _ _ _ _ _ ?_
  exact .sc Kp.tok1 (R.newF hp z.tks)
theorem BinR.fltI {op : Operator} {a r : UInt64} {b : Int} (hp : 1 ≤ c.lo) (h : ∀ (E : Value → Shared → Prop) (s : Shared) (t u : Tok) (Q : Value → Shared → Prop), Q (.float r s.toks) { s with toks := s.toks + 1 } → wpAny (model c.prog c.w) A (binaryOp op (.float a t) (.int b u)) Q E s) : BinR c A op (.flt a fa) (.int b) (.flt r .new) := by
  intro Z E s v₁ v₂ z h₁ h₂
  obtain ⟨t, rfl, _⟩ := h₁.flt_inv
  obtain ⟨u, rfl⟩ := h₂.int_inv
  with_reducible refine h _ _ _ _ _ ?_
  exact .sc Kp.tok1 (R.newF hp z.tks)

theorem BinR.add_int {a b : Int} : BinR c A .Add (.int a) (.int b) (.int (a + b)) := .ints fun _ _ _ _ _ h => by with_reducible exact PyProof.Rows.add_int h
theorem BinR.sub_int {a b : Int} : BinR c A .Sub (.int a) (.int b) (.int (a - b)) := .ints fun _ _ _ _ _ h => by with_reducible exact PyProof.Rows.sub_int h
theorem BinR.mul_int {a b : Int} (hm : IntMulOk a b) : BinR c A .Mult (.int a) (.int b) (.int (a * b)) := .ints fun _ _ _ _ _ h => by with_reducible exact PyProof.Rows.mul_int h hm
theorem BinR.fdiv_int {a b : Int} (hb : b ≠ 0) (hd : Builtin.divisionGoesByPylong a b = false) : BinR c A .FloorDiv (.int a) (.int b) (.int (a.fdiv b)) := .ints fun _ _ _ _ _ h => by with_reducible exact PyProof.Rows.floordiv_int hb h (.inl hd)
theorem BinR.mod_int {a b : Int} (hb : b ≠ 0) : BinR c A .Mod (.int a) (.int b) (.int (a.fmod b)) := .ints fun _ _ _ _ _ h => by with_reducible exact PyProof.Rows.mod_int hb h
theorem BinR.pow_int {a n : Int} (h0 : 0 ≤ n) (h1 : ((Builtin.Int.intBits a : Nat) : Int) * n ≤ 2 ^ 27) : BinR c A .Pow (.int a) (.int n) (.int (a ^ n.toNat)) := .ints fun _ _ _ _ _ h => by with_reducible exact PyProof.Rows.pow_int h0 h1 h
theorem BinR.shl_int {a n : Int} (h0 : 0 ≤ n) (h1 : ((Builtin.Int.intBits a : Nat) : Int) + n ≤ 2 ^ 27) : BinR c A .LShift (.int a) (.int n) (.int (a * 2 ^ n.toNat)) := .ints fun _ _ _ _ _ h => by with_reducible exact PyProof.Rows.lshift_int h0 h1 h
theorem BinR.shr_int {a n : Int} (h0 : 0 ≤ n) : BinR c A .RShift (.int a) (.int n) (.int (a.fdiv (2 ^ n.toNat))) := .ints fun _ _ _ _ _ h => by with_reducible exact PyProof.Rows.rshift_int h0 h
theorem BinR.and_int {a b : Int} : BinR c A .BitAnd (.int a) (.int b) (.int (Builtin.bitAnd a b)) := .ints fun _ _ _ _ _ h => by with_reducible exact PyProof.Rows.and_int h
theorem BinR.xor_int {a b : Int} : BinR c A .BitXor (.int a) (.int b) (.int (Builtin.bitXor a b)) := .ints fun _ _ _ _ _ h => by with_reducible exact PyProof.Rows.xor_int h
theorem BinR.div_int {a b : Int} (hp : 1 ≤ c.lo) (hb : b ≠ 0) (hi : ¬ Float64.isInf (divII a b) = true) : BinR c A .Div (.int a) (.int b) (.flt (divII a b) .new) := .intF hp fun _ _ _ _ _ h => by (with_reducible refine AutoIntOps.truediv_2 ?q hi ?_); (case q => simpa using hb); exact h
theorem BinR.add_flt {a b : UInt64} (hp : 1 ≤ c.lo) : BinR c A .Add (.flt a fa) (.flt b fb) (.flt (Float64.add a b) .new) := .flts hp fun _ _ _ _ _ h => by (with_reducible refine AutoFloatOps.add_0 ?_); exact h
theorem BinR.sub_flt {a b : UInt64} (hp : 1 ≤ c.lo) : BinR c A .Sub (.flt a fa) (.flt b fb) (.flt (Float64.sub a b) .new) := .flts hp fun _ _ _ _ _ h => by (with_reducible refine AutoFloatOps.sub_0 ?_); exact h
theorem BinR.mul_flt {a b : UInt64} (hp : 1 ≤ c.lo) : BinR c A .Mult (.flt a fa) (.flt b fb) (.flt (Float64.mul a b) .new) := .flts hp fun _ _ _ _ _ h => by (with_reducible refine AutoFloatOps.mul_0 ?_); exact h
theorem BinR.div_flt {a b : UInt64} (hp : 1 ≤ c.lo) (hz : ¬ Float64.isZero b = true) : BinR c A .Div (.flt a fa) (.flt b fb) (.flt (Float64.div a b) .new) := .flts hp fun _ _ _ _ _ h => by (with_reducible refine AutoFloatOps.truediv_1 hz ?_); exact h
theorem BinR.mod_flt {a b : UInt64} (hp : 1 ≤ c.lo) (hz : ¬ Float64.isZero b = true) : BinR c A .Mod (.flt a fa) (.flt b fb) (.flt (fmodF a b) .new) := .flts hp fun _ _ _ _ _ h => by (with_reducible refine AutoFloatOps.mod_1 hz ?_); exact h
theorem BinR.sub_fi {a : UInt64} {b : Int} (hp : 1 ≤ c.lo) (hi : ¬ Float64.isInf (Float64.ofInt b) = true) : BinR c A .Sub (.flt a fa) (.int b) (.flt (Float64.sub a (Float64.ofInt b)) .new) := .fltI hp fun _ _ _ _ _ h => by (with_reducible refine AutoFloatOps.sub_fi_1 hi ?_); exact h
theorem BinR.add_fi {a : UInt64} {b : Int} (hp : 1 ≤ c.lo) (hi : ¬ Float64.isInf (Float64.ofInt b) = true) : BinR c A .Add (.flt a fa) (.int b) (.flt (Float64.add a (Float64.ofInt b)) .new) := .fltI hp fun _ _ _ _ _ h => by (with_reducible refine AutoFloatOps.add_fi_1 hi ?_); exact h
theorem BinR.div_fi {a : UInt64} {b : Int} (hp : 1 ≤ c.lo) (hi : ¬ Float64.isInf (Float64.ofInt b) = true) (hz : ¬ Float64.isZero (Float64.ofInt b) = true) : BinR c A .Div (.flt a fa) (.int b) (.flt (Float64.div a (Float64.ofInt b)) .new) := .fltI hp fun _ _ _ _ _ h => by (with_reducible refine AutoFloatOps.truediv_fi_2 hi hz ?_); exact h

theorem IBinR.ints {op : Operator} {a b r : Int} (h : ∀ (E : Value → Shared → Prop) (s : Shared) (t u : Tok) (Q : Value → Shared → Prop), Q (.int r s.toks) { s with toks := s.toks + 1 } → wpAny (model c.prog c.w) A (inplaceOp op (.int a t) (.int b u)) Q E s) : IBinR c A op (.int a) (.int b) (.int r) := by
  intro Z E s v₁ v₂ z h₁ h₂
  obtain ⟨t, rfl⟩ := h₁.int_inv
  obtain ⟨u, rfl⟩ := h₂.int_inv
  with_reducible refine h _ _ _ _ _ ?_
  exact .sc Kp.tok1 (R.int _ _)
theorem IBinR.add_int {a b : Int} : IBinR c A .Add (.int a) (.int b) (.int (a + b)) := .ints fun _ _ _ _ _ h => by with_reducible exact PyProof.Rows.iadd_int h
theorem IBinR.sub_int {a b : Int} : IBinR c A .Sub (.int a) (.int b) (.int (a - b)) := .ints fun _ _ _ _ _ h => by with_reducible exact PyProof.Rows.isub_int h
theorem IBinR.xor_int {a b : Int} : IBinR c A .BitXor (.int a) (.int b) (.int (Builtin.bitXor a b)) := .ints fun _ _ _ _ _ h => by with_reducible exact PyProof.Rows.ixor_int h
theorem IBinR.mul_int {a b : Int} (hm : IntMulOk a b) : IBinR c A .Mult (.int a) (.int b) (.int (a * b)) := .ints fun _ _ _ _ _ h => by with_reducible exact PyProof.Rows.imul_int h hm

theorem UnR.neg_int {a : Int} : UnR c A .USub (.int a) (.int (-a)) := by
  intro Z E s v₁ z h₁
  obtain ⟨t, rfl⟩ := h₁.int_inv
  with_reducible refine PyProof.Rows.neg_int ?_
  exact .sc .tok1 (R.int _ _)
theorem UnR.not {d : D} {b : Bool} (h : TruR c A d b) : UnR c A .Not d (.bool (!b)) := by
  intro Z E s v₁ z h₁
  exact not_of (wpAny_mono (h Z E s v₁ z h₁) (fun r s' ⟨k, e⟩ => New.sc k (by subst e; exact R.bool _)) fun _ _ e => e)

theorem TruR.bool {b : Bool} : TruR c A (.bool b) b := by
  intro Z E s v z h; obtain rfl := h.bool_inv; exact wpAny_truthy_bool ⟨.rfl', rfl⟩
theorem TruR.int {a : Int} : TruR c A (.int a) (a != 0) := by
  intro Z E s v z h; obtain ⟨t, rfl⟩ := h.int_inv; exact PyProof.Rows.truthy_int ⟨.rfl', rfl⟩
theorem TruR.str {l : List Nat} (hl : l.length ≤ 16777216) : TruR c A (.str l) (!l.isEmpty) := by
  intro Z E s v z h; obtain ⟨t, rfl⟩ := h.str_inv
  refine PySem.P.truthy_str (x := ⟨l.toArray⟩) ?_ ⟨.tok (by omega), ?_⟩
  · show ¬ ((l.toArray.size : Nat) : Int) ≥ 2 ^ 63; rw [List.size_toArray]; omega
  · rw [strN_length]
    cases l <;> simp
    omega
theorem TruR.lst {l : List D} (hl : l.length ≤ 16777216) : TruR c A (.lst l) (!l.isEmpty) := by
  intro Z E s v z h; obtain ⟨a, vs, n, rfl, g, r⟩ := h.lst_inv
  refine wpAny_truthy_list (isList_of g) (by rw [List.size_toArray, r.length]; omega) ⟨.tok (by omega), ?_⟩
  have := r.length
  cases vs <;> cases l <;> simp_all

theorem CmpR.ints {op : CmpOp} {a b : Int} {r : Bool} (h : ∀ (E : Value → Shared → Prop) (s : Shared) (t u : Tok) (Q : Value → Shared → Prop), Q (.bool r) s → wpAny (model c.prog c.w) A (compareOp op (.int a t) (.int b u)) Q E s) : CmpR c A op (.int a) (.int b) r := by
  intro Z E s v₁ v₂ z h₁ h₂
  obtain ⟨t, rfl⟩ := h₁.int_inv
  obtain ⟨u, rfl⟩ := h₂.int_inv
  with_reducible refine h _ _ _ _ _ ?_
  exact ⟨Kp.rfl', rfl⟩
theorem CmpR.flts {op : CmpOp} {a b : UInt64} {r : Bool} (h : ∀ (E : Value → Shared → Prop) (s : Shared) (t u : Tok) (Q : Value → Shared → Prop), Q (.bool r) s → wpAny (model c.prog c.w) A (compareOp op (.float a t) (.float b u)) Q E s) : CmpR c A op (.flt a fa) (.flt b fb) r := by
  intro Z E s v₁ v₂ z h₁ h₂
  obtain ⟨t, rfl, _⟩ := h₁.flt_inv
  obtain ⟨u, rfl, _⟩ := h₂.flt_inv
  with_reducible refine h _ _ _ _ _ ?_
  exact ⟨Kp.rfl', rfl⟩
theorem CmpR.strs {op : CmpOp} {a b : List Nat} {r : Bool} (h : ∀ (E : Value → Shared → Prop) (s : Shared) (t u : Tok) (Q : Value → Shared → Prop), Q (.bool r) s → wpAny (model c.prog c.w) A (compareOp op (.str ⟨a.toArray⟩ t) (.str ⟨b.toArray⟩ u)) Q E s) : CmpR c A op (.str a) (.str b) r := by
  intro Z E s v₁ v₂ z h₁ h₂
  obtain ⟨t, rfl⟩ := h₁.str_inv
  obtain ⟨u, rfl⟩ := h₂.str_inv
  with_reducible refine h _ _ _ _ _ ?_
  exact ⟨Kp.rfl', rfl⟩
theorem CmpR.eq_int {a b : Int} : CmpR c A .Eq (.int a) (.int b) (a == b) := .ints fun _ _ _ _ _ h => by with_reducible exact PyProof.Rows.eq_int h
theorem CmpR.ne_int {a b : Int} : CmpR c A .NotEq (.int a) (.int b) (a != b) := .ints fun _ _ _ _ _ h => by with_reducible exact PyProof.Rows.ne_int h
theorem CmpR.lt_int {a b : Int} : CmpR c A .Lt (.int a) (.int b) (decide (a < b)) := .ints fun _ _ _ _ _ h => by with_reducible exact PyProof.Rows.lt_int h
theorem CmpR.le_int {a b : Int} : CmpR c A .LtE (.int a) (.int b) (decide (a ≤ b)) := .ints fun _ _ _ _ _ h => by with_reducible exact PyProof.Rows.le_int h
theorem CmpR.gt_int {a b : Int} : CmpR c A .Gt (.int a) (.int b) (decide (b < a)) := .ints fun _ _ _ _ _ h => by with_reducible exact PyProof.Rows.gt_int h
theorem CmpR.ge_int {a b : Int} : CmpR c A .GtE (.int a) (.int b) (decide (b ≤ a)) := .ints fun _ _ _ _ _ h => by with_reducible exact PyProof.Rows.ge_int h
theorem CmpR.eq_flt {a b : UInt64} : CmpR c A .Eq (.flt a fa) (.flt b fb) (Float64.cmp a b == some .eq) := .flts fun _ _ _ _ _ h => by (with_reducible refine AutoFloatOps.eq_0 ?_); exact h
theorem CmpR.ne_flt {a b : UInt64} : CmpR c A .NotEq (.flt a fa) (.flt b fb) (Float64.cmp a b != some .eq) := .flts fun _ _ _ _ _ h => by (with_reducible refine AutoFloatOps.ne_0 ?_); exact h
theorem CmpR.lt_flt {a b : UInt64} : CmpR c A .Lt (.flt a fa) (.flt b fb) (Float64.cmp a b == some .lt) := .flts fun _ _ _ _ _ h => by (with_reducible refine AutoFloatOps.lt_0 ?_); exact h
theorem CmpR.gt_flt {a b : UInt64} : CmpR c A .Gt (.flt a fa) (.flt b fb) (Float64.cmp a b == some .gt) := .flts fun _ _ _ _ _ h => by (with_reducible refine AutoFloatOps.gt_0 ?_); exact h
theorem CmpR.le_flt {a b : UInt64} : CmpR c A .LtE (.flt a fa) (.flt b fb) (Float64.cmp a b == some .lt || Float64.cmp a b == some .eq) := .flts fun _ _ _ _ _ h => by (with_reducible refine AutoFloatOps.le_0 ?_); exact h
theorem str_beq (a b : List Nat) : ((⟨a.toArray⟩ : Str) == ⟨b.toArray⟩) = (a == b) := by
  rw [Bool.eq_iff_iff]; simp
theorem str_bne (a b : List Nat) : ((⟨a.toArray⟩ : Str) != ⟨b.toArray⟩) = (a != b) := by simp only [bne, str_beq]
theorem CmpR.eq_str {a b : List Nat} : CmpR c A .Eq (.str a) (.str b) (a == b) := .strs fun _ _ _ _ _ h => by with_reducible exact PyProof.Rows.eq_str (by rw [str_beq]; exact h)
theorem CmpR.ne_str {a b : List Nat} : CmpR c A .NotEq (.str a) (.str b) (a != b) := .strs fun _ _ _ _ _ h => by with_reducible exact PyProof.Rows.ne_str (by rw [str_bne]; exact h)
theorem CmpR.is_bool {a b : Bool} : CmpR c A .Is (.bool a) (.bool b) (a == b) := by
  intro Z E s v₁ v₂ z h₁ h₂
  obtain rfl := h₁.bool_inv
  obtain rfl := h₂.bool_inv
  refine wpAny_is_plain (by rfl) ⟨.rfl', ?_⟩
  cases a <;> cases b <;> rfl
theorem CmpR.isNot_bool {a b : Bool} : CmpR c A .IsNot (.bool a) (.bool b) (a != b) := by
  intro Z E s v₁ v₂ z h₁ h₂
  obtain rfl := h₁.bool_inv
  obtain rfl := h₂.bool_inv
  refine wpAny_isNot_plain (by rfl) ⟨.rfl', ?_⟩
  cases a <;> cases b <;> rfl

theorem BinR.add_str {a b : List Nat} (hl : a.length + b.length ≤ 16777216) : BinR c A .Add (.str a) (.str b) (.str (a ++ b)) := by
  intro Z E s v₁ v₂ z h₁ h₂
  obtain ⟨t, rfl⟩ := h₁.str_inv
  obtain ⟨u, rfl⟩ := h₂.str_inv
  exact kpw (PyProof.Rows.add_str (fun t' tk => ⟨keeps_tk, by rw [strN_append]; exact R.str _ _, .scal (by intro _ e; cases e), by rw [strN_append]; exact .of (R.str _ _)⟩) (by rw [strN_length, strN_length, sizeLine_eq]; exact hl))
theorem IBinR.add_str {a b : List Nat} (hl : a.length + b.length ≤ 16777216) : IBinR c A .Add (.str a) (.str b) (.str (a ++ b)) := by
  intro Z E s v₁ v₂ z h₁ h₂
  obtain ⟨t, rfl⟩ := h₁.str_inv
  obtain ⟨u, rfl⟩ := h₂.str_inv
  exact kpw (PyProof.Rows.iadd_str (fun t' tk => ⟨keeps_tk, by rw [strN_append]; exact R.str _ _, .scal (by intro _ e; cases e), by rw [strN_append]; exact .of (R.str _ _)⟩) (by rw [strN_length, strN_length, sizeLine_eq]; exact hl))

/-- n copies -/
def rep {α : Type} (l : List α) (n : Nat) : List α := (List.replicate n l).flatten
theorem foldl_app {α : Type} (l : List (Array α)) (a : Array α) : (l.foldl (· ++ ·) a).toList = a.toList ++ (l.map Array.toList).flatten := by
  induction l generalizing a with
  | nil => simp
  | cons x l ih => simp [List.foldl_cons, ih]
theorem foldl_rep {α : Type} (l : List α) (n : Nat) : (List.replicate n l.toArray).foldl (· ++ ·) #[] = (rep l n).toArray := by
  apply Array.toList_inj.mp
  rw [foldl_app]
  simp [rep]
theorem rep_zero {α : Type} (l : List α) : rep l 0 = [] := rfl
theorem rep_one {α : Type} (l : List α) : rep l 1 = l := by simp [rep]
theorem rep_nil {α : Type} (n : Nat) : rep ([] : List α) n = [] := by simp [rep]
theorem rep_length {α : Type} (l : List α) (n : Nat) : (rep l n).length = n * l.length := by
  unfold rep; induction n with
  | zero => simp
  | succ n ih => simp [List.replicate_succ, ih, Nat.succ_mul]; omega
theorem mulN (l : List Nat) (n : Int) : Txt.mul ⟨l.toArray⟩ n = ⟨(rep l n.toNat).toArray⟩ := by
  unfold Txt.mul
  split
  · rename_i h
    have : n.toNat = 0 := by omega
    rw [this, rep_zero]; rfl
  · split
    · rename_i h1 h2
      rw [Bool.or_eq_true] at h2
      rcases h2 with h2 | h2
      · have : n = 1 := by simpa using h2
        subst this; rw [show (1 : Int).toNat = 1 from rfl, rep_one]
      · rw [strN_length] at h2
        have : l = [] := by simpa using h2
        subst this; rw [rep_nil]
    · show Str.mk _ = _
      rw [foldl_rep]
theorem BinR.mul_str {a : List Nat} {n : Int} (hn : n < 2 ^ 40) (hlo : -(2 ^ 40) < n) (hl : a.length * n.toNat ≤ 16777216) : BinR c A .Mult (.str a) (.int n) (.str (rep a n.toNat)) := by
  intro Z E s v₁ v₂ z h₁ h₂
  obtain ⟨t, rfl⟩ := h₁.str_inv
  obtain ⟨u, rfl⟩ := h₂.int_inv
  refine kpw (PySem.SB.mul ⟨?_, ?_, ?_⟩ fun t' k => ⟨keeps_tk, by rw [mulN]; exact R.str _ _, .scal (by intro _ e; cases e), by rw [mulN]; exact .of (R.str _ _)⟩)
  · have e1 : decide (n < -(2 ^ 63 : Int)) = false := decide_eq_false (by omega)
    have e2 : decide (n ≥ 2 ^ 63) = false := decide_eq_false (by omega)
    rw [e1, e2]; rfl
  · intro h1 h2
    rw [strN_length]
    have h3 : (1 : Int) ≤ n := by omega
    have h4 : ((a.length : Nat) : Int) * n ≤ 16777216 := by
      obtain ⟨k, rfl⟩ : ∃ k : Nat, n = (k : Int) := ⟨n.toNat, by omega⟩
      rw [Int.toNat_natCast] at hl
      rw [← Int.natCast_mul]; omega
    have h6 : ((a.length : Nat) : Int) ≤ (2 ^ 63 - 1) / n := (Int.le_ediv_iff_mul_le (by omega)).mpr (by omega)
    omega
  · intro h1 h2
    rw [strN_length]
    unfold Builtin.Str.tooLong
    rw [sizeLine_eq]
    exact decide_eq_false (by omega)
theorem BinR.add_lst {a b : List D} (hl : a.length + b.length ≤ 16777216) : BinR c A .Add (.lst a) (.lst b) (.lst (a ++ b)) := by
  intro Z E s v₁ v₂ z h₁ h₂
  obtain ⟨l, vs, n, rfl, g, r⟩ := h₁.lst_inv
  obtain ⟨m, us, k, rfl, g', r'⟩ := h₂.lst_inv
  refine concat_meets ⟨_, g, rfl⟩ ⟨_, g', rfl⟩ noFill_list_add seq_list_add PySem.F.slot_list_add PySem.F.entry_list_add (PySem.F.args_list_add_2 _ _) (AutoSeq1.list___add___list_list_0 l vs.toArray n m us.toArray k (by rw [List.size_toArray, List.size_toArray, r.length, r'.length, sizeLine_eq]; exact hl)) ⟨g, g', ?_⟩
  have e : vs.toArray ++ us.toArray = (vs ++ us).toArray := by simp
  rw [e]
  refine ⟨.push, ?_, .size, .lst (vs := vs ++ us) (n := 0) (Heap.get?_push_size _ rfl) ((r.append r').offPush (get_size _))⟩
  refine (R.lst (vs := vs ++ us) (n := 0) (ZIn.fresh z.zin (get_size _)) (Heap.get?_push_size _ rfl) ?_)
  exact RL.keeps (s := s) (s' := { s with heap := s.heap.push _ }) (r.append r') .push
theorem BinR.mul_lst {a : List D} {n : Int} (hlo : -(2 ^ 40) < n) (hn : n < 2 ^ 40) (hl : a.length * n.toNat ≤ 16777216) : BinR c A .Mult (.lst a) (.int n) (.lst (rep a n.toNat)) := by
  intro Z E s v₁ v₂ z h₁ h₂
  obtain ⟨l, vs, k, rfl, g, r⟩ := h₁.lst_inv
  obtain ⟨u, rfl⟩ := h₂.int_inv
  have hlen := r.length
  refine wpAny_binaryOp_repeat_ref (T := "list") (U := "int") (by decide) ⟨_, g, rfl⟩ (fun s' => typeIs_int s' n u) noFill_list_mul PySem.F.fills_int_mul PySem.F.slot_int_rmul repeat_list PySem.F.slot_int_index.lookup
    (call_meets PySem.F.slot_int_rmul (typeIs_int s n u) PySem.F.entry_int_rmul (PySem.F.args_int_rmul_2 _ _) (int___rmul___int_list n u l vs.toArray k)
      ⟨g, rfl, ⟨_, g, rfl⟩, call_meets PySem.F.slot_list_mul ⟨_, g, rfl⟩ PySem.F.entry_list_mul (PySem.F.args_list_mul_2 _ _)
        (AutoListH.list___mul___list_int_3 l vs.toArray k n u (by unfold Builtin.List.listFitsIndex; rw [decide_eq_true (by omega : -(2 ^ 63 : Int) ≤ n), decide_eq_true (by omega : n < 2 ^ 63)]; exact Bool.false_ne_true) (by rw [List.size_toArray, hlen]; omega) (by rw [List.size_toArray, hlen]; unfold Builtin.List.listTooLong; rw [sizeLine_eq]; simp only [decide_eq_true_eq]; omega))
        ⟨g, ?_⟩⟩)
  have e : List.foldl (fun x1 x2 => x1 ++ x2) #[] (List.replicate (if vs.toArray.isEmpty = true then 0 else n.toNat) vs.toArray) = (rep vs n.toNat).toArray := by
    split
    · rename_i h
      have : vs = [] := by simpa using h
      subst this; rw [rep_nil]; rfl
    · exact foldl_rep _ _
  rw [e]
  have rr : ∀ m : Nat, RL c s (NZ Z) (rep vs m) (rep a m) := by
    intro m
    induction m with
    | zero => exact .nil
    | succ m ih => simp only [rep, List.replicate_succ, List.flatten_cons] at ih ⊢; exact r.append ih
  refine ⟨.push, ?_, .size, .lst (vs := rep vs n.toNat) (n := 0) (Heap.get?_push_size _ rfl) ((rr _).offPush (get_size _))⟩
  refine (R.lst (vs := rep vs n.toNat) (n := 0) (ZIn.fresh z.zin (get_size _)) (Heap.get?_push_size _ rfl) ?_)
  exact RL.keeps (s := s) (s' := { s with heap := s.heap.push _ }) (rr _) .push
end
end Mine

end

section
open PySem PySem.W PyProof.Rows
set_option Elab.async false
set_option linter.unusedVariables false
set_option maxRecDepth 4000
namespace Mine

mutual
def eqd : D → D → Bool
  | .none, .none => true
  | .bool a, .bool b => a == b
  | .int a, .int b => a == b
  | .str a, .str b => a == b
  | .flt _ _, .flt _ _ => true
  | .tup l, .tup m => eqdL l m
  | .lst l, .lst m => eqdL l m
  | _, _ => false
def eqdL : List D → List D → Bool
  | [], [] => true
  | a :: l, b :: m => eqd a b && eqdL l m
  | _, _ => false
end
mutual
/-- what may be compared by ==: floats only where they are the same -/
def cmpb : D → D → Bool
  | .none, .none => true
  | .bool _, .bool _ => true
  | .int _, .int _ => true
  | .str _, .str _ => true
  | .flt a fa, .flt b fb => a == b && Float64.cmp a a == some .eq && !Float64.isNaN a
  | .tup l, .tup m => cmpL l m
  | .lst l, .lst m => cmpL l m
  | _, _ => false
def cmpL : List D → List D → Bool
  | a :: l, b :: m => cmpb a b && cmpL l m
  | _, _ => true
end
mutual
def dep : D → Nat
  | .tup l => depL l + 1
  | .lst l => depL l + 1
  | _ => 0
def depL : List D → Nat
  | [] => 0
  | a :: l => max (dep a) (depL l)
end

theorem eqdL_len : ∀ {l m : List D}, eqdL l m = true → l.length = m.length
  | [], [], _ => rfl
  | a :: l, b :: m, h => by simp only [eqdL, Bool.and_eq_true] at h; simp [eqdL_len h.2]
  | [], _ :: _, h => by simp [eqdL] at h
  | _ :: _, [], h => by simp [eqdL] at h

section
variable {c : Cx} {s : Shared} {P : Addr → Prop}
mutual
theorem eqd_same : ∀ (d₁ d₂ : D) {v : Value}, cmpb d₁ d₂ = true → Rt c s P v d₁ → Rt c s P v d₂ → eqd d₁ d₂ = true
  | .none, .none, _, _, _, _ => rfl
  | .bool a, .bool b, _, _, r, q => by have := r.bool_inv; subst this; have := q.bool_inv; cases this; simp [eqd]
  | .int a, .int b, _, _, r, q => by obtain ⟨t, rfl⟩ := r.int_inv; obtain ⟨u, e⟩ := q.int_inv; cases e; simp [eqd]
  | .str a, .str b, _, _, r, q => by
    obtain ⟨t, rfl⟩ := r.str_inv; obtain ⟨u, e⟩ := q.str_inv
    have : a = b := by injection e with e1 e2; injection e1 with e3; simpa using e3
    subst this; simp [eqd]
  | .flt a fa, .flt b fb, _, _, _, _ => rfl
  | .tup l, .tup m, _, hc, r, q => by
    obtain ⟨a, vs, n, rfl, g, rl⟩ := r.tup_inv
    obtain ⟨b, us, k, e, g', ql⟩ := q.tup_inv
    cases e
    rw [g] at g'; simp only [Option.some.injEq, Obj.mk.injEq, Data.seq.injEq, true_and, and_true] at g'
    have : vs = us := by simpa using g'.1
    subst this
    exact eqdL_same l m (by simpa [cmpb] using hc) rl ql
  | .lst l, .lst m, _, hc, r, q => by
    obtain ⟨a, vs, n, rfl, g, rl⟩ := r.lst_inv
    obtain ⟨b, us, k, e, g', ql⟩ := q.lst_inv
    cases e
    rw [g] at g'; simp only [Option.some.injEq, Obj.mk.injEq, Data.seq.injEq, true_and, and_true] at g'
    have : vs = us := by simpa using g'.1
    subst this
    exact eqdL_same l m (by simpa [cmpb] using hc) rl ql
theorem eqdL_same : ∀ (l m : List D) {vs : List Value}, cmpL l m = true → RL c s P vs l → RL c s P vs m → eqdL l m = true
  | [], [], _, _, _, _ => rfl
  | a :: l, b :: m, _, hc, .cons r rl, .cons q ql => by
    simp only [cmpL, Bool.and_eq_true] at hc
    simp only [eqdL, Bool.and_eq_true]
    exact ⟨eqd_same a b hc.1 (.of r) (.of q), eqdL_same l m hc.2 rl ql⟩
  | [], b :: m, _, _, r, q => by cases r; cases q
  | a :: l, [], _, _, r, q => by cases r; cases q
end
end

def eqAtN (l m : List D) (j : Nat) : Bool := match l[j]?, m[j]? with
  | some a, some b => eqd a b
  | _, _ => false
theorem eqAtN_succ (a b : D) (l m : List D) (j : Nat) : eqAtN (a :: l) (b :: m) (j + 1) = eqAtN l m j := by simp [eqAtN]
theorem all_eqAtN : ∀ (l m : List D), ((List.range (min l.length m.length)).all (eqAtN l m) && l.length == m.length) = eqdL l m
  | [], [] => rfl
  | [], b :: m => by simp [eqdL]
  | a :: l, [] => by simp [eqdL]
  | a :: l, b :: m => by
    have ih := all_eqAtN l m
    simp only [List.length_cons, eqdL]
    rw [show min (l.length + 1) (m.length + 1) = min l.length m.length + 1 by omega, List.range_succ_eq_map, List.all_cons, List.all_map]
    have e1 : (eqAtN (a :: l) (b :: m) ∘ Nat.succ) = eqAtN l m := by funext j; exact eqAtN_succ a b l m j
    rw [e1, show eqAtN (a :: l) (b :: m) 0 = eqd a b from rfl, ← ih, Bool.and_assoc]
    congr 2
    rw [Bool.eq_iff_iff]; simp
theorem all_eqAtN' (l m : List D) (h : l.length = m.length) : (List.range l.length).all (eqAtN l m) = eqdL l m := by
  have := all_eqAtN l m
  rw [← h, Nat.min_self] at this
  simpa using this
theorem eqdL_ne {l m : List D} (h : l.length ≠ m.length) : eqdL l m = false := by
  cases e : eqdL l m with
  | false => rfl
  | true => exact absurd (eqdL_len e) h

section
variable {c : Cx}
open SeqAt in
theorem EqAt_flt {A : Around} {s : Shared} (hb : NoneBooked s.heap) {a : UInt64} {t u : Tok} (ht : t ≠ 0) (hu : u ≠ 0) (hc : Float64.cmp a a = some .eq) : EqAt A s (.float a t) (.float a u) true := fun prog w E Q h => by
  obtain ⟨mc, hn, hk⟩ := hb
  have fin : wpAny (model prog w) A (do truthOfDropped (← richCompare .Eq (.float a t) (.float a u))) Q E s := by
    refine wpAny_bind ?_
    have := AutoFloatOps.eq_0 (prog := prog) (w := w) (A := A) (E := E) (s := s) (a := a) (b := a) (t := t) (u := u) (Q := fun v s' => wpAny (model prog w) A (truthOfDropped v) Q E s') (by rw [hc]; exact wpAny_truthy_bool h)
    exact this
  unfold eqBool
  refine wpAny_holding ?_
  refine wpAny_ite_split (fun _ => wpAny_bind (wpAny_rule (wpAny_pure h))) (fun _ => ?_)
  show wpAny _ A (isSame (.float a t) (.float a u) >>= _) Q E s
  have look : ∀ {x : Tok} {K : Bool → Shared → Prop}, K false s → wpAny (model prog w) A (sharingNotTold x) K E s := fun hK => by
    unfold sharingNotTold
    refine wpAny_bind (wpAny_nsGet hn ?_)
    rw [hk]; exact wpAny_pure hK
  refine wpAny_bind ?_
  show wpAny _ A (isSame.created (a == a && !Float64.isNaN a) t u) _ _ _
  unfold isSame.created
  have e0 : (t == 0 || u == 0) = false := by simp [ht, hu]
  rw [e0]
  refine wpAny_ite ?_
  rw [if_neg Bool.false_ne_true]
  refine wpAny_ite_split (fun _ => wpAny_pure ?_) (fun _ => ?_)
  · exact wpAny_pure h
  refine wpAny_ite_split (fun _ => wpAny_pure ?_) (fun _ => ?_)
  · exact fin
  refine wpAny_bind (look ?_)
  refine wpAny_ite ?_
  rw [if_neg Bool.false_ne_true]
  refine wpAny_bind (look ?_)
  refine wpAny_ite ?_
  rw [if_neg Bool.false_ne_true]
  refine wpAny_bind (wpAny_rule (wpAny_bind (wpAny_askSetting (wpAny_pure ?_))))
  split
  · exact wpAny_pure h
  · exact fin

open SeqAt in
mutual
theorem eqAt_main (hb0 : NoneBooked c.h₀) : ∀ (d₁ d₂ : D), cmpb d₁ d₂ = true → ∀ (A : Around) (s : Shared) (P : Addr → Prop) (v₁ v₂ : Value), (∀ b o, c.h₀.get? b = some o → s.heap.get? b = some o) → A.units + dep d₁ < cLine →
    Rt c s P v₁ d₁ → Rt c s P v₂ d₂ → EqAt A s v₁ v₂ (eqd d₁ d₂)
  | .none, .none, _, A, s, P, v₁, v₂, _, _, r, q => by rw [r.none_inv, q.none_inv]; exact EqAt.same _
  | .bool a, .bool b, _, A, s, P, v₁, v₂, _, _, r, q => by rw [r.bool_inv, q.bool_inv]; exact EqAt.bool_bool a b
  | .int a, .int b, _, A, s, P, v₁, v₂, _, _, r, q => by obtain ⟨t, rfl⟩ := r.int_inv; obtain ⟨u, rfl⟩ := q.int_inv; exact EqAt.int_int a t b u
  | .str a, .str b, _, A, s, P, v₁, v₂, _, _, r, q => by
    obtain ⟨t, rfl⟩ := r.str_inv; obtain ⟨u, rfl⟩ := q.str_inv
    have := EqAt.str_str (A := A) (s := s) (⟨a.toArray⟩ : Str) t ⟨b.toArray⟩ u
    rw [Mine.str_beq] at this
    exact this
  | .flt a fa, .flt b fb, hc, A, s, P, v₁, v₂, hk, _, r, q => by
    obtain ⟨t, rfl, ht, _⟩ := r.flt_inv; obtain ⟨u, rfl, hu, _⟩ := q.flt_inv
    simp only [cmpb, Bool.and_eq_true, beq_iff_eq] at hc
    obtain ⟨⟨rfl, hc⟩, _⟩ := hc
    obtain ⟨mc, hn, hm⟩ := hb0
    exact EqAt_flt ⟨mc, hn.keeps hk, hm⟩ ht hu hc
  | .tup l, .tup m, hc, A, s, P, v₁, v₂, hk, hd, r, q => by
    have hc' : cmpL l m = true := by simpa [cmpb] using hc
    have hd' : A.in1.units + depL l < cLine := by simp only [dep] at hd; rw [Around.in1_units]; omega
    obtain ⟨a, vs, n, rfl, g, rl⟩ := r.tup_inv
    obtain ⟨b, us, k, rfl, g', ql⟩ := q.tup_inv
    by_cases hab : a = b
    · subst hab
      rw [eqd_same (.tup l) (.tup m) hc r q]; exact EqAt.same _
    · have key := RcAt.tuples (A := A) (s := s) (l := a) (b := b) (items := vs.toArray) (items2 := us.toArray) (e := eqAtN l m) ⟨_, g, rfl, n, rfl⟩ ⟨_, g', rfl, k, rfl⟩ (by omega)
        (fun j h1 h2 => by simpa using eqAt_list hb0 l m hc' A.in1 s P vs us hk hd' rl ql j (by simpa using h1) (by simpa using h2))
      rw [List.size_toArray, List.size_toArray, rl.length, ql.length, all_eqAtN] at key
      exact EqAt.of_refs hab key
  | .lst l, .lst m, hc, A, s, P, v₁, v₂, hk, hd, r, q => by
    have hc' : cmpL l m = true := by simpa [cmpb] using hc
    have hd' : A.in1.units + depL l < cLine := by simp only [dep] at hd; rw [Around.in1_units]; omega
    obtain ⟨a, vs, n, rfl, g, rl⟩ := r.lst_inv
    obtain ⟨b, us, k, rfl, g', ql⟩ := q.lst_inv
    by_cases hab : a = b
    · subst hab
      rw [eqd_same (.lst l) (.lst m) hc r q]; exact EqAt.same _
    · by_cases hlen : l.length = m.length
      · have key := RcAt.lists (A := A) (s := s) (l := a) (b := b) (items := vs.toArray) (items2 := us.toArray) (e := eqAtN l m) (isList_of g) (isList_of g') (by rw [List.size_toArray, List.size_toArray, rl.length, ql.length]; exact hlen) (by omega)
          (fun j h1 h2 => by simpa using eqAt_list hb0 l m hc' A.in1 s P vs us hk hd' rl ql j (by simpa using h1) (by simpa using h2))
        rw [List.size_toArray, rl.length, all_eqAtN' l m hlen] at key
        exact EqAt.of_refs hab key
      · have key := RcAt.lists_lengths (A := A) (s := s) (l := a) (b := b) (items := vs.toArray) (items2 := us.toArray) (isList_of g) (isList_of g') (by rw [List.size_toArray, List.size_toArray, rl.length, ql.length]; simpa using hlen) (by omega)
        rw [← eqdL_ne hlen] at key
        exact EqAt.of_refs hab key
  | .none, .bool _, hc, _, _, _, _, _, _, _, _, _ => by simp [cmpb] at hc
  | .none, .int _, hc, _, _, _, _, _, _, _, _, _ => by simp [cmpb] at hc
  | .none, .flt _ _, hc, _, _, _, _, _, _, _, _, _ => by simp [cmpb] at hc
  | .none, .str _, hc, _, _, _, _, _, _, _, _, _ => by simp [cmpb] at hc
  | .none, .tup _, hc, _, _, _, _, _, _, _, _, _ => by simp [cmpb] at hc
  | .none, .lst _, hc, _, _, _, _, _, _, _, _, _ => by simp [cmpb] at hc
  | .none, .raw _, hc, _, _, _, _, _, _, _, _, _ => by simp [cmpb] at hc
  | .none, .obj _ _, hc, _, _, _, _, _, _, _, _, _ => by simp [cmpb] at hc
  | .none, .dct _, hc, _, _, _, _, _, _, _, _, _ => by simp [cmpb] at hc
  | .bool _, .none, hc, _, _, _, _, _, _, _, _, _ => by simp [cmpb] at hc
  | .bool _, .int _, hc, _, _, _, _, _, _, _, _, _ => by simp [cmpb] at hc
  | .bool _, .flt _ _, hc, _, _, _, _, _, _, _, _, _ => by simp [cmpb] at hc
  | .bool _, .str _, hc, _, _, _, _, _, _, _, _, _ => by simp [cmpb] at hc
  | .bool _, .tup _, hc, _, _, _, _, _, _, _, _, _ => by simp [cmpb] at hc
  | .bool _, .lst _, hc, _, _, _, _, _, _, _, _, _ => by simp [cmpb] at hc
  | .bool _, .raw _, hc, _, _, _, _, _, _, _, _, _ => by simp [cmpb] at hc
  | .bool _, .obj _ _, hc, _, _, _, _, _, _, _, _, _ => by simp [cmpb] at hc
  | .bool _, .dct _, hc, _, _, _, _, _, _, _, _, _ => by simp [cmpb] at hc
  | .int _, .none, hc, _, _, _, _, _, _, _, _, _ => by simp [cmpb] at hc
  | .int _, .bool _, hc, _, _, _, _, _, _, _, _, _ => by simp [cmpb] at hc
  | .int _, .flt _ _, hc, _, _, _, _, _, _, _, _, _ => by simp [cmpb] at hc
  | .int _, .str _, hc, _, _, _, _, _, _, _, _, _ => by simp [cmpb] at hc
  | .int _, .tup _, hc, _, _, _, _, _, _, _, _, _ => by simp [cmpb] at hc
  | .int _, .lst _, hc, _, _, _, _, _, _, _, _, _ => by simp [cmpb] at hc
  | .int _, .raw _, hc, _, _, _, _, _, _, _, _, _ => by simp [cmpb] at hc
  | .int _, .obj _ _, hc, _, _, _, _, _, _, _, _, _ => by simp [cmpb] at hc
  | .int _, .dct _, hc, _, _, _, _, _, _, _, _, _ => by simp [cmpb] at hc
  | .flt _ _, .none, hc, _, _, _, _, _, _, _, _, _ => by simp [cmpb] at hc
  | .flt _ _, .bool _, hc, _, _, _, _, _, _, _, _, _ => by simp [cmpb] at hc
  | .flt _ _, .int _, hc, _, _, _, _, _, _, _, _, _ => by simp [cmpb] at hc
  | .flt _ _, .str _, hc, _, _, _, _, _, _, _, _, _ => by simp [cmpb] at hc
  | .flt _ _, .tup _, hc, _, _, _, _, _, _, _, _, _ => by simp [cmpb] at hc
  | .flt _ _, .lst _, hc, _, _, _, _, _, _, _, _, _ => by simp [cmpb] at hc
  | .flt _ _, .raw _, hc, _, _, _, _, _, _, _, _, _ => by simp [cmpb] at hc
  | .flt _ _, .obj _ _, hc, _, _, _, _, _, _, _, _, _ => by simp [cmpb] at hc
  | .flt _ _, .dct _, hc, _, _, _, _, _, _, _, _, _ => by simp [cmpb] at hc
  | .str _, .none, hc, _, _, _, _, _, _, _, _, _ => by simp [cmpb] at hc
  | .str _, .bool _, hc, _, _, _, _, _, _, _, _, _ => by simp [cmpb] at hc
  | .str _, .int _, hc, _, _, _, _, _, _, _, _, _ => by simp [cmpb] at hc
  | .str _, .flt _ _, hc, _, _, _, _, _, _, _, _, _ => by simp [cmpb] at hc
  | .str _, .tup _, hc, _, _, _, _, _, _, _, _, _ => by simp [cmpb] at hc
  | .str _, .lst _, hc, _, _, _, _, _, _, _, _, _ => by simp [cmpb] at hc
  | .str _, .raw _, hc, _, _, _, _, _, _, _, _, _ => by simp [cmpb] at hc
  | .str _, .obj _ _, hc, _, _, _, _, _, _, _, _, _ => by simp [cmpb] at hc
  | .str _, .dct _, hc, _, _, _, _, _, _, _, _, _ => by simp [cmpb] at hc
  | .tup _, .none, hc, _, _, _, _, _, _, _, _, _ => by simp [cmpb] at hc
  | .tup _, .bool _, hc, _, _, _, _, _, _, _, _, _ => by simp [cmpb] at hc
  | .tup _, .int _, hc, _, _, _, _, _, _, _, _, _ => by simp [cmpb] at hc
  | .tup _, .flt _ _, hc, _, _, _, _, _, _, _, _, _ => by simp [cmpb] at hc
  | .tup _, .str _, hc, _, _, _, _, _, _, _, _, _ => by simp [cmpb] at hc
  | .tup _, .lst _, hc, _, _, _, _, _, _, _, _, _ => by simp [cmpb] at hc
  | .tup _, .raw _, hc, _, _, _, _, _, _, _, _, _ => by simp [cmpb] at hc
  | .tup _, .obj _ _, hc, _, _, _, _, _, _, _, _, _ => by simp [cmpb] at hc
  | .tup _, .dct _, hc, _, _, _, _, _, _, _, _, _ => by simp [cmpb] at hc
  | .lst _, .none, hc, _, _, _, _, _, _, _, _, _ => by simp [cmpb] at hc
  | .lst _, .bool _, hc, _, _, _, _, _, _, _, _, _ => by simp [cmpb] at hc
  | .lst _, .int _, hc, _, _, _, _, _, _, _, _, _ => by simp [cmpb] at hc
  | .lst _, .flt _ _, hc, _, _, _, _, _, _, _, _, _ => by simp [cmpb] at hc
  | .lst _, .str _, hc, _, _, _, _, _, _, _, _, _ => by simp [cmpb] at hc
  | .lst _, .tup _, hc, _, _, _, _, _, _, _, _, _ => by simp [cmpb] at hc
  | .lst _, .raw _, hc, _, _, _, _, _, _, _, _, _ => by simp [cmpb] at hc
  | .lst _, .obj _ _, hc, _, _, _, _, _, _, _, _, _ => by simp [cmpb] at hc
  | .lst _, .dct _, hc, _, _, _, _, _, _, _, _, _ => by simp [cmpb] at hc
  | .raw _, _, hc, _, _, _, _, _, _, _, _, _ => by simp [cmpb] at hc
  | .obj _ _, _, hc, _, _, _, _, _, _, _, _, _ => by simp [cmpb] at hc
  | .dct _, _, hc, _, _, _, _, _, _, _, _, _ => by simp [cmpb] at hc
theorem eqAt_list (hb0 : NoneBooked c.h₀) : ∀ (l m : List D), cmpL l m = true → ∀ (A : Around) (s : Shared) (P : Addr → Prop) (vs us : List Value), (∀ b o, c.h₀.get? b = some o → s.heap.get? b = some o) → A.units + depL l < cLine →
    RL c s P vs l → RL c s P us m → ∀ (j : Nat) (h1 : j < vs.length) (h2 : j < us.length), EqAt A s vs[j] us[j] (eqAtN l m j)
  | a :: l, b :: m, hc, A, s, P, v :: vs, u :: us, hk, hd, .cons r rl, .cons q ql, j, h1, h2 => by
    simp only [cmpL, Bool.and_eq_true] at hc
    cases j with
    | zero => exact eqAt_main hb0 a b hc.1 A s P v u hk (by simp only [depL] at hd; omega) (.of r) (.of q)
    | succ j =>
      rw [eqAtN_succ]
      exact eqAt_list hb0 l m hc.2 A s P vs us hk (by simp only [depL] at hd; omega) rl ql j (by simpa using h1) (by simpa using h2)
  | [], m, _, A, s, P, [], us, _, _, _, _, j, h1, h2 => by simp at h1
  | _ :: _, [], _, A, s, P, vs, [], _, _, _, _, j, h1, h2 => by simp at h2
end

theorem CmpR.eq_seq {A : Around} {d₁ d₂ : D} (hs : (∃ l m, d₁ = .tup l ∧ d₂ = .tup m) ∨ (∃ l m, d₁ = .lst l ∧ d₂ = .lst m)) (hc : cmpb d₁ d₂ = true) (hu : A.units + dep d₁ < cLine) : ∀ (Z : Addr → Prop) (E : Value → Shared → Prop) (s : Shared) (v₁ v₂ : Value), Pre c Z s → Rt c s (NZ Z) v₁ d₁ → Rt c s (NZ Z) v₂ d₂ →
    ∀ Q : Value → Shared → Prop, Q (.bool (eqd d₁ d₂)) s → wpAny (model c.prog c.w) A (richCompare .Eq v₁ v₂) Q E s := by
  intro Z E s v₁ v₂ z r q Q h
  rcases hs with ⟨l, m, rfl, rfl⟩ | ⟨l, m, rfl, rfl⟩
  · have hc' : cmpL l m = true := by simpa [cmpb] using hc
    have hd' : A.in1.units + depL l < cLine := by simp only [dep] at hu; rw [Around.in1_units]; omega
    obtain ⟨a, vs, n, rfl, g, rl⟩ := r.tup_inv
    obtain ⟨b, us, k, rfl, g', ql⟩ := q.tup_inv
    have key := SeqAt.RcAt.tuples (A := A) (s := s) (l := a) (b := b) (items := vs.toArray) (items2 := us.toArray) (e := eqAtN l m) ⟨_, g, rfl, n, rfl⟩ ⟨_, g', rfl, k, rfl⟩ (by omega)
      (fun j h1 h2 => by simpa using eqAt_list c.nb l m hc' A.in1 s _ vs us z.keep hd' rl ql j (by simpa using h1) (by simpa using h2))
    rw [List.size_toArray, List.size_toArray, rl.length, ql.length, all_eqAtN] at key
    exact key c.prog c.w E Q h
  · have hc' : cmpL l m = true := by simpa [cmpb] using hc
    have hd' : A.in1.units + depL l < cLine := by simp only [dep] at hu; rw [Around.in1_units]; omega
    obtain ⟨a, vs, n, rfl, g, rl⟩ := r.lst_inv
    obtain ⟨b, us, k, rfl, g', ql⟩ := q.lst_inv
    by_cases hlen : l.length = m.length
    · have key := SeqAt.RcAt.lists (A := A) (s := s) (l := a) (b := b) (items := vs.toArray) (items2 := us.toArray) (e := eqAtN l m) (isList_of g) (isList_of g') (by rw [List.size_toArray, List.size_toArray, rl.length, ql.length]; exact hlen) (by omega)
        (fun j h1 h2 => by simpa using eqAt_list c.nb l m hc' A.in1 s _ vs us z.keep hd' rl ql j (by simpa using h1) (by simpa using h2))
      rw [List.size_toArray, rl.length, all_eqAtN' l m hlen] at key
      exact key c.prog c.w E Q h
    · have key := SeqAt.RcAt.lists_lengths (A := A) (s := s) (l := a) (b := b) (items := vs.toArray) (items2 := us.toArray) (isList_of g) (isList_of g') (by rw [List.size_toArray, List.size_toArray, rl.length, ql.length]; simpa using hlen) (by omega)
      rw [← eqdL_ne hlen] at key
      exact key c.prog c.w E Q h
end
end Mine

end

section
open PySem PySem.W PyProof.Rows
set_option Elab.async false
set_option linter.unusedVariables false
set_option maxRecDepth 4000
namespace Mine

def small (a : Int) : Prop := -1152921504606846976 < a ∧ a < 1152921504606846976
theorem small_bits {a : Int} (h : small a) : Builtin.Int.intBits a ≤ 60 := by
  unfold Builtin.Int.intBits
  split
  · omega
  · rename_i h0
    have h1 : a.natAbs ≠ 0 := by simpa using h0
    have : a.natAbs.log2 < 60 := (Nat.log2_lt h1).mpr (by have := h.1; have := h.2; omega)
    omega
theorem small_pylong {a b : Int} (h : small b) : Builtin.divisionGoesByPylong a b = false := by
  unfold Builtin.divisionGoesByPylong
  have : (if (b == 0) = true then 0 else b.natAbs.log2 / 30 + 1) ≤ 300 := by
    split
    · omega
    · rename_i h0
      have h1 : b.natAbs ≠ 0 := by simpa using h0
      have : b.natAbs.log2 < 60 := (Nat.log2_lt h1).mpr (by have := h.1; have := h.2; omega)
      omega
  dsimp only
  rw [decide_eq_false (by omega)]
  rfl

def binW (op : Operator) (d₁ d₂ : D) (K : D → Prop) : Prop :=
  match op, d₁, d₂ with
  | .Add, .int a, .int b => K (.int (a + b))
  | .Sub, .int a, .int b => K (.int (a - b))
  | .Mult, .int a, .int b => small a ∧ K (.int (a * b))
  | .FloorDiv, .int a, .int b => (b ≠ 0 ∧ small b) ∧ K (.int (a.fdiv b))
  | .Mod, .int a, .int b => b ≠ 0 ∧ K (.int (a.fmod b))
  | .Pow, .int a, .int b => (0 ≤ b ∧ b ≤ 64 ∧ small a) ∧ K (.int (a ^ b.toNat))
  | .LShift, .int a, .int b => (0 ≤ b ∧ b ≤ 64 ∧ small a) ∧ K (.int (a * 2 ^ b.toNat))
  | .RShift, .int a, .int b => 0 ≤ b ∧ K (.int (a.fdiv (2 ^ b.toNat)))
  | .BitAnd, .int a, .int b => K (.int (Builtin.bitAnd a b))
  | .BitXor, .int a, .int b => K (.int (Builtin.bitXor a b))
  | .Div, .int a, .int b => (b ≠ 0 ∧ Float64.isInf (divII a b) = false) ∧ K (.flt (divII a b) .new)
  | .Add, .flt a _, .flt b _ => K (.flt (Float64.add a b) .new)
  | .Sub, .flt a _, .flt b _ => K (.flt (Float64.sub a b) .new)
  | .Mult, .flt a _, .flt b _ => K (.flt (Float64.mul a b) .new)
  | .Div, .flt a _, .flt b _ => Float64.isZero b = false ∧ K (.flt (Float64.div a b) .new)
  | .Mod, .flt a _, .flt b _ => Float64.isZero b = false ∧ K (.flt (fmodF a b) .new)
  | .Sub, .flt a _, .int b => Float64.isInf (Float64.ofInt b) = false ∧ K (.flt (Float64.sub a (Float64.ofInt b)) .new)
  | .Add, .flt a _, .int b => Float64.isInf (Float64.ofInt b) = false ∧ K (.flt (Float64.add a (Float64.ofInt b)) .new)
  | .Div, .flt a _, .int b => (Float64.isInf (Float64.ofInt b) = false ∧ Float64.isZero (Float64.ofInt b) = false) ∧ K (.flt (Float64.div a (Float64.ofInt b)) .new)
  | .Add, .str a, .str b => a.length + b.length ≤ 16777216 ∧ K (.str (a ++ b))
  | .Mult, .str a, .int b => (b < 1099511627776 ∧ -1099511627776 < b ∧ a.length * b.toNat ≤ 16777216) ∧ K (.str (rep a b.toNat))
  | .Add, .lst a, .lst b => a.length + b.length ≤ 16777216 ∧ K (.lst (a ++ b))
  | .Mult, .lst a, .int b => (-1099511627776 < b ∧ b < 1099511627776 ∧ a.length * b.toNat ≤ 16777216) ∧ K (.lst (rep a b.toNat))
  | _, _, _ => False

theorem nb {b : Bool} (h : b = false) : ¬ b = true := by rw [h]; exact Bool.false_ne_true
theorem binW_ok {c : Cx} {A : Around} (hp : 1 ≤ c.lo) {op : Operator} {d₁ d₂ : D} {K : D → Prop} (h : binW op d₁ d₂ K) : ∃ d, K d ∧ BinR c A op d₁ d₂ d := by
  unfold binW at h
  split at h
  · exact ⟨_, h, .add_int⟩
  · exact ⟨_, h, .sub_int⟩
  · exact ⟨_, h.2, .mul_int (.of_left (Nat.le_trans (small_bits h.1) (by omega)))⟩
  · exact ⟨_, h.2, .fdiv_int h.1.1 (small_pylong h.1.2)⟩
  · exact ⟨_, h.2, .mod_int h.1⟩
  · rename_i a b
    refine ⟨_, h.2, .pow_int h.1.1 ?_⟩
    have h1 := small_bits h.1.2.2
    have h2 : ((Builtin.Int.intBits a : Nat) : Int) * b ≤ 60 * 64 := Int.mul_le_mul (by omega) h.1.2.1 h.1.1 (by omega)
    omega
  · refine ⟨_, h.2, .shl_int h.1.1 ?_⟩
    have h1 := small_bits h.1.2.2
    omega
  · exact ⟨_, h.2, .shr_int h.1⟩
  · exact ⟨_, h, .and_int⟩
  · exact ⟨_, h, .xor_int⟩
  · exact ⟨_, h.2, .div_int hp h.1.1 (nb h.1.2)⟩
  · exact ⟨_, h, .add_flt hp⟩
  · exact ⟨_, h, .sub_flt hp⟩
  · exact ⟨_, h, .mul_flt hp⟩
  · exact ⟨_, h.2, .div_flt hp (nb h.1)⟩
  · exact ⟨_, h.2, .mod_flt hp (nb h.1)⟩
  · exact ⟨_, h.2, .sub_fi hp (nb h.1)⟩
  · exact ⟨_, h.2, .add_fi hp (nb h.1)⟩
  · exact ⟨_, h.2, .div_fi hp (nb h.1.1) (nb h.1.2)⟩
  · exact ⟨_, h.2, .add_str h.1⟩
  · exact ⟨_, h.2, .mul_str (by omega) (by omega) h.1.2.2⟩
  · exact ⟨_, h.2, .add_lst h.1⟩
  · exact ⟨_, h.2, .mul_lst (by omega) (by omega) h.1.2.2⟩
  · exact h.elim

def ibinW (op : Operator) (d₁ d₂ : D) (K : D → Prop) : Prop :=
  match op, d₁, d₂ with
  | .Add, .int a, .int b => K (.int (a + b))
  | .Sub, .int a, .int b => K (.int (a - b))
  | .Mult, .int a, .int b => small a ∧ K (.int (a * b))
  | .BitXor, .int a, .int b => K (.int (Builtin.bitXor a b))
  | .Add, .str a, .str b => a.length + b.length ≤ 16777216 ∧ K (.str (a ++ b))
  | _, _, _ => False
theorem ibinW_ok {c : Cx} {A : Around} {op : Operator} {d₁ d₂ : D} {K : D → Prop} (h : ibinW op d₁ d₂ K) : ∃ d, K d ∧ IBinR c A op d₁ d₂ d := by
  unfold ibinW at h
  split at h
  · exact ⟨_, h, .add_int⟩
  · exact ⟨_, h, .sub_int⟩
  · exact ⟨_, h.2, .mul_int (.of_left (Nat.le_trans (small_bits h.1) (by omega)))⟩
  · exact ⟨_, h, .xor_int⟩
  · exact ⟨_, h.2, .add_str h.1⟩
  · exact h.elim

def truW (d : D) (K : Bool → Prop) : Prop :=
  match d with
  | .bool b => K b
  | .int a => K (a != 0)
  | .str l => l.length ≤ 16777216 ∧ K (!l.isEmpty)
  | .lst l => l.length ≤ 16777216 ∧ K (!l.isEmpty)
  | _ => False
theorem truW_ok {c : Cx} {A : Around} {d : D} {K : Bool → Prop} (h : truW d K) : ∃ b, K b ∧ TruR c A d b := by
  unfold truW at h
  split at h
  · exact ⟨_, h, .bool⟩
  · exact ⟨_, h, .int⟩
  · exact ⟨_, h.2, .str h.1⟩
  · exact ⟨_, h.2, .lst h.1⟩
  · exact h.elim
def unW (op : UnaryOp) (d : D) (K : D → Prop) : Prop :=
  match op, d with
  | .USub, .int a => K (.int (-a))
  | .Not, d => truW d fun b => K (.bool (!b))
  | _, _ => False
theorem unW_ok {c : Cx} {A : Around} {op : UnaryOp} {d₁ : D} {K : D → Prop} (h : unW op d₁ K) : ∃ d, K d ∧ UnR c A op d₁ d := by
  unfold unW at h
  split at h
  · exact ⟨_, h, .neg_int⟩
  · obtain ⟨b, hb, t⟩ := truW_ok (c := c) (A := A) h
    exact ⟨_, hb, .not t⟩
  · exact h.elim

section
variable {c : Cx} {A : Around}
theorem cLine_eq : cLine = 9900 := rfl
theorem CmpR.eq_sq {d₁ d₂ : D} (hs : (∃ l m, d₁ = .tup l ∧ d₂ = .tup m) ∨ (∃ l m, d₁ = .lst l ∧ d₂ = .lst m)) (hc : cmpb d₁ d₂ = true) (hu : A.units + dep d₁ < cLine) : CmpR c A .Eq d₁ d₂ (eqd d₁ d₂) := fun Z E s v₁ v₂ z r q =>
  CmpR.eq_seq hs hc hu Z E s v₁ v₂ z r q _ ⟨.rfl', rfl⟩
theorem CmpR.ne_tup {l m : List D} (hc : cmpL l m = true) (hu : A.units + (depL l + 1) < cLine) : CmpR c A .NotEq (.tup l) (.tup m) (!eqdL l m) := by
  intro Z E s v₁ v₂ z r q
  have hd' : A.in1.units + depL l < cLine := by rw [Around.in1_units]; omega
  obtain ⟨a, vs, n, rfl, g, rl⟩ := r.tup_inv
  obtain ⟨b, us, k, rfl, g', ql⟩ := q.tup_inv
  have key := SeqAt.RcNeAt.tuples (A := A) (s := s) (l := a) (b := b) (items := vs.toArray) (items2 := us.toArray) (e := eqAtN l m) ⟨_, g, rfl, n, rfl⟩ ⟨_, g', rfl, k, rfl⟩ (by omega)
    (fun j h1 h2 => by simpa using eqAt_list c.nb l m hc A.in1 s _ vs us z.keep hd' rl ql j (by simpa using h1) (by simpa using h2))
  rw [List.size_toArray, List.size_toArray, rl.length, ql.length, all_eqAtN] at key
  exact key c.prog c.w E _ ⟨.rfl', rfl⟩
theorem CmpR.ne_lst {l m : List D} (hc : cmpL l m = true) (hu : A.units + (depL l + 1) < cLine) : CmpR c A .NotEq (.lst l) (.lst m) (!eqdL l m) := by
  intro Z E s v₁ v₂ z r q
  have hd' : A.in1.units + depL l < cLine := by rw [Around.in1_units]; omega
  obtain ⟨a, vs, n, rfl, g, rl⟩ := r.lst_inv
  obtain ⟨b, us, k, rfl, g', ql⟩ := q.lst_inv
  by_cases hlen : l.length = m.length
  · have key := SeqAt.RcNeAt.lists (A := A) (s := s) (l := a) (b := b) (items := vs.toArray) (items2 := us.toArray) (e := eqAtN l m) (isList_of g) (isList_of g') (by rw [List.size_toArray, List.size_toArray, rl.length, ql.length]; exact hlen) (by omega)
      (fun j h1 h2 => by simpa using eqAt_list c.nb l m hc A.in1 s _ vs us z.keep hd' rl ql j (by simpa using h1) (by simpa using h2))
    rw [List.size_toArray, rl.length, all_eqAtN' l m hlen] at key
    exact key c.prog c.w E _ ⟨.rfl', rfl⟩
  · have key := SeqAt.RcNeAt.lists_lengths (A := A) (s := s) (l := a) (b := b) (items := vs.toArray) (items2 := us.toArray) (isList_of g) (isList_of g') (by rw [List.size_toArray, List.size_toArray, rl.length, ql.length]; simpa using hlen) (by omega)
    rw [show true = !eqdL l m by rw [eqdL_ne hlen]; rfl] at key
    exact key c.prog c.w E _ ⟨.rfl', rfl⟩

def intIs (a : Int) : Value → Bool
  | .int b _ => b == a
  | _ => false
theorem RL.ints_inv {s : Shared} {P : Addr → Prop} : ∀ {l : List Int} {vs : List Value}, RL c s P vs (l.map D.int) → ∀ v ∈ vs, ∃ b t, v = .int b t
  | [], _, .nil, v, hv => by cases hv
  | a :: l, _, .cons r rl, v, hv => by
    rcases List.mem_cons.mp hv with rfl | hv
    · obtain ⟨t, rfl⟩ := Rt.int_inv (.of r); exact ⟨_, _, rfl⟩
    · exact RL.ints_inv rl v hv
theorem RL.ints_any {s : Shared} {P : Addr → Prop} (a : Int) : ∀ {l : List Int} {vs : List Value}, RL c s P vs (l.map D.int) → vs.any (intIs a) = l.contains a
  | [], _, .nil => rfl
  | b :: l, _, .cons r rl => by
    obtain ⟨t, rfl⟩ := Rt.int_inv (.of r)
    rw [List.any_cons, RL.ints_any a rl, List.contains_cons]
    congr 1
    show (b == a) = (a == b)
    exact Bool.beq_comm
theorem CmpR.in_ints {a : Int} {l : List Int} : CmpR c A .In (.int a) (.lst (l.map D.int)) (l.contains a) := by
  intro Z E s v₁ v₂ z r q
  obtain ⟨t, rfl⟩ := r.int_inv
  obtain ⟨b, us, k, rfl, g', ql⟩ := q.lst_inv
  refine SeqAt.in_listAt (intIs a) (isList_of g') (fun y hy => ?_) ⟨.rfl', ?_⟩
  · obtain ⟨b, u, rfl⟩ := ql.ints_inv y (by simpa using hy)
    exact SeqAt.EqAt.int_int b u a t
  · rw [← RL.ints_any a ql]; simp
theorem CmpR.notIn_ints {a : Int} {l : List Int} : CmpR c A .NotIn (.int a) (.lst (l.map D.int)) (!l.contains a) := by
  intro Z E s v₁ v₂ z r q
  obtain ⟨t, rfl⟩ := r.int_inv
  obtain ⟨b, us, k, rfl, g', ql⟩ := q.lst_inv
  refine SeqAt.notIn_listAt (intIs a) (isList_of g') (fun y hy => ?_) ⟨.rfl', ?_⟩
  · obtain ⟨b, u, rfl⟩ := ql.ints_inv y (by simpa using hy)
    exact SeqAt.EqAt.int_int b u a t
  · rw [← RL.ints_any a ql]; simp
/-- where a text lies in another -/
def occ (y x : List Nat) : List Nat := Builtin.Str.occurrences ⟨x.toArray⟩ ⟨y.toArray⟩ 0 x.length 1
theorem CmpR.in_str {a b : List Nat} : CmpR c A .In (.str a) (.str b) (!(occ a b).isEmpty) := .strs fun _ _ _ _ _ h => by
  with_reducible refine PyProof.Rows.in_str ?_
  rw [strN_length]; exact h
theorem CmpR.notIn_str {a b : List Nat} : CmpR c A .NotIn (.str a) (.str b) (!(!(occ a b).isEmpty)) := .strs fun _ _ _ _ _ h => by
  with_reducible refine PyProof.Rows.notIn_str ?_
  rw [strN_length]; exact h
end

/-- a new number among numbers: each is the same or older -/
def okF (x : UInt64) (l : List D) : Bool := l.all fun d => match d with
  | .flt y fr => (y == x && Float64.cmp x x == some .eq) || (fr == .old && y != x)
  | _ => false
def inF (x : UInt64) (l : List D) : Bool := l.any fun d => match d with
  | .flt y _ => Float64.cmp y x == some .eq
  | _ => false
def fltIs (x : UInt64) : Value → Bool
  | .float y _ => Float64.cmp y x == some .eq
  | _ => false
section
variable {c : Cx} {A : Around}
open SeqAt in
theorem EqAt_fltNe {A : Around} {s : Shared} {a b : UInt64} {t u : Tok} (ht : t ≠ 0) (hu : u ≠ 0) (hab : a ≠ b) (htu : t ≠ u) : EqAt A s (.float a t) (.float b u) (Float64.cmp a b == some .eq) := fun prog w E Q h => by
  have fin : wpAny (model prog w) A (do truthOfDropped (← richCompare .Eq (.float a t) (.float b u))) Q E s := by
    refine wpAny_bind ?_
    exact AutoFloatOps.eq_0 (prog := prog) (w := w) (A := A) (E := E) (s := s) (a := a) (b := b) (t := t) (u := u) (Q := fun v s' => wpAny (model prog w) A (truthOfDropped v) Q E s') (wpAny_truthy_bool h)
  unfold eqBool
  refine wpAny_holding ?_
  refine wpAny_ite_split (fun hc => absurd hc ?_) (fun _ => ?_)
  · simp [hab, htu]
  show wpAny _ A (isSame (.float a t) (.float b u) >>= _) Q E s
  refine wpAny_bind ?_
  show wpAny _ A (isSame.created (a == b && !Float64.isNaN a) t u) _ _ _
  unfold isSame.created
  have e0 : (t == 0 || u == 0) = false := by simp [ht, hu]
  have e1 : (a == b && !Float64.isNaN a) = false := by simp [hab]
  have e2 : (t == u) = false := by simp [htu]
  rw [e0, e1, e2]
  refine wpAny_ite ?_
  rw [if_neg Bool.false_ne_true]
  refine wpAny_ite ?_
  rw [if_neg Bool.false_ne_true]
  exact wpAny_ite (by rw [if_pos (by rfl)]; exact wpAny_pure fin)
open SeqAt in
theorem EqAt_fltAny {s : Shared} {P : Addr → Prop} (hk : ∀ b o, c.h₀.get? b = some o → s.heap.get? b = some o) {v : Value} {d : D} {x : UInt64} {u : Tok} (r : R c s P v d) (hu : u ≠ 0) (hl : c.lo ≤ u) (ho : okF x [d] = true) : EqAt A s v (.float x u) (fltIs x v) ∧ inF x [d] = fltIs x v := by
  cases d with
  | flt y fr =>
    obtain ⟨t, rfl, ht, hg, _⟩ := Rt.flt_inv (.of r)
    refine ⟨?_, by simp [inF, fltIs]⟩
    simp only [okF, List.all_cons, List.all_nil, Bool.and_true, Bool.or_eq_true, Bool.and_eq_true, beq_iff_eq] at ho
    by_cases hyx : y = x
    · subst hyx
      have hc : Float64.cmp y y = some .eq := ho.elim (fun h => h.2) fun h => by simp at h
      obtain ⟨mc, hn, hm⟩ := c.nb
      have := EqAt_flt (A := A) (t := t) (u := u) (hb := ⟨mc, hn.keeps hk, hm⟩) ht hu hc
      simpa [fltIs, hc] using this
    · rcases ho with ho | ho
      · exact absurd ho.1 hyx
      · have h1 := hg.2 ho.1
        exact EqAt_fltNe ht hu hyx (by intro e; rw [e] at h1; exact Nat.lt_irrefl _ (Nat.lt_of_lt_of_le h1 hl))
  | _ => simp [okF] at ho
theorem RL.mem {s : Shared} {P : Addr → Prop} {v : Value} : ∀ {vs : List Value} {ds : List D}, RL c s P vs ds → v ∈ vs → ∃ d, d ∈ ds ∧ R c s P v d
  | _, _, .cons r rl, h => by
    rcases List.mem_cons.mp h with rfl | h
    · exact ⟨_, List.mem_cons_self, r⟩
    · obtain ⟨d, h1, h2⟩ := RL.mem rl h; exact ⟨d, List.mem_cons_of_mem _ h1, h2⟩
theorem okF_mem {x : UInt64} {l : List D} {d : D} (h : okF x l = true) (hd : d ∈ l) : okF x [d] = true := by
  unfold okF at h ⊢
  rw [List.all_eq_true] at h
  simpa using h d hd
theorem inF_any {s : Shared} {P : Addr → Prop} {x : UInt64} : ∀ {vs : List Value} {ds : List D}, RL c s P vs ds → okF x ds = true → vs.any (fltIs x) = inF x ds
  | _, _, .nil, _ => rfl
  | _, _, .cons (d := d) (ds := ds) r rl, h => by
    have h2 : okF x ds = true := by unfold okF at h ⊢; rw [List.all_cons, Bool.and_eq_true] at h; exact h.2
    have h1 := okF_mem h List.mem_cons_self
    rw [List.any_cons, inF_any rl h2]
    cases d with
    | flt y fr => obtain ⟨t, rfl, _⟩ := Rt.flt_inv (.of r); simp [inF, fltIs]
    | _ => simp [okF] at h1
theorem CmpR.in_flts {x : UInt64} {l : List D} (h : okF x l = true) : CmpR c A .In (.flt x .new) (.lst l) (inF x l) := by
  intro Z E s v₁ v₂ z r q
  obtain ⟨t, rfl, h0, hg, _⟩ := r.flt_inv
  obtain ⟨b, us, k, rfl, g', ql⟩ := q.lst_inv
  refine SeqAt.in_listAt (fltIs x) (isList_of g') (fun y hy => ?_) ⟨.rfl', ?_⟩
  · obtain ⟨d, hd, rd⟩ := ql.mem (by simpa using hy)
    exact (EqAt_fltAny z.keep rd h0 (hg.1 rfl) (okF_mem h hd)).1
  · rw [← inF_any ql h]; simp
theorem CmpR.notIn_flts {x : UInt64} {l : List D} (h : okF x l = true) : CmpR c A .NotIn (.flt x .new) (.lst l) (!inF x l) := by
  intro Z E s v₁ v₂ z r q
  obtain ⟨t, rfl, h0, hg, _⟩ := r.flt_inv
  obtain ⟨b, us, k, rfl, g', ql⟩ := q.lst_inv
  refine SeqAt.notIn_listAt (fltIs x) (isList_of g') (fun y hy => ?_) ⟨.rfl', ?_⟩
  · obtain ⟨d, hd, rd⟩ := ql.mem (by simpa using hy)
    exact (EqAt_fltAny z.keep rd h0 (hg.1 rfl) (okF_mem h hd)).1
  · rw [← inF_any ql h]; simp
end
def cmpW (op : CmpOp) (d₁ d₂ : D) (K : Bool → Prop) : Prop :=
  match op, d₁, d₂ with
  | .Eq, .int a, .int b => K (a == b)
  | .NotEq, .int a, .int b => K (a != b)
  | .Lt, .int a, .int b => K (decide (a < b))
  | .LtE, .int a, .int b => K (decide (a ≤ b))
  | .Gt, .int a, .int b => K (decide (b < a))
  | .GtE, .int a, .int b => K (decide (b ≤ a))
  | .Eq, .flt a _, .flt b _ => K (Float64.cmp a b == some .eq)
  | .NotEq, .flt a _, .flt b _ => K (Float64.cmp a b != some .eq)
  | .Lt, .flt a _, .flt b _ => K (Float64.cmp a b == some .lt)
  | .Gt, .flt a _, .flt b _ => K (Float64.cmp a b == some .gt)
  | .LtE, .flt a _, .flt b _ => K (Float64.cmp a b == some .lt || Float64.cmp a b == some .eq)
  | .Eq, .str a, .str b => K (a == b)
  | .NotEq, .str a, .str b => K (a != b)
  | .Is, .bool a, .bool b => K (a == b)
  | .IsNot, .bool a, .bool b => K (a != b)
  | .Eq, .tup l, .tup m => (cmpL l m = true ∧ depL l ≤ 100) ∧ K (eqdL l m)
  | .NotEq, .tup l, .tup m => (cmpL l m = true ∧ depL l ≤ 100) ∧ K (!eqdL l m)
  | .Eq, .lst l, .lst m => (cmpL l m = true ∧ depL l ≤ 100) ∧ K (eqdL l m)
  | .NotEq, .lst l, .lst m => (cmpL l m = true ∧ depL l ≤ 100) ∧ K (!eqdL l m)
  | .In, .int a, .lst l => ∃ l' : List Int, l = l'.map D.int ∧ K (l'.contains a)
  | .NotIn, .int a, .lst l => ∃ l' : List Int, l = l'.map D.int ∧ K (!l'.contains a)
  | .In, .flt x .new, .lst l => okF x l = true ∧ K (inF x l)
  | .NotIn, .flt x .new, .lst l => okF x l = true ∧ K (!inF x l)
  | .In, .str a, .str b => K (!(occ a b).isEmpty)
  | .NotIn, .str a, .str b => K (!(!(occ a b).isEmpty))
  | _, _, _ => False
theorem cmpW_ok {c : Cx} {A : Around} (hA : A.units < 9000) {op : CmpOp} {d₁ d₂ : D} {K : Bool → Prop} (h : cmpW op d₁ d₂ K) : ∃ b, K b ∧ CmpR c A op d₁ d₂ b := by
  unfold cmpW at h
  split at h
  · exact ⟨_, h, .eq_int⟩
  · exact ⟨_, h, .ne_int⟩
  · exact ⟨_, h, .lt_int⟩
  · exact ⟨_, h, .le_int⟩
  · exact ⟨_, h, .gt_int⟩
  · exact ⟨_, h, .ge_int⟩
  · exact ⟨_, h, .eq_flt⟩
  · exact ⟨_, h, .ne_flt⟩
  · exact ⟨_, h, .lt_flt⟩
  · exact ⟨_, h, .gt_flt⟩
  · exact ⟨_, h, .le_flt⟩
  · exact ⟨_, h, .eq_str⟩
  · exact ⟨_, h, .ne_str⟩
  · exact ⟨_, h, .is_bool⟩
  · exact ⟨_, h, .isNot_bool⟩
  · exact ⟨_, h.2, .eq_sq (.inl ⟨_, _, rfl, rfl⟩) (by simpa [cmpb] using h.1.1) (by rw [cLine_eq]; simp only [dep]; omega)⟩
  · exact ⟨_, h.2, .ne_tup h.1.1 (by rw [cLine_eq]; omega)⟩
  · exact ⟨_, h.2, .eq_sq (.inr ⟨_, _, rfl, rfl⟩) (by simpa [cmpb] using h.1.1) (by rw [cLine_eq]; simp only [dep]; omega)⟩
  · exact ⟨_, h.2, .ne_lst h.1.1 (by rw [cLine_eq]; omega)⟩
  · obtain ⟨l', rfl, h⟩ := h; exact ⟨_, h, .in_ints⟩
  · obtain ⟨l', rfl, h⟩ := h; exact ⟨_, h, .notIn_ints⟩
  · exact ⟨_, h.2, .in_flts h.1⟩
  · exact ⟨_, h.2, .notIn_flts h.1⟩
  · exact ⟨_, h, .in_str⟩
  · exact ⟨_, h, .notIn_str⟩
  · exact h.elim
end Mine

end

section
open PySem PySem.W PyProof.Rows
set_option Elab.async false
set_option linter.unusedVariables false
set_option maxRecDepth 4000
namespace Mine

/-- the operation o[i], i no slice -/
def GetR (c : Cx) (A : Around) (d₁ d₂ d : D) : Prop := ∀ (Z : Addr → Prop) (E : Value → Shared → Prop) (s : Shared) (v₁ v₂ : Value), Pre c Z s → Rt c s (NZ Z) v₁ d₁ → Rt c s (NZ Z) v₂ d₂ →
  wpAny (model c.prog c.w) A (getItem v₁ v₂) (fun v s' => Kp s s' ∧ R c s' (NZ Z) v d) E s

structure HasGet (T : String) : Prop where
  ex : ∃ id, typeLookup (.type T) "__getitem__" = pure (some (.builtin id))
theorem HasGet.list : HasGet "list" := ⟨_, slot_list_getitem.lookup⟩
theorem HasGet.tuple : HasGet "tuple" := ⟨_, slot_tuple_getitem.lookup⟩
theorem HasGet.str : HasGet "str" := ⟨_, slot_str_getitem.lookup⟩
theorem HasGet.dict : HasGet "dict" := ⟨_, slot_dict_getitem.lookup⟩

section
variable {c : Cx} {A : Around} {env : Env} {σ : List (Str × Slot)}

theorem subTail {value slice : Expr} {o i : Value} {T : String} {s : Shared} {E : Value → Shared → Prop} {Q : Value → Shared → Prop} (hT : s.TypeIs o T) (hg : HasGet T) (h : wpAny (model c.prog c.w) A (getItem o i) Q E s)
    (hs : (subscripted slice false o i = operate [o, i] (getItem o i)) ∨ (subscripted slice false o i = operate [i, o] (getItem o i))) : wpAny (model c.prog c.w) A (subscriptTail value slice o i) Q E s := by
  obtain ⟨id, hl⟩ := hg.ex
  unfold subscriptTail
  refine wpAny_bind ?_
  rw [getitemInPython_of_ne hT.not_modules]
  refine wpAny_bind (wpAny_specialOf hT hl ?_)
  have fin : wpAny (model c.prog c.w) A (subscripted slice false o i) (fun r s₃ => wpAny (model c.prog c.w) A (letTemporaryGo value o r >>= fun _ => pure r) Q E s₃) E s := by
    rcases hs with hs | hs <;> rw [hs] <;>
    exact wpAny_operating (wpAny_mono h (fun r s₃ h₃ => wpAny_bind (wpAny_letTemporaryGo (wpAny_pure h₃))) fun _ _ x => x)
  exact wpAny_pure (wpAny_bind fin)

theorem GetR.lst {l : List D} {i : Int} {d : D} (h0 : 0 ≤ i) (h1 : i < 2 ^ 62) (hd : l[i.toNat]? = some d) : GetR c A (.lst l) (.int i) d := by
  intro Z E s v₁ v₂ z h₁ h₂
  obtain ⟨a, vs, n, rfl, g, r⟩ := h₁.lst_inv
  obtain ⟨t, rfl⟩ := h₂.int_inv
  obtain ⟨v, hv, rv⟩ := r.get hd
  with_reducible refine wpAny_getItem_list (isList_of g) h0 (by omega) (x := v) (by simpa using hv) ?_
  exact ⟨.rfl', rv⟩
theorem GetR.lst_neg {l : List D} {i : Int} {d : D} (h0 : i < 0) (h1 : -(l.length : Int) ≤ i) (h2 : -(2 ^ 62) ≤ i) (hd : l[(i + l.length).toNat]? = some d) : GetR c A (.lst l) (.int i) d := by
  intro Z E s v₁ v₂ z h₁ h₂
  obtain ⟨a, vs, n, rfl, g, r⟩ := h₁.lst_inv
  obtain ⟨t, rfl⟩ := h₂.int_inv
  obtain ⟨v, hv, rv⟩ := r.get hd
  have hlen := r.length
  with_reducible refine wpAny_getItem_list_neg (isList_of g) h0 (by rw [List.size_toArray, hlen]; exact h1) (by omega) (x := v) (by rw [List.size_toArray, hlen]; simpa using hv) ?_
  exact ⟨.rfl', rv⟩
theorem GetR.tup {l : List D} {i : Int} {k : Nat} {d : D} (h0 : -(2 ^ 62) ≤ i) (h1 : i < 2 ^ 62) (hk : seqIndex? i l.length = some k) (hd : l[k]? = some d) : GetR c A (.tup l) (.int i) d := by
  intro Z E s v₁ v₂ z h₁ h₂
  obtain ⟨a, vs, n, rfl, g, r⟩ := h₁.tup_inv
  obtain ⟨t, rfl⟩ := h₂.int_inv
  obtain ⟨v, hv, rv⟩ := r.get hd
  have hlen := r.length
  with_reducible refine PySem.P.getItem_tuple (n := n) (items := vs.toArray) g (by omega) (by omega) (k := k) (by rw [List.size_toArray, hlen]; exact hk) (y := v) (by simpa using hv) ?_
  exact ⟨.rfl', rv⟩
theorem GetR.str {l : List Nat} {i : Int} {k ch : Nat} (h0 : -(2 ^ 62) ≤ i) (h1 : i < 2 ^ 62) (hk : seqIndex? i l.length = some k) (hd : l[k]? = some ch) : GetR c A (.str l) (.int i) (.str [ch]) := by
  intro Z E s v₁ v₂ z h₁ h₂
  obtain ⟨t, rfl⟩ := h₁.str_inv
  obtain ⟨u, rfl⟩ := h₂.int_inv
  with_reducible refine PyProof.Rows.getItem_str (c := ch) ?_ ?_ ?_
  · rw [decide_eq_false (by omega : ¬ i < -(2 ^ 63 : Int)), decide_eq_false (by omega : ¬ i ≥ 2 ^ 63)]; rfl
  · rw [strN_length, hk]; simpa using hd
  · exact ⟨.tok1, R.str [ch] _⟩

theorem isPart_of (r : Option Int) (t : Tok) : IsPart (partValue (r.map fun i => (i, t))) r := by cases r with | none => exact .none | some i => exact .int i t

/-- the places that a slice picks -/
def slI (lo hi st : Option Int) (n : Nat) : List Nat := sliceRange (sliceBounds lo hi st n).1 (sliceBounds lo hi st n).2.1 (sliceBounds lo hi st n).2.2
def sl {α : Type} (l : List α) (lo hi st : Option Int) : List α := (slI lo hi st l.length).filterMap (l[·]?)
theorem RL.sl {s : Shared} {P : Addr → Prop} {vs ds} (r : RL c s P vs ds) (lo hi st : Option Int) : RL c s P (sl vs lo hi st) (sl ds lo hi st) := by
  unfold Mine.sl
  rw [r.length]
  generalize slI lo hi st ds.length = is
  induction is with
  | nil => exact .nil
  | cons i is ih =>
    simp only [List.filterMap_cons]
    cases hd : ds[i]? with
    | some d => obtain ⟨v, hv, rv⟩ := r.get hd; rw [hv]; exact .cons rv ih
    | none =>
      have : vs[i]? = none := by rw [List.getElem?_eq_none_iff] at hd ⊢; rw [r.length]; exact hd
      rw [this]; exact ih
theorem slicePick_sl (vs : List Value) (lo hi st : Option Int) : slicePick vs.toArray lo hi st = (sl vs lo hi st).toArray := by
  unfold slicePick sl slI
  simp
theorem subscripted_slice (lo hi st : Option Expr) (p : Pos) (o i : Value) : subscripted (.Slice lo hi st p) false o i = operate [o, i] (getItem o i) ∨ subscripted (.Slice lo hi st p) false o i = operate [i, o] (getItem o i) := by
  cases st with
  | none => exact .inr rfl
  | some e => exact .inl rfl
theorem sl_length_le {vs : List Value} (lo hi st : Option Int) : (sl vs lo hi st).length ≤ vs.length := by
  have := slicePick_size_le vs.toArray lo hi st
  rw [slicePick_sl] at this
  simpa using this
def SlR (c : Cx) (A : Around) (d₁ : D) (a b k : Option Int) (d : D) : Prop := ∀ (Z : Addr → Prop) (E : Value → Shared → Prop) (s : Shared) (v₁ : Value) (sa : Addr) (t u w : Tok), Pre c Z s → Rt c s (NZ Z) v₁ d₁ →
  s.heap.get? sa = some { cls := .type "slice", data := .fields #[partValue (a.map fun i => (i, t)), partValue (b.map fun i => (i, u)), partValue (k.map fun i => (i, w))] } →
  wpAny (model c.prog c.w) A (getItem v₁ (.ref sa)) (New c Z s d) E s
theorem SlR.lst {l : List D} {a b k : Option Int} (h0 : k ≠ some 0) (hl : l.length ≤ 16777216) : SlR c A (.lst l) a b k (.lst (sl l a b k)) := by
  intro Z E s v₁ sa t u w z r₁ g₂
  obtain ⟨a', vs, n, rfl, g, r⟩ := r₁.lst_inv
  refine wpAny_getItem_list_slice (isList_of g) ⟨_, g₂, rfl, rfl⟩ (isPart_of _ _) (isPart_of _ _) (isPart_of _ _) h0 ?_ (by rw [List.size_toArray, r.length, sizeLine_eq]; exact hl)
  rw [slicePick_sl]
  refine ⟨.push, ?_, .size, .lst (vs := sl vs a b k) (n := 0) (Heap.get?_push_size _ rfl) ((r.sl _ _ _).offPush (get_size _))⟩
  refine R.lst (vs := sl vs a b k) (n := 0) (ZIn.fresh z.zin (get_size _)) (Heap.get?_push_size _ rfl) ?_
  exact RL.keeps (s := s) (s' := { s with heap := s.heap.push _ }) (r.sl _ _ _) .push
theorem strSliceIndices_slI (lo hi st : Option Int) (n : Nat) : Builtin.Str.strSliceIndices lo hi (st.getD 1) n = slI lo hi st n := by
  unfold slI sliceBounds Builtin.Str.strSliceIndices
  rfl
theorem sliceMade_sl {c : Cx} {Z : Addr → Prop} {s : Shared} {l : List Nat} {t tl tu ts : Tok} {a b k : Option Int} (hl : l.length ≤ 16777216) (hfull : (k.getD 1 = 1) → (slI a b k l.length).length = l.length → sl l a b k = l) (Q : Value → Shared → Prop)
    (h : ∀ t' tk, s.toks ≤ tk → Q (.str ⟨(sl l a b k).toArray⟩ t') { s with toks := tk }) : (sliceMade ⟨l.toArray⟩ t (a.map fun i => (i, tl)) (b.map fun i => (i, tu)) (k.map fun i => (i, ts))).post Q s := by
  unfold sliceMade slicePicked
  have e1 : ∀ (o : Option Int) (t : Tok), (o.map fun i => (i, t)).map (·.1) = o := by intro o t; cases o <;> rfl
  rw [e1, e1, e1, strN_length, strSliceIndices_slI]
  split
  · rename_i hc
    rw [Bool.and_eq_true] at hc
    have := hfull (by simpa using hc.1) (by simpa using hc.2)
    have := h t s.toks (Nat.le_refl _)
    rw [hfull (by simpa using hc.1) (by simpa using hc.2)] at this
    exact this
  · have e2 : ((slI a b k l.length).filterMap ((⟨l.toArray⟩ : Str).cps[·]?)).toArray = (sl l a b k).toArray := by
      unfold sl; congr 1; simp
    rw [e2]
    refine ⟨?_, h s.toks (s.toks + 1) (Nat.le_succ _)⟩
    rw [strN_length, sizeLine_eq]
    refine Nat.le_trans ?_ hl
    have : (sl (l.map fun _ => Value.none) a b k).length ≤ (l.map fun _ => Value.none).length := sl_length_le a b k
    have e3 : (sl (l.map fun _ => Value.none) a b k).length = (sl l a b k).length := by
      unfold sl
      rw [List.length_map]
      generalize slI a b k l.length = is
      induction is with
      | nil => rfl
      | cons i is ih =>
        simp only [List.filterMap_cons, List.getElem?_map]
        cases l[i]? <;> simpa using ih
    rw [e3, List.length_map] at this
    exact this
theorem SlR.str {l : List Nat} {a b k : Option Int} (h0 : (k.getD 1 == 0) = false) (hl : l.length ≤ 16777216)
    (hfull : (k.getD 1 = 1) → (slI a b k l.length).length = l.length → sl l a b k = l) : SlR c A (.str l) a b k (.str (sl l a b k)) := by
  intro Z E s v₁ sa t u w z r₁ g₂
  obtain ⟨t', rfl⟩ := r₁.str_inv
  refine wpAny_getItem_str_slice (l := a.map fun i => (i, t)) (u := b.map fun i => (i, u)) (st := k.map fun i => (i, w)) ⟨_, g₂, rfl, rfl⟩ ?_ ?_
  · cases k <;> exact h0
  · exact sliceMade_sl (c := c) (Z := Z) hl hfull _ fun t' tk htk => .sc (.tok htk) (R.str _ _)
theorem getItem_tuple_2 {A : Around} {E : Value → Shared → Prop} {s : Shared} {t sl : Addr} {items : Array Value} {u : Tok} {Q : Value → Shared → Prop} (ht : IsTup s.heap t items) (hs : s.heap.IsSliceOf sl .none (.int 2 u) .none) (h3 : items.size = 3)
    (h : Q (.ref s.heap.objs.size) { s with heap := s.heap.push { cls := .type "tuple", data := .seq (items.toList.take 2).toArray } }) : wpAny (model c.prog c.w) A (getItem (.ref t) (.ref sl)) Q E s := by
  have hdrop : sizeOk (.seq (items.toList.take 2).toArray) := by
    show (items.toList.take 2).toArray.size ≤ sizeLine
    rw [List.size_toArray, List.length_take, sizeLine_eq]
    omega
  obtain ⟨os, hos, hcs, hds⟩ := id hs
  have hTs : s.TypeIs (.ref sl) "slice" := ⟨os, hos, hcs⟩
  unfold getItem
  try with_reducible refine wpAny_holding ?_
  first | refine wpAny_bind (wpAny_pure ?_) | skip
  refine wpAny_bind (wpAny_sequenceKey ht.typeIs (by decide) ?_)
  refine wpAny_bind (wpAny_callSpecial?_slot (name := Str.ofString "__getitem__") ht.typeIs slot_tuple_getitem
    (wpAny_call_entry slot_tuple_getitem ht.typeIs entry_tuple_getitem ?_ (args_tuple_getitem _ _)))
  show wpAny _ _ (Builtin.Tuple.tupleItemsOf (.ref t) >>= _) _ _ s
  refine wpAny_bind (tupleItemsOf_ ht ?_)
  refine wpAny_bind (wpAny_typeOf hTs ?_)
  rw [if_pos (by decide)]
  have ap : ∀ {Q : Int × Int × Nat → Shared → Prop}, Q ((0 : Int), 1, 2) s → wpAny (model c.prog c.w) A.in1 (Builtin.Slice.sliceApplied (.ref sl) (pure (items.size : Int))) Q E s := by
    intro Q h
    unfold Builtin.Slice.sliceApplied Builtin.Slice.sliceFields
    refine wpAny_bind (wpAny_bind (wpAny_field hos hds (x := .none) rfl (wpAny_bind (wpAny_field hos hds (x := .int 2 u) rfl (wpAny_bind (wpAny_field hos hds (x := .none) rfl (wpAny_pure ?_)))))))
    refine wpAny_bind (slicePart_none ?_)
    show wpAny _ _ (if ((1 : Int) == 0) = true then _ else _) _ _ s
    rw [if_neg (by decide)]
    refine wpAny_bind (slicePart_none (wpAny_bind (slicePart_int (wpAny_bind (wpAny_pure ?_)))))
    rw [h3]
    exact wpAny_pure h
  refine wpAny_bind (ap ?_)
  have hno : ¬ (((0 : Int) == 0 && (1 : Int) == 1 && 2 == items.size) = true) := by rw [h3]; decide
  show wpAny _ _ (if ((0 : Int) == 0 && (1 : Int) == 1 && 2 == items.size) = true then _ else _) _ _ s
  have hp : ((List.range 2).filterMap fun (k : Nat) => items[((0 : Int) + (k : Int) * 1).toNat]?).toArray = (items.toList.take 2).toArray := by
    obtain ⟨l⟩ := items
    match l, h3 with
    | [a, b, d], _ => rfl
  rw [if_neg hno, hp]
  first
    | exact wpAny_bind (m := Builtin.Tuple.tupleExact _) (wpAny_newObj_type (wpAny_pure ⟨_, rfl, wpAny_pure h⟩) hdrop)
    | exact wpAny_bind (m := Builtin.Tuple.tupleExact _) (wpAny_newObj_type (wpAny_bind (wpAny_pure (wpAny_pure ⟨_, rfl, wpAny_pure h⟩))) hdrop)
    | exact wpAny_bind (wpAny_bind (m := Builtin.Tuple.tupleExact _) (wpAny_newObj_type (wpAny_pure (wpAny_pure ⟨_, rfl, wpAny_pure h⟩)) hdrop))
    | exact wpAny_bind (wpAny_bind (m := Builtin.Tuple.tupleExact _) (wpAny_newObj_type (wpAny_pure ⟨_, rfl, wpAny_pure h⟩) hdrop))
theorem SlR.tup2 {x y z : D} : SlR c A (.tup [x, y, z]) none (some 2) none (.tup [x, y]) := by
  intro Z E s v₁ sa t u w zz r₁ g₂
  obtain ⟨a', vs, n, rfl, g, r⟩ := r₁.tup_inv
  have hlen := r.length
  refine getItem_tuple_2 ⟨_, g, rfl, n, rfl⟩ ⟨_, g₂, rfl, rfl⟩ (by simpa using hlen) ⟨.push, ?_, .size, .tup (vs := vs.take 2) (n := 0) (Heap.get?_push_size _ rfl) ((r.take 2).offPush (get_size _))⟩
  refine R.tup (vs := vs.take 2) (n := 0) (ZIn.fresh zz.zin (get_size _)) (Heap.get?_push_size _ rfl) ?_
  exact RL.keeps (s := s) (s' := { s with heap := s.heap.push _ }) (r.take 2) .push
end
end Mine

end

section
open PySem PySem.W PyProof.Rows
set_option Elab.async false
set_option linter.unusedVariables false
set_option maxRecDepth 4000
namespace Mine

def atI {α : Type} (l : List α) (i : Int) : Option α := if 0 ≤ i then l[i.toNat]? else if -(l.length : Int) ≤ i then l[(i + l.length).toNat]? else none
def optW {α : Type} (o : Option α) (K : α → Prop) : Prop := match o with | some d => K d | none => False
theorem optW_ok {α : Type} {o : Option α} {K : α → Prop} (h : optW o K) : ∃ d, o = some d ∧ K d := by
  cases o with
  | none => exact h.elim
  | some d => exact ⟨d, rfl, h⟩
theorem atI_seqIndex {α : Type} {l : List α} {i : Int} {d : α} (h : atI l i = some d) : ∃ k, seqIndex? i l.length = some k ∧ l[k]? = some d := by
  unfold atI at h
  unfold seqIndex?
  split at h
  · rename_i h0
    have h1 : i.toNat < l.length := by have := (List.getElem?_eq_some_iff.mp h).1; exact this
    refine ⟨i.toNat, ?_, h⟩
    have n1 : ¬ i < 0 := by omega
    have n2 : ¬ i ≥ (l.length : Int) := by omega
    simp [n1, n2]
    try omega
  · split at h
    · rename_i h0 h1
      refine ⟨(i + l.length).toNat, ?_, h⟩
      have n1 : i < 0 := by omega
      have n2 : ¬ (i + (l.length : Int) < 0) := by omega
      have n3 : ¬ (i + (l.length : Int) ≥ l.length) := by omega
      simp [n1, n2, n3]
    · cases h

/-- the built-in type of a value -/
def D.ty : D → Option String
  | .int _ => some "int"
  | .flt _ _ => some "float"
  | .str _ => some "str"
  | .tup _ => some "tuple"
  | .lst _ => some "list"
  | .dct _ => some "dict"
  | _ => Option.none
theorem Rt.typeIs {c : Cx} {s : Shared} {P : Addr → Prop} {v : Value} {d : D} {T : String} (r : Rt c s P v d) (e : d.ty = some T) : s.TypeIs v T ∧ ∀ a, v = .ref a → ∃ ob, s.heap.get? a = some ob ∧ ob.dict = Option.none := by
  cases d with
  | int i => obtain ⟨t, rfl⟩ := r.int_inv; cases e; exact ⟨rfl, fun _ e => nomatch e⟩
  | flt i fr => obtain ⟨t, rfl, _⟩ := r.flt_inv; cases e; exact ⟨rfl, fun _ e => nomatch e⟩
  | str i => obtain ⟨t, rfl⟩ := r.str_inv; cases e; exact ⟨rfl, fun _ e => nomatch e⟩
  | tup l => obtain ⟨a, vs, n, rfl, g, _⟩ := r.tup_inv; cases e; exact ⟨⟨_, g, rfl⟩, fun _ e => by cases e; exact ⟨_, g, rfl⟩⟩
  | lst l => obtain ⟨a, vs, n, rfl, g, _⟩ := r.lst_inv; cases e; exact ⟨⟨_, g, rfl⟩, fun _ e => by cases e; exact ⟨_, g, rfl⟩⟩
  | dct l =>
    obtain ⟨a, kvs, rfl, g, _⟩ := r.dct_inv; cases e
    obtain ⟨o, es, ep, ho, hx, hd, _⟩ := g
    exact ⟨⟨_, ho, hx.1⟩, fun _ e => by cases e; exact ⟨_, ho, hx.2.1⟩⟩
  | _ => cases e
structure Meth (T : String) (name : Str) (id : String) : Prop where
  pa : PlainAttrs T
  slot : PySem.Slot T name id
  ty : typeOf (.builtin id) = pure (.type "method_descriptor")

def getW (d₁ d₂ : D) (K : D → Prop) : Prop :=
  match d₁, d₂ with
  | .lst l, .int i => small i ∧ optW (atI l i) K
  | .tup l, .int i => small i ∧ optW (atI l i) K
  | .str l, .int i => small i ∧ optW (atI l i) fun ch => K (.str [ch])
  | _, _ => False
theorem getW_ok {c : Cx} {A : Around} {d₁ d₂ : D} {K : D → Prop} (h : getW d₁ d₂ K) : ∃ d, K d ∧ GetR c A d₁ d₂ d ∧ ∃ T, d₁.ty = some T ∧ HasGet T := by
  unfold getW at h
  split at h
  · obtain ⟨hs, h⟩ := h
    obtain ⟨d, hd, h⟩ := optW_ok h
    refine ⟨d, h, ?_, _, rfl, .list⟩
    have s1 := hs.1; have s2 := hs.2
    unfold atI at hd
    split at hd
    · exact .lst (by omega) (by omega) hd
    · split at hd
      · exact .lst_neg (by omega) (by omega) (by omega) hd
      · cases hd
  · obtain ⟨hs, h⟩ := h
    obtain ⟨d, hd, h⟩ := optW_ok h
    obtain ⟨k, hk, he⟩ := atI_seqIndex hd
    have s1 := hs.1; have s2 := hs.2
    exact ⟨d, h, .tup (by omega) (by omega) hk he, _, rfl, .tuple⟩
  · obtain ⟨hs, h⟩ := h
    obtain ⟨d, hd, h⟩ := optW_ok h
    obtain ⟨k, hk, he⟩ := atI_seqIndex hd
    have s1 := hs.1; have s2 := hs.2
    exact ⟨_, h, .str (by omega) (by omega) hk he, _, rfl, .str⟩
  · exact h.elim

def clipN (v : Option Int) (dflt n : Nat) : Nat := match v with
  | none => dflt
  | some i => (max 0 (min (if i < 0 then i + n else i) n)).toNat
/-- l[a:b] -/
def cut {α : Type} (l : List α) (a b : Option Int) : List α := (l.drop (clipN a 0 l.length)).take (clipN b l.length l.length - clipN a 0 l.length)
theorem run_eq {α : Type} (l : List α) (a : Nat) : ∀ m, (List.range m).filterMap (fun k => l[a + k]?) = (l.drop a).take m
  | 0 => by simp
  | m + 1 => by
    rw [List.range_succ, List.filterMap_append, run_eq l a m, List.take_add_one, List.getElem?_drop]
    cases h : l[a + m]? <;> simp [List.filterMap_cons, h]
def clipI (v : Option Int) (dflt n : Nat) : Int := match v with
  | none => dflt
  | some i => max 0 (min (if i < 0 then i + (n : Int) else i) (n : Int))
theorem clipI_eq (v : Option Int) (dflt n : Nat) : clipI v dflt n = (clipN v dflt n : Nat) := by
  cases v with
  | none => rfl
  | some i => simp only [clipI, clipN]; omega
theorem bounds_none (a b : Option Int) (n : Nat) : sliceBounds a b none n = (clipI a 0 n, clipI b n n, 1) := by
  cases a <;> cases b <;> rfl
theorem sl_none {α : Type} (l : List α) (a b : Option Int) : sl l a b none = cut l a b := by
  unfold sl slI cut
  rw [bounds_none, clipI_eq, clipI_eq]
  generalize clipN a 0 l.length = p
  generalize clipN b l.length l.length = q
  show (sliceRange (p : Int) (q : Int) 1).filterMap (l[·]?) = _
  rw [← run_eq]
  unfold sliceRange
  rw [List.filterMap_map, if_pos (by omega : (1 : Int) > 0)]
  have e : (if (p : Int) < (q : Int) then ((q : Int) - (p : Int) + 1 - 1) / 1 else 0).toNat = q - p := by
    split <;> omega
  rw [e]
  congr 1
  funext k
  show l[((p : Int) + 1 * (k : Int)).toNat]? = l[p + k]?
  rw [show ((p : Int) + 1 * (k : Int)).toNat = p + k by omega]
theorem cut_full {α : Type} (l : List α) (a b : Option Int) (h : (cut l a b).length = l.length) : cut l a b = l := by
  unfold cut at h ⊢
  rw [List.length_take, List.length_drop] at h
  by_cases h0 : l.length = 0
  · have : l = [] := List.length_eq_zero_iff.mp h0
    subst this; simp
  · have h1 : clipN a 0 l.length = 0 := by omega
    rw [h1] at h ⊢
    rw [List.drop_zero, List.take_of_length_le (by omega)]
theorem slI_len (l : List Nat) (a b : Option Int) : (slI a b none l.length).length = (cut l a b).length := by
  rw [← sl_none]
  unfold sl slI
  rw [bounds_none, clipI_eq, clipI_eq]
  have hp : clipN a 0 l.length ≤ l.length ∨ True := .inr trivial
  have hq : clipN b l.length l.length ≤ l.length := by
    cases b with
    | none => exact Nat.le_refl _
    | some i => simp only [clipN]; omega
  generalize clipN a 0 l.length = p
  generalize clipN b l.length l.length = q at hq
  show (sliceRange (p : Int) (q : Int) 1).length = ((sliceRange (p : Int) (q : Int) 1).filterMap (l[·]?)).length
  unfold sliceRange
  rw [List.filterMap_map, if_pos (by omega : (1 : Int) > 0)]
  have e : (if (p : Int) < (q : Int) then ((q : Int) - (p : Int) + 1 - 1) / 1 else 0).toNat = q - p := by
    split <;> omega
  rw [e]
  have e2 : ((fun x => l[x]?) ∘ fun (k : Nat) => ((p : Int) + 1 * (k : Int)).toNat) = fun k => l[p + k]? := by
    funext k
    show l[((p : Int) + 1 * (k : Int)).toNat]? = l[p + k]?
    rw [show ((p : Int) + 1 * (k : Int)).toNat = p + k by omega]
  rw [e2, run_eq, List.length_map, List.length_range, List.length_take, List.length_drop]
  omega

def slW (d₁ : D) (a b k : Option Int) (K : D → Prop) : Prop :=
  match d₁, k with
  | .lst l, none => l.length ≤ 16777216 ∧ K (.lst (cut l a b))
  | .lst l, some k => (l.length ≤ 16777216 ∧ k ≠ 0) ∧ K (.lst (sl l a b (some k)))
  | .str l, none => l.length ≤ 16777216 ∧ K (.str (cut l a b))
  | .tup [x, y, _], none => (a = none ∧ b = some 2) ∧ K (.tup [x, y])
  | _, _ => False
theorem slW_ok {c : Cx} {A : Around} {d₁ : D} {a b k : Option Int} {K : D → Prop} (h : slW d₁ a b k K) : ∃ d, K d ∧ SlR c A d₁ a b k d ∧ ∃ T, d₁.ty = some T ∧ HasGet T := by
  unfold slW at h
  split at h
  · exact ⟨_, h.2, by rw [← sl_none]; exact .lst (by simp) h.1, _, rfl, .list⟩
  · exact ⟨_, h.2, .lst (by intro e; exact h.1.2 (by simpa using e)) h.1.1, _, rfl, .list⟩
  · refine ⟨_, h.2, ?_, _, rfl, .str⟩
    rw [← sl_none]
    refine .str rfl h.1 fun _ hl => ?_
    rw [sl_none]
    exact cut_full _ _ _ (by rw [← slI_len]; exact hl)
  · obtain ⟨⟨rfl, rfl⟩, h⟩ := h
    exact ⟨_, h, .tup2, _, rfl, .tuple⟩
  · exact h.elim
end Mine

end

section
open PySem PySem.W PyProof.Rows
set_option Elab.async false
set_option linter.unusedVariables false
set_option maxRecDepth 4000
namespace Mine

inductive Fn where
  | len | min | max | sum | hex | int | list | tuple | divmod
  | user (n : Nat)
  deriving DecidableEq

mutual
inductive X where
  | int (i : Int)
  | flt (x : UInt64)
  | str (l : List Nat)
  | none
  | bool (b : Bool)
  | var (i : Nat)
  | gl (n : Nat)
  | bin (op : Operator) (a b : X)
  | un (op : UnaryOp) (a : X)
  | cmp (op : CmpOp) (a b : X)
  | ife (t : B) (a b : X)
  | and (a b : X)
  | or (a b : X)
  | tup (l : Xs)
  | lst (l : Xs)
  | call (f : Fn) (l : Xs)
  | meth (o : X) (name : Str) (l : Xs)
  | repl (o : X) (y z : List Nat)
  | attr (o : X) (name : Str)
  | sub (a i : X)
  | slice (a : X) (lo hi st : Xo)
  | comp (elt : X) (mask : List Bool) (n : Nat) (it : It) (ifs : Bo)
inductive Xs where
  | nil
  | cons (x : X) (l : Xs)
inductive Xo where
  | none
  | some (x : X)
inductive B where
  | not (a : B)
  | cmp (op : CmpOp) (a b : X)
  | and (a b : B)
  | or (a b : B)
  | val (x : X)
inductive Bo where
  | none
  | some (b : B)
inductive It where
  | x (e : X)
  | range (l : Xs)
  | enum (e : X)
  | zip (a b : X)
end

structure Ct where
  ns : List Str
  kd : List (Str × NameKind)
  un : List Str
  gl : List Str

def Fn.name (ct : Ct) : Fn → Option Str
  | .len => some "len"
  | .min => some "min"
  | .max => some "max"
  | .sum => some "sum"
  | .hex => some "hex"
  | .int => some "int"
  | .list => some "list"
  | .tuple => some "tuple"
  | .divmod => some "divmod"
  | .user n => ct.un[n]?

def isGlob (ct : Ct) (x : Str) : Bool := ct.kd.lookup x == some .globalImplicit && !(x == ("__debug__" : Str))
def notSuper (o : Expr) : Bool := match o with
  | .Call (.Name _ _) [] [] _ => false
  | _ => true
def notSlice (o : Expr) : Bool := match o with
  | .Slice .. => false
  | _ => true
def notStar (o : Expr) : Bool := match o with
  | .Starred .. => false
  | _ => true
def notSet (o : Expr) : Bool := match o with
  | .Set .. => false
  | _ => true
/-- in a test: no form of its own -/
def plainTest (o : Expr) : Bool := match o with
  | .UnaryOp .Not _ _ => false
  | .BoolOp .. => false
  | .IfExp .. => false
  | .Compare .. => false
  | _ => true
def relabN (names kd : List (Str × NameKind)) : List (Str × NameKind) := names.map fun (n, k) => if (k == .free && kd.lookup n == some .cell) then (n, .cell) else (n, k)
def maskN : List Bool → List Str → List Str
  | true :: m, x :: l => x :: maskN m l
  | false :: m, _ :: l => ⟨#[]⟩ :: maskN m l
  | _, _ => []
def tgtNames : Expr → Option (List Str)
  | .Name x _ => some [x]
  | .Tuple [.Name x _, .Name y _] _ _ => if x == y then none else some [x, y]
  | _ => none
/-- what a display in a comprehension sees -/
def Ct.comp (ct : Ct) (scope : Scope) (xs : List Str) : Ct := { ct with ns := ct.ns ++ xs, kd := relabN scope.names ct.kd }
def capOk (ct : Ct) (scope : Scope) : List Bool → List Str → Bool
  | true :: m, x :: l => ((relabN scope.names ct.kd).lookup x == some .cell || (relabN scope.names ct.kd).lookup x == some .free) && !(x == ("__classdict__" : Str)) && scope.names.contains (x, .free) && capOk ct scope m l
  | false :: m, _ :: l => capOk ct scope m l
  | [], [] => true
  | _, _ => false
def scopeOk (ct : Ct) (scope : Scope) (xs : List Str) : Bool :=
  scope.kind == .function && scope.names.all (fun y => y.2 != .cell) && scope.names.all (fun y => y.2 != .local || scope.names.lookup y.1 == some .local) && xs.all (fun x => scope.names.lookup x == some .local)
    && scope.names.all (fun y => y.2 != .free || ct.kd.lookup y.1 == some .cell || ct.kd.lookup y.1 == some .free)

def itPlain : It → Bool
  | .x _ | .range _ => true
  | _ => false
mutual
def mX (ct : Ct) : X → Expr → Bool
  | .int j, e => match e with | .Constant (.int i) _ _ => i == j | _ => false
  | .flt j, e => match e with | .Constant (.float i) _ _ => i == j | _ => false
  | .str j, e => match e with | .Constant (.str i) _ _ => i == ⟨j.toArray⟩ | _ => false
  | .none, e => match e with | .Constant .none _ _ => true | _ => false
  | .bool j, e => match e with | .Constant (.bool i) _ _ => i == j | _ => false
  | .var i, e => match e with | .Name x _ => ct.ns[i]? == some x && !(x == ("__debug__" : Str)) | _ => false
  | .gl n, e => match e with | .Name x _ => ct.gl[n]? == some x && isGlob ct x | _ => false
  | .bin op a b, e => match e with | .BinOp l op' r _ => op == op' && mX ct a l && mX ct b r | _ => false
  | .un op a, e => match e with | .UnaryOp op' l _ => op == op' && mX ct a l | _ => false
  | .cmp op a b, e => match e with | .Compare l [op'] [r] _ => op == op' && mX ct a l && mX ct b r && notSet r | _ => false
  | .ife t a b, e => match e with | .IfExp x y z _ => mB ct t x && mX ct a y && mX ct b z | _ => false
  | .and a b, e => match e with | .BoolOp .And [x, y] _ => mX ct a x && mX ct b y | _ => false
  | .or a b, e => match e with | .BoolOp .Or [x, y] _ => mX ct a x && mX ct b y | _ => false
  | .tup l, e => match e with | .Tuple es _ _ => mXs ct l es | _ => false
  | .lst l, e => match e with | .List es _ => mXs ct l es | _ => false
  | .call f l, e => match e with | .Call (.Name x _) es [] _ => f.name ct == some x && isGlob ct x && mXs ct l es | _ => false
  | .meth o name l, e => match e with | .Call (.Attribute x nm apos) es [] pos => nm == name && apos.endLine == pos.line && decide (es.length < 25) && notSuper x && mX ct o x && mXs ct l es | _ => false
  | .repl o y z, e => match e with | .Call (.Attribute x nm apos) [.Constant (.str a) k1 p1, .Constant (.str b) k2 p2] [] pos => nm == ("replace" : Str) && apos.endLine == pos.line && notSuper x && a == ⟨y.toArray⟩ && b == ⟨z.toArray⟩ && mX ct o x | _ => false
  | .attr o name, e => match e with | .Attribute x nm _ => nm == name && notSuper x && mX ct o x | _ => false
  | .sub a i, e => match e with | .Subscript v sl _ => notSlice sl && mX ct a v && mX ct i sl | _ => false
  | .slice a lo hi st, e => match e with | .Subscript v (.Slice l h k _) _ => mX ct a v && mXo ct lo l && mXo ct hi h && mXo ct st k | _ => false
  | .comp elt mask n it ifs, e => match e with
    | .ListComp x [⟨tgt, iter, cs, 0⟩] scope _ => (match tgtNames tgt with
      | some xs => xs.length == n && (n == 2 || itPlain it) && scopeOk ct scope xs && capOk ct scope mask ct.ns && mIt ct it iter && mX (ct.comp scope xs) elt x && mBo (ct.comp scope xs) ifs cs
      | none => false)
    | _ => false
def mXs (ct : Ct) : Xs → List Expr → Bool
  | .nil, es => match es with | [] => true | _ => false
  | .cons x l, es => match es with | e :: es => notStar e && mX ct x e && mXs ct l es | _ => false
def mXo (ct : Ct) : Xo → Option Expr → Bool
  | .none, o => match o with | none => true | _ => false
  | .some x, o => match o with | some e => mX ct x e | _ => false
def mB (ct : Ct) : B → Expr → Bool
  | .not a, e => match e with | .UnaryOp .Not x _ => mB ct a x | _ => false
  | .cmp op a b, e => match e with | .Compare l [op'] [r] _ => op == op' && mX ct a l && mX ct b r && notSet r | _ => false
  | .and a b, e => match e with | .BoolOp .And [x, y] _ => mB ct a x && mB ct b y | _ => false
  | .or a b, e => match e with | .BoolOp .Or [x, y] _ => mB ct a x && mB ct b y | _ => false
  | .val x, e => plainTest e && mX ct x e
def mBo (ct : Ct) : Bo → List Expr → Bool
  | .none, es => match es with | [] => true | _ => false
  | .some b, es => match es with | [e] => mB ct b e | _ => false
def mIt (ct : Ct) : It → Expr → Bool
  | .x a, e => notSet e && mX ct a e
  | .range l, e => match e with | .Call (.Name x _) es [] _ => x == ("range" : Str) && isGlob ct x && mXs ct l es | _ => false
  | .enum a, e => match e with | .Call (.Name x _) [y] [] _ => x == ("enumerate" : Str) && isGlob ct x && notStar y && mX ct a y | _ => false
  | .zip a b, e => match e with | .Call (.Name x _) [y, z] [] _ => x == ("zip" : Str) && isGlob ct x && notStar y && notStar z && mX ct a y && mX ct b z | _ => false
end

/-- what the functions and names of the program do -/
structure Tab where
  bi : Fn → List D → (D → Fl → Prop) → Prop
  fn : Nat → List D → (D → Fl → Prop) → Prop
  gl : Nat → Option D
  mv : Str → D → Option Value
  me : Str → D → List D → (D → Fl → Prop) → Prop
  ga : Str → D → (D → Prop) → Prop

def maskS : List Bool → List Slot → List Slot
  | [], _ => []
  | b :: m, x :: l => (match b with | true => x | false => .un) :: maskS m l
  | _ :: m, [] => .un :: maskS m []
def bindS (n : Nat) (d : D) : Option (List Slot) := match n, d with
  | 1, d => some [.cl d]
  | 2, .tup [a, b] => some [.cl a, .cl b]
  | _, _ => none
def mapW (step : D → (Option D → Prop) → Prop) : List D → List D → (List D → Prop) → Prop
  | acc, [], K => K acc
  | acc, d :: ds, K => step d fun r => match r with
    | some x => mapW step (acc ++ [x]) ds K
    | none => mapW step acc ds K
def chD (l : List Nat) : List D := l.map fun ch => .str [ch]
def rngD (a b : Int) : List D := (List.range (b - a).toNat).map fun (k : Nat) => .int (a + (k : Int))
def enumD : Nat → List D → List D
  | _, [] => []
  | n, d :: ds => .tup [.int n, d] :: enumD (n + 1) ds
def zipD : List D → List D → List D
  | a :: l, b :: m => .tup [a, b] :: zipD l m
  | _, _ => []
def clean (fl : Fl) (d : D) : Prop := (fl.isR || d.scal) = true
def rangeW (ds : List D) (K : List D → Prop) : Prop := match ds with
  | [.int b] => small b ∧ K (rngD 0 b)
  | [.int a, .int b] => (small a ∧ small b) ∧ K (rngD a b)
  | _ => False
def iterW (d : D) (K : List D → Prop) : Prop := match d with
  | .lst l => l.length ≤ 16777216 ∧ K l
  | .tup l => l.length ≤ 16777216 ∧ K l
  | .str l => (l.length ≤ 16777216 ∧ ∀ ch ∈ l, ch < 128) ∧ K (chD l)
  | _ => False
def enumW (d : D) (K : List D → Prop) : Prop := match d with
  | .lst l => l.length ≤ 16777216 ∧ K (enumD 0 l)
  | _ => False
def replL (x y z : List Nat) : List Nat := (Txt.replace ⟨x.toArray⟩ ⟨y.toArray⟩ ⟨z.toArray⟩).cps.toList
def replW (d : D) (y z : List Nat) (K : D → Prop) : Prop := match d with
  | .str x => x.length + (x.length + 1) * z.length ≤ 16777216 ∧ K (.str (replL x y z))
  | _ => False
def zipW (d₁ d₂ : D) (K : List D → Prop) : Prop := False

mutual
def wX (T : Tab) (σ : List Slot) : X → (D → Fl → Prop) → Prop
  | .int i, K => K (.int i) .fr
  | .flt x, K => K (.flt x .new) .fr
  | .str l, K => K (.str l) .fr
  | .none, K => K .none .fr
  | .bool b, K => K (.bool b) .fr
  | .var i, K => match σ[i]? with
    | some (.cl d) => K d .cl
    | some (.rt d) => K d .rt
    | some (.ow d) => K d .ow
    | _ => False
  | .gl n, K => optW (T.gl n) fun d => K d .cl
  | .bin op a b, K => wX T σ a fun d₁ _ => wX T σ b fun d₂ _ => binW op d₁ d₂ fun d => K d .fr
  | .un op a, K => wX T σ a fun d₁ _ => unW op d₁ fun d => K d .fr
  | .cmp op a b, K => wX T σ a fun d₁ _ => wX T σ b fun d₂ _ => cmpW op d₁ d₂ fun r => K (.bool r) .fr
  | .ife t a b, K => wB T σ t fun r => (r = true → wX T σ a K) ∧ (r = false → wX T σ b K)
  | .and a b, K => wX T σ a fun d fl => truW d fun r => (r = true → wX T σ b K) ∧ (r = false → K d fl)
  | .or a b, K => wX T σ a fun d fl => truW d fun r => (r = false → wX T σ b K) ∧ (r = true → K d fl)
  | .tup l, K => wXs T σ l fun ds => ds.length ≤ 1000000 ∧ K (.tup ds) .fr
  | .lst l, K => wXs T σ l fun ds => ds.length ≤ 1000000 ∧ K (.lst ds) .fr
  | .call f l, K => wA T σ l fun ds => match f with
    | .user n => T.fn n ds K
    | f => T.bi f ds K
  | .meth o name l, K => wX T σ o fun d₀ _ => optW (T.mv name d₀) fun _ => wA T σ l fun ds => T.me name d₀ ds K
  | .repl o y z, K => wX T σ o fun d₀ _ => replW d₀ y z fun d => K d .fr
  | .attr o name, K => wX T σ o fun d₀ _ => T.ga name d₀ fun d => K d .cl
  | .sub a i, K => wX T σ a fun d₁ _ => wX T σ i fun d₂ _ => getW d₁ d₂ fun d => K d .cl
  | .slice a lo hi st, K => wX T σ a fun d₁ _ => wXo T σ lo fun l => wXo T σ hi fun h => wXo T σ st fun k => slW d₁ l h k fun d => K d .fr
  | .comp elt mask n it ifs, K => wIt T σ it fun items _ => items.length ≤ 1000000 ∧ mapW (fun d K' => optW (bindS n d) fun sl =>
      wBo T (maskS mask σ ++ sl) ifs fun r => (r = true → wX T (maskS mask σ ++ sl) elt fun d fl => clean fl d ∧ K' (some d)) ∧ (r = false → K' none)) [] items fun ds => K (.lst ds) .fr
def wXs (T : Tab) (σ : List Slot) : Xs → (List D → Prop) → Prop
  | .nil, K => K []
  | .cons x l, K => wX T σ x fun d fl => clean fl d ∧ wXs T σ l fun ds => K (d :: ds)
def wA (T : Tab) (σ : List Slot) : Xs → (List D → Prop) → Prop
  | .nil, K => K []
  | .cons x l, K => wX T σ x fun d fl => wA T σ l fun ds => K (d :: ds)
def wXo (T : Tab) (σ : List Slot) : Xo → (Option Int → Prop) → Prop
  | .none, K => K none
  | .some x, K => wX T σ x fun d _ => match d with
    | .int i => K (some i)
    | _ => False
def wB (T : Tab) (σ : List Slot) : B → (Bool → Prop) → Prop
  | .not a, K => wB T σ a fun r => K (!r)
  | .cmp op a b, K => wX T σ a fun d₁ _ => wX T σ b fun d₂ _ => cmpW op d₁ d₂ K
  | .and a b, K => wB T σ a fun r => (r = true → wB T σ b K) ∧ (r = false → K false)
  | .or a b, K => wB T σ a fun r => (r = false → wB T σ b K) ∧ (r = true → K true)
  | .val x, K => wX T σ x fun d _ => truW d K
def wBo (T : Tab) (σ : List Slot) : Bo → (Bool → Prop) → Prop
  | .none, K => K true
  | .some b, K => wB T σ b K
def wIt (T : Tab) (σ : List Slot) : It → (List D → Fl → Prop) → Prop
  | .x a, K => wX T σ a fun d fl => iterW d fun l => K l fl
  | .range l, K => wA T σ l fun ds => rangeW ds fun l => K l .fr
  | .enum a, K => wX T σ a fun d fl => enumW d fun l => K l fl
  | .zip a b, K => wX T σ a fun d₁ fl => wX T σ b fun d₂ _ => zipW d₁ d₂ fun l => K l fl
end
end Mine

end

section
open PySem PySem.W PyProof.Rows
set_option Elab.async false
set_option linter.unusedVariables false
set_option maxRecDepth 4000
namespace Mine

/-- s₁ later than s: only what W holds was turned -/
structure Later (Z W : Addr → Prop) (s : Shared) (Z₁ W₁ : Addr → Prop) (s₁ : Shared) : Prop where
  ex : ∃ h' tk, s₁ = { s with heap := h', toks := tk }
  tk : s.toks ≤ s₁.toks
  keep : ∀ b o, ¬ W b → s.heap.get? b = some o → s₁.heap.get? b = some o
  dom : ∀ b o, s.heap.get? b = some o → ∃ o', s₁.heap.get? b = some o'
  z : ∀ a, Z a → Z₁ a
  znew : ∀ a, Z₁ a → Z a ∨ s.heap.get? a = none
  wnew : ∀ a, W₁ a → W a ∨ s.heap.get? a = none
theorem Later.refl {Z W : Addr → Prop} {s : Shared} : Later Z W s Z W s := ⟨⟨s.heap, s.toks, rfl⟩, Nat.le_refl _, fun _ _ _ e => e, fun _ o e => ⟨o, e⟩, fun _ h => h, fun _ h => .inl h, fun _ h => .inl h⟩
theorem Later.none {Z W Z₁ W₁ : Addr → Prop} {s s₁ : Shared} (l : Later Z W s Z₁ W₁ s₁) {a : Addr} (e : s₁.heap.get? a = none) : s.heap.get? a = none := by
  cases q : s.heap.get? a with
  | none => rfl
  | some o => obtain ⟨o', q'⟩ := l.dom a o q; rw [e] at q'; cases q'
theorem Later.trans {Z W Z₁ W₁ Z₂ W₂ : Addr → Prop} {s s₁ s₂ : Shared} (x : Later Z W s Z₁ W₁ s₁) (y : Later Z₁ W₁ s₁ Z₂ W₂ s₂) : Later Z W s Z₂ W₂ s₂ := by
  refine ⟨?_, Nat.le_trans x.tk y.tk, fun b o hb e => ?_, fun b o e => ?_, fun a h => y.z a (x.z a h), fun a h => ?_, fun a h => ?_⟩
  · obtain ⟨h', t', rfl⟩ := x.ex; obtain ⟨h'', t'', rfl⟩ := y.ex; exact ⟨h'', t'', rfl⟩
  · refine y.keep b o (fun hw => ?_) (x.keep b o hb e)
    rcases x.wnew b hw with h | h
    · exact hb h
    · rw [e] at h; cases h
  · obtain ⟨o', e'⟩ := x.dom b o e; exact y.dom b o' e'
  · rcases y.znew a h with h | h
    · exact x.znew a h
    · exact .inr (x.none h)
  · rcases y.wnew a h with h | h
    · exact x.wnew a h
    · exact .inr (x.none h)
theorem Later.kp {Z W : Addr → Prop} {s s₁ : Shared} (k : Kp s s₁) : Later Z W s Z W s₁ := by
  refine ⟨?_, k.tk, fun b o _ e => k.get b o e, fun b o e => ⟨o, k.get b o e⟩, fun _ h => h, fun _ h => .inl h, fun _ h => .inl h⟩
  obtain ⟨h', t', e, _⟩ := k.ex; exact ⟨h', t', e⟩
theorem Later.toKp {Z Z₁ W₁ : Addr → Prop} {s s₁ : Shared} (l : Later Z (fun _ => False) s Z₁ W₁ s₁) : Kp s s₁ := by
  obtain ⟨h', t', rfl⟩ := l.ex
  exact .of (fun b o e => l.keep b o (fun h => h) e) l.tk
/-- more may be turned -/
theorem Later.widen {Z W W' Z₁ W₁ : Addr → Prop} {s s₁ : Shared} (l : Later Z W s Z₁ W₁ s₁) (h : ∀ a, W a → W' a) : Later Z W' s Z₁ W₁ s₁ :=
  ⟨l.ex, l.tk, fun b o hb e => l.keep b o (fun x => hb (h b x)) e, l.dom, l.z, l.znew, fun a x => (l.wnew a x).imp (h a) id⟩
theorem Later.narrow {Z W Z₁ W₁ W₂ : Addr → Prop} {s s₁ : Shared} (l : Later Z W s Z₁ W₁ s₁) (h : ∀ a, W₂ a → W a ∨ s.heap.get? a = Option.none) : Later Z W s Z₁ W₂ s₁ := ⟨l.ex, l.tk, l.keep, l.dom, l.z, l.znew, h⟩

section
variable {c : Cx} {Z W Z₁ W₁ : Addr → Prop} {s s₁ : Shared} {v : Value} {d : D}
theorem Later.nz (l : Later Z W s Z₁ W₁ s₁) (hw : ∀ a, W a → Z a) (a : Addr) (o : Obj) (p : NZ Z a) (e : s.heap.get? a = some o) : NZ Z₁ a ∧ s₁.heap.get? a = some o :=
  ⟨fun h => (l.znew a h).elim p (fun h => by rw [e] at h; cases h), l.keep a o (fun h => p (hw a h)) e⟩
theorem R.later (r : R c s (NZ Z) v d) (l : Later Z W s Z₁ W₁ s₁) (hw : ∀ a, W a → Z a) : R c s₁ (NZ Z₁) v d := r.trans l.tk (l.nz hw)
theorem RL.later {vs ds} (r : RL c s (NZ Z) vs ds) (l : Later Z W s Z₁ W₁ s₁) (hw : ∀ a, W a → Z a) : RL c s₁ (NZ Z₁) vs ds := r.trans l.tk (l.nz hw)
theorem RF.later {vs ds} (r : RF c s (NZ Z) vs ds) (l : Later Z W s Z₁ W₁ s₁) (hw : ∀ a, W a → Z a) : RF c s₁ (NZ Z₁) vs ds := r.trans l.tk (l.nz hw)
theorem RK.later {vs ds} (r : RK c s (NZ Z) vs ds) (l : Later Z W s Z₁ W₁ s₁) (hw : ∀ a, W a → Z a) : RK c s₁ (NZ Z₁) vs ds := r.trans l.tk (l.nz hw)
/-- smaller Z: more may be used -/
theorem R.less {Z' : Addr → Prop} (r : R c s (NZ Z) v d) (h : ∀ a, Z' a → Z a) : R c s (NZ Z') v d := r.trans (Nat.le_refl _) fun a o p e => ⟨fun z => p (h a z), e⟩
theorem RL.less {Z' : Addr → Prop} {vs ds} (r : RL c s (NZ Z) vs ds) (h : ∀ a, Z' a → Z a) : RL c s (NZ Z') vs ds := r.trans (Nat.le_refl _) fun a o p e => ⟨fun z => p (h a z), e⟩
theorem Rt.less {Z' : Addr → Prop} (r : Rt c s (NZ Z) v d) (h : ∀ a, Z' a → Z a) : Rt c s (NZ Z') v d := r.trans (Nat.le_refl _) (fun _ _ e => e) fun a o p e => fun z => p (h a z)
/-- the root itself may be in Z, not in W -/
theorem Rt.later (r : Rt c s (NZ Z) v d) (l : Later Z W s Z₁ W₁ s₁) (hw : ∀ a, W a → Z a) (hr : ∀ a, v = .ref a → ¬ W a) : Rt c s₁ (NZ Z₁) v d := by
  cases r with
  | of r => exact .of (r.later l hw)
  | tup g r => exact .tup (l.keep _ _ (hr _ rfl) g) (r.later l hw)
  | lst g r => exact .lst (l.keep _ _ (hr _ rfl) g) (r.later l hw)
  | dct g r => exact .dct (DictOf_at g fun o e => l.keep _ _ (hr _ rfl) e) (r.later l hw)
end

structure KpBut (fp : Addr → Prop) (s s₁ : Shared) : Prop where
  ex : ∃ h' tk, s₁ = { s with heap := h', toks := tk }
  tk : s.toks ≤ s₁.toks
  keep : ∀ b o, ¬ fp b → s.heap.get? b = some o → s₁.heap.get? b = some o
/-- no list, tuple or dict -/
def Itr (h : Heap) (x : Addr) : Prop := ∃ o, h.get? x = some o ∧ o.cls ≠ .type "list" ∧ o.cls ≠ .type "tuple" ∧ o.cls ≠ .type "dict"
/-- what an iterator at I still gives -/
def ItOk (c : Cx) (A : Around) (tgt : Expr) (I : Addr) (fp : Addr → Prop) : List D → (Addr → Prop) → (Addr → Prop) → Shared → Prop
  | [] => fun Z W s => ∀ (E : Value → Shared → Prop) (Z₁ W₁ : Addr → Prop) (s₁ : Shared), Later Z W s Z₁ W₁ s₁ → (∀ a, W₁ a → Z₁ a) → ZIn Z₁ s₁.heap →
      wpAny (model c.prog c.w) A (pyNext (.ref I)) (fun r s₂ => r = none ∧ KpBut fp s₁ s₂) E s₁
  | d :: ds => fun Z W s => ∀ (E : Value → Shared → Prop) (Z₁ W₁ : Addr → Prop) (s₁ : Shared), Later Z W s Z₁ W₁ s₁ → (∀ a, W₁ a → Z₁ a) → ZIn Z₁ s₁.heap →
      wpAny (model c.prog c.w) A (pyNext (.ref I)) (fun r s₂ => ∃ v, r = some v ∧ wpAny (model c.prog c.w) A (letOwnedTupleGo tgt (.ref I) v)
        (fun _ s₃ => Later Z₁ fp s₁ Z₁ fp s₃ ∧ R c s₃ (NZ Z₁) v d ∧ (∀ x, fp x → Itr s₃.heap x) ∧ ItOk c A tgt I fp ds Z₁ W₁ s₃) E s₂) E s₁

section
variable {c : Cx} {A : Around} {E : Value → Shared → Prop} {s : Shared}
def ownsTuple (n : String) : Bool := ["enumerate", "zip", "dict_itemiterator", "dict_reverseitemiterator", "odict_iterator", "itertools.zip_longest", "itertools.pairwise"].contains n
theorem lotg_plain {tgt : Expr} {I : Addr} {v : Value} {Q : Unit → Shared → Prop} {o : Obj} {n : String} {vs : Array Value} (ho : s.heap.get? I = some o) (hc : o.cls = .type n) (hd : o.data = .fields vs) (hn : ownsTuple n = false) (h : Q () s) :
    wpAny (model c.prog c.w) A (letOwnedTupleGo tgt (.ref I) v) Q E s := by
  have key : ∀ a, wpAny (model c.prog c.w) A (do
      let o ← load I
      match o.cls, o.data with
      | .type n, .fields vs =>
        if ["enumerate", "zip", "dict_itemiterator", "dict_reverseitemiterator", "odict_iterator", "itertools.zip_longest", "itertools.pairwise"].contains n && vs[0]? == some (rawInt a) then
          rule "for.unpacks-the-owned-tuple"
          updateField I 0 .none
      | _, _ => pure () : Sem Unit) Q E s := by
    intro a
    refine wpAny_bind (wpAny_load ho ?_)
    simp only [hc, hd]
    unfold ownsTuple at hn
    rw [hn, Bool.false_and, if_neg Bool.false_ne_true]
    exact wpAny_pure h
  unfold letOwnedTupleGo
  split
  · cases v <;> first | exact wpAny_pure h | exact key _
  · cases v <;> first | exact wpAny_pure h | exact key _
  · exact wpAny_pure h

theorem Later.upd {Z fp : Addr → Prop} {I : Addr} {h' : Heap} {o' : Obj} (hf : fp I) (hs : Heap.SameBut I s.heap h') (ho : h'.get? I = some o') : Later Z fp s Z fp { s with heap := h' } := by
  refine ⟨⟨h', s.toks, rfl⟩, Nat.le_refl _, fun b o hb e => hs.extBut b o (fun e' => hb (e' ▸ hf)) e, fun b o e => ?_, fun _ h => h, fun _ h => .inl h, fun _ h => .inl h⟩
  by_cases hb : b = I
  · subst hb; exact ⟨o', ho⟩
  · exact ⟨o, hs.extBut b o hb e⟩
theorem KpBut.ext {fp : Addr → Prop} {I : Addr} {h' : Heap} (hf : fp I) (hs : Heap.ExtBut I s.heap h') : KpBut fp s { s with heap := h' } :=
  ⟨⟨h', s.toks, rfl⟩, Nat.le_refl _, fun b o hb e => hs b o (fun e' => hb (e' ▸ hf)) e⟩
theorem Later.tok {Z W : Addr → Prop} {t : Nat} (h : s.toks ≤ t) : Later Z W s Z W { s with toks := t } := .kp (.tok h)

structure ItPre (Z W fp : Addr → Prop) : Prop where
  hw : ∀ x, W x → Z x
  hf : ∀ x, fp x → Z x
  off : ∀ x, fp x → ¬ W x
theorem ItPre.later {Z W fp Z₁ W₁ : Addr → Prop} {s s₁ : Shared} (p : ItPre Z W fp) (l : Later Z W s Z₁ W₁ s₁) (hw₁ : ∀ a, W₁ a → Z₁ a) (hz : ∀ x, fp x → ∃ o, s.heap.get? x = some o) : ItPre Z₁ W₁ fp :=
  ⟨hw₁, fun x h => l.z x (p.hf x h), fun x h h' => (l.wnew x h').elim (p.off x h) fun e => by obtain ⟨o, q⟩ := hz x h; rw [e] at q; cases q⟩
theorem Later.notW {Z W Z₁ W₁ : Addr → Prop} {s s₁ : Shared} (l : Later Z W s Z₁ W₁ s₁) {a : Addr} {o : Obj} (h : ¬ W a) (e : s.heap.get? a = some o) : ¬ W₁ a := fun h' => (l.wnew a h').elim h fun e' => by rw [e] at e'; cases e'

/-- a list is gone through -/
theorem ItOk.list (hh : A.handled = none) {tgt : Expr} {I a : Addr} {fp : Addr → Prop} {vs : List Value} {n : Nat} (hfI : fp I) (hfa : ¬ fp a) :
    ∀ (ds : List D) (us : List Value) (i : Nat) (Z W : Addr → Prop) (s : Shared), vs.drop i = us → s.heap.IsListIter I a i → s.heap.get? a = some (seqO "list" vs n) → RL c s (NZ Z) us ds → ¬ W a → ItPre Z W fp → (∀ x, fp x → Itr s.heap x) →
      ItOk c A tgt I fp ds Z W s
  | [], us, i, Z, W, s, hu, hit, hl, r, hWa, hp, hz => by
    intro E Z₁ W₁ s₁ l hw₁ hz₁
    cases r
    obtain ⟨oi, hoi, hc, hd⟩ := hit
    have hit₁ : s₁.heap.IsListIter I a i := ⟨oi, l.keep _ _ (hp.off I hfI) hoi, hc, hd⟩
    have hl₁ := l.keep _ _ hWa hl
    refine wpAny_pyNext_list_end hh hit₁ (isList_of hl₁) ?_ fun h' hs => ⟨rfl, .ext hfI hs⟩
    have : vs.length ≤ i := List.drop_eq_nil_iff.mp hu
    simpa using this
  | d :: ds, us, i, Z, W, s, hu, hit, hl, r, hWa, hp, hz => by
    intro E Z₁ W₁ s₁ l hw₁ hz₁
    cases r with
    | @cons v d us' ds r rl =>
    obtain ⟨oi, hoi, hc, hd⟩ := hit
    have hit₁ : s₁.heap.IsListIter I a i := ⟨oi, l.keep _ _ (hp.off I hfI) hoi, hc, hd⟩
    have hl₁ := l.keep _ _ hWa hl
    have hx : vs[i]? = some v := by
      have := congrArg (·[0]?) hu
      simpa using this
    refine wpAny_pyNext_list_item hit₁ (isList_of hl₁) (x := v) (by simpa using hx) fun h' hi' hs => ⟨v, rfl, ?_⟩
    obtain ⟨o', ho', hc', hd'⟩ := id hi'
    refine lotg_plain ho' hc' hd' (by decide) ?_
    have key : Later Z₁ fp s₁ Z₁ fp { s₁ with heap := h' } := .upd hfI hs ho'
    have hp₁ := hp.later l hw₁ fun x h => let ⟨o, e, _⟩ := hz x h; ⟨o, e⟩
    have hz' : ∀ x, fp x → Itr h' x := fun x h => by
      by_cases hx : x = I
      · subst hx; exact ⟨o', ho', by rw [hc']; decide⟩
      · obtain ⟨o, e, hcl⟩ := hz x h; exact ⟨o, hs.extBut x o hx (l.keep x o (hp.off x h) e), hcl⟩
    have rr : RL c { s₁ with heap := h' } (NZ Z₁) (v :: us') (d :: ds) := RL.later (RL.later (.cons r rl) l hp.hw) key hp₁.hf
    cases rr with
    | cons r' rl' =>
    refine ⟨key, r', hz', ItOk.list hh hfI hfa ds us' (i + 1) Z₁ W₁ _ ?_ hi' (hs.extBut a _ (fun e => hfa (e ▸ hfI)) hl₁) rl' (l.notW hWa hl) hp₁ hz'⟩
    rw [← List.tail_drop, hu]; rfl
/-- a tuple is gone through -/
theorem ItOk.tuple (hh : A.handled = none) {tgt : Expr} {I a : Addr} {fp : Addr → Prop} {vs : List Value} {n : Nat} (hfI : fp I) (hfa : ¬ fp a) :
    ∀ (ds : List D) (us : List Value) (i : Nat) (Z W : Addr → Prop) (s : Shared), vs.drop i = us → s.heap.IsTupleIter I a i → s.heap.get? a = some (seqO "tuple" vs n) → RL c s (NZ Z) us ds → ¬ W a → ItPre Z W fp → (∀ x, fp x → Itr s.heap x) →
      ItOk c A tgt I fp ds Z W s
  | [], us, i, Z, W, s, hu, hit, hl, r, hWa, hp, hz => by
    intro E Z₁ W₁ s₁ l hw₁ hz₁
    cases r
    obtain ⟨oi, hoi, hc, hd⟩ := hit
    have hit₁ : s₁.heap.IsTupleIter I a i := ⟨oi, l.keep _ _ (hp.off I hfI) hoi, hc, hd⟩
    have hl₁ := l.keep _ _ hWa hl
    refine wpAny_pyNext_tuple_end hh hit₁ ⟨_, hl₁, rfl, n, rfl⟩ ?_ fun h' hs => ⟨rfl, .ext hfI hs⟩
    have : vs.length ≤ i := List.drop_eq_nil_iff.mp hu
    simpa using this
  | d :: ds, us, i, Z, W, s, hu, hit, hl, r, hWa, hp, hz => by
    intro E Z₁ W₁ s₁ l hw₁ hz₁
    cases r with
    | @cons v d us' ds r rl =>
    obtain ⟨oi, hoi, hc, hd⟩ := hit
    have hit₁ : s₁.heap.IsTupleIter I a i := ⟨oi, l.keep _ _ (hp.off I hfI) hoi, hc, hd⟩
    have hl₁ := l.keep _ _ hWa hl
    have hx : vs[i]? = some v := by
      have := congrArg (·[0]?) hu
      simpa using this
    refine wpAny_pyNext_tuple_item hit₁ ⟨_, hl₁, rfl, n, rfl⟩ (x := v) (by simpa using hx) fun h' hi' hs => ⟨v, rfl, ?_⟩
    obtain ⟨o', ho', hc', hd'⟩ := id hi'
    refine lotg_plain ho' hc' hd' (by decide) ?_
    have key : Later Z₁ fp s₁ Z₁ fp { s₁ with heap := h' } := .upd hfI hs ho'
    have hp₁ := hp.later l hw₁ fun x h => let ⟨o, e, _⟩ := hz x h; ⟨o, e⟩
    have hz' : ∀ x, fp x → Itr h' x := fun x h => by
      by_cases hx : x = I
      · subst hx; exact ⟨o', ho', by rw [hc']; decide⟩
      · obtain ⟨o, e, hcl⟩ := hz x h; exact ⟨o, hs.extBut x o hx (l.keep x o (hp.off x h) e), hcl⟩
    have rr : RL c { s₁ with heap := h' } (NZ Z₁) (v :: us') (d :: ds) := RL.later (RL.later (.cons r rl) l hp.hw) key hp₁.hf
    cases rr with
    | cons r' rl' =>
    refine ⟨key, r', hz', ItOk.tuple hh hfI hfa ds us' (i + 1) Z₁ W₁ _ ?_ hi' (hs.extBut a _ (fun e => hfa (e ▸ hfI)) hl₁) rl' (l.notW hWa hl) hp₁ hz'⟩
    rw [← List.tail_drop, hu]; rfl

/-- a text is gone through -/
theorem ItOk.str (hh : A.handled = none) {tgt : Expr} {I : Addr} {fp : Addr → Prop} {l : List Nat} {t : Tok} (hfI : fp I) :
    ∀ (ms : List Nat) (i : Nat) (Z W : Addr → Prop) (s : Shared), l.drop i = ms → s.heap.IsStrIter I "str_ascii_iterator" ⟨l.toArray⟩ t i → ItPre Z W fp → (∀ x, fp x → Itr s.heap x) →
      ItOk c A tgt I fp (chD ms) Z W s
  | [], i, Z, W, s, hu, hit, hp, hz => by
    intro E Z₁ W₁ s₁ ll hw₁ hz₁
    obtain ⟨oi, hoi, hc, hd⟩ := hit
    have hit₁ : s₁.heap.IsStrIter I "str_ascii_iterator" ⟨l.toArray⟩ t i := ⟨oi, ll.keep _ _ (hp.off I hfI) hoi, hc, hd⟩
    refine wpAny_pyNext_ascii_end hh hit₁ ?_ fun h' hs => ⟨rfl, .ext hfI hs⟩
    have : l.length ≤ i := List.drop_eq_nil_iff.mp hu
    simpa using this
  | ch :: ms, i, Z, W, s, hu, hit, hp, hz => by
    intro E Z₁ W₁ s₁ ll hw₁ hz₁
    obtain ⟨oi, hoi, hc, hd⟩ := hit
    have hit₁ : s₁.heap.IsStrIter I "str_ascii_iterator" ⟨l.toArray⟩ t i := ⟨oi, ll.keep _ _ (hp.off I hfI) hoi, hc, hd⟩
    have hx : l[i]? = some ch := by
      have := congrArg (·[0]?) hu
      simpa using this
    refine wpAny_pyNext_ascii_item hit₁ (c := ch) (by simpa using hx) fun h' hi' hs => ⟨_, rfl, ?_⟩
    obtain ⟨o', ho', hc', hd'⟩ := id hi'
    refine lotg_plain ho' hc' hd' (by decide) ?_
    have key : Later Z₁ fp s₁ Z₁ fp { s₁ with heap := h', toks := s₁.toks + 1 } := (Later.upd hfI hs ho').trans (.tok (Nat.le_succ _))
    have hp₁ := hp.later ll hw₁ fun x h => let ⟨o, e, _⟩ := hz x h; ⟨o, e⟩
    have hz' : ∀ x, fp x → Itr h' x := fun x h => by
      by_cases hx : x = I
      · subst hx; exact ⟨o', ho', by rw [hc']; decide⟩
      · obtain ⟨o, e, hcl⟩ := hz x h; exact ⟨o, hs.extBut x o hx (ll.keep x o (hp.off x h) e), hcl⟩
    refine ⟨key, R.str [ch] _, hz', ItOk.str hh hfI ms (i + 1) Z₁ W₁ _ ?_ hi' hp₁ hz'⟩
    rw [← List.tail_drop, hu]; rfl

/-- a range is gone through -/
theorem ItOk.range (hh : A.handled = none) {tgt : Expr} {I : Addr} {fp : Addr → Prop} (hfI : fp I) :
    ∀ (n : Nat) (a : Int) (Z W : Addr → Prop) (s : Shared), IsRangeIter s.heap I a n 1 → ItPre Z W fp → (∀ x, fp x → Itr s.heap x) →
      ItOk c A tgt I fp ((List.range n).map fun (k : Nat) => .int (a + (k : Int))) Z W s
  | 0, a, Z, W, s, hit, hp, hz => by
    intro E Z₁ W₁ s₁ ll hw₁ hz₁
    exact wpAny_pyNext_range_end hh (ll.keep _ _ (hp.off I hfI) hit) (by simp) fun h' hs => ⟨rfl, .ext hfI hs⟩
  | n + 1, a, Z, W, s, hit, hp, hz => by
    have e : ((List.range (n + 1)).map fun (k : Nat) => D.int (a + (k : Int))) = .int a :: ((List.range n).map fun (k : Nat) => D.int (a + 1 + (k : Int))) := by
      rw [List.range_succ_eq_map, List.map_cons, List.map_map]
      congr 1
      · simp
      · apply List.map_congr_left
        intro k _
        show D.int (a + ((k + 1 : Nat) : Int)) = _
        congr 1; omega
    rw [e]
    intro E Z₁ W₁ s₁ ll hw₁ hz₁
    refine wpAny_pyNext_range_item (ll.keep _ _ (hp.off I hfI) hit) (by omega) fun h' hi' hs => ⟨_, rfl, ?_⟩
    refine lotg_plain hi' rfl rfl (by decide) ?_
    have key : Later Z₁ fp s₁ Z₁ fp { s₁ with heap := h', toks := s₁.toks + 1 } := (Later.upd hfI hs hi').trans (.tok (Nat.le_succ _))
    have hp₁ := hp.later ll hw₁ fun x h => let ⟨o, e, _⟩ := hz x h; ⟨o, e⟩
    have hz' : ∀ x, fp x → Itr h' x := fun x h => by
      by_cases hx : x = I
      · subst hx; exact ⟨_, hi', by simp⟩
      · obtain ⟨o, e, hcl⟩ := hz x h; exact ⟨o, hs.extBut x o hx (ll.keep x o (hp.off x h) e), hcl⟩
    refine ⟨key, R.int _ _, hz', ItOk.range hh hfI n (a + 1) Z₁ W₁ _ ?_ hp₁ hz'⟩
    have e2 : ((n + 1 : Nat) : Int) - 1 = (n : Int) := by omega
    rw [e2] at hi'
    exact hi'

/-- enumerate of a list is gone through -/
theorem ItOk.enum (hh : A.handled = none) {elts : List Expr} {tk : Nat} {tp : Pos} {I it a : Addr} {fp : Addr → Prop} {vs : List Value} {n : Nat} (hfI : fp I) (hft : fp it) (hfo : ∀ x, fp x → x = I ∨ x = it) (hIt : I ≠ it) (hfa : ¬ fp a) :
    ∀ (ds : List D) (us : List Value) (i : Nat) (old : Value) (Z W : Addr → Prop) (s : Shared), vs.drop i = us → IsEnum s.heap I it i old → s.heap.IsListIter it a i → s.heap.get? a = some (seqO "list" vs n) → RL c s (NZ Z) us ds → ¬ W a → ItPre Z W fp → (∀ x, fp x → Itr s.heap x) →
      ItOk c A (.Tuple elts tk tp) I fp (enumD i ds) Z W s
  | [], us, i, old, Z, W, s, hu, he, hit, hl, r, hWa, hp, hz => by
    intro E Z₁ W₁ s₁ l hw₁ hz₁
    cases r
    obtain ⟨oi, hoi, hc, hd⟩ := hit
    have hit₁ : s₁.heap.IsListIter it a i := ⟨oi, l.keep _ _ (hp.off it hft) hoi, hc, hd⟩
    have hl₁ := l.keep _ _ hWa hl
    refine wpAny_pyNext_enum_end hh (l.keep _ _ (hp.off I hfI) he) hit₁ (isList_of hl₁) ?_ fun h' hs => ⟨rfl, .ext hft hs⟩
    have : vs.length ≤ i := List.drop_eq_nil_iff.mp hu
    simpa using this
  | d :: ds, us, i, old, Z, W, s, hu, he, hit, hl, r, hWa, hp, hz => by
    intro E Z₁ W₁ s₁ l hw₁ hz₁
    cases r with
    | @cons v d us' ds r rl =>
    obtain ⟨oi, hoi, hc, hd⟩ := hit
    have hit₁ : s₁.heap.IsListIter it a i := ⟨oi, l.keep _ _ (hp.off it hft) hoi, hc, hd⟩
    have hl₁ := l.keep _ _ hWa hl
    have hx : vs[i]? = some v := by
      have := congrArg (·[0]?) hu
      simpa using this
    have he₁ := l.keep _ _ (hp.off I hfI) he
    have hIlt : I < s₁.heap.objs.size := Heap.lt_size he₁
    refine wpAny_pyNext_enum_item he₁ hit₁ (isList_of hl₁) (x := v) (by simpa using hx) hIt fun h' heo hi' ht' hz' hk' => ⟨_, rfl, ?_⟩
    refine wpAny_letOwnedTupleGo_enum heo fun h₂ he₂ hs₂ => ?_
    replace hs₂ : Heap.SameBut I h' h₂ := hs₂
    have keep₂ : ∀ b o, ¬ fp b → s₁.heap.get? b = some o → h₂.get? b = some o := fun b o hb e => hs₂.extBut b o (fun q => hb (q ▸ hfI)) (hk' b o (fun q => hb (q ▸ hfI)) (fun q => hb (q ▸ hft)) e)
    have hit₂ : h₂.IsListIter it a (i + 1) := hi'.extBut hs₂.extBut (Ne.symm hIt)
    have key : Later Z₁ fp s₁ Z₁ fp { s₁ with heap := h₂, toks := s₁.toks + 1 } := by
      refine ⟨⟨h₂, _, rfl⟩, Nat.le_succ _, keep₂, fun b o e => ?_, fun _ h => h, fun _ h => .inl h, fun _ h => .inl h⟩
      by_cases hb : fp b
      · rcases hfo b hb with rfl | rfl
        · exact ⟨_, he₂⟩
        · obtain ⟨o', ho', _⟩ := hit₂; exact ⟨o', ho'⟩
      · exact ⟨o, keep₂ b o hb e⟩
    have hp₁ := hp.later l hw₁ fun x h => let ⟨o, e, _⟩ := hz x h; ⟨o, e⟩
    have hz₂ : ∀ x, fp x → Itr h₂ x := fun x h => by
      rcases hfo x h with rfl | rfl
      · exact ⟨_, he₂, by simp⟩
      · obtain ⟨o', ho', hc', _⟩ := hit₂; exact ⟨o', ho', by rw [hc']; decide⟩
    have rr : RL c { s₁ with heap := h₂, toks := s₁.toks + 1 } (NZ Z₁) (v :: us') (d :: ds) := RL.later (RL.later (.cons r rl) l hp.hw) key hp₁.hf
    cases rr with
    | cons r' rl' =>
    have hfr : s₁.heap.get? s₁.heap.objs.size = none := Heap.get?_none_of_le (Nat.le_refl _)
    have hnz : ¬ Z₁ s₁.heap.objs.size := fun h => by obtain ⟨o, e⟩ := hz₁ _ h; rw [hfr] at e; cases e
    refine ⟨key, R.tup (vs := [.int i s₁.toks, v]) (n := 0) hnz ((hs₂.2 _ (Nat.ne_of_gt hIlt)).trans ht') (.cons (R.int _ _) (.cons r' .nil)), hz₂, ?_⟩
    refine ItOk.enum hh hfI hft hfo hIt hfa ds us' (i + 1) _ Z₁ W₁ _ ?_ he₂ hit₂ (keep₂ _ _ hfa hl₁) rl' (l.notW hWa hl) hp₁ hz₂
    rw [← List.tail_drop, hu]; rfl
end
end Mine

end

section
open PySem PySem.W PyProof.Rows
set_option Elab.async false
set_option linter.unusedVariables false
set_option maxRecDepth 4000
namespace Mine

inductive RtL (c : Cx) (s : Shared) (P : Addr → Prop) : List Value → List D → Prop
  | nil : RtL c s P [] []
  | cons {v d vs ds} : Rt c s P v d → RtL c s P vs ds → RtL c s P (v :: vs) (d :: ds)
theorem RtL.keeps {c : Cx} {Z : Addr → Prop} {s s' : Shared} {vs ds} (r : RtL c s (NZ Z) vs ds) (k : Kp s s') : RtL c s' (NZ Z) vs ds := by
  induction r with
  | nil => exact .nil
  | cons a b ih => exact .cons (a.keeps k) ih
theorem RtL.of {c : Cx} {s : Shared} {P : Addr → Prop} : ∀ {vs ds}, RL c s P vs ds → RtL c s P vs ds
  | _, _, .nil => .nil
  | _, _, .cons a b => .cons (.of a) (RtL.of b)

/-- what an answer is like -/
def Ans (c : Cx) (Z W : Addr → Prop) (s : Shared) (K : D → Fl → Prop) (v : Value) (s' : Shared) : Prop := Kp s s' ∧ ∃ d fl, K d fl ∧ Res c Z W s s' fl v d

section
variable (c : Cx) (A : Around) (env : Env) (Z W : Addr → Prop) (ns : List Str) (σ : List Slot)
def EvW (e : Expr) (K : D → Fl → Prop) : Prop := ∀ (E : Value → Shared → Prop) (s : Shared), RSt c env Z W ns σ s → wpAny (model c.prog c.w) A (eval e env) (Ans c Z W s K) E s
def TrW (e : Expr) (K : Bool → Prop) : Prop := ∀ (E : Value → Shared → Prop) (s : Shared), RSt c env Z W ns σ s → wpAny (model c.prog c.w) A (isTrue e env (eval e env)) (fun r s' => Kp s s' ∧ K r) E s
def LsW (es : List Expr) (K : List D → Prop) : Prop := ∀ (pos : Pos) (E : Value → Shared → Prop) (s : Shared), RSt c env Z W ns σ s → wpAny (model c.prog c.w) A (spliced (backTo pos (starEach es env))) (fun vs s' => Kp s s' ∧ ∃ ds, K ds ∧ RL c s' (NZ Z) vs ds) E s
def ArW (es : List Expr) (K : List D → Prop) : Prop := ∀ (pos : Pos) (E : Value → Shared → Prop) (s : Shared), RSt c env Z W ns σ s → wpAny (model c.prog c.w) A (spliced (backTo pos (starEach es env))) (fun vs s' => Kp s s' ∧ ∃ ds, K ds ∧ RtL c s' (NZ Z) vs ds) E s
def PtW (o : Option Expr) (K : Option Int → Prop) : Prop := ∀ (E : Value → Shared → Prop) (s : Shared), RSt c env Z W ns σ s → wpAny (model c.prog c.w) A (evalPart o env) (fun v s' => Kp s s' ∧ ∃ r t, K r ∧ v = partValue (r.map fun i => (i, t))) E s
def IfW (es : List Expr) (K : Bool → Prop) : Prop := ∀ (E : Value → Shared → Prop) (s : Shared), RSt c env Z W ns σ s →
  wpAny (model c.prog c.w) A (forIn es true fun c r => if r = true then do let ok ← isTrue c env (eval c env); pure (ForInStep.yield ok) else pure (ForInStep.yield r)) (fun r s' => Kp s s' ∧ K r) E s
/-- what is gone through; in a comprehension nobody else turns anything -/
def ItW (tgt : Expr) (e : Expr) (K : List D → Fl → Prop) : Prop := ∀ (E : Value → Shared → Prop) (s : Shared), RSt c env Z W ns σ s → wpAny (model c.prog c.w) A (eval e env) (fun xv s₁ => wpAny (model c.prog c.w) A (pyIter xv)
  (fun it s₂ => ∃ I ds fl, ∃ fp : Addr → Prop, it = .ref I ∧ K ds fl ∧ Kp s s₂ ∧ (∀ x, fp x → s.heap.get? x = none) ∧ (∀ x, fp x → Itr s₂.heap x) ∧ fp I ∧
    (∀ (E : Value → Shared → Prop) (Q : Value → Shared → Prop) (s₃ : Shared), (∀ o, s₂.heap.get? I = some o → s₃.heap.get? I = some o) → Q (.ref I) s₃ → wpAny (model c.prog c.w) A (pyIter (.ref I)) Q E s₃) ∧
    ∀ Z' W' : Addr → Prop, (∀ x, W' x → Z' x) → (∀ x, fp x → Z' x) → (∀ x, Z' x → Z x ∨ fp x) → (∀ x, W' x → ¬ fp x) → (∀ x, W' x → W x) → (fl = .ow → ∀ x, ¬ W' x) → ItOk c A tgt I fp ds Z' W' s₂) E s₁) E s
end

structure EnvM (ct : Ct) (env : Env) : Prop where
  ok : EnvOk env
  kd : env.scope.names = ct.kd
  cells : ∀ x, (ct.kd.lookup x = some .cell ∨ ct.kd.lookup x = some .free) → ∃ a, env.cells.lookup x = some a
theorem EnvM.kindOf {ct : Ct} {env : Env} (m : EnvM ct env) (x : Str) : env.kindOf x = ct.kd.lookup x := by unfold Env.kindOf; rw [m.kd]

def CallW (c : Cx) (A : Around) (f : Value) (ds : List D) (K : D → Fl → Prop) : Prop := ∀ (Z W : Addr → Prop) (E : Value → Shared → Prop) (s : Shared) (vs : List Value), (∀ a, W a → Z a) → Pre c Z s → RtL c s (NZ Z) vs ds →
  wpAny (model c.prog c.w) A (call f vs) (Ans c Z W s K) E s
structure TabOk (c : Cx) (A : Around) (T : Tab) (un gl : List Str) : Prop where
  fn : ∀ n name, un[n]? = some name → ∃ a, nsIn c.K mainGlobals name = some (some (.ref a)) ∧ keepIn c.K (.ref a) = true ∧ ∀ ds K, T.fn n ds K → CallW c A (.ref a) ds K
  gl : ∀ n d, T.gl n = some d → ∃ name v, gl[n]? = some name ∧ nsIn c.K mainGlobals name = some (some v) ∧ ∀ Z s, Pre c Z s → R c s (NZ Z) v d
  me : ∀ name d₀ f, T.mv name d₀ = some f → (keepIn c.K f = true ∨ ∀ a, f ≠ .ref a) ∧ (∀ ds K, T.me name d₀ ds K → CallW c A f (d₀ :: ds) K) ∧
    ∀ (Z : Addr → Prop) (E : Value → Shared → Prop) (s : Shared) (v : Value) (pl : Sem Bool), Pre c Z s → Rt c s (NZ Z) v d₀ → wpAny (model c.prog c.w) A (getMethod v name pl) (fun fx s' => fx = (f, [v]) ∧ Kp s s') E s
  ga : ∀ name d₀ K, T.ga name d₀ K → ∃ d, K d ∧ ∀ (Z : Addr → Prop) (E : Value → Shared → Prop) (s : Shared) (v : Value), Pre c Z s → Rt c s (NZ Z) v d₀ → wpAny (model c.prog c.w) A (getAttr v name true) (fun r s' => Kp s s' ∧ R c s' (NZ Z) r d) E s
  bi : ∀ f, (∀ n, f ≠ .user n) → ∃ x v, (∀ ct, f.name ct = some x) ∧ bootBuiltins x = some v ∧ x ≠ "__name__" ∧ (∀ a, v ≠ .ref a) ∧ nsIn c.K mainGlobals x = some none ∧ ∀ ds K, T.bi f ds K → CallW c A v ds K
  it : ∀ x, x = ("range" : Str) ∨ x = ("enumerate" : Str) ∨ x = ("zip" : Str) → nsIn c.K mainGlobals x = some none

structure Sd (c : Cx) (A : Around) (T : Tab) (un gl : List Str) : Prop where
  lo : 1 ≤ c.lo
  hh : A.handled = none
  us : A.units < 9000
  tab : TabOk c A T un gl

section
variable {c : Cx} {A : Around} {env : Env} {Z W : Addr → Prop} {ns : List Str} {σ : List Slot} {T : Tab}

theorem New.ans {s s' : Shared} {d : D} {v : Value} {K : D → Fl → Prop} {s₀ : Shared} (n : New c Z s d v s') (k : Kp s₀ s) (h : K d .fr) : Ans c Z W s₀ K v s' := ⟨k.trans n.1, d, .fr, h, n.2.1, n.2.2.1.keeps k, n.2.2.2⟩
theorem Ans.trans {s₀ s s' : Shared} {v : Value} {K : D → Fl → Prop} (a : Ans c Z W s K v s') (k : Kp s₀ s) : Ans c Z W s₀ K v s' := ⟨k.trans a.1, let ⟨d, fl, h, r⟩ := a.2; ⟨d, fl, h, r.back k⟩⟩
theorem mono {α : Type} {M : Model} {t : Sem α} {E : Value → Shared → Prop} {s : Shared} {P Q : α → Shared → Prop} (h : wpAny M A t P E s) (k : ∀ v s', P v s' → Q v s') : wpAny M A t Q E s := wpAny_mono h k fun _ _ e => e

/-- names -/
theorem SlotR.name {x : Str} {pos : Pos} {v : Value} {s : Shared} {E : Value → Shared → Prop} {Q : Value → Shared → Prop} (ok : EnvOk env) (l : Loc env s.heap x v) (h : Q v s) (hd : (x == ("__debug__" : Str)) = false) : wpAny (model c.prog c.w) A (eval (.Name x pos) env) Q E s := by
  refine wpAny_Name ?_ hd
  cases l with
  | loc m a b e => exact wpAny_loadName_local ok.kind a b e h
  | cell a b e f => rcases b with b | ⟨b, n⟩
                    · exact wpAny_loadName_cell ok.kind b e f h
                    · exact wpAny_loadName_free ok.kind b e f h n
theorem EvW.var {x : Str} {pos : Pos} {i : Nat} {K : D → Fl → Prop} (ok : EnvOk env) (hx : ns[i]? = some x) (hd : (x == ("__debug__" : Str)) = false)
    (h : match σ[i]? with
    | some (.cl d) => K d .cl
    | some (.rt d) => K d .rt
    | some (.ow d) => K d .ow
    | _ => False) : EvW c A env Z W ns σ (.Name x pos) K := by
  intro E s hs
  split at h
  · rename_i d e
    obtain ⟨v, l, r⟩ := hs.vars i x _ hx e
    exact SlotR.name ok l ⟨.rfl', d, .cl, h, r⟩ hd
  · rename_i d e
    obtain ⟨v, l, r⟩ := hs.vars i x _ hx e
    exact SlotR.name ok l ⟨.rfl', d, .rt, h, r.1, fun a e => (r.2 a e).1⟩ hd
  · rename_i d e
    obtain ⟨v, l, r, _⟩ := hs.vars i x _ hx e
    exact SlotR.name ok l ⟨.rfl', d, .ow, h, r⟩ hd
  · exact h.elim
theorem glob_name {x : Str} {pos : Pos} {v : Value} {E : Value → Shared → Prop} {s : Shared} {Q : Value → Shared → Prop} (ok : EnvOk env) (hx : env.kindOf x = some .globalImplicit) (e : nsIn c.K mainGlobals x = some (some v)) (hd : (x == ("__debug__" : Str)) = false)
    (p : Pre c Z s) (h : Q v s) : wpAny (model c.prog c.w) A (eval (.Name x pos) env) Q E s :=
  Calls.Name_function_global ok.kind hx (Calls.loadGlobal_global (by rw [ok.glob]; exact c.T.g.keeps p.keep) (mg_of c.X c.T.g e) h) hd
theorem blt_name {x : Str} {pos : Pos} {v : Value} {E : Value → Shared → Prop} {s : Shared} {Q : Value → Shared → Prop} (ok : EnvOk env) (hx : env.kindOf x = some .globalImplicit) (e : nsIn c.K mainGlobals x = some Option.none) (hv : bootBuiltins x = some v) (hn : x ≠ "__name__") (hd : (x == ("__debug__" : Str)) = false)
    (p : Pre c Z s) (h : Q v s) : wpAny (model c.prog c.w) A (eval (.Name x pos) env) Q E s :=
  Calls.Name_function_global ok.kind hx (Calls.loadGlobal_builtin (by rw [ok.glob]; exact c.T.g.keeps p.keep) (mg_none_of c.X c.T.g e) (by rw [ok.blt]; exact c.T.b.keeps p.keep) ((c.T.builtins x hn).trans hv) h) hd

/-- displays -/
theorem starEach_cons {e : Expr} (h : notStar e = true) (l : List Expr) (pos : Pos) : backTo pos (starEach (e :: l) env) = (false, eval e env) :: backTo pos (starEach l env) := by
  cases e <;> first | rfl | cases h
theorem noStar {pos : Pos} : ∀ {es : List Expr} {l : Xs} {ct : Ct}, mXs ct l es = true → (backTo pos (starEach es env)).any (·.1) = false ∧ (backTo pos (starEach es env)).all (fun x => !x.1) = true
  | [], _, _, _ => ⟨rfl, rfl⟩
  | e :: es, .nil, ct, h => by unfold mXs at h; cases h
  | e :: es, .cons x l, ct, h => by
    unfold mXs at h
    simp only [Bool.and_eq_true] at h
    rw [starEach_cons h.1.1, List.any_cons, List.all_cons, (noStar h.2).1, (noStar h.2).2]
    exact ⟨rfl, rfl⟩
theorem ArW.args {es : List Expr} {K : List D → Prop} (x : ArW c A env Z W ns σ es K) (f : Value) (pos : Pos) (E : Value → Shared → Prop) (s : Shared) (h : RSt c env Z W ns σ s) (hs : es.all notStar = true) :
    wpAny (model c.prog c.w) A (evalArgs f true (backTo pos (starEach es env)) []) (fun a s' => a.kw = [] ∧ Kp s s' ∧ ∃ ds, K ds ∧ RtL c s' (NZ Z) a.pos ds) E s := by
  have r := x pos E s h
  cases es with
  | nil =>
    show wpAny _ A (evalArgs f true [] []) _ _ s
    unfold evalArgs
    refine wpAny_bind (mono r fun vs s' hr => ?_)
    refine wpAny_bind (wpAny_pure ?_)
    refine wpAny_holding ?_
    exact wpAny_bind (wpAny_pure (wpAny_bind (wpAny_pure (wpAny_pure ⟨rfl, hr⟩))))
  | cons e es =>
    rw [List.all_cons, Bool.and_eq_true] at hs
    rw [starEach_cons hs.1] at r ⊢
    exact Calls.evalArgs_plain (mono r fun vs s' hr => ⟨rfl, hr⟩)

/-- a call of anything that is no object of the heap -/
theorem callWith_plain {M : Model} {E : Value → Shared → Prop} {s : Shared} {pos : Pos} {f : Value} {first : List Value} {args : List (Bool × Sem Value)} {Q : Value → Shared → Prop} (hf : ∀ a, f ≠ .ref a) (hplain : args.any (·.1) = false)
    (h : wpAny M A (evalArgs f true args []) (fun a s₁ => wpAny M A (call f (first ++ a.pos) a.kw) Q E s₁) E s) :
    wpAny M A (callWith pos f first args []) Q E s := by
  unfold callWith
  refine wpAny_bind (wpAny_holding (wpAny_mono h (fun a s₁ h₁ => wpAny_bind (wpAny_standAt ?_)) fun _ _ x => x))
  simp only [hplain, List.any_nil, Bool.or_false]
  have hk : keeperOf f = pure .machine := by
    cases f with
    | ref a => exact absurd rfl (hf a)
    | _ => rfl
  rw [hk]
  refine wpAny_bind (wpAny_pure ?_)
  exact wpAny_bind (wpAny_mono h₁ (fun r s₂ hr => wpAny_bind (wpAny_holding (wpAny_point (wpAny_pure hr)))) fun _ _ x => x)
theorem callWith_k {E : Value → Shared → Prop} {s : Shared} {pos : Pos} {f : Addr} {first : List Value} {args : List (Bool × Sem Value)} {Q : Value → Shared → Prop} (hk : keepIn c.K (.ref f) = true) (hplain : args.any (·.1) = false)
    (h : wpAny (model c.prog c.w) A (evalArgs (.ref f) true args []) (fun a s₁ => c.K.In s₁.heap ∧ wpAny (model c.prog c.w) A (call (.ref f) (first ++ a.pos) a.kw) Q E s₁) E s) :
    wpAny (model c.prog c.w) A (callWith pos (.ref f) first args []) Q E s := callWith_of (by rw [hplain]; rfl) (keeps_K hk) h
theorem Pre.kin {s : Shared} (p : Pre c Z s) : c.K.In s.heap := c.X.keeps p.keep
end
end Mine

end

section
open PySem PySem.W PyProof.Rows
set_option Elab.async false
set_option linter.unusedVariables false
set_option maxRecDepth 4000
namespace Mine

theorem closure_ok {scope : Scope} {env : Env} (h : ∀ y ∈ scope.names, y.2 = .free → ∃ a, env.cells.lookup y.1 = some a) :
    ∃ cl, closureFor scope env = pure cl ∧ (∀ x, (x, NameKind.free) ∈ scope.names → cl.lookup x = env.cells.lookup x) := by
  have key : ∀ (names : List (Str × NameKind)) (acc : List (Str × Addr)), (∀ y ∈ names, y.2 = .free → ∃ a, env.cells.lookup y.1 = some a) → (∀ x a, acc.lookup x = some a → env.cells.lookup x = some a) →
      ∃ cl, (forIn names acc (fun (x : Str × NameKind) (cs : List (Str × Addr)) => if (x.2 == NameKind.free) = true then (do let a ← cellOf env x.1; pure (ForInStep.yield ((x.1, a) :: cs)) : Sem _) else pure (ForInStep.yield cs)) = (pure cl : Sem _)) ∧
        (∀ x a, cl.lookup x = some a → env.cells.lookup x = some a) ∧ (∀ x, (x, NameKind.free) ∈ names → (cl.lookup x).isSome) ∧ (∀ x, (acc.lookup x).isSome → (cl.lookup x).isSome) := by
    intro names
    induction names with
    | nil => exact fun acc _ hacc => ⟨acc, by rw [List.forIn_nil], hacc, (fun x hx => by simp at hx), fun _ h => h⟩
    | cons y r ih =>
      intro acc hy hacc
      rw [List.forIn_cons]
      by_cases hf : y.2 = .free
      · obtain ⟨a, ha⟩ := hy y List.mem_cons_self hf
        have hacc' : ∀ x b, List.lookup x ((y.1, a) :: acc) = some b → env.cells.lookup x = some b := by
          intro x b hb
          rw [List.lookup_cons] at hb
          cases hxy : x == y.1 with
          | true => rw [hxy] at hb; cases hb; rw [beq_iff_eq.mp hxy]; exact ha
          | false => rw [hxy] at hb; exact hacc x b hb
        obtain ⟨cl, e, p1, p2, p3⟩ := ih ((y.1, a) :: acc) (fun z hz => hy z (List.mem_cons_of_mem _ hz)) hacc'
        refine ⟨cl, ?_, p1, fun x hx => ?_, fun x hx => p3 x ?_⟩
        · rw [if_pos (by rw [hf]; rfl)]
          unfold cellOf
          rw [ha]
          exact e
        · rcases List.mem_cons.mp hx with rfl | hx
          · exact p3 _ (by rw [List.lookup_cons]; simp)
          · exact p2 x hx
        · rw [List.lookup_cons]
          cases x == y.1 with
          | true => rfl
          | false => exact hx
      · obtain ⟨cl, e, p1, p2, p3⟩ := ih acc (fun z hz => hy z (List.mem_cons_of_mem _ hz)) hacc
        refine ⟨cl, ?_, p1, fun x hx => ?_, p3⟩
        · rw [if_neg (by simpa using hf)]
          exact e
        · rcases List.mem_cons.mp hx with e' | hx
          · rw [← e'] at hf; exact absurd rfl hf
          · exact p2 x hx
  obtain ⟨cl, e, p1, p2, _⟩ := key scope.names [] h (fun x a hx => by simp at hx)
  refine ⟨cl, ?_, fun x hx => ?_⟩
  · unfold closureFor
    exact (congrArg (· >>= pure) e).trans rfl
  · obtain ⟨a, ha⟩ := Option.isSome_iff_exists.mp (p2 x hx)
    rw [ha, p1 x a ha]

section
variable {c : Cx} {A : Around} {E : Value → Shared → Prop} {s : Shared}

theorem notTop {env : Env} (h : env.scope.kind = .function) : (env.scope.kind == .class || (env.scope.kind == .module && env.locals != env.globals)) = false := by rw [h]; rfl
theorem bindS_two {d : D} {sl : List Slot} (h : bindS 2 d = some sl) : ∃ a b, d = .tup [a, b] ∧ sl = [.cl a, .cl b] := by
  unfold bindS at h
  split at h
  · rename_i e; cases e
  · cases h; exact ⟨_, _, rfl, rfl⟩
  · cases h
/-- targets that are plain variables -/
theorem bind_local (hh : A.handled = none) {env : Env} {Z : Addr → Prop} {tgt : Expr} {xs : List Str} {v : Value} {d : D} {sl : List Slot} {m : Str → Option Value} {Q : Unit → Shared → Prop} (hk : env.scope.kind = .function) (ht : tgtNames tgt = some xs) (hb : bindS xs.length d = some sl)
    (hloc : ∀ x ∈ xs, env.kindOf x = some .local) (hn : s.heap.Ns env.locals m) (r : R c s (NZ Z) v d) (hZ : Z env.locals) (hz : ZIn Z s.heap)
    (h : ∀ s' m', Later Z (· = env.locals) s Z (· = env.locals) s' → s'.heap.Ns env.locals m' → (∀ (i : Nat) (x : Str) (y : Slot), xs[i]? = some x → sl[i]? = some y → ∃ u d, y = .cl d ∧ m' x = some u ∧ R c s' (NZ Z) u d) → Q () s') :
    wpAny (model c.prog c.w) A (assign tgt env v) Q E s := by
  have hw : ∀ a, a = env.locals → Z a := fun a e => e ▸ hZ
  unfold tgtNames at ht
  split at ht
  · cases ht
    rename_i x pos
    simp only [List.length_singleton, bindS, Option.some.injEq] at hb
    subst hb
    refine wpAny_assign_Name (wpAny_storeName_local (hloc x (by simp)) hn (fun h' hn' hs' => ?_) (notTop hk))
    obtain ⟨_, _, o', ho', _⟩ := id hn'
    have key : Later Z (· = env.locals) s Z (· = env.locals) { s with heap := h', toks := s.toks + 1 } := (Later.upd (fp := (· = env.locals)) rfl hs' ho').trans (.tok (Nat.le_succ _))
    refine h _ _ key hn' fun i y z h1 h2 => ?_
    cases i with
    | succ i => simp at h1
    | zero =>
      simp at h1 h2
      subst h1 h2
      exact ⟨v, d, rfl, by simp, r.later key hw⟩
  · rename_i x px y py k pos
    split at ht
    · cases ht
    · rename_i hxy
      cases ht
      have hxy' : x ≠ y := by simpa using hxy
      obtain ⟨a, b, rfl, rfl⟩ := bindS_two hb
      obtain ⟨t, vs, n, rfl, g, rl⟩ := Rt.tup_inv (.of r)
      cases rl with
      | @cons v₁ _ _ _ r₁ rl =>
      cases rl with
      | @cons v₂ _ _ _ r₂ rl =>
      cases rl
      refine wpAny_assign_Tuple hh ⟨_, g, rfl, n, rfl⟩ rfl rfl fun h₃ hx₃ => ?_
      have k₃ : Kp s { s with heap := h₃ } := .of (fun b o e => hx₃ b o (Nat.ne_of_lt (Heap.lt_size e)) e) (Nat.le_refl _)
      have l₃ : Later Z (· = env.locals) s Z (· = env.locals) { s with heap := h₃ } := .kp k₃
      show wpAny _ A (do holding [v₂] (assign (.Name x px) env v₁); do holding [] (assign (.Name y py) env v₂); pure ()) _ _ _
      refine wpAny_bind (wpAny_holding (wpAny_assign_Name (wpAny_storeName_local (hloc x (by simp)) (hn.keeps k₃.get) (fun h₄ hn₄ hs₄ => ?_) (notTop hk))))
      obtain ⟨_, _, o₄, ho₄, _⟩ := id hn₄
      have l₄ : Later Z (· = env.locals) { s with heap := h₃ } Z (· = env.locals) { s with heap := h₄, toks := s.toks + 1 } := (Later.upd (fp := (· = env.locals)) rfl hs₄ ho₄).trans (.tok (Nat.le_succ _))
      refine wpAny_bind (wpAny_holding (wpAny_assign_Name (wpAny_storeName_local (hloc y (by simp)) hn₄ (fun h₅ hn₅ hs₅ => wpAny_pure ?_) (notTop hk))))
      obtain ⟨_, _, o₅, ho₅, _⟩ := id hn₅
      have l₅ : Later Z (· = env.locals) { s with heap := h₄, toks := s.toks + 1 } Z (· = env.locals) { s with heap := h₅, toks := s.toks + 1 + 1 } := (Later.upd (fp := (· = env.locals)) (s := { s with heap := h₄, toks := s.toks + 1 }) rfl hs₅ ho₅).trans (.tok (Nat.le_succ _))
      have key := (l₃.trans l₄).trans l₅
      refine h _ _ key hn₅ fun i z q h1 h2 => ?_
      match i with
      | 0 =>
        simp at h1 h2
        subst h1 h2
        exact ⟨v₁, a, rfl, by simp [hxy'], r₁.later key hw⟩
      | 1 =>
        simp at h1 h2
        subst h1 h2
        exact ⟨v₂, b, rfl, by simp, r₂.later key hw⟩
      | i + 2 => simp at h1
  · cases ht

theorem codeAny_compLoop_any {elt target iter : Expr} {ifs : List Expr} {scope : Scope} {pos : Pos} {it acc : Value} {env : Env} {R : Result → Shared → Prop} (I : Nat → Shared → Prop)
    (turn : ∀ n s (E : Value → Shared → Prop), I n s → wpAny (model c.prog c.w) A (pyNext it) (fun r s₁ => match r with
      | none => R (.ok .next) s₁
      | some v => wpAny (model c.prog c.w) A (letOwnedTupleGo target it v) (fun _ s₁' => wpAny (model c.prog c.w) A (assign target env v) (fun _ s₂ =>
          wpAny (model c.prog c.w) A (forIn ifs true fun c r => if r = true then do let ok ← isTrue c env (eval c env); pure (ForInStep.yield ok) else pure (ForInStep.yield r)) (fun ok s₃ =>
            if ok = true then wpAny (model c.prog c.w) A (eval elt env) (fun x s₄ =>
              wpAny (model c.prog c.w) A (call (.builtin "list.append") [acc, x]) (fun _ s₅ => ∃ m, m < n ∧ I m s₅) E s₄) E s₃
            else ∃ m, m < n ∧ I m s₃) E s₂) E s₁') E s₁) E s)
    (n : Nat) (h : I n s) :
    codeAny (model c.prog c.w) A (.compLoop (.ListComp elt [⟨target, iter, ifs, 0⟩] scope pos) 0 it acc env) R s := by
  refine codeAny_loop rfl I (fun n s hI => ?_) n h
  show wpAny _ A ((compTurn (.ListComp elt [⟨target, iter, ifs, 0⟩] scope pos) 0 it acc env).onRaise (fun x => do noteFrame x env; theTreesLotGoes x)) _ _ s
  refine wpAny_noted ?_
  rw [compTurn_list]
  refine wpAny_bind (wpAny_standAt (wpAny_bind (wpAny_mono (turn n s _ hI) (fun r s₁ h₁ => ?_) fun _ _ h' => h')))
  cases r with
  | none => exact wpAny_pure h₁
  | some v =>
    refine wpAny_bind (wpAny_mono h₁ (fun _ s₁' h₁' => ?_) fun _ _ h' => h')
    refine wpAny_bind (wpAny_mono h₁' (fun _ s₂ h₂ => wpAny_bind (wpAny_mono h₂ (fun ok s₃ h₃ => ?_) fun _ _ h' => h')) fun _ _ h' => h')
    cases ok with
    | false => exact wpAny_pure ⟨rfl, h₃⟩
    | true =>
      exact wpAny_bind (wpAny_bind (wpAny_mono h₃ (fun x s₄ h₄ => wpAny_bind (wpAny_mono h₄ (fun _ s₅ h₅ => wpAny_pure (wpAny_pure ⟨rfl, h₅⟩)) fun _ _ h' => h')) fun _ _ h' => h'))

theorem capOk_at {ct : Ct} {scope : Scope} : ∀ {mask : List Bool} {l : List Str}, capOk ct scope mask l = true → ∀ {σ : List Slot} {i : Nat} {x : Str} {sl : Slot}, l[i]? = some x → (maskS mask σ)[i]? = some sl →
    sl = .un ∨ (σ[i]? = some sl ∧ ((relabN scope.names ct.kd).lookup x = some .cell ∨ (relabN scope.names ct.kd).lookup x = some .free) ∧ (x == ("__classdict__" : Str)) = false ∧ (x, NameKind.free) ∈ scope.names)
  | [], [], _, _, i, _, _, h1, _ => by simp at h1
  | [], _ :: _, h, _, _, _, _, _, _ => by simp [capOk] at h
  | true :: m, x :: l, h, σ, i, y, sl, h1, h2 => by
    simp only [capOk, Bool.and_eq_true, Bool.or_eq_true, beq_iff_eq, Bool.not_eq_true', List.contains_iff_mem] at h
    obtain ⟨⟨⟨a, b⟩, d⟩, e⟩ := h
    cases σ with
    | nil =>
      cases i with
      | zero => simp [maskS] at h2; exact .inl h2.symm
      | succ i => simp only [maskS, List.getElem?_cons_succ] at h1 h2; exact (capOk_at e h1 h2).imp id fun ⟨q, r⟩ => ⟨by simp at q, r⟩
    | cons z σ =>
      cases i with
      | zero => simp [maskS] at h1 h2; subst h1 h2; exact .inr ⟨by simp, a, b, d⟩
      | succ i => simp only [maskS, List.getElem?_cons_succ] at h1 h2 ⊢; exact capOk_at e h1 h2
  | false :: m, x :: l, h, σ, i, y, sl, h1, h2 => by
    simp only [capOk] at h
    cases σ with
    | nil =>
      cases i with
      | zero => simp [maskS] at h2; exact .inl h2.symm
      | succ i => simp only [maskS, List.getElem?_cons_succ] at h1 h2; exact (capOk_at h h1 h2).imp id fun ⟨q, r⟩ => ⟨by simp at q, r⟩
    | cons z σ =>
      cases i with
      | zero => simp [maskS] at h2; exact .inl h2.symm
      | succ i => simp only [maskS, List.getElem?_cons_succ] at h1 h2 ⊢; exact capOk_at h h1 h2
  | true :: _, [], h, _, _, _, _, _, _ => by simp [capOk] at h
  | false :: _, [], h, _, _, _, _, _, _ => by simp [capOk] at h
theorem maskS_length : ∀ (mask : List Bool) (σ : List Slot), (maskS mask σ).length = mask.length
  | [], _ => rfl
  | b :: m, x :: l => by simp [maskS, maskS_length m l]
  | b :: m, [] => by simp [maskS, maskS_length m []]
theorem capOk_length {ct : Ct} {scope : Scope} : ∀ {mask : List Bool} {l : List Str}, capOk ct scope mask l = true → mask.length = l.length
  | [], [], _ => rfl
  | [], _ :: _, h => by simp [capOk] at h
  | true :: m, x :: l, h => by simp only [capOk, Bool.and_eq_true] at h; simp [capOk_length h.2]
  | false :: m, x :: l, h => by simp only [capOk] at h; simp [capOk_length h]
  | true :: _, [], h => by simp [capOk] at h
  | false :: _, [], h => by simp [capOk] at h
theorem Rt.later' {Z W Z₁ W₁ : Addr → Prop} {s s₁ : Shared} {v : Value} {d : D} (r : Rt c s (NZ Z) v d) (l : Later Z W s Z₁ W₁ s₁) (hw : ∀ a, W a → Z a) (hk : ∀ b o, s.heap.get? b = some o → s₁.heap.get? b = some o) : Rt c s₁ (NZ Z₁) v d :=
  r.trans l.tk hk fun a o p e => (l.nz hw a o p e).1
end
end Mine

end

section
open PySem PySem.W PyProof.Rows
set_option Elab.async false
set_option linter.unusedVariables false
set_option maxRecDepth 4000
namespace Mine
section
variable {c : Cx} {A : Around} {T : Tab}

theorem Later.rt0 {Z Z₁ : Addr → Prop} {s s₁ : Shared} {v : Value} {d : D} (r : Rt c s (NZ Z) v d) (l : Later Z (fun _ => False) s Z₁ (fun _ => False) s₁) : Rt c s₁ (NZ Z₁) v d :=
  r.later' l (fun _ h => h.elim) fun b o e => l.keep b o id e
theorem Later.r0 {Z Z₁ : Addr → Prop} {s s₁ : Shared} {v : Value} {d : D} (r : R c s (NZ Z) v d) (l : Later Z (fun _ => False) s Z₁ (fun _ => False) s₁) : R c s₁ (NZ Z₁) v d := r.later l fun _ h => h.elim

theorem relab_names {scope : Scope} {ct : Ct} {env : Env} (m : EnvM ct env) : (relabel scope env).names = relabN scope.names ct.kd := by
  unfold relabel relabN
  refine List.map_congr_left fun y _ => ?_
  obtain ⟨n, k⟩ := y
  have : env.kindOf n = ct.kd.lookup n := m.kindOf n
  simp only [this, m.ok.kind, beq_self_eq_true, Bool.and_true]

theorem lookup_relabN_local {kd : List (Str × NameKind)} : ∀ {names : List (Str × NameKind)} {x : Str}, names.lookup x = some .local → (relabN names kd).lookup x = some .local
  | [], _, h => by simp at h
  | (n, k) :: r, x, h => by
    have ih := @lookup_relabN_local kd r x
    show List.lookup x ((if (k == NameKind.free && kd.lookup n == some .cell) = true then (n, NameKind.cell) else (n, k)) :: relabN r kd) = _
    cases hx : x == n with
    | true =>
      simp only [List.lookup_cons, hx] at h
      cases h
      simp [List.lookup_cons, hx]
    | false =>
      simp only [List.lookup_cons, hx] at h
      by_cases hc : (k == NameKind.free && kd.lookup n == some .cell) = true
      · rw [if_pos hc]; simp only [List.lookup_cons, hx]; exact ih h
      · rw [if_neg hc]; simp only [List.lookup_cons, hx]; exact ih h
theorem relabN_mem {kd : List (Str × NameKind)} : ∀ {names : List (Str × NameKind)} {x : Str}, (relabN names kd).lookup x = some .cell ∨ (relabN names kd).lookup x = some .free → (x, NameKind.cell) ∈ names ∨ (x, NameKind.free) ∈ names
  | [], _, h => by simp [relabN] at h
  | (n, k) :: r, x, h => by
    have ih := @relabN_mem kd r x
    have e : (relabN ((n, k) :: r) kd).lookup x = List.lookup x ((if (k == NameKind.free && kd.lookup n == some .cell) = true then (n, NameKind.cell) else (n, k)) :: relabN r kd) := rfl
    rw [e] at h
    cases hx : x == n with
    | true =>
      have : x = n := beq_iff_eq.mp hx
      subst this
      by_cases hc : (k == NameKind.free && kd.lookup x == some .cell) = true
      · have : k = .free := by simp only [Bool.and_eq_true, beq_iff_eq] at hc; exact hc.1
        subst this; exact .inr List.mem_cons_self
      · rw [if_neg hc] at h; simp only [List.lookup_cons, hx] at h
        rcases h with h | h <;> cases h
        · exact .inl List.mem_cons_self
        · exact .inr List.mem_cons_self
    | false =>
      have h' : (relabN r kd).lookup x = some .cell ∨ (relabN r kd).lookup x = some .free := by
        by_cases hc : (k == NameKind.free && kd.lookup n == some .cell) = true
        · rw [if_pos hc] at h; simpa only [List.lookup_cons, hx] using h
        · rw [if_neg hc] at h; simpa only [List.lookup_cons, hx] using h
      exact (ih h').imp (List.mem_cons_of_mem _) (List.mem_cons_of_mem _)

theorem Kp.later {Z₁ W₁ Z₂ W₂ : Addr → Prop} {s s' s'' : Shared} (k : Kp s s') (l : Later Z₁ W₁ s' Z₂ W₂ s'') (h : ∀ a, W₁ a → s.heap.get? a = none) : Kp s s'' := by
  obtain ⟨⟨h', t', rfl, k⟩, a⟩ := k
  obtain ⟨h'', t'', rfl⟩ := l.ex
  exact .of (fun b o e => l.keep b o (fun hw => by rw [h b hw] at e; cases e) (k b o e)) (Nat.le_trans a l.tk)
theorem Later.ofKp {Z Z' : Addr → Prop} {s s' : Shared} (k : Kp s s') (hz : ∀ a, Z a → Z' a) (hn : ∀ a, Z' a → Z a ∨ s.heap.get? a = Option.none) : Later Z (fun _ => False) s Z' (fun _ => False) s' := by
  obtain ⟨⟨h', t', rfl, k⟩, a⟩ := k
  exact ⟨⟨h', t', rfl⟩, a, fun b o _ e => k b o e, fun b o e => ⟨o, k b o e⟩, hz, hn, fun _ h => h.elim⟩

def compStep (T : Tab) (mask : List Bool) (σ : List Slot) (n : Nat) (elt : X) (ifs : Bo) (d : D) (K' : Option D → Prop) : Prop := optW (bindS n d) fun sl =>
  wBo T (maskS mask σ ++ sl) ifs fun r => (r = true → wX T (maskS mask σ ++ sl) elt fun d fl => clean fl d ∧ K' (some d)) ∧ (r = false → K' none)

theorem comp_gen (hh : A.handled = none) {ct : Ct} {env : Env} {Z W : Addr → Prop} {σ : List Slot} {elt : X} {mask : List Bool} {ifs : Bo} {K : List D → Prop} {x tgt iter : Expr} {cs : List Expr} {scope : Scope} {pos : Pos} {xs : List Str} {use : Option (Value → Sem Unit)}
    (hw : ∀ a, W a → Z a) (m : EnvM ct env) (ht : tgtNames tgt = some xs) (hsc : scopeOk ct scope xs = true) (hcap : capOk ct scope mask ct.ns = true) (hset : ∀ v, foldedSetIterable iter env v = pure v)
    (hit : ItW c A env Z W ct.ns σ tgt iter fun items _ => items.length ≤ 1000000 ∧ mapW (compStep T mask σ xs.length elt ifs) [] items K)
    (hB : ∀ cenv Z' σ' Kb, (∀ a, W a → Z' a) → EnvM (ct.comp scope xs) cenv → wBo T σ' ifs Kb → IfW c A cenv Z' W (ct.comp scope xs).ns σ' cs Kb)
    (hE : ∀ cenv Z' σ' K', (∀ a, W a → Z' a) → EnvM (ct.comp scope xs) cenv → wX T σ' elt K' → EvW c A cenv Z' W (ct.comp scope xs).ns σ' x K')
    {E : Value → Shared → Prop} {Q : Value → Shared → Prop} {s : Shared} (hs : RSt c env Z W ct.ns σ s)
    (hfin : ∀ (D C : Addr) (s₄ : Shared) (mm : Str → Option Value) (ds' : List Mine.D), K ds' → Kp s s₄ → s.heap.get? D = none → s.heap.get? C = none → D ≠ C → s₄.heap.Ns C mm → R c s₄ (NZ fun a => Z a ∨ a = C) (.ref D) (.lst ds') →
      Own c (fun a => Z a ∨ a = C) s₄ (.ref D) (.lst ds') → compPost (model c.prog c.w) A E use Q (.ref D) C (.ok .next) s₄) :
    wpAny (model c.prog c.w) A (comprehension (.ListComp x [⟨tgt, iter, cs, 0⟩] scope pos) scope env (firstIterPos [⟨tgt, iter, cs, 0⟩] pos) (newList []) (firstAsync [⟨tgt, iter, cs, 0⟩]) (firstIter [⟨tgt, iter, cs, 0⟩] env) use) Q E s := by
  unfold scopeOk at hsc
  simp only [Bool.and_eq_true, List.all_eq_true, Bool.or_eq_true, bne_iff_ne, beq_iff_eq] at hsc
  obtain ⟨⟨⟨⟨hkind, hcell⟩, hnames⟩, hxs⟩, hfree⟩ := hsc
  obtain ⟨cl, hclos, hcl⟩ := closure_ok (scope := scope) (env := env) (fun y hy hf => m.cells y.1 (by
    rcases hfree y hy with (h | h) | h
    · exact absurd hf h
    · exact .inl h
    · exact .inr h))
  refine wpAny_comprehension_free (use := use) rfl hset hclos hkind (fun y hy hl => (hnames y hy).resolve_left fun h => h hl) ?_
  refine wpAny_mono (hit E s hs) (fun xv s₁ h₁ => wpAny_mono h₁ (fun it s₂ h₂ => ?_) fun _ _ e => e) fun _ _ e => e
  obtain ⟨I, ds, fl, fp, rfl, ⟨hlen, hK⟩, k, hfz, hfe, hfI, hself, hok⟩ := h₂
  have hfe : ∀ x, fp x → ∃ o, s₂.heap.get? x = some o := fun x h => let ⟨o, e, _⟩ := hfe x h; ⟨o, e⟩
  have hok := hok (fun a => Z a ∨ fp a) (fun _ => False) (fun _ h => h.elim) (fun _ h => .inr h) (fun _ h => h) (fun _ h => h.elim) (fun _ h => h.elim) (fun _ _ h => h)
  have hp := hs.pre.keeps k
  refine wpAny_newObj_type (wpAny_newFunctionEnv hcell (by intro y hy; simp at hy) (fun h₁ hns₁ hsb₁ => ?_) hkind) (by show (0 : Nat) ≤ sizeLine; decide)
  dsimp only at hns₁ hsb₁ ⊢
  generalize hH2 : s₂.heap.push { cls := .type "list", dict := none, data := .seq ([] : List Value).toArray } = H2 at hns₁ hsb₁ ⊢
  generalize hDd : s₂.heap.objs.size = D at *
  generalize hCc : H2.objs.size = C at *
  have hC : C = D + 1 := by rw [← hCc, ← hH2, Heap.size_push, hDd]
  have hDfr : s₂.heap.get? D = none := by rw [← hDd]; exact get_size _
  have hCfr : s₂.heap.get? C = none := by rw [hC, ← hDd]; exact Heap.get?_none_of_le (Nat.le_succ _)
  have old : ∀ b o, s₂.heap.get? b = some o → h₁.get? b = some o := fun b o e => hsb₁.extBut b o (by rintro rfl; rw [hCfr] at e; cases e) (Heap.get?_push_of_some _ (hH2 ▸ Heap.get?_push_of_some _ e))
  have hDC : D ≠ C := by rw [hC]; exact (Nat.ne_of_lt (Nat.lt_succ_self _))
  have hD₁ : h₁.get? D = some (seqO "list" [] 0) := hsb₁.extBut _ _ hDC (Heap.get?_push_of_some _ (by rw [← hH2, ← hDd]; exact Heap.get?_push_size _ rfl))
  have hC₁ : ∃ o, h₁.get? C = some o := by obtain ⟨o, _, _, ho, _⟩ := id hns₁; exact ⟨o, ho⟩
  have sfr : ∀ a, s₂.heap.get? a = none → s.heap.get? a = none := fun a e => by
    cases q : s.heap.get? a with
    | none => rfl
    | some o => rw [k.get a o q] at e; cases e
  have hCfp : ¬ fp C := fun h => by obtain ⟨o, e⟩ := hfe C h; rw [hCfr] at e; cases e
  have hDfp : ¬ fp D := fun h => by obtain ⟨o, e⟩ := hfe D h; rw [hDfr] at e; cases e
  let Z' : Addr → Prop := fun a => Z a ∨ fp a ∨ a = D ∨ a = C
  let Wc : Addr → Prop := fun a => a = D ∨ a = C
  have hWZ : ∀ a, Wc a → Z' a := fun a h => .inr (.inr h)
  have hfZ : ∀ a, fp a → Z' a := fun a h => .inr (.inl h)
  have hwZ : ∀ a, W a → Z' a := fun a h => .inl (hw a h)
  have e0 : s₂.toks + ([] : List (Str × Value)).length = s₂.toks := rfl
  have l₂ : Later (fun a => Z a ∨ fp a) (fun _ => False) s₂ Z' Wc { s₂ with heap := h₁, toks := s₂.toks + ([] : List (Str × Value)).length } :=
    ⟨⟨h₁, _, rfl⟩, Nat.le_refl _, fun b o _ e => old b o e, fun b o e => ⟨o, old b o e⟩, fun a h => h.elim .inl fun h => .inr (.inl h), fun a h => by
      rcases h with h | h | rfl | rfl
      · exact .inl (.inl h)
      · exact .inl (.inr h)
      · exact .inr hDfr
      · exact .inr hCfr, fun a h => by
      rcases h with rfl | rfl
      · exact .inr hDfr
      · exact .inr hCfr⟩
  have hZn : ∀ a, Z' a → Z a ∨ s.heap.get? a = none := fun a h => by
    rcases h with h | h | rfl | rfl
    · exact .inl h
    · exact .inr (hfz a h)
    · exact .inr (sfr _ hDfr)
    · exact .inr (sfr _ hCfr)
  have l₀ : Kp s { s₂ with heap := h₁, toks := s₂.toks + ([] : List (Str × Value)).length } := k.later l₂ fun _ h => h.elim
  have z₀ : ZIn Z' h₁ := fun a h => by
    rcases h with h | h | rfl | rfl
    · obtain ⟨o, e⟩ := hp.zin a h; exact ⟨o, old a o e⟩
    · obtain ⟨o, e⟩ := hfe a h; exact ⟨o, old a o e⟩
    · exact ⟨_, hD₁⟩
    · exact hC₁
  have mc : EnvM (ct.comp scope xs) (compEnvC scope cl C env) := by
    refine ⟨⟨?_, m.ok.glob, m.ok.blt⟩, relab_names m, fun y hy => ?_⟩
    · show (relabel scope env).kind = .function
      exact hkind
    · have hy' : (y, NameKind.free) ∈ scope.names := (relabN_mem hy).elim (fun h => absurd rfl (hcell _ h)) id
      show ∃ a, cl.lookup y = some a
      rw [hcl y hy']
      refine m.cells y ?_
      rcases hfree _ hy' with (h | h) | h
      · exact absurd rfl h
      · exact .inl h
      · exact .inr h
  have loop : ∀ s₃ : Shared, s₃ = { s₂ with heap := h₁, toks := s₂.toks + ([] : List (Str × Value)).length } →
      codeAny (model c.prog c.w) A (.compLoop (.ListComp x [⟨tgt, iter, cs, 0⟩] scope pos) 0 (.ref I) (.ref D) (compEnvC scope cl C env)) (compPost (model c.prog c.w) A E use Q (.ref D) C) s₃ := by
    rintro s₃ rfl
    refine codeAny_compLoop_any (fun n s' => ∃ ds acc accV k' Zi Wi si mm, n = ds.length ∧ mapW (compStep T mask σ xs.length elt ifs) acc ds K ∧ ItOk c A tgt I fp ds Zi Wi si ∧ Later Zi Wi si Z' Wc s' ∧
      s'.heap.get? D = some (seqO "list" accV k') ∧ RL c s' (NZ Z') accV acc ∧ acc.length + ds.length ≤ 1000000 ∧ s'.heap.Ns C mm ∧ Kp s s' ∧ ZIn Z' s'.heap) ?_ ds.length
      ⟨ds, [], [], 0, _, _, s₂, _, rfl, hK, hok, l₂, hD₁, .nil, by simpa using hlen, hns₁, l₀, z₀⟩
    rintro n s' E' ⟨ds, acc, accV, k', Zi, Wi, si, mm, rfl, hK, hok, li, hDs, hacc, hlen, hns, ls, zs⟩
    cases ds with
    | nil =>
      refine mono (hok E' Z' Wc s' li hWZ zs) fun r s₄ hr => ?_
      obtain ⟨rfl, kb⟩ := hr
      have hns₄ : s₄.heap.Ns C mm := hns.at fun o e => kb.keep _ o hCfp e
      have nfp : ∀ b o, s.heap.get? b = some o → ¬ fp b := fun b o e h => by rw [hfz b h] at e; cases e
      have kp : Kp s s₄ := by
        obtain ⟨hk, tk, e4⟩ := kb.ex
        obtain ⟨hk', tk', e5, _⟩ := ls.ex
        exact ⟨⟨hk, tk, by rw [e4, e5], fun b o e => by have := kb.keep b o (nfp b o e) (ls.get b o e); rw [e4] at this; exact this⟩, Nat.le_trans ls.tk kb.tk⟩
      refine hfin D C s₄ mm acc hK kp (sfr _ hDfr) (sfr _ hCfr) hDC hns₄ ?_ ?_
      · refine R.lst (n := k') (fun z => z.elim (ZIn.fresh hs.pre.zin (sfr _ hDfr)) hDC) (kb.keep _ _ hDfp hDs) (RL.trans kb.tk (fun a o p e => ⟨fun z => z.elim (fun z => p (.inl z)) (fun z => p (.inr (.inr (.inr z)))), ?_⟩) hacc)
        exact kb.keep _ _ (fun h => p (.inr (.inl h))) e
      · refine .lst (n := k') (kb.keep _ _ hDfp hDs) (RL.trans kb.tk (fun a o p e => ⟨⟨fun z => z.elim (fun z => p (.inl z)) (fun z => p (.inr (.inr (.inr z)))), fun q => by cases q; exact p (.inr (.inr (.inl rfl)))⟩, ?_⟩) hacc)
        exact kb.keep _ _ (fun h => p (.inr (.inl h))) e
    | cons d ds =>
      refine mono (hok E' Z' Wc s' li hWZ zs) fun r s₄ hr => ?_
      obtain ⟨v, rfl, hr⟩ := hr
      refine mono hr fun _ s₅ hr => ?_
      obtain ⟨l₅, rd, _, hok'⟩ := hr
      have zs₅ : ZIn Z' s₅.heap := fun a h => by obtain ⟨o, e⟩ := zs a h; exact l₅.dom a o e
      have hns₅ : s₅.heap.Ns C mm := hns.at fun o e => l₅.keep _ o hCfp e
      have hDs₅ := l₅.keep _ _ hDfp hDs
      have hacc₅ := hacc.later l₅ hfZ
      unfold mapW compStep at hK
      obtain ⟨sl, hsl, hK⟩ := optW_ok hK
      refine bind_local hh (env := compEnvC scope cl C env) (m := mm) (Z := Z') hkind ht hsl (fun y hy => ?_) hns₅ rd (.inr (.inr (.inr rfl))) zs₅ fun s₆ m₆ l₆ hns₆ hb => ?_
      · rw [mc.kindOf]; exact lookup_relabN_local (hxs y hy)
      have hCZ : ∀ a, a = C → Z' a := fun a h => .inr (.inr (.inr h))
      have hDs₆ := l₆.keep _ _ hDC hDs₅
      have hacc₆ := hacc₅.later l₆ hCZ
      have zs₆ : ZIn Z' s₆.heap := fun a h => by obtain ⟨o, e⟩ := zs₅ a h; exact l₆.dom a o e
      have fC : s.heap.get? C = none := sfr _ hCfr
      have fD : s.heap.get? D = none := sfr _ hDfr
      have ls₆ : Kp s s₆ := (ls.later l₅ hfz).later l₆ fun a h => h ▸ fC
      have lz₆ := Later.ofKp ls₆ (fun a h => Or.inl h) hZn
      have st₆ : RSt c (compEnvC scope cl C env) Z' W (ct.comp scope xs).ns (maskS mask σ ++ sl) s₆ := by
        refine ⟨⟨fun b o e => ls₆.get b o (hs.pre.keep b o e), zs₆, Nat.le_trans hs.pre.tks ls₆.tk⟩, fun i y q h1 h2 => ?_⟩
        have hml : (maskS mask σ).length = ct.ns.length := by rw [maskS_length, capOk_length hcap]
        by_cases hi : i < ct.ns.length
        · have h1' : ct.ns[i]? = some y := by rw [← h1]; exact (List.getElem?_append_left hi).symm
          have h2' : (maskS mask σ)[i]? = some q := by rw [← h2]; exact (List.getElem?_append_left (by rw [hml]; exact hi)).symm
          rcases capOk_at hcap h1' h2' with rfl | ⟨hq, hkd, hcd, hmem⟩
          · trivial
          · have hold := hs.vars i y q h1' hq
            have hkc : ct.kd.lookup y = some .cell ∨ ct.kd.lookup y = some .free := by
              rcases hfree _ hmem with (h | h) | h
              · exact absurd rfl h
              · exact .inl h
              · exact .inr h
            have loc : ∀ v, Loc env s.heap y v → Loc (compEnvC scope cl C env) s₆.heap y v := fun v lv => by
              cases lv with
              | loc mm a b e => rw [m.kindOf] at a; rcases hkc with h | h <;> rw [h] at a <;> cases a
              | cell a b e f =>
                refine .cell a ?_ ?_ (f.keeps ls₆.get)
                · rw [mc.kindOf]; exact hkd.imp id fun h => ⟨h, hcd⟩
                · show cl.lookup y = some a
                  rw [hcl y hmem]; exact e
            cases q with
            | un => trivial
            | cl d => obtain ⟨v, lv, r⟩ := hold; exact ⟨v, loc v lv, lz₆.r0 r⟩
            | rt d => obtain ⟨v, lv, r, q⟩ := hold; exact ⟨v, loc v lv, lz₆.rt0 r, fun a e => ⟨(q a e).1, let ⟨o, h⟩ := (q a e).2; ⟨o, ls₆.get a o h⟩⟩⟩
            | ow d => obtain ⟨v, lv, r, q⟩ := hold; exact ⟨v, loc _ lv, lz₆.rt0 r, q⟩
        · have h1' : xs[i - ct.ns.length]? = some y := by rw [← h1]; exact (List.getElem?_append_right (by omega)).symm
          have h2' : sl[i - ct.ns.length]? = some q := by rw [← h2, ← hml]; exact (List.getElem?_append_right (by omega)).symm
          obtain ⟨u, d, rfl, hu, r⟩ := hb _ y q h1' h2'
          exact ⟨u, .loc m₆ (by rw [mc.kindOf]; exact lookup_relabN_local (hxs y (List.mem_of_getElem? h1'))) hns₆ hu, r⟩
      refine mono (hB _ Z' _ _ hwZ mc hK E' s₆ st₆) fun ok s₇ h₇ => ?_
      obtain ⟨k₇, hok1, hok0⟩ := h₇
      have st₇ := st₆.keeps k₇
      have kl₇ : Later Z' Wc s₆ Z' Wc s₇ := .kp k₇
      have step₅ : Later Z' Wc s₅ Z' Wc s₆ := (l₆.widen (W' := Wc) fun a h => Or.inr h).narrow fun a h => .inl h
      cases ok with
      | false =>
        rw [if_neg Bool.false_ne_true]
        exact ⟨ds.length, Nat.lt_succ_self _, ds, acc, accV, k', Z', Wc, s₅, m₆, rfl, hok0 rfl, hok', step₅.trans kl₇, k₇.get _ _ hDs₆, hacc₆.keeps k₇, by simp only [List.length_cons] at hlen; omega, hns₆.keeps k₇.get, ls₆.trans k₇, zs₆.keeps k₇⟩
      | true =>
        rw [if_pos rfl]
        refine mono (hE _ Z' _ _ hwZ mc (hok1 rfl) E' s₇ st₇) fun y s₈ h₈ => ?_
        obtain ⟨k₈, d', fl', ⟨hcln, hK'⟩, hr⟩ := h₈
        have rd' : R c s₈ (NZ Z') y d' := by
          unfold clean at hcln
          rw [Bool.or_eq_true] at hcln
          rcases hcln with h | h
          · exact hr.r h
          · exact (hr.rt.scal h).1
        have kk := k₇.trans k₈
        refine wpAny_list_append_plain ⟨k', kk.get _ _ hDs₆⟩ (fun h₉ hp₉ hs₉ => ?_) (by rw [List.size_toArray, hacc.length, sizeLine_eq]; simp only [List.length_cons] at hlen; omega)
        obtain ⟨n₉, hp₉⟩ := hp₉
        have l₉ : Later Z' (· = D) s₈ Z' (· = D) { s₈ with heap := h₉ } := .upd (fp := (· = D)) rfl hs₉ hp₉
        have hDZ : ∀ a, a = D → Z' a := fun a h => .inr (.inr (.inl h))
        have st₉ : Later Z' Wc s₈ Z' Wc { s₈ with heap := h₉ } := (l₉.widen (W' := Wc) fun a h => Or.inl h).narrow fun a h => .inl h
        refine ⟨ds.length, Nat.lt_succ_self _, ds, acc ++ [d'], accV ++ [y], n₉, Z', Wc, s₅, m₆, rfl, hK', hok', ((step₅.trans kl₇).trans (.kp k₈)).trans st₉, ?_, ((hacc₆.keeps kk).append (.cons rd' .nil)).later l₉ hDZ, ?_, ?_, (ls₆.trans kk).later l₉ (fun a h => h ▸ fD), fun a h => ?_⟩
        · rw [hp₉]; simp [seqO]
        · simp only [List.length_append, List.length_cons, List.length_nil] at hlen ⊢; omega
        · exact (hns₆.keeps kk.get).at fun o e => hs₉.extBut _ _ (Ne.symm hDC) e
        · obtain ⟨o, e⟩ := (zs₆.keeps kk) a h; exact l₉.dom a o e
  exact codeAny_compStart_list (loop _ rfl) (hself _ _ _ (fun o e => old I o e) (loop _ rfl))
theorem comp_ok (hh : A.handled = none) {ct : Ct} {env : Env} {Z W : Addr → Prop} {σ : List Slot} {elt : X} {mask : List Bool} {ifs : Bo} {K : D → Fl → Prop} {x tgt iter : Expr} {cs : List Expr} {scope : Scope} {pos : Pos} {xs : List Str}
    (hw : ∀ a, W a → Z a) (m : EnvM ct env) (ht : tgtNames tgt = some xs) (hsc : scopeOk ct scope xs = true) (hcap : capOk ct scope mask ct.ns = true) (hset : ∀ v, foldedSetIterable iter env v = pure v)
    (hit : ItW c A env Z W ct.ns σ tgt iter fun items _ => items.length ≤ 1000000 ∧ mapW (compStep T mask σ xs.length elt ifs) [] items fun ds => K (.lst ds) .fr)
    (hB : ∀ cenv Z' σ' Kb, (∀ a, W a → Z' a) → EnvM (ct.comp scope xs) cenv → wBo T σ' ifs Kb → IfW c A cenv Z' W (ct.comp scope xs).ns σ' cs Kb)
    (hE : ∀ cenv Z' σ' K', (∀ a, W a → Z' a) → EnvM (ct.comp scope xs) cenv → wX T σ' elt K' → EvW c A cenv Z' W (ct.comp scope xs).ns σ' x K') :
    EvW c A env Z W ct.ns σ (.ListComp x [⟨tgt, iter, cs, 0⟩] scope pos) K := by
  intro E s hs
  rw [eval_ListComp]
  refine comp_gen hh hw m ht hsc hcap hset hit hB hE hs fun D C s₄ mm ds' hK kp hD hC hDC hns r ow => ⟨mm, hns, fun h' hs' => ?_⟩
  have nC : ∀ b o, s.heap.get? b = some o → b ≠ C := fun b o e h => by rw [h, hC] at e; cases e
  have kk : Kp s { s₄ with heap := h' } := by
    obtain ⟨hk', tk', e5, k⟩ := kp.ex
    exact ⟨⟨h', s₄.toks, by rw [e5], fun b o e => hs'.extBut b o (nC b o e) (kp.get b o e)⟩, kp.tk⟩
  refine ⟨kk, _, .fr, hK, R.trans (s := s₄) (s' := { s₄ with heap := h' }) (Nat.le_refl _) (fun a o p e => ⟨fun z => p (.inl z), hs'.extBut _ _ (fun h => p (.inr h)) e⟩) r, fun a e => by cases e; exact hD, ?_⟩
  obtain ⟨a, vs, n, e, g, rl⟩ := Rt.lst_inv ow
  cases e
  exact .lst (n := n) (hs'.extBut _ _ hDC g) (RL.trans (s := s₄) (s' := { s₄ with heap := h' }) (Nat.le_refl _) (fun a o p e => ⟨⟨fun z => p.1 (.inl z), p.2⟩, hs'.extBut _ _ (fun h => p.1 (.inr h)) e⟩) rl)
end
end Mine

end

section
open PySem PySem.W PyProof.Rows
set_option Elab.async false
set_option linter.unusedVariables false
set_option maxRecDepth 4000
namespace Mine
section
variable {c : Cx} {A : Around} {T : Tab} {env : Env} {Z W : Addr → Prop} {ns : List Str} {σ : List Slot}

theorem mIt_set {ct : Ct} {it : It} {e : Expr} (h : mIt ct it e = true) : ∀ v, foldedSetIterable e env v = pure v := by
  intro v
  cases e with
  | Set es k p =>
    exfalso
    cases it with
    | x a => simp [mIt, notSet] at h
    | _ => simp [mIt] at h
  | _ => rfl
theorem notSlice_sub {e : Expr} (h : notSlice e = true) (o i : Value) : subscripted e false o i = operate [o, i] (getItem o i) := by
  cases e <;> first | rfl | cases h
theorem notSet_marks {e : Expr} (h : notSet e = true) (op : CmpOp) : behindInMarks op e = false := by
  cases e <;> first | rfl | cases h
theorem notSuper_base {e : Expr} (h : notSuper e = true) (n : Str) (w : Sem Value) : attributeBase e n env w = w := by
  unfold attributeBase
  split
  · cases h
  · rfl
theorem plainTest_true {e : Expr} (h : plainTest e = true) (w : Sem Value) : isTrue e env w = (do let v ← w; standAt e.pos; holding [v] (truthy v)) := by
  cases e with
  | UnaryOp op x p => cases op <;> first | rfl | cases h
  | _ => first | rfl | cases h

/-- the iterator of a value -/
theorem iter_ok (hh : A.handled = none) {E : Value → Shared → Prop} {tgt : Expr} {d : D} {fl : Fl} {xv : Value} {s s₁ : Shared} {K : List D → Fl → Prop} (hz : ZIn Z s.heap) (hw : ∀ a, W a → Z a) (k₁ : Kp s s₁) (r : Res c Z W s s₁ fl xv d) (h : iterW d fun l => K l fl) :
    wpAny (model c.prog c.w) A (pyIter xv) (fun it s₂ => ∃ I ds fl, ∃ fp : Addr → Prop, it = .ref I ∧ K ds fl ∧ Kp s s₂ ∧ (∀ x, fp x → s.heap.get? x = none) ∧ (∀ x, fp x → Itr s₂.heap x) ∧ fp I ∧
    (∀ (E : Value → Shared → Prop) (Q : Value → Shared → Prop) (s₃ : Shared), (∀ o, s₂.heap.get? I = some o → s₃.heap.get? I = some o) → Q (.ref I) s₃ → wpAny (model c.prog c.w) A (pyIter (.ref I)) Q E s₃) ∧
    ∀ Z' W' : Addr → Prop, (∀ x, W' x → Z' x) → (∀ x, fp x → Z' x) → (∀ x, Z' x → Z x ∨ fp x) → (∀ x, W' x → ¬ fp x) → (∀ x, W' x → W x) → (fl = .ow → ∀ x, ¬ W' x) → ItOk c A tgt I fp ds Z' W' s₂) E s₁ := by
  have hs₁ := get_size s₁.heap
  have hs : s.heap.get? s₁.heap.objs.size = none := by
    cases q : s.heap.get? s₁.heap.objs.size with
    | none => rfl
    | some o => rw [k₁.get _ o q] at hs₁; cases hs₁
  have root : ∀ a, xv = .ref a → fl ≠ .ow → ¬ W a := fun a e hf hwa => by
    cases fl with
    | fr => have := r.2.1 a e; obtain ⟨o, q⟩ := hz a (hw a hwa); rw [this] at q; cases q
    | cl =>
      have r' : R c s₁ (NZ Z) xv d := r
      subst e
      unfold iterW at h
      split at h
      · cases r' with | lst p _ _ => exact p (hw a hwa)
      · cases r' with | tup p _ _ => exact p (hw a hwa)
      · cases r'
      · exact h
    | rt => exact r.2 a e hwa
    | ow => exact hf rfl
  unfold iterW at h
  split at h
  · rename_i l
    obtain ⟨hl, h⟩ := h
    obtain ⟨a, vs, n, rfl, g, rl⟩ := r.rt.lst_inv
    refine wpAny_pyIter_list (isList_of g) ?_
    have g₂ : (s₁.heap.push { cls := .type "list_iterator", data := .fields #[.ref a, .int 0 0] }).get? s₁.heap.objs.size = some { cls := .type "list_iterator", data := .fields #[.ref a, .int 0 0] } := Heap.get?_push_size _ rfl
    have gx : ∀ x, x = s₁.heap.objs.size → Itr (s₁.heap.push { cls := .type "list_iterator", data := .fields #[.ref a, .int 0 0] }) x := by rintro x rfl; exact ⟨_, g₂, by simp⟩
    have hne : a ≠ s₁.heap.objs.size := fun e => by rw [e, hs₁] at g; cases g
    refine ⟨_, l, fl, (· = s₁.heap.objs.size), rfl, h, k₁.trans .push, fun x e => e ▸ hs, gx, rfl, fun E Q s₃ hk hq => wpAny_pyIter_listiter (l := a) (i := 0) ⟨_, hk _ g₂, rfl, rfl⟩ hq, fun Z' W' h1 h2 h3 h4 h5 h6 => ?_⟩
    refine ItOk.list hh (fp := (· = s₁.heap.objs.size)) (a := a) (vs := vs) (n := n) rfl hne l vs 0 Z' W' _ rfl ⟨_, g₂, rfl, rfl⟩ (Heap.get?_push_of_some _ g) ?_ ?_ ⟨h1, h2, fun x e hx => h4 x hx e⟩ gx
    · exact RL.trans (s := s₁) (s' := { s₁ with heap := s₁.heap.push _ }) (Nat.le_refl _) (fun b o p e => ⟨fun z => (h3 b z).elim p (fun e' => by rw [e', hs₁] at e; cases e), Heap.get?_push_of_some _ e⟩) rl
    · exact fun hwa => by
        by_cases hf : fl = .ow
        · exact h6 hf _ hwa
        · exact root a rfl hf (h5 a hwa)
  · rename_i l
    obtain ⟨hl, h⟩ := h
    obtain ⟨a, vs, n, rfl, g, rl⟩ := r.rt.tup_inv
    refine wpAny_pyIter_tuple ⟨_, g, rfl, n, rfl⟩ ?_
    have g₂ : (s₁.heap.push { cls := .type "tuple_iterator", data := .fields #[.ref a, .int 0 0] }).get? s₁.heap.objs.size = some { cls := .type "tuple_iterator", data := .fields #[.ref a, .int 0 0] } := Heap.get?_push_size _ rfl
    have gx : ∀ x, x = s₁.heap.objs.size → Itr (s₁.heap.push { cls := .type "tuple_iterator", data := .fields #[.ref a, .int 0 0] }) x := by rintro x rfl; exact ⟨_, g₂, by simp⟩
    have hne : a ≠ s₁.heap.objs.size := fun e => by rw [e, hs₁] at g; cases g
    refine ⟨_, l, fl, (· = s₁.heap.objs.size), rfl, h, k₁.trans .push, fun x e => e ▸ hs, gx, rfl, fun E Q s₃ hk hq => wpAny_pyIter_tupleiter (t := a) (i := 0) ⟨_, hk _ g₂, rfl, rfl⟩ hq, fun Z' W' h1 h2 h3 h4 h5 h6 => ?_⟩
    refine ItOk.tuple hh (fp := (· = s₁.heap.objs.size)) (a := a) (vs := vs) (n := n) rfl hne l vs 0 Z' W' _ rfl ⟨_, g₂, rfl, rfl⟩ (Heap.get?_push_of_some _ g) ?_ ?_ ⟨h1, h2, fun x e hx => h4 x hx e⟩ gx
    · exact RL.trans (s := s₁) (s' := { s₁ with heap := s₁.heap.push _ }) (Nat.le_refl _) (fun b o p e => ⟨fun z => (h3 b z).elim p (fun e' => by rw [e', hs₁] at e; cases e), Heap.get?_push_of_some _ e⟩) rl
    · exact fun hwa => by
        by_cases hf : fl = .ow
        · exact h6 hf _ hwa
        · exact root a rfl hf (h5 a hwa)
  · rename_i l
    obtain ⟨⟨hl, ha⟩, h⟩ := h
    obtain ⟨t, rfl⟩ := r.rt.str_inv
    refine wpAny_pyIter_ascii (by simpa using ha) ?_
    have g₂ : (s₁.heap.push { cls := .type "str_ascii_iterator", data := .fields #[.str ⟨l.toArray⟩ t, .int 0 0] }).get? s₁.heap.objs.size = some { cls := .type "str_ascii_iterator", data := .fields #[.str ⟨l.toArray⟩ t, .int 0 0] } := Heap.get?_push_size _ rfl
    have gx : ∀ x, x = s₁.heap.objs.size → Itr (s₁.heap.push { cls := .type "str_ascii_iterator", data := .fields #[.str ⟨l.toArray⟩ t, .int 0 0] }) x := by rintro x rfl; exact ⟨_, g₂, by simp⟩
    refine ⟨_, chD l, fl, (· = s₁.heap.objs.size), rfl, h, k₁.trans .push, fun x e => e ▸ hs, gx, rfl, fun E Q s₃ hk hq => wpAny_pyIter_striter_ascii (x := ⟨l.toArray⟩) (t := t) (i := 0) ⟨_, hk _ g₂, rfl, rfl⟩ hq, fun Z' W' h1 h2 h3 h4 h5 h6 => ?_⟩
    exact ItOk.str hh (fp := (· = s₁.heap.objs.size)) (l := l) (t := t) rfl l 0 Z' W' _ rfl ⟨_, g₂, rfl, rfl⟩ ⟨h1, h2, fun x e hx => h4 x hx e⟩ gx
  · exact h.elim
end
end Mine

end

section
open PySem PySem.W PyProof.Rows
set_option Elab.async false
set_option linter.unusedVariables false
set_option maxRecDepth 4000
namespace Mine
section
variable {c : Cx} {A : Around} {T : Tab}

theorem itArgs {ct : Ct} {l : Xs} : ∀ {es : List Expr}, mXs ct l es = true → es.all notStar = true := by
  intro es
  induction es generalizing l with
  | nil => intro _; rfl
  | cons e es ih =>
    intro h
    cases l with
    | nil => unfold mXs at h; cases h
    | cons x l =>
      unfold mXs at h
      simp only [Bool.and_eq_true] at h
      rw [List.all_cons, h.1.1, ih h.2]; rfl

theorem small_range {a b : Int} (h1 : small a) (h2 : small b) : Builtin.Range.small a b 1 = true := by
  have s1 := h1.1; have s2 := h1.2; have s3 := h2.1; have s4 := h2.2
  have fit : ∀ x : Int, -4611686018427387904 < x → x < 4611686018427387904 → Builtin.Range.rangeFitsLong x = true := by
    intro x a b
    unfold Builtin.Range.rangeFitsLong
    simp only [Bool.and_eq_true, decide_eq_true_eq]
    omega
  unfold Builtin.Range.small
  rw [rangeSize_one, fit a (by omega) (by omega), fit b (by omega) (by omega), fit 1 (by omega) (by omega)]
  have h5 : -4611686018427387904 < (if a < b then b - a else 0) ∧ (if a < b then b - a else 0) < 4611686018427387904 := by by_cases h : a < b <;> simp only [h, if_true, if_false] <;> omega
  rw [fit _ h5.1 h5.2, if_pos (show (1 : Int) > 0 by omega), show b + (1 - 1) = b by omega, fit b (by omega) (by omega)]
  simp
/-- a call by the name of a built-in -/
theorem bltCall {env : Env} {Z W : Addr → Prop} {ns : List Str} {σ : List Slot} {ct : Ct} (m : EnvM ct env) {x : Str} {p pos : Pos} {es : List Expr} {fv : Value} {KA : List D → Prop} {Q : Value → Shared → Prop} {E : Value → Shared → Prop} {s : Shared}
    (hs : RSt c env Z W ns σ s) (hg : isGlob ct x = true) (e : nsIn c.K mainGlobals x = some none) (hv : bootBuiltins x = some fv) (hn : x ≠ "__name__") (hf : ∀ a, fv ≠ .ref a) (hst : es.all notStar = true)
    (ha : ArW c A env Z W ns σ es KA) (hpl : (backTo pos (starEach es env)).any (·.1) = false)
    (hc : ∀ s' vs, Kp s s' → RSt c env Z W ns σ s' → ∀ ds, KA ds → RtL c s' (NZ Z) vs ds → wpAny (model c.prog c.w) A (call fv vs) Q E s') :
    wpAny (model c.prog c.w) A (eval (.Call (.Name x p) es [] pos) env) Q E s := by
  unfold isGlob at hg
  simp only [Bool.and_eq_true, beq_iff_eq, Bool.not_eq_true'] at hg
  rw [arm_eval_Call_Name']
  refine wpAny_bind (blt_name m.ok (by rw [m.kindOf]; exact hg.1) e hv hn hg.2 hs.pre ?_)
  refine callWith_plain hf hpl (mono (ha.args fv pos E s hs hst) fun a s₂ h₂ => ?_)
  obtain ⟨hkw, k₂, ds, hK, r₂⟩ := h₂
  rw [hkw]
  exact hc s₂ a.pos k₂ (hs.keeps k₂) ds hK r₂

mutual
theorem sX : ∀ (x : X) (ct : Ct) (S : Sd c A T ct.un ct.gl) (env : Env) (Z W : Addr → Prop) (σ : List Slot) (K : D → Fl → Prop) (e : Expr), (∀ a, W a → Z a) → mX ct x e = true → EnvM ct env → wX T σ x K → EvW c A env Z W ct.ns σ e K
  | .int j, ct, S, env, Z, W, σ, K, e, hw, hm, m, h => by
    unfold mX at hm; split at hm
    · rw [beq_iff_eq] at hm; subst hm; unfold wX at h
      exact fun E s hs => wpAny_Constant_int ⟨.tok1, _, .fr, h, Res.sc (R.int _ _)⟩
    · cases hm
  | .flt j, ct, S, env, Z, W, σ, K, e, hw, hm, m, h => by
    unfold mX at hm; split at hm
    · rw [beq_iff_eq] at hm; subst hm; unfold wX at h
      exact fun E s hs => PySem.wpAny_Constant_float ⟨.tok1, _, .fr, h, Res.sc (R.newF S.lo hs.pre.tks)⟩
    · cases hm
  | .str j, ct, S, env, Z, W, σ, K, e, hw, hm, m, h => by
    unfold mX at hm; split at hm
    · rw [beq_iff_eq] at hm; subst hm; unfold wX at h
      exact fun E s hs => Calls.Constant_str ⟨.tok1, _, .fr, h, Res.sc (R.str _ _)⟩
    · cases hm
  | .none, ct, S, env, Z, W, σ, K, e, hw, hm, m, h => by
    unfold mX at hm; split at hm
    · unfold wX at h
      exact fun E s hs => wpAny_Constant_none ⟨.rfl', _, .fr, h, Res.sc (R.none)⟩
    · cases hm
  | .bool j, ct, S, env, Z, W, σ, K, e, hw, hm, m, h => by
    unfold mX at hm; split at hm
    · rw [beq_iff_eq] at hm; subst hm; unfold wX at h
      exact fun E s hs => wpAny_Constant_bool ⟨.rfl', _, .fr, h, Res.sc (R.bool _)⟩
    · cases hm
  | .var i, ct, S, env, Z, W, σ, K, e, hw, hm, m, h => by
    unfold mX at hm; split at hm
    · simp only [Bool.and_eq_true, beq_iff_eq, Bool.not_eq_true'] at hm; unfold wX at h
      exact EvW.var m.ok hm.1 hm.2 h
    · cases hm
  | .gl n, ct, S, env, Z, W, σ, K, e, hw, hm, m, h => by
    unfold mX at hm; split at hm
    · simp only [Bool.and_eq_true, beq_iff_eq] at hm; unfold wX at h
      obtain ⟨d, hd, h⟩ := optW_ok h
      obtain ⟨name, v, h1, h2, h3⟩ := S.tab.gl n d hd
      have hx := hm.1; rw [h1] at hx; cases hx
      have hg := hm.2; unfold isGlob at hg
      simp only [Bool.and_eq_true, beq_iff_eq, Bool.not_eq_true'] at hg
      exact fun E s hs => glob_name m.ok (by rw [m.kindOf]; exact hg.1) h2 hg.2 hs.pre ⟨.rfl', d, .cl, h, h3 Z s hs.pre⟩
    · cases hm
  | .bin op a b, ct, S, env, Z, W, σ, K, e, hw, hm, m, h => by
    unfold mX at hm; split at hm
    · simp only [Bool.and_eq_true, beq_iff_eq] at hm
      obtain ⟨⟨rfl, hma⟩, hmb⟩ := hm
      unfold wX at h
      intro E s hs
      refine wpAny_BinOp (mono (sX a ct S env Z W σ _ _ hw hma m h E s hs) fun v₁ s₁ h₁ => ?_)
      obtain ⟨k₁, d₁, f₁, h₁, r₁⟩ := h₁
      refine mono (sX b ct S env Z W σ _ _ hw hmb m h₁ E s₁ (hs.keeps k₁)) fun v₂ s₂ h₂ => ?_
      obtain ⟨k₂, d₂, f₂, h₂, r₂⟩ := h₂
      obtain ⟨d, hK, hr⟩ := binW_ok (c := c) (A := A) S.lo h₂
      exact mono (hr Z E s₂ v₁ v₂ ((hs.keeps k₁).keeps k₂).pre (r₁.rt.keeps k₂) r₂.rt) fun v s₃ h₃ => h₃.ans (k₁.trans k₂) hK
    · cases hm
  | .un op a, ct, S, env, Z, W, σ, K, e, hw, hm, m, h => by
    unfold mX at hm; split at hm
    · simp only [Bool.and_eq_true, beq_iff_eq] at hm
      obtain ⟨rfl, hma⟩ := hm
      unfold wX at h
      intro E s hs
      refine wpAny_UnaryOp (mono (sX a ct S env Z W σ _ _ hw hma m h E s hs) fun v₁ s₁ h₁ => ?_)
      obtain ⟨k₁, d₁, f₁, h₁, r₁⟩ := h₁
      obtain ⟨d, hK, hr⟩ := unW_ok (c := c) (A := A) h₁
      exact mono (hr Z E s₁ v₁ (hs.keeps k₁).pre r₁.rt) fun v s₃ h₃ => h₃.ans k₁ hK
    · cases hm
  | .cmp op a b, ct, S, env, Z, W, σ, K, e, hw, hm, m, h => by
    unfold mX at hm; split at hm
    · simp only [Bool.and_eq_true, beq_iff_eq] at hm
      obtain ⟨⟨⟨rfl, hma⟩, hmb⟩, hset⟩ := hm
      unfold wX at h
      intro E s hs
      refine wpAny_Compare1 (mono (sX a ct S env Z W σ _ _ hw hma m h E s hs) fun v₁ s₁ h₁ => ?_) (notSet_marks hset _)
      obtain ⟨k₁, d₁, f₁, h₁, r₁⟩ := h₁
      refine mono (sX b ct S env Z W σ _ _ hw hmb m h₁ E s₁ (hs.keeps k₁)) fun v₂ s₂ h₂ => ?_
      obtain ⟨k₂, d₂, f₂, h₂, r₂⟩ := h₂
      obtain ⟨r, hK, hr⟩ := cmpW_ok (c := c) (A := A) S.us h₂
      refine mono (hr Z E s₂ v₁ v₂ ((hs.keeps k₁).keeps k₂).pre (r₁.rt.keeps k₂) r₂.rt) fun v s₃ h₃ => ?_
      obtain ⟨k₃, rfl⟩ := h₃
      exact ⟨(k₁.trans k₂).trans k₃, _, .fr, hK, Res.sc (R.bool _)⟩
    · cases hm
  | .ife t a b, ct, S, env, Z, W, σ, K, e, hw, hm, m, h => by
    unfold mX at hm; split at hm
    · simp only [Bool.and_eq_true] at hm
      obtain ⟨⟨hmt, hma⟩, hmb⟩ := hm
      unfold wX at h
      intro E s hs
      refine wpAny_IfExp (mono (sB t ct S env Z W σ _ _ hw hmt m h E s hs) fun r s₁ h₁ => ?_)
      obtain ⟨k₁, h1, h0⟩ := h₁
      cases r with
      | true => exact mono (sX a ct S env Z W σ _ _ hw hma m (h1 rfl) E s₁ (hs.keeps k₁)) fun v s₂ h₂ => h₂.trans k₁
      | false => exact mono (sX b ct S env Z W σ _ _ hw hmb m (h0 rfl) E s₁ (hs.keeps k₁)) fun v s₂ h₂ => h₂.trans k₁
    · cases hm
  | .and a b, ct, S, env, Z, W, σ, K, e, hw, hm, m, h => by
    unfold mX at hm; split at hm
    · simp only [Bool.and_eq_true] at hm
      unfold wX at h
      intro E s hs
      refine wpAny_And2 (mono (sX a ct S env Z W σ _ _ hw hm.1 m h E s hs) fun v₁ s₁ h₁ => ?_)
      obtain ⟨k₁, d₁, f₁, h₁, r₁⟩ := h₁
      obtain ⟨r, ⟨h1, h0⟩, hr⟩ := truW_ok (c := c) (A := A) h₁
      refine mono (hr Z E s₁ v₁ (hs.keeps k₁).pre r₁.rt) fun r' s₂ h₂ => ?_
      obtain ⟨k₂, rfl⟩ := h₂
      cases r' with
      | true => exact mono (sX b ct S env Z W σ _ _ hw hm.2 m (h1 rfl) E s₂ ((hs.keeps k₁).keeps k₂)) fun v s₃ h₃ => h₃.trans (k₁.trans k₂)
      | false => exact ⟨k₁.trans k₂, d₁, f₁, h0 rfl, r₁.keeps k₂⟩
    · cases hm
  | .or a b, ct, S, env, Z, W, σ, K, e, hw, hm, m, h => by
    unfold mX at hm; split at hm
    · simp only [Bool.and_eq_true] at hm
      unfold wX at h
      intro E s hs
      refine wpAny_Or2 (mono (sX a ct S env Z W σ _ _ hw hm.1 m h E s hs) fun v₁ s₁ h₁ => ?_)
      obtain ⟨k₁, d₁, f₁, h₁, r₁⟩ := h₁
      obtain ⟨r, ⟨h1, h0⟩, hr⟩ := truW_ok (c := c) (A := A) h₁
      refine mono (hr Z E s₁ v₁ (hs.keeps k₁).pre r₁.rt) fun r' s₂ h₂ => ?_
      obtain ⟨k₂, rfl⟩ := h₂
      cases r' with
      | false => exact mono (sX b ct S env Z W σ _ _ hw hm.2 m (h1 rfl) E s₂ ((hs.keeps k₁).keeps k₂)) fun v s₃ h₃ => h₃.trans (k₁.trans k₂)
      | true => exact ⟨k₁.trans k₂, d₁, f₁, h0 rfl, r₁.keeps k₂⟩
    · cases hm
  | .tup l, ct, S, env, Z, W, σ, K, e, hw, hm, m, h => by
    unfold mX at hm; split at hm
    · unfold wX at h
      intro E s hs
      refine Tuple_ (mono (sXs l ct S env Z W σ _ _ hw hm m h _ E s hs) fun vs s₁ h₁ => ?_)
      obtain ⟨k₁, ds, ⟨hl, hK⟩, r₁⟩ := h₁
      exact newSeq_R (hs.keeps k₁).pre.zin r₁ (by rw [r₁.length, sizeLine_eq]; omega) _ fun s' k hz g r ro hn => ⟨k₁.trans k, _, .fr, hK, R.tup hz g r, Fr.keeps (s' := s₁) (fun a e => by cases e; exact hn) k₁, .tup g ro⟩
    · cases hm
  | .lst l, ct, S, env, Z, W, σ, K, e, hw, hm, m, h => by
    unfold mX at hm; split at hm
    · unfold wX at h
      intro E s hs
      refine List_ (mono (sXs l ct S env Z W σ _ _ hw hm m h _ E s hs) fun vs s₁ h₁ => ?_)
      obtain ⟨k₁, ds, ⟨hl, hK⟩, r₁⟩ := h₁
      exact newSeq_R (hs.keeps k₁).pre.zin r₁ (by rw [r₁.length, sizeLine_eq]; omega) _ fun s' k hz g r ro hn => ⟨k₁.trans k, _, .fr, hK, R.lst hz g r, Fr.keeps (s' := s₁) (fun a e => by cases e; exact hn) k₁, .lst g ro⟩
    · cases hm
  | .call f l, ct, S, env, Z, W, σ, K, e, hw, hm, m, h => by
    unfold mX at hm; split at hm
    · rename_i x p es pos
      simp only [Bool.and_eq_true, beq_iff_eq] at hm
      obtain ⟨⟨hname, hg⟩, hma⟩ := hm
      unfold wX at h
      intro E s hs
      have ha := sA l ct S env Z W σ _ _ hw hma m h
      have hst := itArgs hma
      have hpl := (noStar (env := env) (pos := pos) hma).1
      by_cases hu : ∃ n, f = .user n
      · obtain ⟨n, rfl⟩ := hu
        unfold isGlob at hg
        simp only [Bool.and_eq_true, beq_iff_eq, Bool.not_eq_true'] at hg
        obtain ⟨a, h2, h3, hcall⟩ := S.tab.fn n x hname
        rw [arm_eval_Call_Name']
        refine wpAny_bind (glob_name m.ok (by rw [m.kindOf]; exact hg.1) h2 hg.2 hs.pre ?_)
        refine callWith_k h3 hpl (mono (ha.args (.ref a) pos E s hs hst) fun aa s₂ h₂ => ?_)
        obtain ⟨hkw, k₂, ds, hK, r₂⟩ := h₂
        rw [hkw]
        refine ⟨(hs.keeps k₂).pre.kin, ?_⟩
        exact mono (hcall ds K hK Z W E s₂ aa.pos hw (hs.keeps k₂).pre r₂) fun v s₃ h₃ => h₃.trans k₂
      · obtain ⟨y, v, h1, h2, h3, h4, h5, hcall⟩ := S.tab.bi f fun n e => hu ⟨n, e⟩
        have : y = x := by have := h1 ct; rw [hname] at this; cases this; rfl
        subst this
        refine bltCall m hs hg h5 h2 h3 h4 hst ha hpl fun s₂ vs k₂ hs₂ ds hK r₂ => ?_
        have hK' : T.bi f ds K := by
          cases f with
          | user n => exact absurd ⟨n, rfl⟩ hu
          | _ => exact hK
        exact mono (hcall ds K hK' Z W E s₂ vs hw hs₂.pre r₂) fun v s₃ h₃ => h₃.trans k₂
    · cases hm
  | .meth o name l, ct, S, env, Z, W, σ, K, e, hw, hm, m, h => by
    unfold mX at hm; split at hm
    · rename_i x nm apos es pos
      simp only [Bool.and_eq_true, beq_iff_eq, decide_eq_true_eq] at hm
      obtain ⟨⟨⟨⟨⟨rfl, hline⟩, hlen⟩, hsup⟩, hmo⟩, hma⟩ := hm
      unfold wX at h
      intro E s hs
      have hst := itArgs hma
      have hpl := (noStar (env := env) (pos := pos) hma).1
      rw [arm_eval_Call, notSuper_base hsup]
      refine wpAny_bind (mono (sX o ct S env Z W σ _ _ hw hmo m h E s hs) fun v s₁ h₁ => ?_)
      obtain ⟨k₁, d₁, f₁, h₁, r₁⟩ := h₁
      obtain ⟨f, hf, h₁⟩ := optW_ok h₁
      obtain ⟨hkeep, hcall, hget⟩ := S.tab.me nm d₁ f hf
      refine wpAny_bind (wpAny_standAt ?_)
      have hform : methodCallForm (es.length + ([] : List Keyword).length) (backTo pos (starEach es env)) (backToKw pos (keywordEach [] env)) = true := by
        unfold methodCallForm
        rw [(noStar (env := env) (pos := pos) hma).2]
        have : decide (es.length + ([] : List Keyword).length + (if ([] : List Keyword).isEmpty then 0 else 1) < 30) = true := decide_eq_true (by show es.length + 0 + 0 < 30; omega)
        exact this
      have hpos : methodCallPos true x env apos pos = pure pos := by unfold methodCallPos; simp [hline]
      unfold methodCall
      rw [hform]
      have ha := sA l ct S env Z W σ _ _ hw hma m h₁
      have hs₁ := hs.keeps k₁
      refine wpAny_bind (wpAny_holding (mono (hget Z E s₁ v _ hs₁.pre r₁.rt) fun fx s₂ h₂ => ?_))
      obtain ⟨rfl, k₂⟩ := h₂
      refine wpAny_bind (wpAny_of_eq hpos ?_)
      have hs₂ := hs₁.keeps k₂
      have fin : ∀ (aa : Args) (s₃ : Shared), aa.kw = [] ∧ Kp s₂ s₃ ∧ (∃ ds, T.me nm d₁ ds K ∧ RtL c s₃ (NZ Z) aa.pos ds) → wpAny (model c.prog c.w) A (call f ([v] ++ aa.pos) aa.kw) (Ans c Z W s K) E s₃ := by
        rintro aa s₃ ⟨hkw, k₃, ds, hK, r₃⟩
        rw [hkw]
        exact mono (hcall ds K hK Z W E s₃ (v :: aa.pos) hw (hs₂.keeps k₃).pre (.cons ((r₁.rt.keeps k₂).keeps k₃) r₃)) fun u s₄ h₄ => h₄.trans ((k₁.trans k₂).trans k₃)
      rcases hkeep with hkeep | hnr
      · cases f with
        | ref a => exact callWith_k hkeep hpl (mono (ha.args (.ref a) pos E s₂ hs₂ hst) fun aa s₃ h₃ => ⟨(hs₂.keeps h₃.2.1).pre.kin, fin aa s₃ h₃⟩)
        | _ => cases hkeep
      · exact callWith_plain hnr hpl (mono (ha.args f pos E s₂ hs₂ hst) fin)
    · cases hm
  | .repl o y z, ct, S, env, Z, W, σ, K, e, hw, hm, m, h => by
    unfold mX at hm; split at hm
    · rename_i x nm apos a k1 p1 b k2 p2 pos
      simp only [Bool.and_eq_true, beq_iff_eq] at hm
      obtain ⟨⟨⟨⟨⟨rfl, hline⟩, hsup⟩, rfl⟩, rfl⟩, hmo⟩ := hm
      unfold wX at h
      intro E s hs
      rw [arm_eval_Call, notSuper_base hsup]
      refine wpAny_bind (mono (sX o ct S env Z W σ _ _ hw hmo m h E s hs) fun v s₁ h₁ => ?_)
      obtain ⟨k₁, d₁, f₁, h₁, r₁⟩ := h₁
      unfold replW at h₁
      split at h₁
      rotate_left
      · exact h₁.elim
      rename_i l
      obtain ⟨hb, h₁⟩ := h₁
      obtain ⟨t, rfl⟩ := r₁.rt.str_inv
      refine wpAny_bind (wpAny_standAt ?_)
      have hpos : methodCallPos true x env apos pos = pure pos := by unfold methodCallPos; simp [hline]
      unfold methodCall
      refine wpAny_bind (wpAny_holding (GM.replace ?_))
      refine wpAny_bind (wpAny_of_eq hpos ?_)
      have hs₁ := hs.keeps k₁
      refine callWith_plain (fun _ e => nomatch e) rfl ?_
      rw [starEach_cons rfl, starEach_cons rfl]
      refine Calls.evalArgs_plain ?_
      refine Calls.spliced_cons (Calls.Constant_str (pos := p1) (k := k1) ?_)
      refine Calls.spliced_cons (Calls.Constant_str (pos := p2) (k := k2) ?_)
      refine Calls.spliced_nil ?_
      have hlo : (1 : Nat) ≤ s₁.toks := Nat.le_trans S.lo hs₁.pre.tks
      obtain ⟨mc, hn, hmc⟩ := c.nb
      have kt : Kp s₁ { s₁ with toks := s₁.toks + 1 + 1 } := .tok (by omega)
      refine mono (kpw (P := fun v _ => ∃ t', v = .str (Txt.replace ⟨l.toArray⟩ ⟨y.toArray⟩ ⟨z.toArray⟩) t') (SC.replaceA (tok_ne hlo) (tok_ne (Nat.le_succ_of_le hlo)) (Nat.ne_of_lt (Nat.lt_succ_self _)) ?_ (fun t' k => ⟨keeps_tk, t', rfl⟩) ⟨mc, hn.keeps hs₁.pre.keep, hmc⟩)) fun v s₂ h₂ => ?_
      · rw [strN_length, strN_length]; exact hb
      · obtain ⟨k₂, t', rfl⟩ := h₂
        refine ⟨(k₁.trans kt).trans k₂, _, .fr, h₁, Res.sc ?_⟩
        have : Txt.replace ⟨l.toArray⟩ ⟨y.toArray⟩ ⟨z.toArray⟩ = ⟨(replL l y z).toArray⟩ := by unfold replL; simp
        rw [this]; exact R.str _ _
    · cases hm
  | .attr o name, ct, S, env, Z, W, σ, K, e, hw, hm, m, h => by
    unfold mX at hm; split at hm
    · rename_i x nm apos
      simp only [Bool.and_eq_true, beq_iff_eq] at hm
      obtain ⟨⟨rfl, hsup⟩, hmo⟩ := hm
      unfold wX at h
      intro E s hs
      rw [arm_eval_Attribute, notSuper_base hsup]
      refine wpAny_bind (mono (sX o ct S env Z W σ _ _ hw hmo m h E s hs) fun v s₁ h₁ => ?_)
      obtain ⟨k₁, d₁, f₁, h₁, r₁⟩ := h₁
      obtain ⟨d, hK, hget⟩ := S.tab.ga nm d₁ _ h₁
      refine wpAny_bind (wpAny_standAt (wpAny_bind (wpAny_holding (mono (hget Z E s₁ v (hs.keeps k₁).pre r₁.rt) fun r s₂ h₂ => ?_))))
      exact wpAny_bind (wpAny_letTemporaryGo (wpAny_pure ⟨k₁.trans h₂.1, d, .cl, hK, h₂.2⟩))
    · cases hm
  | .sub a i, ct, S, env, Z, W, σ, K, e, hw, hm, m, h => by
    unfold mX at hm; split at hm
    · simp only [Bool.and_eq_true] at hm
      obtain ⟨⟨hsl, hma⟩, hmi⟩ := hm
      unfold wX at h
      intro E s hs
      refine Subscript_ (mono (sX a ct S env Z W σ _ _ hw hma m h E s hs) fun v₁ s₁ h₁ => ?_)
      obtain ⟨k₁, d₁, f₁, h₁, r₁⟩ := h₁
      refine mono (sX i ct S env Z W σ _ _ hw hmi m h₁ E s₁ (hs.keeps k₁)) fun v₂ s₂ h₂ => ?_
      obtain ⟨k₂, d₂, f₂, h₂, r₂⟩ := h₂
      obtain ⟨d, hK, hr, ty, hty, hg⟩ := getW_ok (c := c) (A := A) h₂
      have r₁' := r₁.rt.keeps k₂
      refine subTail (r₁'.typeIs hty).1 hg ?_ (.inl (notSlice_sub hsl _ _))
      exact mono (hr Z E s₂ v₁ v₂ ((hs.keeps k₁).keeps k₂).pre r₁' r₂.rt) fun v s₃ h₃ => ⟨(k₁.trans k₂).trans h₃.1, d, .cl, hK, h₃.2⟩
    · cases hm
  | .slice a lo hi st, ct, S, env, Z, W, σ, K, e, hw, hm, m, h => by
    unfold mX at hm; split at hm
    · simp only [Bool.and_eq_true] at hm
      obtain ⟨⟨⟨hma, hml⟩, hmh⟩, hmk⟩ := hm
      unfold wX at h
      intro E s hs
      refine Subscript_ (mono (sX a ct S env Z W σ _ _ hw hma m h E s hs) fun v₁ s₁ h₁ => ?_)
      obtain ⟨k₁, d₁, f₁, h₁, r₁⟩ := h₁
      have hs₁ := hs.keeps k₁
      refine wpAny_Slice (mono (sXo lo ct S env Z W σ _ _ hw hml m h₁ E s₁ hs₁) fun w₁ s₂ h₂ => ?_)
      obtain ⟨k₂, p₁, t₁, h₂, rfl⟩ := h₂
      refine mono (sXo hi ct S env Z W σ _ _ hw hmh m h₂ E s₂ (hs₁.keeps k₂)) fun w₂ s₃ h₃ => ?_
      obtain ⟨k₃, p₂, t₂, h₃, rfl⟩ := h₃
      refine mono (sXo st ct S env Z W σ _ _ hw hmk m h₃ E s₃ ((hs₁.keeps k₂).keeps k₃)) fun w₃ s₄ h₄ => ?_
      obtain ⟨k₄, p₃, t₃, h₄, rfl⟩ := h₄
      obtain ⟨d, hK, hr, ty, hty, hg⟩ := slW_ok (c := c) (A := A) h₄
      have kk := (k₂.trans k₃).trans k₄
      have kp : Kp s₄ { s₄ with heap := s₄.heap.push { cls := .type "slice", data := .fields #[partValue (p₁.map fun i => (i, t₁)), partValue (p₂.map fun i => (i, t₂)), partValue (p₃.map fun i => (i, t₃))] } } := .push
      have r₁' := (r₁.rt.keeps kk).keeps kp
      refine subTail (r₁'.typeIs hty).1 hg ?_ (subscripted_slice _ _ _ _ _ _)
      exact mono (hr Z E _ v₁ _ t₁ t₂ t₃ ((hs₁.keeps kk).keeps kp).pre r₁' (Heap.get?_push_size _ rfl)) fun v s₅ h₅ => h₅.ans ((k₁.trans kk).trans kp) hK
    · cases hm
  | .comp elt mask n it ifs, ct, S, env, Z, W, σ, K, e, hw, hm, m, h => by
    unfold mX at hm; split at hm
    · rename_i x tgt iter cs scope pos
      split at hm
      · rename_i xs hxs
        simp only [Bool.and_eq_true, Bool.or_eq_true, beq_iff_eq] at hm
        obtain ⟨⟨⟨⟨⟨⟨rfl, hpl⟩, hsc⟩, hcap⟩, hmi⟩, hme⟩, hmb⟩ := hm
        unfold wX at h
        exact comp_ok S.hh hw m hxs hsc hcap (mIt_set hmi) (sIt it ct S env Z W σ _ _ tgt hw hmi m h (fun hn => by
            have h2 := hpl.resolve_right (by rw [hn]; exact Bool.false_ne_true)
            unfold tgtNames at hxs
            split at hxs
            · cases hxs; cases h2
            · exact ⟨_, _, _, rfl⟩
            · cases hxs))
          (fun cenv Z' σ' Kb hw' mc hb => sBo ifs (ct.comp scope xs) S cenv Z' W σ' Kb cs hw' hmb mc hb)
          (fun cenv Z' σ' K' hw' mc hb => sX elt (ct.comp scope xs) S cenv Z' W σ' K' x hw' hme mc hb)
      · cases hm
    · cases hm
theorem sXs : ∀ (l : Xs) (ct : Ct) (S : Sd c A T ct.un ct.gl) (env : Env) (Z W : Addr → Prop) (σ : List Slot) (K : List D → Prop) (es : List Expr), (∀ a, W a → Z a) → mXs ct l es = true → EnvM ct env → wXs T σ l K → LsW c A env Z W ct.ns σ es K
  | .nil, ct, S, env, Z, W, σ, K, es, hw, hm, m, h => by
    unfold mXs at hm; split at hm
    · unfold wXs at h
      exact fun pos E s hs => Calls.spliced_nil ⟨.rfl', [], h, .nil⟩
    · cases hm
  | .cons x l, ct, S, env, Z, W, σ, K, es, hw, hm, m, h => by
    unfold mXs at hm; split at hm
    · simp only [Bool.and_eq_true] at hm
      unfold wXs at h
      intro pos E s hs
      rw [starEach_cons hm.1.1]
      refine Calls.spliced_cons (mono (sX x ct S env Z W σ _ _ hw hm.1.2 m h E s hs) fun v s₁ h₁ => ?_)
      obtain ⟨k₁, d₁, f₁, ⟨hcl, h₁⟩, r₁⟩ := h₁
      refine mono (sXs l ct S env Z W σ _ _ hw hm.2 m h₁ pos E s₁ (hs.keeps k₁)) fun vs s₂ h₂ => ?_
      obtain ⟨k₂, ds, hK, r₂⟩ := h₂
      have rv : R c s₁ (NZ Z) v d₁ := by
        unfold clean at hcl
        rw [Bool.or_eq_true] at hcl
        rcases hcl with q | q
        · exact r₁.r q
        · exact (r₁.rt.scal q).1
      exact ⟨k₁.trans k₂, d₁ :: ds, hK, .cons (rv.keeps k₂) r₂⟩
    · cases hm
theorem sA : ∀ (l : Xs) (ct : Ct) (S : Sd c A T ct.un ct.gl) (env : Env) (Z W : Addr → Prop) (σ : List Slot) (K : List D → Prop) (es : List Expr), (∀ a, W a → Z a) → mXs ct l es = true → EnvM ct env → wA T σ l K → ArW c A env Z W ct.ns σ es K
  | .nil, ct, S, env, Z, W, σ, K, es, hw, hm, m, h => by
    unfold mXs at hm; split at hm
    · unfold wA at h
      exact fun pos E s hs => Calls.spliced_nil ⟨.rfl', [], h, .nil⟩
    · cases hm
  | .cons x l, ct, S, env, Z, W, σ, K, es, hw, hm, m, h => by
    unfold mXs at hm; split at hm
    · simp only [Bool.and_eq_true] at hm
      unfold wA at h
      intro pos E s hs
      rw [starEach_cons hm.1.1]
      refine Calls.spliced_cons (mono (sX x ct S env Z W σ _ _ hw hm.1.2 m h E s hs) fun v s₁ h₁ => ?_)
      obtain ⟨k₁, d₁, f₁, h₁, r₁⟩ := h₁
      refine mono (sA l ct S env Z W σ _ _ hw hm.2 m h₁ pos E s₁ (hs.keeps k₁)) fun vs s₂ h₂ => ?_
      obtain ⟨k₂, ds, hK, r₂⟩ := h₂
      exact ⟨k₁.trans k₂, d₁ :: ds, hK, .cons (r₁.rt.keeps k₂) r₂⟩
    · cases hm
theorem sB : ∀ (x : B) (ct : Ct) (S : Sd c A T ct.un ct.gl) (env : Env) (Z W : Addr → Prop) (σ : List Slot) (K : Bool → Prop) (e : Expr), (∀ a, W a → Z a) → mB ct x e = true → EnvM ct env → wB T σ x K → TrW c A env Z W ct.ns σ e K
  | .not a, ct, S, env, Z, W, σ, K, e, hw, hm, m, h => by
    unfold mB at hm; split at hm
    · unfold wB at h
      exact fun E s hs => wpAny_isTrue_Not (mono (sB a ct S env Z W σ _ _ hw hm m h E s hs) fun r s' h' => h')
    · cases hm
  | .cmp op a b, ct, S, env, Z, W, σ, K, e, hw, hm, m, h => by
    unfold mB at hm; split at hm
    · simp only [Bool.and_eq_true, beq_iff_eq] at hm
      obtain ⟨⟨⟨rfl, hma⟩, hmb⟩, hset⟩ := hm
      unfold wB at h
      intro E s hs
      refine wpAny_isTrue_Compare1 (mono (sX a ct S env Z W σ _ _ hw hma m h E s hs) fun v₁ s₁ h₁ => ?_) (notSet_marks hset _)
      obtain ⟨k₁, d₁, f₁, h₁, r₁⟩ := h₁
      refine mono (sX b ct S env Z W σ _ _ hw hmb m h₁ E s₁ (hs.keeps k₁)) fun v₂ s₂ h₂ => ?_
      obtain ⟨k₂, d₂, f₂, h₂, r₂⟩ := h₂
      obtain ⟨r, hK, hr⟩ := cmpW_ok (c := c) (A := A) S.us h₂
      refine mono (hr Z E s₂ v₁ v₂ ((hs.keeps k₁).keeps k₂).pre (r₁.rt.keeps k₂) r₂.rt) fun v s₃ h₃ => ?_
      obtain ⟨k₃, rfl⟩ := h₃
      exact wpAny_truthy_bool ⟨(k₁.trans k₂).trans k₃, hK⟩
    · cases hm
  | .and a b, ct, S, env, Z, W, σ, K, e, hw, hm, m, h => by
    unfold mB at hm; split at hm
    · simp only [Bool.and_eq_true] at hm
      unfold wB at h
      intro E s hs
      refine wpAny_isTrue_BoolOp (wpAny_allTrue_And_cons (mono (sB a ct S env Z W σ _ _ hw hm.1 m h E s hs) fun r s₁ h₁ => ?_))
      obtain ⟨k₁, h1, h0⟩ := h₁
      cases r with
      | false => exact ⟨k₁, h0 rfl⟩
      | true =>
        refine wpAny_allTrue_And_cons (mono (sB b ct S env Z W σ _ _ hw hm.2 m (h1 rfl) E s₁ (hs.keeps k₁)) fun r s₂ h₂ => ?_)
        cases r with
        | false => exact ⟨k₁.trans h₂.1, h₂.2⟩
        | true => exact wpAny_allTrue_And_nil ⟨k₁.trans h₂.1, h₂.2⟩
    · cases hm
  | .or a b, ct, S, env, Z, W, σ, K, e, hw, hm, m, h => by
    unfold mB at hm; split at hm
    · simp only [Bool.and_eq_true] at hm
      unfold wB at h
      intro E s hs
      refine wpAny_isTrue_BoolOp (wpAny_allTrue_Or_cons (mono (sB a ct S env Z W σ _ _ hw hm.1 m h E s hs) fun r s₁ h₁ => ?_))
      obtain ⟨k₁, h1, h0⟩ := h₁
      cases r with
      | true => exact ⟨k₁, h0 rfl⟩
      | false =>
        refine wpAny_allTrue_Or_cons (mono (sB b ct S env Z W σ _ _ hw hm.2 m (h1 rfl) E s₁ (hs.keeps k₁)) fun r s₂ h₂ => ?_)
        cases r with
        | true => exact ⟨k₁.trans h₂.1, h₂.2⟩
        | false => exact wpAny_allTrue_Or_nil ⟨k₁.trans h₂.1, h₂.2⟩
    · cases hm
  | .val x, ct, S, env, Z, W, σ, K, e, hw, hm, m, h => by
    unfold mB at hm
    simp only [Bool.and_eq_true] at hm
    unfold wB at h
    intro E s hs
    refine wpAny_isTrue_value (mono (sX x ct S env Z W σ _ _ hw hm.2 m h E s hs) fun v s₁ h₁ => ?_) (plainTest_true hm.1 _)
    obtain ⟨k₁, d₁, f₁, h₁, r₁⟩ := h₁
    obtain ⟨r, hK, hr⟩ := truW_ok (c := c) (A := A) h₁
    refine mono (hr Z E s₁ v (hs.keeps k₁).pre r₁.rt) fun r' s₂ h₂ => ?_
    obtain ⟨k₂, rfl⟩ := h₂
    exact ⟨k₁.trans k₂, hK⟩
theorem sXo : ∀ (x : Xo) (ct : Ct) (S : Sd c A T ct.un ct.gl) (env : Env) (Z W : Addr → Prop) (σ : List Slot) (K : Option Int → Prop) (o : Option Expr), (∀ a, W a → Z a) → mXo ct x o = true → EnvM ct env → wXo T σ x K → PtW c A env Z W ct.ns σ o K
  | .none, ct, S, env, Z, W, σ, K, o, hw, hm, m, h => by
    unfold mXo at hm; split at hm
    · unfold wXo at h
      intro E s hs
      rw [evalPart_none]
      exact wpAny_pure ⟨.rfl', none, 0, h, rfl⟩
    · cases hm
  | .some x, ct, S, env, Z, W, σ, K, o, hw, hm, m, h => by
    unfold mXo at hm; split at hm
    · unfold wXo at h
      intro E s hs
      rw [evalPart_some]
      refine mono (sX x ct S env Z W σ _ _ hw hm m h E s hs) fun v s₁ h₁ => ?_
      obtain ⟨k₁, d₁, f₁, h₁, r₁⟩ := h₁
      cases d₁ with
      | int i => obtain ⟨t, rfl⟩ := r₁.rt.int_inv; exact ⟨k₁, some i, t, h₁, rfl⟩
      | _ => exact h₁.elim
    · cases hm
theorem sBo : ∀ (x : Bo) (ct : Ct) (S : Sd c A T ct.un ct.gl) (env : Env) (Z W : Addr → Prop) (σ : List Slot) (K : Bool → Prop) (es : List Expr), (∀ a, W a → Z a) → mBo ct x es = true → EnvM ct env → wBo T σ x K → IfW c A env Z W ct.ns σ es K
  | .none, ct, S, env, Z, W, σ, K, es, hw, hm, m, h => by
    unfold mBo at hm; split at hm
    · unfold wBo at h
      exact fun E s hs => wpAny_tests_nil ⟨.rfl', h⟩
    · cases hm
  | .some b, ct, S, env, Z, W, σ, K, es, hw, hm, m, h => by
    unfold mBo at hm; split at hm
    · unfold wBo at h
      exact fun E s hs => wpAny_tests_one (mono (sB b ct S env Z W σ _ _ hw hm m h E s hs) fun r s' h' => h')
    · cases hm
theorem sIt : ∀ (x : It) (ct : Ct) (S : Sd c A T ct.un ct.gl) (env : Env) (Z W : Addr → Prop) (σ : List Slot) (K : List D → Fl → Prop) (e tgt : Expr), (∀ a, W a → Z a) → mIt ct x e = true → EnvM ct env → wIt T σ x K →
    (itPlain x = false → ∃ es k p, tgt = .Tuple es k p) → ItW c A env Z W ct.ns σ tgt e K
  | .x a, ct, S, env, Z, W, σ, K, e, tgt, hw, hm, m, h, ht => by
    unfold mIt at hm
    simp only [Bool.and_eq_true] at hm
    unfold wIt at h
    intro E s hs
    refine mono (sX a ct S env Z W σ _ _ hw hm.2 m h E s hs) fun v s₁ h₁ => ?_
    obtain ⟨k₁, d₁, f₁, h₁, r₁⟩ := h₁
    exact iter_ok S.hh hs.pre.zin hw k₁ r₁ h₁
  | .range l, ct, S, env, Z, W, σ, K, e, tgt, hw, hm, m, h, ht => by
    unfold mIt at hm; split at hm
    · rename_i x p es pos
      simp only [Bool.and_eq_true, beq_iff_eq] at hm
      obtain ⟨⟨rfl, hg⟩, hma⟩ := hm
      unfold wIt at h
      intro E s hs
      have ha := sA l ct S env Z W σ _ _ hw hma m h
      refine bltCall (fv := .type "range") m hs hg (S.tab.it _ (.inl rfl)) (by decide) (by decide) (by intro a e; cases e) (itArgs hma) ha (noStar (env := env) (pos := pos) hma).1 fun s₁ vs k₁ hs₁ ds hK r₁ => ?_
      have fin : ∀ (a b : Int) (t u v : Tok) (s₂ : Shared) (o : Obj), Kp s₁ s₂ → IsRange s₂.heap s₁.heap.objs.size a b 1 t u v → small a → small b → K (rngD a b) .fr → wpAny (model c.prog c.w) A (pyIter (.ref s₁.heap.objs.size))
          (fun it s₂ => ∃ I ds fl, ∃ fp : Addr → Prop, it = .ref I ∧ K ds fl ∧ Kp s s₂ ∧ (∀ x, fp x → s.heap.get? x = none) ∧ (∀ x, fp x → Itr s₂.heap x) ∧ fp I ∧
            (∀ (E : Value → Shared → Prop) (Q : Value → Shared → Prop) (s₃ : Shared), (∀ o, s₂.heap.get? I = some o → s₃.heap.get? I = some o) → Q (.ref I) s₃ → wpAny (model c.prog c.w) A (pyIter (.ref I)) Q E s₃) ∧
            ∀ Z' W' : Addr → Prop, (∀ x, W' x → Z' x) → (∀ x, fp x → Z' x) → (∀ x, Z' x → Z x ∨ fp x) → (∀ x, W' x → ¬ fp x) → (∀ x, W' x → W x) → (fl = .ow → ∀ x, ¬ W' x) → ItOk c A tgt I fp ds Z' W' s₂) E s₂ := by
        intro a b t u v s₂ o k₂ hr h1 h2 hK
        have hfr := get_size s₂.heap
        have hs0 : s.heap.get? s₂.heap.objs.size = none := by
          cases q : s.heap.get? s₂.heap.objs.size with
          | none => rfl
          | some o => rw [(k₁.trans k₂).get _ o q] at hfr; cases hfr
        have s1 := h1.1; have s2 := h1.2; have s3 := h2.1; have s4 := h2.2
        refine wpAny_pyIter_range hr (small_range h1 h2) ?_
        rw [rangeSize_one]
        have e0 : (if a < b then b - a else 0) = (((b - a).toNat : Nat) : Int) := by split <;> omega
        rw [e0]
        have g₂ : (s₂.heap.push { cls := .type "range_iterator", data := .fields #[rawInt a, rawInt (((b - a).toNat : Nat) : Int), rawInt 1] }).get? s₂.heap.objs.size = some { cls := .type "range_iterator", data := .fields #[rawInt a, rawInt (((b - a).toNat : Nat) : Int), rawInt 1] } := Heap.get?_push_size _ rfl
        have gx : ∀ x, x = s₂.heap.objs.size → Itr (s₂.heap.push { cls := .type "range_iterator", data := .fields #[rawInt a, rawInt (((b - a).toNat : Nat) : Int), rawInt 1] }) x := by rintro x rfl; exact ⟨_, g₂, by simp⟩
        refine ⟨_, rngD a b, .fr, (· = s₂.heap.objs.size), rfl, hK, (k₁.trans k₂).trans .push, fun x e => e ▸ hs0, gx, rfl, fun E Q s₃ hk hq => wpAny_pyIter_rangeiter (x := a) (left := ((b - a).toNat : Nat)) (step := 1) (hk _ g₂) hq, fun Z' W' h1 h2 h3 h4 h5 h6 => ?_⟩
        exact ItOk.range S.hh (fp := (· = s₂.heap.objs.size)) rfl (b - a).toNat a Z' W' _ g₂ ⟨h1, h2, fun x e hx => h4 x hx e⟩ gx
      unfold rangeW at hK
      split at hK
      · rename_i b
        cases r₁ with
        | cons r r₁ =>
        cases r₁
        obtain ⟨t, rfl⟩ := r.int_inv
        refine call_range_1 ?_
        exact fin 0 b _ _ _ _ default (.of (fun b o e => Heap.get?_push_of_some _ e) (by show s₁.toks ≤ s₁.toks + 1 + 1; omega)) (IsRange.new ..) ⟨by omega, by omega⟩ hK.1 hK.2
      · rename_i a b
        cases r₁ with
        | cons r r₁ =>
        cases r₁ with
        | cons q r₁ =>
        cases r₁
        obtain ⟨t, rfl⟩ := r.int_inv
        obtain ⟨u, rfl⟩ := q.int_inv
        refine call_range_2 ?_
        exact fin a b _ _ _ _ default (.of (fun b o e => Heap.get?_push_of_some _ e) (Nat.le_succ _)) (IsRange.new ..) hK.1.1 hK.1.2 hK.2
      · exact hK.elim
    · cases hm
  | .enum a, ct, S, env, Z, W, σ, K, e, tgt, hw, hm, m, h, ht => by
    unfold mIt at hm; split at hm
    · rename_i x p y pos
      simp only [Bool.and_eq_true, beq_iff_eq] at hm
      obtain ⟨⟨⟨rfl, hg⟩, hst⟩, hma⟩ := hm
      obtain ⟨es, kk, tp, rfl⟩ := ht rfl
      unfold wIt at h
      intro E s hs
      unfold isGlob at hg
      simp only [Bool.and_eq_true, beq_iff_eq, Bool.not_eq_true'] at hg
      rw [arm_eval_Call_Name']
      refine wpAny_bind (blt_name (v := .type "enumerate") m.ok (by rw [m.kindOf]; exact hg.1) (S.tab.it _ (.inr (.inl rfl))) (by decide) (by decide) hg.2 hs.pre ?_)
      refine callWith_plain (by intro a e; cases e) (by rw [starEach_cons hst]; rfl) ?_
      rw [starEach_cons hst]
      refine Calls.evalArgs_plain ?_
      refine Calls.spliced_cons (mono (sX a ct S env Z W σ _ _ hw hma m h E s hs) fun v s₁ h₁ => ?_)
      obtain ⟨k₁, d₁, fl, h₁, r₁⟩ := h₁
      refine Calls.spliced_nil ?_
      unfold enumW at h₁
      split at h₁
      · rename_i l
        obtain ⟨hl, hK⟩ := h₁
        obtain ⟨a', vs, n, rfl, g, rl⟩ := r₁.rt.lst_inv
        have hs₁ := get_size s₁.heap
        have old : ∀ b, s₁.heap.get? b = none → s.heap.get? b = none := fun b e => by
          cases q : s.heap.get? b with
          | none => rfl
          | some o => rw [k₁.get _ o q] at e; cases e
        have hfr1 : s₁.heap.get? (s₁.heap.objs.size + 1) = none := Heap.get?_none_of_le (Nat.le_succ _)
        have root : fl ≠ .ow → ¬ W a' := fun hf hwa => by
          cases fl with
          | fr => have := r₁.2.1 a' rfl; obtain ⟨o, q⟩ := hs.pre.zin a' (hw a' hwa); rw [this] at q; cases q
          | cl => have r' : R c s₁ (NZ Z) (.ref a') (.lst l) := r₁; cases r' with | lst p _ _ => exact p (hw a' hwa)
          | rt => exact r₁.2 a' rfl hwa
          | ow => exact hf rfl
        refine call_enumerate_list (isList_of g) fun h' he hi hsz hk => ?_
        refine wpAny_pyIter_enum he ?_
        have hne1 : a' ≠ s₁.heap.objs.size := fun e => by rw [e, hs₁] at g; cases g
        have hne2 : a' ≠ s₁.heap.objs.size + 1 := fun e => by rw [e, hfr1] at g; cases g
        obtain ⟨oi, hoi, hoi'⟩ := id hi
        have gx : ∀ x, (x = s₁.heap.objs.size + 1 ∨ x = s₁.heap.objs.size) → Itr h' x := by
          rintro x (rfl | rfl)
          · exact ⟨_, he, by simp⟩
          · exact ⟨_, hoi, by rw [hoi'.1]; decide⟩
        refine ⟨_, enumD 0 l, fl, fun x => x = s₁.heap.objs.size + 1 ∨ x = s₁.heap.objs.size, rfl, hK, k₁.trans (.of hk (Nat.le_refl _)), fun x e => ?_, gx, .inl rfl, fun E Q s₃ hk' hq => wpAny_pyIter_enum (hk' _ he) hq, fun Z' W' h1 h2 h3 h4 h5 h6 => ?_⟩
        · rcases e with rfl | rfl
          · exact old _ hfr1
          · exact old _ hs₁
        refine ItOk.enum S.hh (fp := fun x => x = s₁.heap.objs.size + 1 ∨ x = s₁.heap.objs.size) (a := a') (vs := vs) (n := n) (.inl rfl) (.inr rfl) (fun x h => h) (Nat.succ_ne_self _) (fun h => h.elim hne2 hne1) l vs 0 .none Z' W' _ rfl he hi (hk _ _ g) ?_ ?_ ⟨h1, h2, fun x e hx => h4 x hx e⟩ gx
        · exact RL.trans (s := s₁) (s' := { s₁ with heap := h' }) (Nat.le_refl _) (fun b o p e => ⟨fun z => (h3 b z).elim p (fun e' => by
            rcases e' with e' | e'
            · rw [e', hfr1] at e; cases e
            · rw [e', hs₁] at e; cases e), hk _ _ e⟩) rl
        · exact fun hwa => by
            by_cases hf : fl = .ow
            · exact h6 hf _ hwa
            · exact root hf (h5 a' hwa)
      · exact h₁.elim
    · cases hm
  | .zip a b, ct, S, env, Z, W, σ, K, e, tgt, hw, hm, m, h, ht => by
    unfold mIt at hm; split at hm
    · rename_i x p y z pos
      simp only [Bool.and_eq_true, beq_iff_eq] at hm
      obtain ⟨⟨⟨⟨⟨rfl, hg⟩, hst⟩, hst'⟩, hma⟩, hmb⟩ := hm
      unfold wIt at h
      intro E s hs
      unfold isGlob at hg
      simp only [Bool.and_eq_true, beq_iff_eq, Bool.not_eq_true'] at hg
      rw [arm_eval_Call_Name']
      refine wpAny_bind (blt_name (v := .type "zip") m.ok (by rw [m.kindOf]; exact hg.1) (S.tab.it _ (.inr (.inr rfl))) (by decide) (by decide) hg.2 hs.pre ?_)
      refine callWith_plain (by intro a e; cases e) (by rw [starEach_cons hst, List.any_cons, starEach_cons hst']; rfl) ?_
      rw [starEach_cons hst, starEach_cons hst']
      refine Calls.evalArgs_plain ?_
      refine Calls.spliced_cons (mono (sX a ct S env Z W σ _ _ hw hma m h E s hs) fun v s₁ h₁ => ?_)
      obtain ⟨k₁, d₁, f₁, h₁, r₁⟩ := h₁
      refine Calls.spliced_cons (mono (sX b ct S env Z W σ _ _ hw hmb m h₁ E s₁ (hs.keeps k₁)) fun v₂ s₂ h₂ => ?_)
      obtain ⟨k₂, d₂, f₂, h₂, r₂⟩ := h₂
      exact h₂.elim
    · cases hm
end
end
end Mine

end

section
open PySem PySem.W PyProof.Rows
set_option Elab.async false
set_option linter.unusedVariables false
set_option maxRecDepth 4000
namespace Mine

theorem Loc.fun {env : Env} {h : Heap} {x : Str} {v v' : Value} (a : Loc env h x v) (b : Loc env h x v') : v = v' := by
  cases a with
  | loc m hk hn e =>
    cases b with
    | loc m' hk' hn' e' => have := hn.agree hn' x; rw [e, e'] at this; cases this; rfl
    | cell c hk' _ _ => rw [hk] at hk'; rcases hk' with h | ⟨h, _⟩ <;> cases h
  | cell c hk hc hv =>
    cases b with
    | loc m' hk' _ _ => rw [hk'] at hk; rcases hk with h | ⟨h, _⟩ <;> cases h
    | cell c' _ hc' hv' =>
      rw [hc] at hc'; cases hc'
      obtain ⟨o, ho, hd⟩ := hv
      obtain ⟨o', ho', hd'⟩ := hv'
      rw [ho] at ho'; cases ho'
      rw [hd] at hd'; cases hd'; rfl

structure EnvF (ct : Ct) (env : Env) : Prop where
  m : EnvM ct env
  apart : ∀ x y a, env.cells.lookup x = some a → env.cells.lookup y = some a → x = y
  hL : ∀ x, env.cells.lookup x ≠ some env.locals
  nodup : ct.ns.Nodup
  hcc : ∀ y b, env.cells.lookup y = some b → ct.kd.lookup y = some .cell

def D.isSeq : Mine.D → Bool
  | .lst _ | .tup _ | .dct _ => true
  | _ => false
structure FSt (c : Cx) (env : Env) (Z W : Addr → Prop) (ns : List Str) (σ : List Slot) (s : Shared) : Prop where
  st : RSt c env Z W ns σ s
  wz : ∀ a, W a → Z a
  loc : W env.locals
  nsx : ∃ m, s.heap.Ns env.locals m
  cells : ∀ x a, env.kindOf x = some .cell → env.cells.lookup x = some a → W a ∧ ∃ v, s.heap.IsCell a v
  new : ∀ a, W a → c.h₀.get? a = none
  rts : ∀ (i : Nat) (d : Mine.D), σ[i]? = some (.rt d) → d.isSeq = true
  own : ∀ (i : Nat) (x : Str) (d : Mine.D), ns[i]? = some x → σ[i]? = some (.ow d) → ∀ a, Loc env s.heap x (.ref a) → a ≠ env.locals ∧ (∀ y b, env.kindOf y = some .cell → env.cells.lookup y = some b → a ≠ b) ∧ ∀ (j : Nat) (y : Str) (e : Mine.D), ns[j]? = some y → σ[j]? = some (.ow e) → Loc env s.heap y (.ref a) → i = j

/-- what a value must be for a slot -/
def SV (c : Cx) (s : Shared) (Z W : Addr → Prop) (v : Value) : Slot → Prop
  | .un => True
  | .cl d => R c s (NZ Z) v d
  | .rt d => Rt c s (NZ Z) v d ∧ (∀ a, v = .ref a → ¬ W a ∧ ∃ o, s.heap.get? a = some o) ∧ d.isSeq = true
  | .ow d => ∃ a, v = .ref a ∧ Rt c s (NZ Z) (.ref a) d ∧ W a
theorem SlotR.of {c : Cx} {env : Env} {s : Shared} {Z W : Addr → Prop} {x : Str} {v : Value} {sl : Slot} (l : Loc env s.heap x v) (h : SV c s Z W v sl) : SlotR c env s Z W x sl := by
  cases sl with
  | un => trivial
  | cl d => exact ⟨v, l, h⟩
  | rt d => exact ⟨v, l, h.1, h.2.1⟩
  | ow d => obtain ⟨a, rfl, r, w⟩ := h; exact ⟨a, l, r, w⟩

section
variable {c : Cx} {A : Around} {env : Env} {Z W : Addr → Prop} {ns : List Str} {σ : List Slot} {s : Shared} {E : Value → Shared → Prop} {ct : Ct}

theorem FSt.keeps {s' : Shared} (f : FSt c env Z W ns σ s) (k : Kp s s') : FSt c env Z W ns σ s' := by
  refine ⟨f.st.keeps k, f.wz, f.loc, let ⟨m, h⟩ := f.nsx; ⟨m, h.keeps k.get⟩, fun x a h1 h2 => ⟨(f.cells x a h1 h2).1, let ⟨v, h⟩ := (f.cells x a h1 h2).2; ⟨v, h.keeps k.get⟩⟩, f.new, f.rts, fun i x d h1 h2 a l => ?_⟩
  have back : ∀ {j : Nat} {y : Str} {e : Mine.D} {b : Addr}, ns[j]? = some y → σ[j]? = some (.ow e) → Loc env s'.heap y (.ref b) → Loc env s.heap y (.ref b) := fun {j y e b} h1 h2 l => by
    obtain ⟨b', l', _⟩ := f.st.vars j y _ h1 h2
    have := (l'.keeps k.get).fun l
    rw [← this]; exact l'
  obtain ⟨p, q, r⟩ := f.own i x d h1 h2 a (back h1 h2 l)
  exact ⟨p, q, fun j y e g1 g2 l' => r j y e g1 g2 (back g1 g2 l')⟩

/-- how what is ours may grow -/
structure Gro (Z W Z' W' : Addr → Prop) (s s' : Shared) : Prop where
  w : ∀ a, W a → W' a
  wn : ∀ a, W' a → W a ∨ s.heap.get? a = none
  wz : ∀ a, W' a → Z' a
  zin : ZIn Z' s'.heap
theorem SlotR.turned {Z' W' : Addr → Prop} {s' : Shared} {y : Str} {sl : Slot} {t : Addr} (r : SlotR c env s Z W y sl) (l : Later Z (· = t) s Z' (· = t) s') (g : Gro Z W Z' W' s s') (ht : W t) (hw : ∀ a, W a → Z a) (loc : ∀ v, Loc env s.heap y v → Loc env s'.heap y v)
    (hown : ∀ d a, sl = .ow d → Loc env s.heap y (.ref a) → a ≠ t) : SlotR c env s' Z' W' y sl := by
  have hz : ∀ a, a = t → Z a := fun a e => e ▸ hw t ht
  cases sl with
  | un => trivial
  | cl d => obtain ⟨v, lv, r⟩ := r; exact ⟨v, loc v lv, r.later l hz⟩
  | rt d =>
    obtain ⟨v, lv, r, q⟩ := r
    refine ⟨v, loc v lv, r.later l hz (fun a e h => (q a e).1 (h ▸ ht)), fun a e => ⟨fun h => ?_, let ⟨o, h⟩ := (q a e).2; l.dom a o h⟩⟩
    obtain ⟨o, ho⟩ := (q a e).2
    exact (g.wn a h).elim (q a e).1 fun h => by rw [ho] at h; cases h
  | ow d =>
    obtain ⟨a, lv, r, q⟩ := r
    exact ⟨a, loc _ lv, r.later l hz (fun b e h => by cases e; exact hown d a rfl lv h), g.w a q⟩

theorem getElem?_set_ne' {α : Type} {l : List α} {i j : Nat} {x : α} (h : i ≠ j) : (l.set i x)[j]? = l[j]? := by rw [List.getElem?_set]; simp [h]

/-- may be the root of what x owns: new, or x's own till now -/
def MayOwn (env : Env) (ns : List Str) (σ : List Slot) (i : Nat) (s : Shared) (a : Addr) : Prop := a ≠ env.locals ∧ (∀ y b, env.kindOf y = some .cell → env.cells.lookup y = some b → a ≠ b) ∧ ∀ (j : Nat) (y : Str) (e : Mine.D), j ≠ i → ns[j]? = some y → σ[j]? = some (.ow e) → ¬ Loc env s.heap y (.ref a)
theorem FSt.mayNew {i : Nat} {a : Addr} (f : FSt c env Z W ns σ s) (h : s.heap.get? a = none) : MayOwn env ns σ i s a := by
  have z : ∀ b, Z b → a ≠ b := fun b hb e => by obtain ⟨o, q⟩ := f.st.pre.zin b hb; rw [← e, h] at q; cases q
  refine ⟨z _ (f.wz _ f.loc), fun y b h1 h2 => z b (f.wz b (f.cells y b h1 h2).1), fun j y e _ h1 h2 lv => ?_⟩
  obtain ⟨b, lb, _, wb⟩ := f.st.vars j y _ h1 h2
  have := lv.fun lb; cases this
  exact z a (f.wz a wb) rfl
theorem FSt.mayOwn {i : Nat} {x : Str} {a : Addr} {d : Mine.D} (f : FSt c env Z W ns σ s) (hx : ns[i]? = some x) (h : σ[i]? = some (.ow d)) (l : Loc env s.heap x (.ref a)) : MayOwn env ns σ i s a := by
  obtain ⟨p, q, r⟩ := f.own i x d hx h a l
  exact ⟨p, q, fun j y e hj h1 h2 lv => hj (r j y e h1 h2 lv).symm⟩

theorem FSt.put {Z' W' : Addr → Prop} {i : Nat} {x : Str} {v : Value} {sl : Slot} {s' : Shared} {t : Addr} (ef : EnvF ct env) (f : FSt c env Z W ct.ns σ s) (hx : ct.ns[i]? = some x) (l : Later Z (· = t) s Z' (· = t) s') (g : Gro Z W Z' W' s s') (ht : W t)
    (hto : t = env.locals ∨ (∃ y, env.kindOf y = some .cell ∧ env.cells.lookup y = some t) ∨ (∃ d, σ[i]? = some (.ow d) ∧ Loc env s.heap x (.ref t))) (hn : ∃ m, s'.heap.Ns env.locals m) (hcl : ∀ y a, env.kindOf y = some .cell → env.cells.lookup y = some a → ∃ v, s'.heap.IsCell a v)
    (hnew : Loc env s'.heap x v) (hold : ∀ y u, y ≠ x → Loc env s.heap y u → Loc env s'.heap y u) (hsv' : SV c s' Z' W' v sl)
    (hown : ∀ d, sl = .ow d → ∀ a, v = .ref a → MayOwn env ct.ns σ i s a) :
    FSt c env Z' W' ct.ns (σ.set i sl) s' := by
  have hz : ∀ a, a = t → Z a := fun a e => e ▸ f.wz t ht
  have hne : ∀ j y, ct.ns[j]? = some y → j ≠ i → y ≠ x := fun j y h hj e => by
    subst e
    have h1 := (List.getElem?_eq_some_iff.mp h)
    have h2 := (List.getElem?_eq_some_iff.mp hx)
    obtain ⟨p, q⟩ := h1; obtain ⟨p', q'⟩ := h2
    exact hj ((List.getElem_inj ef.nodup).mp (q.trans q'.symm))
  have hto' : ∀ (d : Mine.D) (a : Addr) (j : Nat) (y : Str), j ≠ i → ct.ns[j]? = some y → σ[j]? = some (Slot.ow d) → Loc env s.heap y (.ref a) → a ≠ t := fun d a j y hj h1 h2 lv => by
    obtain ⟨p, q, r⟩ := f.own j y d h1 h2 a lv
    rcases hto with rfl | ⟨z, hz1, hz2⟩ | ⟨e, h3, h4⟩
    · exact p
    · exact q z t hz1 hz2
    · intro h; subst h; exact hj (r i x e hx h3 h4)
  refine ⟨⟨⟨fun b o e => ?_, g.zin, Nat.le_trans f.st.pre.tks l.tk⟩, fun j y q h1 h2 => ?_⟩, g.wz, g.w _ f.loc, hn, fun y a h1 h2 => ⟨g.w a (f.cells y a h1 h2).1, hcl y a h1 h2⟩, fun a h => ?_, fun j d h => ?_, fun j y d h1 h2 a lv => ?_⟩
  · exact l.keep b o (fun h => by rw [h, f.new t ht] at e; cases e) (f.st.pre.keep b o e)
  · by_cases hj : j = i
    · subst hj
      rw [hx] at h1; cases h1
      have : q = sl := by
        rw [List.getElem?_set] at h2
        simp only [if_true] at h2
        split at h2 <;> cases h2; rfl
      subst this
      exact SlotR.of hnew hsv'
    · rw [getElem?_set_ne' (Ne.symm hj)] at h2
      exact (f.st.vars j y q h1 h2).turned l g ht f.wz (fun u lu => hold y u (hne j y h1 hj) lu) fun d a e lv => hto' d a j y hj h1 (e ▸ h2) lv
  · rcases g.wn a h with h | h
    · exact f.new a h
    · cases q : c.h₀.get? a with
      | none => rfl
      | some o => rw [f.st.pre.keep a o q] at h; cases h
  · by_cases hj : j = i
    · subst hj
      rw [List.getElem?_set] at h
      simp only [if_true] at h
      split at h
      · cases h; exact hsv'.2.2
      · cases h
    · rw [getElem?_set_ne' (Ne.symm hj)] at h
      exact f.rts j d h
  · have back : ∀ {k : Nat} {z : Str} {e : Mine.D} {b : Addr}, k ≠ i → ct.ns[k]? = some z → σ[k]? = some (.ow e) → Loc env s'.heap z (.ref b) → Loc env s.heap z (.ref b) := fun {k z e b} hk h1 h2 lb => by
      obtain ⟨b', l', _⟩ := f.st.vars k z _ h1 h2
      have := (hold z _ (hne k z h1 hk) l').fun lb
      rw [← this]; exact l'
    have self : ∀ {k : Nat} {z : Str} {e : Mine.D}, k = i → ct.ns[k]? = some z → (σ.set i sl)[k]? = some (.ow e) → z = x ∧ sl = .ow e := fun {k z e} hk h1 h2 => by
      subst hk
      rw [hx] at h1; cases h1
      rw [List.getElem?_set] at h2
      simp only [if_true] at h2
      split at h2 <;> cases h2
      exact ⟨rfl, rfl⟩
    by_cases hj : j = i
    · obtain ⟨rfl, rfl⟩ := self hj h1 h2
      have hv := hnew.fun lv
      subst hv
      obtain ⟨p, q, r⟩ := hown d rfl a rfl
      refine ⟨p, q, fun k z e g1 g2 lz => ?_⟩
      by_cases hk : k = i
      · rw [hj, hk]
      · rw [getElem?_set_ne' (Ne.symm hk)] at g2
        exact absurd (back hk g1 g2 lz) (r k z e hk g1 g2)
    · rw [getElem?_set_ne' (Ne.symm hj)] at h2
      have lv₀ := back hj h1 h2 lv
      obtain ⟨p, q, r⟩ := f.own j y d h1 h2 a lv₀
      refine ⟨p, q, fun k z e g1 g2 lz => ?_⟩
      by_cases hk : k = i
      · obtain ⟨rfl, rfl⟩ := self hk g1 g2
        have hv := hnew.fun lz
        subst hv
        obtain ⟨_, _, r'⟩ := hown e rfl a rfl
        exact absurd lv₀ (r' j y d hj h1 h2)
      · rw [getElem?_set_ne' (Ne.symm hk)] at g2
        exact r k z e g1 g2 (back hk g1 g2 lz)

/-- what the store of a variable turns, and what it leaves -/
structure Stored (ct : Ct) (env : Env) (x : Str) (v : Value) (t : Addr) (s s' : Shared) : Prop where
  upd : ∃ h' tk, s' = { s with heap := h', toks := tk } ∧ s.toks ≤ tk ∧ Heap.SameBut t s.heap h' ∧ ∃ o, h'.get? t = some o
  to : t = env.locals ∨ ∃ y, env.kindOf y = some .cell ∧ env.cells.lookup y = some t
  ns : ∃ m, s'.heap.Ns env.locals m
  cl : ∀ y a, env.kindOf y = some .cell → env.cells.lookup y = some a → ∃ v, s'.heap.IsCell a v
  new : Loc env s'.heap x v
  old : ∀ y u, y ≠ x → Loc env s.heap y u → Loc env s'.heap y u
theorem FSt.stored {x : Str} {v : Value} {Q : Unit → Shared → Prop} (ef : EnvF ct env) (f : FSt c env Z W ct.ns σ s) (hk : ct.kd.lookup x = some .local ∨ ct.kd.lookup x = some .cell)
    (hQ : ∀ s' t, W t → Stored ct env x v t s s' → Q () s') : wpAny (model c.prog c.w) A (storeName env x v) Q E s := by
  obtain ⟨m, hn⟩ := f.nsx
  rcases hk with hk | hk
  · refine wpAny_storeName_local (by rw [ef.m.kindOf]; exact hk) hn (fun h' hn' hs' => ?_) (notTop ef.m.ok.kind)
    obtain ⟨_, _, o', ho', _⟩ := id hn'
    refine hQ _ env.locals f.loc ⟨⟨h', _, rfl, Nat.le_succ _, hs', _, ho'⟩, .inl rfl, ⟨_, hn'⟩, fun y a h1 h2 => ?_, .loc _ (by rw [ef.m.kindOf]; exact hk) hn' (by simp), fun y u hy lu => ?_⟩
    · obtain ⟨_, v', hv'⟩ := f.cells y a h1 h2
      exact ⟨v', hv'.sameBut hs' (fun e => ef.hL y (e ▸ h2))⟩
    · cases lu with
      | loc m' a b e => exact .loc _ a hn' (by have := hn.agree b y; simp only [hy, if_false]; rw [this]; exact e)
      | cell a b e g => exact .cell a b e (g.sameBut hs' (fun q => ef.hL y (q ▸ e)))
  · obtain ⟨t, hcl⟩ := ef.m.cells x (.inl hk)
    have hkx : env.kindOf x = some .cell := by rw [ef.m.kindOf]; exact hk
    obtain ⟨ht, v₀, hv₀⟩ := f.cells x t hkx hcl
    refine wpAny_storeName_cell ef.m.ok.kind hkx hcl hv₀ fun h' hc' hs' => ?_
    obtain ⟨o', ho', _⟩ := id hc'
    have hLt : env.locals ≠ t := fun e => ef.hL x (e ▸ hcl)
    refine hQ _ t ht ⟨⟨h', _, rfl, Nat.le_refl _, hs', _, ho'⟩, .inr ⟨x, hkx, hcl⟩, ⟨m, hn.sameBut hs' hLt⟩, fun y a h1 h2 => ?_, .cell t (.inl hkx) hcl hc', fun y u hy lu => ?_⟩
    · by_cases hat : a = t
      · subst hat; exact ⟨_, hc'⟩
      · obtain ⟨_, v', hv'⟩ := f.cells y a h1 h2
        exact ⟨v', hv'.sameBut hs' hat⟩
    · cases lu with
      | loc m' a b e => exact .loc m' a (b.sameBut hs' hLt) e
      | cell a b e g => exact .cell a b e (g.sameBut hs' (fun q => hy (ef.apart y x t (q ▸ e) hcl)))
theorem Stored.later {Z : Addr → Prop} {x : Str} {v : Value} {t : Addr} {s' : Shared} (st : Stored ct env x v t s s') : Later Z (· = t) s Z (· = t) s' := by
  obtain ⟨h', tk, rfl, htk, hs, o, ho⟩ := st.upd
  exact (Later.upd (fp := (· = t)) rfl hs ho).trans (.tok htk)

/-- the slot fits, with a new root where one is owned -/
def Fits (c : Cx) (Z : Addr → Prop) (s₀ s : Shared) (v : Value) : Slot → Prop
  | .un => True
  | .cl d => R c s (NZ Z) v d
  | .rt d => Rt c s (NZ Z) v d ∧ ∀ a, v = .ref a → s₀.heap.get? a = none ∧ ∃ o, s.heap.get? a = some o
  | .ow d => ∃ a, v = .ref a ∧ s₀.heap.get? a = none ∧ (∃ o, s.heap.get? a = some o) ∧ R c s (NZ Z) v d ∧ Own c Z s v d

/-- a new object of our own -/
theorem FSt.grow {s' : Shared} {a : Addr} {o : Obj} (f : FSt c env Z W ns σ s) (k : Kp s s') (h0 : s.heap.get? a = none) (h1 : s'.heap.get? a = some o) :
    FSt c env (fun b => Z b ∨ b = a) (fun b => W b ∨ b = a) ns σ s' := by
  have f' := f.keeps k
  have lz : Later Z (fun _ => False) s (fun b => Z b ∨ b = a) (fun _ => False) s' := .ofKp k (fun b h => .inl h) fun b h => h.imp id fun (e : b = a) => (congrArg _ e).trans h0
  refine ⟨⟨⟨f'.st.pre.keep, fun b h => h.elim (f'.st.pre.zin b) fun e => e ▸ ⟨o, h1⟩, f'.st.pre.tks⟩, fun j y q g1 g2 => ?_⟩, fun b h => h.imp (f.wz b) id, .inl f.loc, f'.nsx, fun x b h1 h2 => ⟨.inl (f'.cells x b h1 h2).1, (f'.cells x b h1 h2).2⟩, fun b h => ?_, f.rts, f'.own⟩
  · have r := f.st.vars j y q g1 g2
    cases q with
    | un => trivial
    | cl d => obtain ⟨v, lv, r⟩ := r; exact ⟨v, lv.keeps k.get, lz.r0 r⟩
    | rt d => obtain ⟨v, lv, r, q⟩ := r; exact ⟨v, lv.keeps k.get, lz.rt0 r, fun b e => ⟨fun h => h.elim (q b e).1 fun e' => (by obtain ⟨o, h⟩ := (q b e).2; rw [e', h0] at h; cases h), let ⟨o, h⟩ := (q b e).2; ⟨o, k.get b o h⟩⟩⟩
    | ow d => obtain ⟨b, lv, r, q⟩ := r; exact ⟨b, lv.keeps k.get, lz.rt0 r, .inl q⟩
  · rcases h with h | rfl
    · exact f.new b h
    · cases q : c.h₀.get? b with
      | none => rfl
      | some o => rw [f.st.pre.keep b o q] at h0; cases h0
end
end Mine

end

section
open PySem PySem.W PyProof.Rows
set_option Elab.async false
set_option linter.unusedVariables false
set_option maxRecDepth 4000
namespace Mine

inductive Flw where
  | next
  | brk
  | cont
  | ret (d : D) (fl : Fl)

mutual
inductive S where
  | assign (i : Nat) (own : Bool) (e : X)
  | chain (is : List Nat) (e : X)
  | unpack (is : List Nat) (e : X)
  | unpackT (is : List (Nat × Bool)) (es : Xs)
  | aug (i : Nat) (op : Operator) (e : X)
  | augSub (i : Nat) (idx : X) (op : Operator) (e : X)
  | setSub (i : Nat) (idx : X) (e : X)
  | delSub (i : Nat) (idx : X)
  | app (i : Nat) (e : X)
  | ife (t : B) (a b : Ss)
  | forS (is : List Nat) (it : It) (body orelse : Ss)
  | whil (t : B) (body : Ss)
  | ret (e : X)
  | brk
  | assert (t : B)
inductive Ss where
  | nil
  | cons (x : S) (l : Ss)
  | demote (i : Nat) (l : Ss)
end

def slotOf (own : Bool) (d : D) (fl : Fl) : Option Slot := match own with
  | true => match fl, d with
    | .fr, .lst _ => some (.ow d)
    | .fr, .dct _ => some (.ow d)
    | _, _ => none
  | false => if fl.isR || d.scal then some (.cl d) else match fl, d with
    | .rt, .lst _ => some (.rt d)
    | .rt, .tup _ => some (.rt d)
    | _, _ => none
/-- a list of values, with what is known of each -/
def wF (T : Tab) (σ : List Slot) : Xs → (List (D × Fl) → Prop) → Prop
  | .nil, K => K []
  | .cons x l, K => wX T σ x fun d fl => clean fl d ∧ wF T σ l fun ds => K ((d, fl) :: ds)
def setAll : List (Nat × Slot) → List Slot → List Slot
  | [], σ => σ
  | (i, s) :: l, σ => setAll l (σ.set i s)
def slotsOf : List (Nat × Bool) → List (D × Fl) → Option (List (Nat × Slot))
  | [], [] => some []
  | (i, own) :: is, (d, fl) :: ds => match slotOf own d fl, slotsOf is ds with
    | some s, some l => some ((i, s) :: l)
    | _, _ => none
  | _, _ => none
def clsOf : List Nat → List D → Option (List (Nat × Slot))
  | [], [] => some []
  | i :: is, d :: ds => match clsOf is ds with
    | some l => some ((i, .cl d) :: l)
    | none => none
  | _, _ => none
def seqOf : D → Option (List D)
  | .tup l => some l
  | .lst l => some l
  | _ => none
/-- the targets of a loop -/
def tgtS (is : List Nat) (d : D) : Option (List (Nat × Slot)) := match is with
  | [i] => some [(i, .cl d)]
  | is => match d with
    | .tup l => clsOf is l
    | _ => none
def whilW (t : List Slot → (Bool → Prop) → Prop) (step : List Slot → (Flw → List Slot → Prop) → Prop) : Nat → List Slot → (Flw → List Slot → Prop) → Prop
  | 0, _, _ => False
  | n + 1, σ, Q => t σ fun r => (r = true → step σ fun f σ' => match f with
      | .next => whilW t step n σ' Q
      | .cont => whilW t step n σ' Q
      | .brk => Q .next σ'
      | .ret d fl => Q (.ret d fl) σ') ∧ (r = false → Q .next σ)
def forW (is : List Nat) (step : List Slot → (Flw → List Slot → Prop) → Prop) (orelse : List Slot → (Flw → List Slot → Prop) → Prop) : List D → List Slot → (Flw → List Slot → Prop) → Prop
  | [], σ, Q => orelse σ Q
  | d :: ds, σ, Q => optW (tgtS is d) fun l => step (setAll l σ) fun f σ' => match f with
      | .next => forW is step orelse ds σ' Q
      | .cont => forW is step orelse ds σ' Q
      | .brk => Q .next σ'
      | .ret d fl => Q (.ret d fl) σ'
def owned (σ : List Slot) (i : Nat) (K : D → Prop) : Prop := match σ[i]? with
  | some (.ow d) => K d
  | _ => False
/-- where an index of a list leads -/
def posI (n : Nat) (i : Int) : Option Nat := if 0 ≤ i then (if i < n then some i.toNat else none) else if -(n : Int) ≤ i then some (i + n).toNat else none

mutual
def wS (T : Tab) : S → List Slot → (Flw → List Slot → Prop) → Prop
  | .assign i own e, σ, Q => wX T σ e fun d fl => optW (slotOf own d fl) fun sl => Q .next (σ.set i sl)
  | .chain is e, σ, Q => wX T σ e fun d fl => clean fl d ∧ Q .next (setAll (is.map fun i => (i, .cl d)) σ)
  | .unpack is e, σ, Q => wX T σ e fun d fl => optW (seqOf d) fun ds => optW (clsOf is ds) fun l => Q .next (setAll l σ)
  | .unpackT is es, σ, Q => wF T σ es fun ds => ds.length ≤ 1000000 ∧ optW (slotsOf is ds) fun l => Q .next (setAll l σ)
  | .aug i op e, σ, Q => wX T σ (.var i) fun d₁ _ => wX T σ e fun d₂ _ => ibinW op d₁ d₂ fun d => Q .next (σ.set i (.cl d))
  | .augSub i idx op e, σ, Q => owned σ i fun d₀ => wX T σ idx fun di _ => getW d₀ di fun d₁ => wX T σ e fun d₂ _ => ibinW op d₁ d₂ fun d => match d₀, di with
    | .lst l, .int k => optW (posI l.length k) fun n => (0 ≤ k ∧ small k) ∧ Q .next (σ.set i (.ow (.lst (l.set n d))))
    | _, _ => False
  | .setSub i idx e, σ, Q => wX T σ e fun d fl => clean fl d ∧ owned σ i fun d₀ => wX T σ idx fun di _ => match d₀, di with
    | .lst l, .int k => optW (posI l.length k) fun n => (0 ≤ k ∧ small k) ∧ Q .next (σ.set i (.ow (.lst (l.set n d))))
    | _, _ => False
  | .delSub i idx, σ, Q => owned σ i fun d₀ => wX T σ idx fun di _ => match d₀, di with
    | .lst l, .int k => optW (posI l.length k) fun n => (small k ∧ l.length ≤ 16777216) ∧ Q .next (σ.set i (.ow (.lst (l.eraseIdx n))))
    | _, _ => False
  | .app i e, σ, Q => owned σ i fun d₀ => match d₀ with
    | .lst l => wX T σ e fun d fl => clean fl d ∧ l.length ≤ 16777216 ∧ Q .next (σ.set i (.ow (.lst (l ++ [d]))))
    | _ => False
  | .ife t a b, σ, Q => wB T σ t fun r => (r = true → wSs T a σ Q) ∧ (r = false → wSs T b σ Q)
  | .forS is it body orelse, σ, Q => wIt T σ it fun ds fl => fl ≠ .ow ∧ forW is (fun σ Q => wSs T body σ Q) (fun σ Q => wSs T orelse σ Q) ds σ Q
  | .whil t body, σ, Q => ∃ n, whilW (fun σ K => wB T σ t K) (fun σ Q => wSs T body σ Q) n σ Q
  | .ret e, σ, Q => wX T σ e fun d fl => Q (.ret d fl) σ
  | .brk, σ, Q => Q .brk σ
  | .assert t, σ, Q => wB T σ t fun r => r = true ∧ Q .next σ
def wSs (T : Tab) : Ss → List Slot → (Flw → List Slot → Prop) → Prop
  | .nil, σ, Q => Q .next σ
  | .cons x l, σ, Q => wS T x σ fun f σ' => match f with
    | .next => wSs T l σ' Q
    | f => Q f σ'
  | .demote i l, σ, Q => owned σ i fun d => d.isSeq = true ∧ wSs T l (σ.set i (.rt d)) Q
end

def isVar (ct : Ct) (i : Nat) (x : Str) : Bool := ct.ns[i]? == some x && (ct.kd.lookup x == some .local || ct.kd.lookup x == some .cell)
def isVars (ct : Ct) : List Nat → List Expr → Bool
  | [], [] => true
  | i :: is, .Name x _ :: es => isVar ct i x && isVars ct is es
  | _, _ => false
def isTgt (ct : Ct) : List Nat → Expr → Bool
  | [i], .Name x _ => isVar ct i x
  | i :: j :: is, .Tuple es _ _ => isVars ct (i :: j :: is) es && (i :: j :: is).Nodup
  | _, _ => false
def swapOk (vs : List Expr) : Bool := vs.all (foldedForSure 8) || !vs.all (constantsAlone 8)
def notComp (e : Expr) : Bool := match e with
  | .ListComp .. | .SetComp .. | .DictComp .. => false
  | _ => true
def notTuple (e : Expr) : Bool := match e with
  | .Tuple .. => false
  | _ => true

mutual
def mS (ct : Ct) : S → Stmt → Bool
  | .assign i own e, s => match s with | .Assign [.Name x _] v _ => isVar ct i x && mX ct e v | _ => false
  | .chain is e, s => match s with | .Assign es v _ => isVars ct is es && decide (1 < es.length) && notComp v && is.Nodup && mX ct e v | _ => false
  | .unpack is e, s => match s with | .Assign [.Tuple es _ _] v _ => isVars ct is es && notTuple v && is.Nodup && mX ct e v | _ => false
  | .unpackT is xs, s => match s with | .Assign [.Tuple es _ _] (.Tuple vs _ _) _ => isVars ct (is.map (·.1)) es && (is.map (·.1)).Nodup && swapOk vs && mXs ct xs vs | _ => false
  | .aug i op e, s => match s with | .AugAssign (.Name x _) op' v _ => isVar ct i x && !(x == ("__debug__" : Str)) && op == op' && mX ct e v | _ => false
  | .augSub i idx op e, s => match s with | .AugAssign (.Subscript (.Name x _) j _) op' v _ => isVar ct i x && !(x == ("__debug__" : Str)) && op == op' && notSlice j && mX ct idx j && mX ct e v | _ => false
  | .setSub i idx e, s => match s with | .Assign [.Subscript (.Name x _) j _] v _ => isVar ct i x && !(x == ("__debug__" : Str)) && notComp v && notSlice j && mX ct idx j && mX ct e v | _ => false
  | .delSub i idx, s => match s with | .Delete [.Subscript (.Name x _) j _] _ => isVar ct i x && !(x == ("__debug__" : Str)) && notSlice j && mX ct idx j | _ => false
  | .app i e, s => match s with | .Expr (.Call (.Attribute (.Name x _) nm apos) [v] [] pos) _ => isVar ct i x && !(x == ("__debug__" : Str)) && nm == ("append" : Str) && apos.endLine == pos.line && notStar v && mX ct e v | _ => false
  | .ife t a b, s => match s with | .If c x y _ => mB ct t c && mSs ct a x && mSs ct b y | _ => false
  | .forS is it body orelse, s => match s with | .For tgt iter x y _ => isTgt ct is tgt && (decide (1 < is.length) || itPlain it) && mIt ct it iter && mSs ct body x && mSs ct orelse y | _ => false
  | .whil t body, s => match s with | .While c x [] _ => mB ct t c && mSs ct body x | _ => false
  | .ret e, s => match s with | .Return (some v) _ => mX ct e v | _ => false
  | .brk, s => match s with | .Break _ => true | _ => false
  | .assert t, s => match s with | .Assert c none _ => mB ct t c | _ => false
def mSs (ct : Ct) : Ss → List Stmt → Bool
  | .nil, l => match l with | [] => true | _ => false
  | .cons x r, l => match l with | s :: l => mS ct x s && mSs ct r l | _ => false
  | .demote i r, l => mSs ct r l
end
end Mine

end

section
open PySem PySem.W PyProof.Rows
set_option Elab.async false
set_option linter.unusedVariables false
set_option maxRecDepth 4000
namespace Mine

theorem Rt.step {c : Cx} {s s' : Shared} {P P' : Addr → Prop} {v : Value} {d : Mine.D} (r : Rt c s P v d) (ht : s.toks ≤ s'.toks) (hr : ∀ a o, v = .ref a → s.heap.get? a = some o → s'.heap.get? a = some o) (k : ∀ a o, P a → s.heap.get? a = some o → P' a ∧ s'.heap.get? a = some o) : Rt c s' P' v d := by
  cases r with
  | of r => exact .of (r.trans ht k)
  | tup g l => exact .tup (hr _ _ rfl g) (l.trans ht k)
  | lst g l => exact .lst (hr _ _ rfl g) (l.trans ht k)
  | dct g l => exact .dct (DictOf_at g fun o e => hr _ _ rfl e) (l.trans ht k)

section
variable {c : Cx} {A : Around} {env : Env} {Z W : Addr → Prop} {σ : List Slot} {s₀ s : Shared} {E : Value → Shared → Prop} {ct : Ct}

theorem isVar_kind {ct : Ct} {i : Nat} {x : Str} (h : isVar ct i x = true) : ct.ns[i]? = some x ∧ (ct.kd.lookup x = some .local ∨ ct.kd.lookup x = some .cell) := by
  unfold isVar at h
  simpa only [Bool.and_eq_true, Bool.or_eq_true, beq_iff_eq] using h

/-- after a store: what was got to -/
def Got (c : Cx) (env : Env) (Z W : Addr → Prop) (ns : List Str) (σ : List Slot) (s₀ s' : Shared) : Prop := ∃ Z' W', FSt c env Z' W' ns σ s' ∧ Later Z W s₀ Z' W' s'

/-- the end of an assignment: s' is what a store into x, and the turning of other new objects, left -/
theorem FSt.settle {i : Nat} {x : Str} {v : Value} {d : Mine.D} {fl : Fl} {sl : Slot} {own : Bool} {t : Addr} {s' : Shared} (ef : EnvF ct env) (f : FSt c env Z W ct.ns σ s₀) (hx : ct.ns[i]? = some x) (hsl : slotOf own d fl = some sl)
    (ht : W t) (hto : t = env.locals ∨ ∃ y, env.kindOf y = some .cell ∧ env.cells.lookup y = some t) (l : Later Z (· = t) s₀ Z (· = t) s') (hn : ∃ m, s'.heap.Ns env.locals m)
    (hcl : ∀ y a, env.kindOf y = some .cell → env.cells.lookup y = some a → ∃ v, s'.heap.IsCell a v) (hnew : Loc env s'.heap x v) (hold : ∀ y u, y ≠ x → Loc env s₀.heap y u → Loc env s'.heap y u)
    (r : Res c Z W s₀ s' fl v d) : Got c env Z W ct.ns (σ.set i sl) s₀ s' := by
  have zin : ZIn Z s'.heap := fun a h => by obtain ⟨o, e⟩ := f.st.pre.zin a h; exact l.dom a o e
  have hto' : t = env.locals ∨ (∃ y, env.kindOf y = some .cell ∧ env.cells.lookup y = some t) ∨ (∃ d, σ[i]? = some (.ow d) ∧ Loc env s₀.heap x (.ref t)) := hto.imp id .inl
  have lW : Later Z W s₀ Z W s' := (l.widen fun a e => e ▸ ht).narrow fun a h => .inl h
  have g₀ : Gro Z W Z W s₀ s' := ⟨fun _ h => h, fun _ h => .inl h, f.wz, zin⟩
  cases own with
  | false =>
    simp only [slotOf] at hsl
    split at hsl
    · rename_i hc
      cases hsl
      have rr : R c s' (NZ Z) v d := by
        rw [Bool.or_eq_true] at hc
        rcases hc with h | h
        · exact r.r h
        · exact (r.rt.scal h).1
      exact ⟨Z, W, f.put ef hx l g₀ ht hto' hn hcl hnew hold rr (fun d e => nomatch e), lW⟩
    · have key : (∃ a o, v = .ref a ∧ s'.heap.get? a = some o) → fl = .rt → sl = .rt d → d.isSeq = true → Got c env Z W ct.ns (σ.set i sl) s₀ s' := fun ⟨a, o, hv, ho⟩ hf hs hq => by
        subst hf hs
        exact ⟨Z, W, f.put ef hx l g₀ ht hto' hn hcl hnew hold ⟨r.1, fun b e => ⟨r.2 b e, by rw [hv] at e; cases e; exact ⟨o, ho⟩⟩, hq⟩ (fun d e => nomatch e), lW⟩
      split at hsl
      · cases hsl
        obtain ⟨a, vs, n, e, g, _⟩ := r.rt.lst_inv
        exact key ⟨a, _, e, g⟩ rfl rfl rfl
      · cases hsl
        obtain ⟨a, vs, n, e, g, _⟩ := r.rt.tup_inv
        exact key ⟨a, _, e, g⟩ rfl rfl rfl
      · cases hsl
  | true =>
    have key : (∃ a o, v = .ref a ∧ s'.heap.get? a = some o) → fl = .fr → sl = .ow d → Got c env Z W ct.ns (σ.set i sl) s₀ s' := fun ⟨a, o, hv, ho⟩ hf hs => by
      subst hf hs hv
      obtain ⟨_, hfr, how⟩ := r
      have ha := hfr a rfl
      have l' : Later Z (· = t) s₀ (fun b => Z b ∨ b = a) (· = t) s' := ⟨l.ex, l.tk, l.keep, l.dom, fun b h => .inl h, fun b h => h.imp id fun (e : b = a) => (congrArg _ e).trans ha, l.wnew⟩
      have g : Gro Z W (fun b => Z b ∨ b = a) (fun b => W b ∨ b = a) s₀ s' := ⟨fun _ h => .inl h, fun b h => h.imp id fun (e : b = a) => (congrArg _ e).trans ha, fun b h => h.imp (f.wz b) id, fun b h => h.elim (zin b) fun e => e ▸ ⟨o, ho⟩⟩
      refine ⟨_, _, f.put ef hx l' g ht hto' hn hcl hnew hold ⟨a, rfl, ?_, .inr rfl⟩ (fun e _ b hb => by cases hb; exact f.mayNew ha), ?_⟩
      · exact how.step (Nat.le_refl _) (fun _ _ _ e => e) fun b o p e => ⟨fun h => h.elim p.1 fun e' => p.2 (by rw [e']), e⟩
      · exact (l'.widen fun b e => e ▸ ht).narrow fun b h => h.imp id fun (e : b = a) => (congrArg _ e).trans ha
    simp only [slotOf] at hsl
    split at hsl
    · cases hsl
      obtain ⟨a, vs, n, e, g, _⟩ := r.rt.lst_inv
      exact key ⟨a, _, e, g⟩ rfl rfl
    · cases hsl
      obtain ⟨a, kvs, e, g, _⟩ := r.rt.dct_inv
      obtain ⟨o, ho⟩ := DictOf_get g
      exact key ⟨a, _, e, ho⟩ rfl rfl
    · cases hsl

/-- what a store of a variable does to what is known of a value -/
theorem Res.turned {fl : Fl} {v : Value} {d : Mine.D} {t : Addr} {s' : Shared} (r : Res c Z W s₀ s fl v d) (l : Later Z (· = t) s Z (· = t) s') (ht : W t) (hw : ∀ a, W a → Z a) (hz : ZIn Z s₀.heap) (hfl : fl ≠ .ow ∨ d.scal = true) : Res c Z W s₀ s' fl v d := by
  have hz' : ∀ a, a = t → Z a := fun a e => e ▸ hw t ht
  cases fl with
  | fr =>
    refine ⟨r.1.later l hz', r.2.1, r.2.2.step l.tk (fun a o e h => l.keep a o (fun h' => ?_) h) fun a o p h => ⟨p, l.keep a o (fun e => p.1 (hz' a e)) h⟩⟩
    have := r.2.1 a e
    obtain ⟨o, q⟩ := hz a (hz' a h'); rw [this] at q; cases q
  | cl => exact R.later (Z := Z) r l hz'
  | rt => exact ⟨r.1.later l hz' (fun a e h => r.2 a e (h ▸ ht)), r.2⟩
  | ow =>
    rcases hfl with h | h
    · exact absurd rfl h
    · exact Rt.later (Z := Z) r l hz' fun a e => absurd e ((r.rt.scal (P' := NZ Z) h).2 a)

theorem FSt.assign {i : Nat} {x : Str} {v : Value} {d : Mine.D} {fl : Fl} {sl : Slot} {own : Bool} (ef : EnvF ct env) (f : FSt c env Z W ct.ns σ s₀) (k : Kp s₀ s) (hv : isVar ct i x = true) (hsl : slotOf own d fl = some sl) (r : Res c Z W s₀ s fl v d) :
    wpAny (model c.prog c.w) A (storeName env x v) (fun _ s' => Got c env Z W ct.ns (σ.set i sl) s₀ s') E s := by
  obtain ⟨hx, hk⟩ := isVar_kind hv
  refine (f.keeps k).stored ef hk fun s' t ht st => ?_
  have hfl : fl ≠ .ow ∨ d.scal = true := by
    cases fl with
    | ow =>
      cases own with
      | true => simp [slotOf] at hsl
      | false =>
        simp only [slotOf, Fl.isR, Bool.false_or] at hsl
        split at hsl
        · exact .inr ‹_›
        · simp at hsl
    | _ => exact .inl (by intro e; cases e)
  exact f.settle ef hx hsl ht st.to ((Later.kp k).trans st.later) st.ns st.cl st.new (fun y u hy lu => st.old y u hy (lu.keeps k.get)) (r.turned st.later ht f.wz f.st.pre.zin hfl)
end
end Mine

end

section
open PySem PySem.W PyProof.Rows
set_option Elab.async false
set_option linter.unusedVariables false
set_option maxRecDepth 4000
namespace Mine
section
variable {c : Cx} {A : Around} {env : Env} {Z W : Addr → Prop} {σ : List Slot} {s₀ s : Shared} {E : Value → Shared → Prop} {ct : Ct}

structure Held where
  i : Nat
  sl : Slot
  v : Value
def Held.root (p : Held) (a : Addr) : Prop := (∃ d, p.sl = .ow d) ∧ p.v = .ref a
structure HeldL (c : Cx) (env : Env) (Z W : Addr → Prop) (ns : List Str) (σ : List Slot) (s : Shared) (l : List Held) : Prop where
  sv : ∀ p ∈ l, SV c s Z W p.v p.sl
  may : ∀ p ∈ l, ∀ a, p.root a → a ≠ env.locals ∧ (∀ y b, env.kindOf y = some .cell → env.cells.lookup y = some b → a ≠ b) ∧ ∀ (j : Nat) (y : Str) (e : Mine.D), ns[j]? = some y → σ[j]? = some (.ow e) → ¬ Loc env s.heap y (.ref a)
  apart : l.Pairwise fun p q => ∀ a, p.root a → ¬ q.root a

theorem SV.turned {v : Value} {sl : Slot} {t : Addr} {s' : Shared} (r : SV c s Z W v sl) (l : Later Z (· = t) s Z (· = t) s') (ht : W t) (hw : ∀ a, W a → Z a) (hr : ∀ d a, sl = .ow d → v = .ref a → a ≠ t) : SV c s' Z W v sl := by
  have hz : ∀ a, a = t → Z a := fun a e => e ▸ hw t ht
  cases sl with
  | un => trivial
  | cl d => exact R.later r l hz
  | rt d => exact ⟨r.1.later l hz (fun a e h => (r.2.1 a e).1 (h ▸ ht)), (fun a e => ⟨(r.2.1 a e).1, let ⟨o, h⟩ := (r.2.1 a e).2; l.dom a o h⟩), r.2.2⟩
  | ow d =>
    obtain ⟨a, rfl, r, w⟩ := r
    exact ⟨a, rfl, r.later l hz (fun b e h => by cases e; exact hr d a rfl rfl h), w⟩

/-- one store where all that is owned has been counted in -/
theorem FSt.storeIn {p : Held} {x : Str} {rest : List Held} {Q : Unit → Shared → Prop} (ef : EnvF ct env) (f : FSt c env Z W ct.ns σ s) (hv : isVar ct p.i x = true) (h : HeldL c env Z W ct.ns σ s (p :: rest))
    (hQ : ∀ s', FSt c env Z W ct.ns (σ.set p.i p.sl) s' → Later Z W s Z W s' → HeldL c env Z W ct.ns (σ.set p.i p.sl) s' rest → Q () s') : wpAny (model c.prog c.w) A (storeName env x p.v) Q E s := by
  obtain ⟨hx, hk⟩ := isVar_kind hv
  refine f.stored ef hk fun s' t ht st => ?_
  have l := st.later (Z := Z)
  have off : ∀ q ∈ p :: rest, ∀ d a, q.sl = .ow d → q.v = .ref a → a ≠ t := fun q hq d a h1 h2 => by
    obtain ⟨m1, m2, _⟩ := h.may q hq a ⟨⟨d, h1⟩, h2⟩
    rcases st.to with rfl | ⟨y, g1, g2⟩
    · exact m1
    · exact m2 y t g1 g2
  have zin : ZIn Z s'.heap := fun a h => by obtain ⟨o, e⟩ := f.st.pre.zin a h; exact l.dom a o e
  have hne : ∀ j y, ct.ns[j]? = some y → j ≠ p.i → y ≠ x := fun j y h hj e => by
    subst e
    obtain ⟨p1, q1⟩ := List.getElem?_eq_some_iff.mp h
    obtain ⟨p2, q2⟩ := List.getElem?_eq_some_iff.mp hx
    exact hj ((List.getElem_inj ef.nodup).mp (q1.trans q2.symm))
  have f' := f.put ef hx l ⟨fun _ h => h, fun _ h => .inl h, f.wz, zin⟩ ht (st.to.imp id .inl) st.ns st.cl st.new st.old ((h.sv p List.mem_cons_self).turned l ht f.wz (off p List.mem_cons_self)) (fun d hd a ha => by
    obtain ⟨m1, m2, m3⟩ := h.may p List.mem_cons_self a ⟨⟨d, hd⟩, ha⟩
    exact ⟨m1, m2, fun j y e _ g1 g2 => m3 j y e g1 g2⟩)
  refine hQ s' f' ((l.widen fun a e => e ▸ ht).narrow fun a h => .inl h) ⟨fun q hq => (h.sv q (List.mem_cons_of_mem _ hq)).turned l ht f.wz (off q (List.mem_cons_of_mem _ hq)), fun q hq a ha => ?_, (List.pairwise_cons.mp h.apart).2⟩
  obtain ⟨m1, m2, m3⟩ := h.may q (List.mem_cons_of_mem _ hq) a ha
  refine ⟨m1, m2, fun j y e g1 g2 lv => ?_⟩
  by_cases hj : j = p.i
  · subst hj
    rw [hx] at g1; cases g1
    rw [List.getElem?_set] at g2
    simp only [if_true] at g2
    have hsl : p.sl = .ow e := by
      split at g2
      · exact Option.some.inj g2
      · cases g2
    have := st.new.fun lv
    exact (List.pairwise_cons.mp h.apart).1 q hq a ⟨⟨e, hsl⟩, this⟩ ha
  · rw [getElem?_set_ne' (Ne.symm hj)] at g2
    obtain ⟨b, lb, _⟩ := f.st.vars j y _ g1 g2
    have hb := (st.old y _ (hne j y g1 hj) lb).fun lv
    cases hb
    exact m3 j y e g1 g2 lb

inductive Tgts (env : Env) (ct : Ct) : List (Value → Sem Unit) → List Held → Prop
  | nil : Tgts env ct [] []
  | cons {t p ts l x} : isVar ct p.i x = true → (∀ (M : Model) (A : Around) (E : Value → Shared → Prop) (s : Shared) (Q : Unit → Shared → Prop), wpAny M A (storeName env x p.v) Q E s → wpAny M A (t p.v) Q E s) → Tgts env ct ts l → Tgts env ct (t :: ts) (p :: l)
def sets (l : List Held) : List (Nat × Slot) := l.map fun p => (p.i, p.sl)
theorem storeAll (ef : EnvF ct env) : ∀ {ts : List (Value → Sem Unit)} {l : List Held} {σ : List Slot} {s : Shared}, Tgts env ct ts l → FSt c env Z W ct.ns σ s → HeldL c env Z W ct.ns σ s l →
    wpAny (model c.prog c.w) A (assignInOrder ts (l.map (·.v))) (fun _ s' => FSt c env Z W ct.ns (setAll (sets l) σ) s' ∧ Later Z W s Z W s') E s
  | _, _, σ, s, .nil, f, h => wpAny_pure ⟨f, .refl⟩
  | _, _, σ, s, .cons (t := t) (p := p) (ts := ts) (l := l) (x := x) hv hs tl, f, h => by
    show wpAny _ A (do holding (l.map (·.v)) (t p.v); assignInOrder ts (l.map (·.v))) _ _ s
    refine wpAny_bind (wpAny_holding (hs _ _ _ _ _ (f.storeIn ef hv h fun s' f' l' h' => ?_)))
    exact mono (storeAll ef tl f' h') fun _ s'' h'' => ⟨h''.1, l'.trans h''.2⟩

theorem setAll_append (l m : List (Nat × Slot)) : ∀ σ, setAll (l ++ m) σ = setAll m (setAll l σ) := by
  induction l with
  | nil => intro σ; rfl
  | cons p l ih => intro σ; exact ih _
theorem setAll_set {i : Nat} {sl : Slot} : ∀ (l : List (Nat × Slot)) (σ : List Slot), (∀ p ∈ l, p.1 ≠ i) → setAll l (σ.set i sl) = (setAll l σ).set i sl
  | [], σ, _ => rfl
  | p :: l, σ, h => by
    show setAll l ((σ.set i sl).set p.1 p.2) = (setAll l (σ.set p.1 p.2)).set i sl
    rw [List.set_comm _ _ (Ne.symm (h p List.mem_cons_self)), setAll_set l _ fun q hq => h q (List.mem_cons_of_mem _ hq)]
theorem setAll_reverse : ∀ (l : List (Nat × Slot)) (σ : List Slot), (l.map (·.1)).Nodup → setAll l.reverse σ = setAll l σ
  | [], σ, _ => rfl
  | p :: l, σ, h => by
    rw [List.map_cons, List.nodup_cons] at h
    rw [List.reverse_cons, setAll_append, setAll_reverse l σ h.2]
    show (setAll l σ).set p.1 p.2 = setAll l (σ.set p.1 p.2)
    rw [setAll_set l σ fun q hq (e : q.1 = p.1) => h.1 (e ▸ List.mem_map_of_mem (f := (·.1)) hq)]
theorem Tgts.reverse {ts : List (Value → Sem Unit)} {l : List Held} (h : Tgts env ct ts l) : Tgts env ct ts.reverse l.reverse := by
  have app : ∀ {ts us : List (Value → Sem Unit)} {l m : List Held}, Tgts env ct ts l → Tgts env ct us m → Tgts env ct (ts ++ us) (l ++ m) := by
    intro ts us l m h g
    induction h with
    | nil => exact g
    | cons a b _ ih => exact .cons a b ih
  induction h with
  | nil => exact .nil
  | cons a b _ ih => rw [List.reverse_cons, List.reverse_cons]; exact app ih (.cons a b .nil)
theorem HeldL.reverse {l : List Held} (h : HeldL c env Z W ct.ns σ s l) : HeldL c env Z W ct.ns σ s l.reverse :=
  ⟨fun p hp => h.sv p (List.mem_reverse.mp hp), fun p hp => h.may p (List.mem_reverse.mp hp), List.pairwise_reverse.mpr (h.apart.imp fun hpq a hq hp => hpq a hp hq)⟩

/-- clean values only -/
def heldC : List Nat → List Mine.D → List Value → List Held
  | i :: is, d :: ds, v :: vs => ⟨i, .cl d, v⟩ :: heldC is ds vs
  | _, _, _ => []
theorem HeldL.clean : ∀ {is : List Nat} {ds : List Mine.D} {vs : List Value} {l : List (Nat × Slot)}, RL c s (NZ Z) vs ds → clsOf is ds = some l → HeldL c env Z W ct.ns σ s (heldC is ds vs) ∧ sets (heldC is ds vs) = l ∧ (heldC is ds vs).map (·.v) = vs ∧ (heldC is ds vs).map (·.i) = is
  | [], [], _, l, .nil, h => by cases h; exact ⟨⟨(fun p hp => by cases hp), (fun p hp => by cases hp), .nil⟩, rfl, rfl, rfl⟩
  | i :: is, d :: ds, _, l, .cons (v := v) (vs := vs) r rl, h => by
    simp only [clsOf] at h
    split at h
    · rename_i l' hl
      cases h
      obtain ⟨hh, e1, e2, e3⟩ := HeldL.clean (is := is) rl hl
      refine ⟨⟨fun p hp => ?_, fun p hp a ha => ?_, List.pairwise_cons.mpr ⟨fun q hq a ha => ?_, hh.apart⟩⟩, by simp [heldC, sets] at e1 ⊢; exact e1, by simp [heldC, e2], by simp [heldC, e3]⟩
      · rcases List.mem_cons.mp hp with rfl | hp
        · exact r
        · exact hh.sv p hp
      · rcases List.mem_cons.mp hp with rfl | hp
        · obtain ⟨⟨d, hd⟩, _⟩ := ha; cases hd
        · exact hh.may p hp a ha
      · obtain ⟨⟨d, hd⟩, _⟩ := ha; cases hd
    · cases h
  | [], _ :: _, _, l, _, h => by simp [clsOf] at h
  | _ :: _, [], _, l, _, h => by simp [clsOf] at h
end
end Mine

end

section
open PySem PySem.W PyProof.Rows
set_option Elab.async false
set_option linter.unusedVariables false
set_option maxRecDepth 4000
namespace Mine
section
variable {c : Cx} {A : Around} {env : Env} {Z W : Addr → Prop} {σ : List Slot} {s₀ s : Shared} {E : Value → Shared → Prop} {ct : Ct}

theorem setItem_plain {prog : Program} {w : World} {l : Addr} {items : List Value} {n : Nat} {k : Int} {t : Tok} {v : Value} {Q : Unit → Shared → Prop} (ho : s.heap.get? l = some (seqO "list" items n))
    (h0 : 0 ≤ k) (hfit : k < 2 ^ 63) (hn : k < items.length)
    (hQ : ∀ h' n', h'.get? l = some (seqO "list" (items.set k.toNat v) n') → Heap.SameBut l s.heap h' → Q () { s with heap := h' }) :
    wpAny (model prog w) A (setItem (.ref l) (.int k t) v) Q E s := by
  have hl : s.heap.IsList l items.toArray := isList_of ho
  have hd : (seqO "list" items n).data = .seq items.toArray n := rfl
  unfold setItem
  try with_reducible refine wpAny_holding ?_
  first | refine wpAny_bind (wpAny_pure ?_) | skip
  refine wpAny_bind (wpAny_sequenceKey hl.typeIs (by decide) ?_)
  refine wpAny_bind (wpAny_callSpecial?_slot (name := Str.ofString "__setitem__") hl.typeIs slot_list_setitem
    (wpAny_call_entry slot_list_setitem hl.typeIs entry_list_setitem ?_ (args_list_setitem _ _ _)))
  show wpAny _ _ (Builtin.List.listSubscript? (.int k t) >>= _) _ _ s
  refine wpAny_bind (wpAny_listSubscript_int (fitsIndex_of h0 hfit) ?_)
  clear hfit
  obtain ⟨j, rfl⟩ := Int.eq_ofNat_of_zero_le h0
  have hj : j < items.toArray.size := by rw [List.size_toArray]; omega
  have hx' : items.toArray[j]? = some items.toArray[j] := Array.getElem?_eq_getElem hj
  show wpAny _ _ ((seqItemAt l j >>= fun r => pure (r.map (j, ·))) >>= _) _ _ s
  refine wpAny_bind (wpAny_bind (wpAny_seqItemAt ho hd (wpAny_pure ?_)))
  rw [hx']
  show wpAny _ _ (setSeqItemAt l j v >>= _) _ _ s
  have hfin : (s.heap.update l (Obj.mapSeq (·.setIfInBounds j v))).get? l = some { cls := .type "list", data := .seq (items.toArray.setIfInBounds j v) (if (items.toArray.setIfInBounds j v).size == items.toArray.size then n else n + 1) } := Heap.get?_update_self _ ho rfl
  refine wpAny_bind (wpAny_setSeqItemAt ho hd ?_)
  have fin : Q () { s with heap := s.heap.update l (Obj.mapSeq (·.setIfInBounds j v)) } := hQ _ _ (by
    have e : items.toArray.setIfInBounds j v = (items.set ((j : Int)).toNat v).toArray := by simp
    rw [e] at hfin; exact hfin) (Heap.SameBut.update ..)
  first
    | exact wpAny_bind (wpAny_pure (wpAny_pure ⟨.none, rfl, wpAny_pure fin⟩))
    | exact wpAny_pure ⟨.none, rfl, wpAny_pure fin⟩

theorem Loc.off {h h' : Heap} {t : Addr} {x : Str} {v : Value} (l : Loc env h x v) (hs : Heap.SameBut t h h') (h1 : t ≠ env.locals) (h2 : ∀ y, env.cells.lookup y ≠ some t) : Loc env h' x v := by
  cases l with
  | loc m a b e => exact .loc m a (b.sameBut hs (Ne.symm h1)) e
  | cell a b e f => exact .cell a b e (f.sameBut hs (fun q => h2 x (q ▸ e)))

/-- an own list was turned -/
theorem FSt.mutate {i : Nat} {x : Str} {a : Addr} {l ds : List Mine.D} {vs : List Value} {n : Nat} {h' : Heap} (ef : EnvF ct env) (f : FSt c env Z W ct.ns σ s) (hv : isVar ct i x = true) (ho : σ[i]? = some (.ow (.lst l))) (lx : Loc env s.heap x (.ref a))
    (hs : Heap.SameBut a s.heap h') (g : h'.get? a = some (seqO "list" vs n)) (r : RL c s (NZ Z) vs ds) :
    FSt c env Z W ct.ns (σ.set i (.ow (.lst ds))) { s with heap := h' } ∧ Later Z W s Z W { s with heap := h' } := by
  obtain ⟨hx, hk⟩ := isVar_kind hv
  obtain ⟨a', lx', _, wa⟩ := f.st.vars i x _ hx ho
  have := lx.fun lx'; cases this
  obtain ⟨m1, m2, _⟩ := f.own i x _ hx ho a lx
  have h2 : ∀ y, env.cells.lookup y ≠ some a := fun y e => m2 y a (by rw [ef.m.kindOf]; exact ef.hcc y a e) e rfl
  have l' : Later Z (· = a) s Z (· = a) { s with heap := h' } := .upd (fp := (· = a)) rfl hs g
  have hz : ∀ b, b = a → Z b := fun b e => e ▸ f.wz a wa
  have zin : ZIn Z h' := fun b h => by obtain ⟨o, e⟩ := f.st.pre.zin b h; exact l'.dom b o e
  refine ⟨f.put ef hx l' ⟨fun _ h => h, fun _ h => .inl h, f.wz, zin⟩ wa (.inr (.inr ⟨_, ho, lx⟩)) (let ⟨m, hm⟩ := f.nsx; ⟨m, hm.sameBut hs (Ne.symm m1)⟩) (fun y b g1 g2 => let ⟨v, hc⟩ := (f.cells y b g1 g2).2; ⟨v, hc.sameBut hs (fun e => m2 y b g1 g2 e.symm)⟩)
    (lx.off hs m1 h2) (fun y u _ lu => lu.off hs m1 h2) ⟨a, rfl, .lst g (r.later l' hz), wa⟩ (fun d _ b hb => by cases hb; exact f.mayOwn hx ho lx), (l'.widen fun b e => e ▸ wa).narrow fun b h => .inl h⟩
end
end Mine

end

section
open PySem PySem.W PyProof.Rows
set_option Elab.async false
set_option linter.unusedVariables false
set_option maxRecDepth 4000
namespace Mine
def FlwR (c : Cx) (Z : Addr → Prop) (s : Shared) : Flw → Flow → Prop
  | .next, f => f = .next
  | .brk, f => f = .brk
  | .cont, f => f = .cont
  | .ret d fl, f => ∃ v, f = .ret v ∧ (fl.isR = true → R c s (NZ Z) v d) ∧ Rt c s (NZ Z) v d
def Done (c : Cx) (env : Env) (Z W : Addr → Prop) (ns : List Str) (s : Shared) (Q : Flw → List Slot → Prop) (f : Flow) (s' : Shared) : Prop :=
  ∃ fw σ' Z' W', Q fw σ' ∧ FlwR c Z' s' fw f ∧ FSt c env Z' W' ns σ' s' ∧ Later Z W s Z' W' s'
section
variable {c : Cx} {A : Around} {T : Tab} {env : Env} {Z W : Addr → Prop} {σ : List Slot} {s₀ s : Shared} {E : Value → Shared → Prop} {ct : Ct}
def ExW (c : Cx) (A : Around) (ct : Ct) (env : Env) (σ : List Slot) (t : Sem Flow) (Q : Flw → List Slot → Prop) : Prop := ∀ (Z W : Addr → Prop) (E : Value → Shared → Prop) (s : Shared), FSt c env Z W ct.ns σ s → wpAny (model c.prog c.w) A t (Done c env Z W ct.ns s Q) E s

theorem Done.trans {Z₁ W₁ : Addr → Prop} {s₁ s' : Shared} {ns : List Str} {Q : Flw → List Slot → Prop} {f : Flow} (l : Later Z W s Z₁ W₁ s₁) (d : Done c env Z₁ W₁ ns s₁ Q f s') : Done c env Z W ns s Q f s' := by
  obtain ⟨fw, σ', Z', W', h, r, g, l'⟩ := d
  exact ⟨fw, σ', Z', W', h, r, g, l.trans l'⟩
theorem Got.done {s' : Shared} {ns : List Str} {Q : Flw → List Slot → Prop} (g : Got c env Z W ns σ s s') (h : Q .next σ) : Done c env Z W ns s Q .next s' := by
  obtain ⟨Z', W', f, l⟩ := g
  exact ⟨.next, σ, Z', W', h, rfl, f, l⟩
theorem notComp_swaps {v : Expr} (h : notComp v = true) (t : Option Expr) (line : Nat) : swapsWith v t line env = pure false := by
  unfold swapsWith
  cases v <;> first | rfl | cases h
theorem swaps_name {v : Expr} {x : Str} {p : Pos} {line : Nat} (hset : ∀ a b s q, v ≠ .SetComp a b s q) (hd : ∀ a b d s q, v ≠ .DictComp a b d s q) : swapsWith v (some (.Name x p)) line env = pure false ∨ ((∃ a b s q, v = .ListComp a b s q) ∧ swapsWith v (some (.Name x p)) line env = pure true) := by
  cases v with
  | ListComp a b sc q =>
    have e : swapsWith (.ListComp a b sc q) (some (.Name x p)) line env = pure (env.blockKind == .function && env.kindOf x == some .local && p.line == q.line && !(sc.names.any fun (n, k) => n == x && (k == .local || k == .cell))) := rfl
    rw [e]
    cases (env.blockKind == .function && env.kindOf x == some .local && p.line == q.line && !(sc.names.any fun (n, k) => n == x && (k == .local || k == .cell))) with
    | false => exact .inl rfl
    | true => exact .inr ⟨⟨_, _, _, _, rfl⟩, rfl⟩
  | SetComp a b s q => exact absurd rfl (hset _ _ _ _)
  | DictComp a b d s q => exact absurd rfl (hd _ _ _ _ _)
  | _ => exact .inl rfl
theorem mX_set {x : X} {v : Expr} (h : mX ct x v = true) : (∀ a b s q, v ≠ .SetComp a b s q) ∧ (∀ a b d s q, v ≠ .DictComp a b d s q) := by
  constructor
  · rintro a b s q rfl; cases x <;> simp [mX] at h
  · rintro a b d s q rfl; cases x <;> simp [mX] at h
theorem mX_comp {x : X} {a : Expr} {b : List Comprehension} {sc : Scope} {q : Pos} (h : mX ct x (.ListComp a b sc q) = true) : ∃ elt mask n it ifs, x = .comp elt mask n it ifs := by
  cases x with
  | comp elt mask n it ifs => exact ⟨_, _, _, _, _, rfl⟩
  | _ => simp [mX] at h

theorem aS_assign (S : Sd c A T ct.un ct.gl) (ef : EnvF ct env) {i : Nat} {own : Bool} {e : X} {x : Str} {p pos : Pos} {v : Expr} {Q : Flw → List Slot → Prop} (hv : isVar ct i x = true) (hm : mX ct e v = true) (h : wX T σ e fun d fl => optW (slotOf own d fl) fun sl => Q .next (σ.set i sl)) :
    ExW c A ct env σ (exec (.Assign [.Name x p] v pos) env) Q := by
  intro Z W E s f
  rcases swaps_name (env := env) (x := x) (p := p) (line := pos.line) (mX_set hm).1 (mX_set hm).2 with hs | ⟨⟨a, b, sc, q, rfl⟩, hs⟩
  · rw [exec_Assign_Name _ _ _ _ _ hs]
    refine wpAny_bind (wpAny_standAt (wpAny_bind (mono (sX e ct S env Z W σ _ _ f.wz hm ef.m h E s f.st) fun u s₁ h₁ => ?_)))
    obtain ⟨k₁, d, fl, h₁, r⟩ := h₁
    obtain ⟨sl, hsl, hQ⟩ := optW_ok h₁
    refine wpAny_bind (wpAny_standAt (wpAny_bind (wpAny_bindName (mono (f.assign ef k₁ hv hsl r) fun _ s₂ g => wpAny_pure (g.done hQ)))))
  · obtain ⟨elt, mask, n, it, ifs, rfl⟩ := mX_comp hm
    rw [exec_Assign_Name_used _ _ _ _ hs]
    refine wpAny_bind (wpAny_standAt (wpAny_bind ?_))
    unfold mX at hm
    split at hm
    · rename_i x' tgt iter cs scope pos' heq
      cases heq
      split at hm
      · rename_i xs hxs
        simp only [Bool.and_eq_true, Bool.or_eq_true, beq_iff_eq] at hm
        obtain ⟨⟨⟨⟨⟨⟨rfl, hpl⟩, hsc⟩, hcap⟩, hmi⟩, hme⟩, hmb⟩ := hm
        unfold wX at h
        obtain ⟨hx, hk⟩ := isVar_kind hv
        show wpAny _ A (do let _ ← comprehension (.ListComp a [⟨tgt, iter, cs, 0⟩] sc q) sc env (firstIterPos [⟨tgt, iter, cs, 0⟩] q) (newList []) (firstAsync [⟨tgt, iter, cs, 0⟩]) (firstIter [⟨tgt, iter, cs, 0⟩] env) (some (assign (.Name x p) env))) _ _ s
        refine wpAny_bind (mono (comp_gen (Q := fun _ s' => Done c env Z W ct.ns s Q .next s') S.hh f.wz ef.m hxs hsc hcap (mIt_set hmi) (sIt it ct S env Z W σ _ _ tgt f.wz hmi ef.m h (fun hn => by
            have h2 := hpl.resolve_right (by rw [hn]; exact Bool.false_ne_true)
            unfold tgtNames at hxs
            split at hxs
            · cases hxs; cases h2
            · exact ⟨_, _, _, rfl⟩
            · cases hxs))
          (fun cenv Z' σ' Kb hw' mc hb => sBo ifs (ct.comp sc xs) S cenv Z' W σ' Kb cs hw' hmb mc hb)
          (fun cenv Z' σ' K' hw' mc hb => sX elt (ct.comp sc xs) S cenv Z' W σ' K' a hw' hme mc hb) f.st ?_) fun _ s' hq => wpAny_pure (wpAny_pure hq))
        intro D C s₄ mm ds' hK kp hD hC hDC hns r ow
        obtain ⟨sl, hsl, hQ⟩ := optW_ok hK
        show wpAny _ A (assign (.Name x p) env (.ref D)) _ _ _
        refine wpAny_assign_Name ((f.keeps kp).stored ef hk fun s₅ t ht st => ?_)
        have zt : ∀ b, Z b → b ≠ C := fun b hb e => by obtain ⟨o, q⟩ := f.st.pre.zin b hb; rw [e, hC] at q; cases q
        have tC : C ≠ t := fun e => zt t (f.wz t ht) e.symm
        obtain ⟨h₅, tk₅, e₅, htk, hsb, o₅, ho₅⟩ := st.upd
        subst e₅
        refine ⟨mm, hns.sameBut hsb tC, fun h' hs' => ?_⟩
        have hLC : env.locals ≠ C := zt _ (f.wz _ f.loc)
        have ltail : ∀ b o, b ≠ C → b ≠ t → s₄.heap.get? b = some o → h'.get? b = some o := fun b o h1 h2 e => hs'.extBut b o h1 (hsb.extBut b o h2 e)
        have nC : ∀ b o, s.heap.get? b = some o → b ≠ C := fun b o e q => by rw [q, hC] at e; cases e
        have lf : Later Z (· = t) s Z (· = t) { s₄ with heap := h', toks := tk₅ } := by
          obtain ⟨hh, tt, e4, _⟩ := kp.ex
          refine ⟨⟨h', tk₅, by rw [e4]⟩, Nat.le_trans kp.tk htk, fun b o hb e => ltail b o (nC b o e) hb (kp.get b o e), fun b o e => ?_, fun _ h => h, fun _ h => .inl h, fun _ h => .inl h⟩
          by_cases hb : b = t
          · subst hb; exact ⟨_, hs'.extBut _ _ (Ne.symm tC) ho₅⟩
          · exact ⟨o, ltail b o (nC b o e) hb (kp.get b o e)⟩
        have cC : ∀ y b, env.cells.lookup y = some b → b ≠ C := fun y b e => zt b (f.wz b (f.cells y b (by rw [ef.m.kindOf]; exact ef.hcc y b e) e).1)
        have locC : ∀ y u, Loc env h₅ y u → Loc env h' y u := fun y u lu => by
          cases lu with
          | loc m a b e => exact .loc m a (b.sameBut hs' hLC) e
          | cell a b e g => exact .cell a b e (g.sameBut hs' (cC y a e))
        refine (f.settle ef hx hsl ht st.to lf (let ⟨m, hm⟩ := st.ns; ⟨m, hm.sameBut hs' hLC⟩) (fun y b g1 g2 => let ⟨v, hv⟩ := st.cl y b g1 g2; ⟨v, hv.sameBut hs' (cC y b g2)⟩) (locC _ _ st.new) (fun y u hy lu => locC _ _ (st.old y u hy (lu.keeps kp.get)))
          (fl := .fr) ⟨?_, fun b e => by cases e; exact hD, ?_⟩).done hQ
        · exact R.trans (s := s₄) (s' := { s₄ with heap := h', toks := tk₅ }) htk (fun b o p e => ⟨fun z => p (.inl z), ltail b o (fun q => p (.inr q)) (fun q => p (.inl (q ▸ f.wz t ht))) e⟩) r
        · have hDt : D ≠ t := fun e => by obtain ⟨o, q⟩ := f.st.pre.zin t (f.wz t ht); rw [← e, hD] at q; cases q
          exact ow.step (s' := { s₄ with heap := h', toks := tk₅ }) htk (fun b o e q => by cases e; exact ltail D o hDC hDt q) fun b o p e => ⟨⟨fun z => p.1 (.inl z), p.2⟩, ltail b o (fun q => p.1 (.inr q)) (fun q => p.1 (.inl (q ▸ f.wz t ht))) e⟩
      · cases hm
    · cases hm
end
end Mine

end

section
open PySem PySem.W PyProof.Rows
set_option Elab.async false
set_option linter.unusedVariables false
set_option maxRecDepth 4000
namespace Mine
section
variable {prog : Program} {w : World} {A : Around} {E : Value → Shared → Prop} {s : Shared}
theorem draw_list {it t : Addr} {items : Array Value} (hne : t ≠ it) : ∀ (n i : Nat) (s : Shared) (Q : List Value → Shared → Prop), s.heap.IsListIter it t i → s.heap.IsList t items → i + n ≤ items.size →
    (∀ h', h'.IsListIter it t (i + n) → Heap.SameBut it s.heap h' → Q ((items.toList.drop i).take n) { s with heap := h' }) → wpAny (model prog w) A (draw (.ref it) n) Q E s
  | 0, i, s, Q, hit, _, _, hQ => by
    show wpAny _ _ (pure []) Q E s
    exact wpAny_pure (by simpa using hQ s.heap hit (Heap.SameBut.refl ..))
  | n + 1, i, s, Q, hit, ht, hle, hQ => by
    have hlt : i < items.size := by omega
    show wpAny _ _ (pyNext (.ref it) >>= _) Q E s
    refine wpAny_bind (wpAny_pyNext_list_item hit ht (x := items[i]) (by simp [hlt]) fun h₁ hit₁ hs₁ => ?_)
    refine wpAny_bind (wpAny_holding (draw_list hne n (i + 1) _ _ hit₁ (ht.extBut hs₁.extBut hne) (by omega) fun h₂ hit₂ hs₂ => wpAny_pure ?_))
    have hd : items.toList.drop i = items[i] :: items.toList.drop (i + 1) := by simp [List.drop_eq_getElem_cons, hlt]
    have := hQ h₂ (by rw [show i + (n + 1) = i + 1 + n by omega]; exact hit₂) (hs₁.trans hs₂)
    rw [hd, List.take_succ_cons] at this
    exact this
theorem unpackItems_list {t : Addr} {items : Array Value} {Q : List Value → Shared → Prop} (hh : A.handled = none) (ht : s.heap.IsList t items)
    (hQ : ∀ h', Heap.ExtBut s.heap.objs.size s.heap h' → Q items.toList { s with heap := h' }) : wpAny (model prog w) A (unpackItems (.ref t) items.size none) Q E s := by
  have hlt : t ≠ s.heap.objs.size := by obtain ⟨o, ho, _⟩ := ht; exact Nat.ne_of_lt (Heap.lt_size ho)
  unfold unpackItems
  refine wpAny_bind ?_
  unfold notIterableAtAll
  refine wpAny_bind (wpAny_specialOf ht.typeIs slot_list_iter.lookup ?_)
  refine wpAny_pure ?_
  simp only [Bool.false_eq_true, if_false]
  refine wpAny_bind (wpAny_holding (wpAny_pyIter_list ht ?_))
  refine wpAny_bind (wpAny_holding (draw_list hlt items.size 0 _ _ ⟨_, Heap.get?_push_size _ rfl, rfl, rfl⟩ (ht.push _) (by omega) fun h₁ hit₁ hs₁ => ?_))
  have hall : List.take items.size (List.drop 0 items.toList) = items.toList := by
    rw [List.drop_zero]; exact List.take_of_length_le (by simp)
  rw [hall]
  rw [if_neg (by simp)]
  have ht₁ : h₁.IsList t items := (ht.push _).extBut hs₁.extBut hlt
  refine wpAny_bind (wpAny_holding (wpAny_pyNext_list_end hh hit₁ ht₁ (by simp) fun h₂ he₂ => ?_))
  simp only [Option.isSome_none, Bool.false_eq_true, if_false]
  refine wpAny_pure (hQ h₂ fun b o hb e => he₂ b o hb (hs₁.extBut b o hb (Heap.get?_push_of_some _ e)))
end

section
variable {c : Cx} {A : Around} {T : Tab} {env : Env} {Z W : Addr → Prop} {σ : List Slot} {s₀ s : Shared} {E : Value → Shared → Prop} {ct : Ct}

/-- the items of a tuple or a list -/
theorem unpackItems_ok (hh : A.handled = none) {v : Value} {d : Mine.D} {ds : List Mine.D} {Q : List Value → Shared → Prop} (r : Rt c s (NZ Z) v d) (hs : seqOf d = some ds) (hQ : ∀ vs s', Kp s s' → RL c s' (NZ Z) vs ds → Q vs s') :
    wpAny (model c.prog c.w) A (unpackItems v ds.length none) Q E s := by
  have kp : ∀ h', Heap.ExtBut s.heap.objs.size s.heap h' → Kp s { s with heap := h' } := fun h' hx => .of (fun b o e => hx b o (Nat.ne_of_lt (Heap.lt_size e)) e) (Nat.le_refl _)
  unfold seqOf at hs
  split at hs
  · cases hs
    obtain ⟨a, vs, n, rfl, g, rl⟩ := r.tup_inv
    have e : ds.length = vs.toArray.size := by rw [List.size_toArray, rl.length]
    rw [e]
    exact wpAny_unpackItems_tuple hh ⟨_, g, rfl, n, rfl⟩ fun h' hx => by simpa using hQ vs _ (kp h' hx) (rl.keeps (kp h' hx))
  · cases hs
    obtain ⟨a, vs, n, rfl, g, rl⟩ := r.lst_inv
    have e : ds.length = vs.toArray.size := by rw [List.size_toArray, rl.length]
    rw [e]
    exact unpackItems_list hh (isList_of g) fun h' hx => by simpa using hQ vs _ (kp h' hx) (rl.keeps (kp h' hx))
  · cases hs

theorem isVars_each : ∀ {is : List Nat} {es : List Expr}, isVars ct is es = true → es.length = is.length ∧ (assignEach es env).length = is.length ∧ (assignEach es env).findIdx? (·.1) = none ∧
    ∀ (l : List Held), l.map (·.i) = is → Tgts env ct ((assignEach es env).map (·.2)) l
  | [], [], _ => ⟨rfl, rfl, rfl, fun l h => by cases l with | nil => exact .nil | cons _ _ => cases h⟩
  | i :: is, .Name x p :: es, h => by
    simp only [isVars, Bool.and_eq_true] at h
    obtain ⟨h1, h2, h3, h4⟩ := isVars_each h.2
    refine ⟨by simp [h1], by show (_ :: _).length = _; simp [h2], ?_, fun l hl => ?_⟩
    · show List.findIdx? _ ((false, _) :: assignEach es env) = none
      rw [List.findIdx?_cons]
      simp [h3]
    · cases l with
      | nil => cases hl
      | cons q l =>
        rw [List.map_cons, List.cons.injEq] at hl
        obtain ⟨rfl, hl⟩ := hl
        exact .cons h.1 (fun M A E s Q hq => wpAny_assign_Name hq) (h4 l hl)
  | [], _ :: _, h => by simp [isVars] at h
  | _ :: _, [], h => by simp [isVars] at h

theorem clsOf_len : ∀ {is : List Nat} {ds : List Mine.D} {l : List (Nat × Slot)}, clsOf is ds = some l → is.length = ds.length ∧ l.map (·.1) = is
  | [], [], l, h => by cases h; exact ⟨rfl, rfl⟩
  | i :: is, d :: ds, l, h => by
    simp only [clsOf] at h
    split at h
    · rename_i l' hl
      cases h
      obtain ⟨h1, h2⟩ := clsOf_len hl
      exact ⟨by simp [h1], by simp [h2]⟩
    · cases h
  | [], _ :: _, l, h => by simp [clsOf] at h
  | _ :: _, [], l, h => by simp [clsOf] at h
/-- a tuple of names takes apart a tuple or a list of clean values -/
theorem assignTup (hh : A.handled = none) (ef : EnvF ct env) (f : FSt c env Z W ct.ns σ s) {is : List Nat} {es : List Expr} {k : Nat} {p : Pos} {v : Value} {d : Mine.D} {ds : List Mine.D} {l : List (Nat × Slot)} (hv : isVars ct is es = true) (r : Rt c s (NZ Z) v d) (hs : seqOf d = some ds)
    (hl : clsOf is ds = some l) : wpAny (model c.prog c.w) A (assign (.Tuple es k p) env v) (fun _ s' => FSt c env Z W ct.ns (setAll l σ) s' ∧ Later Z W s Z W s') E s := by
  obtain ⟨h1, h2, h3, h4⟩ := isVars_each (env := env) hv
  rw [arm_assign_Tuple]
  refine wpAny_bind (wpAny_standAt ?_)
  unfold unpack
  have hlen := (clsOf_len hl).1
  rw [h2, h3, hlen]
  refine wpAny_bind (wpAny_holding (unpackItems_ok hh r hs fun vs s' k' rl => ?_))
  obtain ⟨hh', e1, e2, e3⟩ := HeldL.clean (env := env) (W := W) (ct := ct) (σ := σ) rl hl
  have := storeAll (A := A) (E := E) ef (h4 _ e3) (f.keeps k') hh'
  rw [e2] at this
  exact mono this fun _ s'' h => by rw [e1] at h; exact ⟨h.1, (Later.kp k').trans h.2⟩
end
end Mine

end

section
open PySem PySem.W PyProof.Rows
set_option Elab.async false
set_option linter.unusedVariables false
set_option maxRecDepth 4000
namespace Mine
section
variable {c : Cx} {A : Around} {T : Tab} {env : Env} {Z W : Addr → Prop} {σ : List Slot} {s₀ s : Shared} {E : Value → Shared → Prop} {ct : Ct}

theorem FSt.newRoot {ns : List Str} {s' : Shared} {a : Addr} (f : FSt c env Z W ns σ s) (k : Kp s s') (h : s.heap.get? a = none) : a ≠ env.locals ∧ (∀ y b, env.kindOf y = some .cell → env.cells.lookup y = some b → a ≠ b) ∧ ∀ (j : Nat) (y : Str) (e : Mine.D), ns[j]? = some y → σ[j]? = some (.ow e) → ¬ Loc env s'.heap y (.ref a) := by
  have z : ∀ b, Z b → a ≠ b := fun b hb e => by obtain ⟨o, q⟩ := f.st.pre.zin b hb; rw [← e, h] at q; cases q
  refine ⟨z _ (f.wz _ f.loc), fun y b h1 h2 => z b (f.wz b (f.cells y b h1 h2).1), fun j y e h1 h2 lv => ?_⟩
  obtain ⟨b, lb, _, wb⟩ := f.st.vars j y _ h1 h2
  have := lv.fun (lb.keeps k.get); cases this
  exact z a (f.wz a wb) rfl

structure Fd (c : Cx) (env : Env) (ns : List Str) (σ : List Slot) (is : List (Nat × Bool)) (s : Shared) (Z W Z' W' : Addr → Prop) (s' : Shared) (vs : List Value) (ds : List (Mine.D × Fl)) : Prop where
  f : FSt c env Z' W' ns σ s'
  k : Kp s s'
  l : Later Z W s Z' W' s'
  w : ∀ a, W a → W' a
  len : vs.length = ds.length
  held : ∀ l, slotsOf is ds = some l → ∃ hl : List Held, sets hl = l ∧ hl.map (·.v) = vs ∧ hl.map (·.i) = is.map (·.1) ∧ HeldL c env Z' W' ns σ s' hl ∧ ∀ p ∈ hl, ∀ a, p.root a → s.heap.get? a = none
theorem slotsOf_cons {i : Nat} {own : Bool} {is : List (Nat × Bool)} {d : Mine.D} {fl : Fl} {ds : List (Mine.D × Fl)} {l : List (Nat × Slot)} (h : slotsOf ((i, own) :: is) ((d, fl) :: ds) = some l) : ∃ sl l', slotOf own d fl = some sl ∧ slotsOf is ds = some l' ∧ l = (i, sl) :: l' := by
  simp only [slotsOf] at h
  split at h
  · rename_i a b h1 h2; cases h; exact ⟨_, _, h1, h2, rfl⟩
  · cases h
theorem wF_ok (S : Sd c A T ct.un ct.gl) (ef : EnvF ct env) (pos : Pos) : ∀ (xs : Xs) (es : List Expr) (is : List (Nat × Bool)) (Z W : Addr → Prop) (s : Shared) (E : Value → Shared → Prop) (K : List (Mine.D × Fl) → Prop), mXs ct xs es = true → wF T σ xs K → FSt c env Z W ct.ns σ s →
    wpAny (model c.prog c.w) A (spliced (backTo pos (starEach es env))) (fun vs s' => ∃ ds Z' W', K ds ∧ Fd c env ct.ns σ is s Z W Z' W' s' vs ds) E s
  | .nil, es, is, Z, W, s, E, K, hm, h, f => by
    unfold mXs at hm; split at hm
    · unfold wF at h
      refine Calls.spliced_nil ⟨[], Z, W, h, f, .rfl', .refl, fun _ h => h, rfl, fun l hl => ⟨[], ?_, rfl, ?_, ⟨(fun p hp => by cases hp), (fun p hp => by cases hp), .nil⟩, (fun p hp => by cases hp)⟩⟩
      · cases is with
        | nil => cases hl; rfl
        | cons p is => obtain ⟨i, o⟩ := p; simp [slotsOf] at hl
      · cases is with
        | nil => rfl
        | cons p is => obtain ⟨i, o⟩ := p; simp [slotsOf] at hl
    · cases hm
  | .cons x xs, es, is, Z, W, s, E, K, hm, h, f => by
    unfold mXs at hm; split at hm
    · rename_i e es
      simp only [Bool.and_eq_true] at hm
      unfold wF at h
      rw [starEach_cons hm.1.1]
      refine Calls.spliced_cons (mono (sX x ct S env Z W σ _ _ f.wz hm.1.2 ef.m h E s f.st) fun v s₁ h₁ => ?_)
      obtain ⟨k₁, d, fl, ⟨hcl, h₁⟩, r⟩ := h₁
      have noIs : is = [] → ∀ ds' l, slotsOf is ((d, fl) :: ds') = some l → False := fun e ds' l h => by rw [e] at h; simp [slotsOf] at h
      by_cases hown : ∃ i is', is = (i, true) :: is' ∧ fl = .fr ∧ ((∃ l, d = .lst l) ∨ ∃ l, d = .dct l)
      · obtain ⟨i, is', rfl, rfl, hd⟩ := hown
        obtain ⟨rR, hfr, how⟩ := r
        obtain ⟨a, o, rfl, ho⟩ : ∃ a o, v = .ref a ∧ s₁.heap.get? a = some o := by
          rcases hd with ⟨l, rfl⟩ | ⟨l, rfl⟩
          · obtain ⟨a, vs, n, e, g, _⟩ := Rt.lst_inv (.of rR); exact ⟨a, _, e, g⟩
          · obtain ⟨a, kvs, e, g, _⟩ := Rt.dct_inv (.of rR); obtain ⟨o, ho⟩ := DictOf_get g; exact ⟨a, o, e, ho⟩
        have ha := hfr a rfl
        have f₁ := f.grow k₁ ha ho
        have l₁ : Later Z W s (fun b => Z b ∨ b = a) (fun b => W b ∨ b = a) s₁ := by
          have lz : Later Z W s Z W s₁ := .kp k₁
          exact ⟨lz.ex, lz.tk, lz.keep, lz.dom, fun b h => .inl h, fun b h => h.imp id fun (e : b = a) => (congrArg _ e).trans ha, fun b h => h.imp id fun (e : b = a) => (congrArg _ e).trans ha⟩
        refine mono (wF_ok S ef pos xs es is' _ _ s₁ E _ hm.2 h₁ f₁) fun vs s' h₂ => ?_
        obtain ⟨ds, Z', W', hK, fd⟩ := h₂
        refine ⟨(d, .fr) :: ds, Z', W', hK, fd.f, k₁.trans fd.k, l₁.trans fd.l, fun b h => fd.w b (.inl h), by simp [fd.len], fun l hl => ?_⟩
        obtain ⟨sl, l', h3, h4, rfl⟩ := slotsOf_cons hl
        obtain ⟨hl', e1, e2, e3, hh, hfresh⟩ := fd.held l' h4
        have hsl : sl = .ow d := by
          rcases hd with ⟨l, rfl⟩ | ⟨l, rfl⟩ <;> · simp only [slotOf] at h3; cases h3; rfl
        subst hsl
        have nr := f.newRoot (k₁.trans fd.k) ha
        refine ⟨⟨i, .ow d, .ref a⟩ :: hl', by simp [sets] at e1 ⊢; exact e1, by simp [e2], by simp [e3], ⟨fun p hp => ?_, fun p hp b hb => ?_, List.pairwise_cons.mpr ⟨fun q hq b hb hq' => ?_, hh.apart⟩⟩, fun p hp b hb => ?_⟩
        · rcases List.mem_cons.mp hp with rfl | hp
          · refine ⟨a, rfl, how.step fd.k.tk (fun b o e h => fd.k.get b o h) fun b o p e => ⟨fun hz => ?_, fd.k.get b o e⟩, fd.w a (.inr rfl)⟩
            rcases fd.l.znew b hz with h | h
            · exact h.elim p.1 fun e' => p.2 (by rw [e'])
            · rw [e] at h; cases h
          · exact hh.sv p hp
        · rcases List.mem_cons.mp hp with rfl | hp
          · obtain ⟨_, hb⟩ := hb
            cases hb
            exact nr
          · exact hh.may p hp b hb
        · obtain ⟨_, hb⟩ := hb
          cases hb
          have := hfresh q hq a hq'
          rw [ho] at this; cases this
        · rcases List.mem_cons.mp hp with rfl | hp
          · obtain ⟨_, hb⟩ := hb; cases hb; exact ha
          · have := hfresh p hp b hb
            cases q : s.heap.get? b with
            | none => rfl
            | some o => rw [k₁.get b o q] at this; cases this
      · refine mono (wF_ok S ef pos xs es is.tail Z W s₁ E _ hm.2 h₁ (f.keeps k₁)) fun vs s' h₂ => ?_
        obtain ⟨ds, Z', W', hK, fd⟩ := h₂
        refine ⟨(d, fl) :: ds, Z', W', hK, fd.f, k₁.trans fd.k, (Later.kp k₁).trans fd.l, fd.w, by simp [fd.len], fun l hl => ?_⟩
        cases is with
        | nil => exact (noIs rfl _ _ hl).elim
        | cons p is' =>
          obtain ⟨i, own⟩ := p
          obtain ⟨sl, l', h3, h4, rfl⟩ := slotsOf_cons hl
          obtain ⟨hl', e1, e2, e3, hh, hfresh⟩ := fd.held l' h4
          have rv : R c s₁ (NZ Z) v d := by
            unfold clean at hcl
            rw [Bool.or_eq_true] at hcl
            rcases hcl with q | q
            · exact r.r q
            · exact (r.rt.scal q).1
          have hsl : sl = .cl d := by
            cases own with
            | false =>
              simp only [slotOf] at h3
              unfold clean at hcl
              rw [if_pos hcl] at h3; cases h3; rfl
            | true =>
              exfalso
              apply hown
              simp only [slotOf] at h3
              split at h3
              · exact ⟨i, is', rfl, rfl, .inl ⟨_, rfl⟩⟩
              · exact ⟨i, is', rfl, rfl, .inr ⟨_, rfl⟩⟩
              · cases h3
          subst hsl
          refine ⟨⟨i, .cl d, v⟩ :: hl', by simp [sets] at e1 ⊢; exact e1, by simp [e2], by simpa using e3, ⟨fun p hp => ?_, fun p hp b hb => ?_, List.pairwise_cons.mpr ⟨fun q hq b hb => ?_, hh.apart⟩⟩, fun p hp b hb => ?_⟩
          · rcases List.mem_cons.mp hp with rfl | hp
            · exact R.trans fd.k.tk (fun b o p e => ⟨fun hz => (fd.l.znew b hz).elim p (fun h => by rw [e] at h; cases h), fd.k.get b o e⟩) rv
            · exact hh.sv p hp
          · rcases List.mem_cons.mp hp with rfl | hp
            · obtain ⟨⟨q, hq⟩, _⟩ := hb; cases hq
            · exact hh.may p hp b hb
          · obtain ⟨⟨q, hq⟩, _⟩ := hb; cases hq
          · rcases List.mem_cons.mp hp with rfl | hp
            · obtain ⟨⟨q, hq⟩, _⟩ := hb; cases hq
            · have := hfresh p hp b hb
              cases q : s.heap.get? b with
              | none => rfl
              | some o => rw [k₁.get b o q] at this; cases this
    · cases hm
end
end Mine

end

section
open PySem PySem.W PyProof.Rows
set_option Elab.async false
set_option linter.unusedVariables false
set_option maxRecDepth 4000
namespace Mine
section
variable {c : Cx} {A : Around} {T : Tab} {env : Env} {Z W : Addr → Prop} {σ : List Slot} {s₀ s : Shared} {E : Value → Shared → Prop} {ct : Ct}

theorem swapped_ok {es vs : List Expr} {k k' : Nat} {p p' : Pos} (hsw : swapOk vs = true) : swappedStores [.Tuple es k p] (.Tuple vs k' p') env = pure none ∨
    ∃ (g : Expr → Option Str), (∀ x q, g (.Name x q) = some x ∨ g (.Name x q) = none) ∧ swappedStores [.Tuple es k p] (.Tuple vs k' p') env = pure (some (es.filterMap g)) ∧ (es.filterMap g).length = es.length := by
  unfold swappedStores
  dsimp only
  split
  · exact .inl rfl
  · split
    · exact .inl rfl
    · split
      · exact .inl rfl
      · rename_i h
        split
        · exact .inl rfl
        · rename_i hf
          split
          · rename_i hc
            exfalso
            unfold swapOk at hsw
            rw [Bool.or_eq_true] at hsw
            rcases hsw with q | q
            · exact hf q
            · rw [hc] at q; cases q
          · refine .inr ⟨_, ?_, rfl, ?_⟩
            · intro x q
              dsimp only
              split
              · exact .inl rfl
              · exact .inr rfl
            · simp only [Bool.or_eq_true, bne_iff_ne, not_or, Decidable.not_not] at h
              exact h.1
theorem names_tgts {g : Expr → Option Str} (hg : ∀ x q, g (.Name x q) = some x ∨ g (.Name x q) = none) : ∀ {is : List Nat} {es : List Expr}, isVars ct is es = true → (es.filterMap g).length = es.length → ∀ (l : List Held), l.map (·.i) = is → Tgts env ct ((es.filterMap g).map fun n => bindName env n) l
  | [], [], _, _, l, h => by cases l with | nil => exact .nil | cons _ _ => cases h
  | i :: is, .Name x p :: es, h, hl, l, hm => by
    simp only [isVars, Bool.and_eq_true] at h
    cases l with
    | nil => cases hm
    | cons q l =>
      rw [List.map_cons, List.cons.injEq] at hm
      obtain ⟨rfl, hm⟩ := hm
      have hle : (es.filterMap g).length ≤ es.length := List.length_filterMap_le _ _
      rw [List.filterMap_cons] at hl ⊢
      rcases hg x p with e | e
      · rw [e] at hl ⊢
        simp only [List.length_cons, Nat.add_right_cancel_iff] at hl
        exact .cons h.1 (fun M A E s Q hq => wpAny_bindName hq) (names_tgts hg h.2 hl l hm)
      · rw [e] at hl
        simp only [List.length_cons] at hl
        omega
  | [], _ :: _, h, _, _, _ => by simp [isVars] at h
  | _ :: _, [], h, _, _, _ => by simp [isVars] at h
theorem slotsOf_fst : ∀ {is : List (Nat × Bool)} {ds : List (Mine.D × Fl)} {l : List (Nat × Slot)}, slotsOf is ds = some l → is.length = ds.length ∧ l.map (·.1) = is.map (·.1)
  | [], [], l, h => by cases h; exact ⟨rfl, rfl⟩
  | (i, own) :: is, (d, fl) :: ds, l, h => by
    obtain ⟨sl, l', _, h2, rfl⟩ := slotsOf_cons h
    obtain ⟨e1, e2⟩ := slotsOf_fst h2
    exact ⟨by simp [e1], by simp [e2]⟩
  | [], _ :: _, l, h => by simp [slotsOf] at h
  | (i, own) :: _, [], l, h => by simp [slotsOf] at h

theorem aS_unpackT (S : Sd c A T ct.un ct.gl) (ef : EnvF ct env) {is : List (Nat × Bool)} {xs : Xs} {es vs : List Expr} {k k' : Nat} {p p' pos : Pos} {Q : Flw → List Slot → Prop} (hv : isVars ct (is.map (·.1)) es = true) (hnd : (is.map (·.1)).Nodup) (hsw : swapOk vs = true) (hm : mXs ct xs vs = true)
    (h : wF T σ xs fun ds => ds.length ≤ 1000000 ∧ optW (slotsOf is ds) fun l => Q .next (setAll l σ)) :
    ExW c A ct env σ (exec (.Assign [.Tuple es k p] (.Tuple vs k' p') pos) env) Q := by
  intro Z W E s f
  -- the display, then the items
  have run : ∀ (RR : Value → Shared → Prop), (∀ us s₂ Z' W' (t : Addr) (hl : List Held) l, s₂.heap.get? t = some (seqO "tuple" us 0) → hl.map (·.v) = us → hl.map (·.i) = is.map (·.1) → sets hl = l → l.map (·.1) = is.map (·.1) → Q .next (setAll l σ) → FSt c env Z' W' ct.ns σ s₂ → HeldL c env Z' W' ct.ns σ s₂ hl → Later Z W s Z' W' s₂ → us.length = is.length → RR (.ref t) s₂) →
      wpAny (model c.prog c.w) A (eval (.Tuple vs k' p') env) RR E s := by
    intro RR hR
    refine Tuple_ (mono (wF_ok S ef _ xs vs is Z W s E _ hm h f) fun us s₁ h₁ => ?_)
    obtain ⟨ds, Z', W', ⟨hlen, hK⟩, fd⟩ := h₁
    obtain ⟨l, hl, hQ⟩ := optW_ok hK
    obtain ⟨e1, e2⟩ := slotsOf_fst hl
    obtain ⟨hl', g1, g2, g3, hh, _⟩ := fd.held l hl
    have kp : Kp s₁ { s₁ with heap := s₁.heap.push (seqO "tuple" us 0) } := .push
    refine wpAny_newObj_type (hR us _ Z' W' _ hl' l (Heap.get?_push_size _ rfl) g2 g3 g1 e2 hQ (fd.f.keeps kp) ⟨fun q hq => ?_, fun q hq a ha => ?_, hh.apart⟩ (fd.l.trans (.kp kp)) (by rw [fd.len, e1])) (by show us.toArray.size ≤ sizeLine; rw [List.size_toArray, fd.len, sizeLine_eq]; omega)
    · have := hh.sv q hq
      cases hq' : q.sl with
      | un => trivial
      | cl d => rw [hq'] at this; exact R.keeps (Z := Z') this kp
      | rt d => rw [hq'] at this; exact ⟨this.1.keeps kp, (fun a e => ⟨(this.2.1 a e).1, let ⟨o, h⟩ := (this.2.1 a e).2; ⟨o, kp.get a o h⟩⟩), this.2.2⟩
      | ow d => rw [hq'] at this; obtain ⟨a, e, r, w⟩ := this; exact ⟨a, e, r.keeps kp, w⟩
    · obtain ⟨m1, m2, m3⟩ := hh.may q hq a ha
      refine ⟨m1, m2, fun j y e h1 h2 lv => ?_⟩
      obtain ⟨b, lb, _⟩ := fd.f.st.vars j y _ h1 h2
      have := lv.fun (lb.keeps kp.get); cases this
      exact m3 j y e h1 h2 lb
  have kpx : ∀ (s₂ : Shared) h', Heap.ExtBut s₂.heap.objs.size s₂.heap h' → Kp s₂ { s₂ with heap := h' } := fun s₂ h' hx => .of (fun b o e => hx b o (Nat.ne_of_lt (Heap.lt_size e)) e) (Nat.le_refl _)
  have heldK : ∀ {s₂ s₃ : Shared} {Z' W' : Addr → Prop} {hl : List Held}, Kp s₂ s₃ → FSt c env Z' W' ct.ns σ s₂ → HeldL c env Z' W' ct.ns σ s₂ hl → HeldL c env Z' W' ct.ns σ s₃ hl := fun {s₂ s₃ Z' W' hl} kp f₂ hh => by
    refine ⟨fun q hq => ?_, fun q hq a ha => ?_, hh.apart⟩
    · have := hh.sv q hq
      cases hq' : q.sl with
      | un => trivial
      | cl d => rw [hq'] at this; exact R.keeps (Z := Z') this kp
      | rt d => rw [hq'] at this; exact ⟨this.1.keeps kp, (fun a e => ⟨(this.2.1 a e).1, let ⟨o, h⟩ := (this.2.1 a e).2; ⟨o, kp.get a o h⟩⟩), this.2.2⟩
      | ow d => rw [hq'] at this; obtain ⟨a, e, r, w⟩ := this; exact ⟨a, e, r.keeps kp, w⟩
    · obtain ⟨m1, m2, m3⟩ := hh.may q hq a ha
      refine ⟨m1, m2, fun j y e h1 h2 lv => ?_⟩
      obtain ⟨b, lb, _⟩ := f₂.st.vars j y _ h1 h2
      have := lv.fun (lb.keeps kp.get); cases this
      exact m3 j y e h1 h2 lb
  obtain ⟨v1, v2, v3, v4⟩ := isVars_each (env := env) hv
  rcases swapped_ok (env := env) (es := es) (vs := vs) (k := k) (k' := k') (p := p) (p' := p') hsw with hw | ⟨g, hg, hw, hlen⟩
  · refine Assign_Tuple (run _ fun us s₂ Z' W' t hl l ht hus his hsets hfst hQ f₂ hh l₂ hul => ?_) (hw := hw)
    refine wpAny_assign_Tuple S.hh (items := us.toArray) ⟨_, ht, rfl, 0, rfl⟩ (by rw [v2, List.size_toArray, hul, List.length_map]) v3 fun h' hx => ?_
    have kp := kpx s₂ h' hx
    have key := storeAll (c := c) (A := A) (E := E) ef (v4 hl his) (f₂.keeps kp) (heldK kp f₂ hh)
    rw [hus] at key
    refine mono key fun _ s₃ h₃ => ⟨.next, _, Z', W', hQ, rfl, by rw [← hsets]; exact h₃.1, (l₂.trans (.kp kp)).trans h₃.2⟩
  · refine Assign_Tuple_swapped (names := es.filterMap g) (run _ fun us s₂ Z' W' t hl l ht hus his hsets hfst hQ f₂ hh l₂ hul => ?_) (hw := hw)
    have e : (es.filterMap g).length = us.toArray.size := by rw [hlen, v1, List.size_toArray, hul, List.length_map]
    rw [e]
    refine wpAny_unpackItems_tuple S.hh (items := us.toArray) ⟨_, ht, rfl, 0, rfl⟩ fun h' hx => ?_
    have kp := kpx s₂ h' hx
    have tg := (names_tgts (env := env) hg hv hlen hl his).reverse
    have key := storeAll (c := c) (A := A) (E := E) ef tg (f₂.keeps kp) (heldK kp f₂ hh).reverse
    rw [List.map_reverse, hus] at key
    rw [List.map_reverse]
    refine mono key fun _ s₃ h₃ => ⟨.next, _, Z', W', hQ, rfl, ?_, (l₂.trans (.kp kp)).trans h₃.2⟩
    have := h₃.1
    have e2 : sets hl.reverse = l.reverse := by rw [← hsets]; simp [sets]
    rw [e2, setAll_reverse l σ (by rw [hfst]; exact hnd)] at this
    exact this
end
end Mine

end

section
open PySem PySem.W PyProof.Rows
set_option Elab.async false
set_option linter.unusedVariables false
set_option maxRecDepth 4000
namespace Mine
section
variable {c : Cx} {A : Around} {T : Tab} {env : Env} {Z W : Addr → Prop} {σ : List Slot} {s₀ s : Shared} {E : Value → Shared → Prop} {ct : Ct}

theorem loadLoc {x : Str} {v : Value} {Q : Value → Shared → Prop} (ok : EnvOk env) (l : Loc env s.heap x v) (h : Q v s) : wpAny (model c.prog c.w) A (loadName env x) Q E s := by
  cases l with
  | loc m a b e => exact wpAny_loadName_local ok.kind a b e h
  | cell a b e f => rcases b with b | ⟨b, n⟩
                    · exact wpAny_loadName_cell ok.kind b e f h
                    · exact wpAny_loadName_free ok.kind b e f h n
theorem varLoc {x : Str} {i : Nat} {K : Mine.D → Fl → Prop} (f : FSt c env Z W ct.ns σ s) (hx : ct.ns[i]? = some x) (h : wX T σ (.var i) K) : ∃ v d fl, Loc env s.heap x v ∧ K d fl ∧ Rt c s (NZ Z) v d := by
  unfold wX at h
  split at h
  · rename_i d e; obtain ⟨v, l, r⟩ := f.st.vars i x _ hx e; exact ⟨v, d, .cl, l, h, .of r⟩
  · rename_i d e; obtain ⟨v, l, r⟩ := f.st.vars i x _ hx e; exact ⟨v, d, .rt, l, h, r.1⟩
  · rename_i d e; obtain ⟨v, l, r, _⟩ := f.st.vars i x _ hx e; exact ⟨.ref v, d, .ow, l, h, r⟩
  · exact h.elim
theorem ownLoc {x : Str} {i : Nat} {K : Mine.D → Prop} (f : FSt c env Z W ct.ns σ s) (hx : ct.ns[i]? = some x) (h : owned σ i K) : ∃ a d, σ[i]? = some (.ow d) ∧ K d ∧ Loc env s.heap x (.ref a) ∧ Rt c s (NZ Z) (.ref a) d := by
  unfold owned at h
  split at h
  · rename_i d e; obtain ⟨a, l, r, _⟩ := f.st.vars i x _ hx e; exact ⟨a, d, e, h, l, r⟩
  · exact h.elim
theorem isVars_names : ∀ {is : List Nat} {es : List Expr}, isVars ct is es = true → True := fun _ => trivial

theorem aS_aug (S : Sd c A T ct.un ct.gl) (ef : EnvF ct env) {i : Nat} {op : Operator} {e : X} {x : Str} {p pos : Pos} {v : Expr} {Q : Flw → List Slot → Prop} (hv : isVar ct i x = true) (hm : mX ct e v = true)
    (h : wX T σ (.var i) fun d₁ _ => wX T σ e fun d₂ _ => ibinW op d₁ d₂ fun d => Q .next (σ.set i (.cl d))) : ExW c A ct env σ (exec (.AugAssign (.Name x p) op v pos) env) Q := by
  intro Z W E s f
  obtain ⟨hx, hk⟩ := isVar_kind hv
  obtain ⟨u, d₁, fl, l, h, r₁⟩ := varLoc f hx h
  rw [exec_AugAssign_Name]
  refine wpAny_bind (wpAny_standAt (wpAny_bind (loadLoc ef.m.ok l ?_)))
  refine wpAny_bind (wpAny_holding (mono (sX e ct S env Z W σ _ _ f.wz hm ef.m h E s f.st) fun u₂ s₂ h₂ => ?_))
  obtain ⟨k₂, d₂, fl₂, h₂, r₂⟩ := h₂
  obtain ⟨d, hQ, hr⟩ := ibinW_ok (c := c) (A := A) h₂
  refine wpAny_bind (wpAny_standAt (wpAny_bind (wpAny_operating (mono (hr Z E s₂ u u₂ (f.keeps k₂).st.pre (r₁.keeps k₂) r₂.rt) fun w s₃ h₃ => ?_))))
  obtain ⟨k₃, rr, ff, oo⟩ := h₃
  refine wpAny_bind (wpAny_standAt (wpAny_bind (wpAny_bindName (mono (f.assign (own := false) (fl := .fr) (d := d) ef (k₂.trans k₃) hv (by simp [slotOf, Fl.isR]) ⟨rr, ff.keeps k₂, oo⟩) fun _ s₄ g => wpAny_pure (g.done hQ)))))

theorem posI_seq {n : Nat} {k : Int} {j : Nat} (h : posI n k = some j) : seqIndex? k n = some j ∧ j < n := by
  unfold posI at h
  unfold seqIndex?
  split at h
  · split at h
    · rename_i h0 h1
      cases h
      have n1 : ¬ k < 0 := by omega
      have n2 : ¬ k ≥ (n : Int) := by omega
      simp [n1, n2]
      omega
    · cases h
  · split at h
    · rename_i h0 h1
      cases h
      have n1 : k < 0 := by omega
      have n2 : ¬ (k + (n : Int) < 0) := by omega
      have n3 : ¬ (k + (n : Int) ≥ n) := by omega
      simp [n1, n2, n3]
      omega
    · cases h

/-- an own list takes a new item at a place -/
theorem own_set (ef : EnvF ct env) (f : FSt c env Z W ct.ns σ s) {i n : Nat} {x : Str} {a : Addr} {l : List Mine.D} {d : Mine.D} {k : Int} {t : Tok} {v : Value} {Q : Unit → Shared → Prop} (hv : isVar ct i x = true) (ho : σ[i]? = some (.ow (.lst l))) (lx : Loc env s.heap x (.ref a)) (r : Rt c s (NZ Z) (.ref a) (.lst l)) (rv : R c s (NZ Z) v d)
    (hp : posI l.length k = some n) (h0 : 0 ≤ k) (hsm : small k) (hQ : ∀ s', FSt c env Z W ct.ns (σ.set i (.ow (.lst (l.set n d)))) s' → Later Z W s Z W s' → Q () s') : wpAny (model c.prog c.w) A (setItem (.ref a) (.int k t) v) Q E s := by
  obtain ⟨a', vs, m, e, g, rl⟩ := r.lst_inv
  cases e
  obtain ⟨_, hn⟩ := posI_seq hp
  have hkn : k.toNat = n ∧ k < l.length := by
    unfold posI at hp
    rw [if_pos h0] at hp
    split at hp <;> cases hp
    exact ⟨rfl, by assumption⟩
  have s2 := hsm.2
  refine setItem_plain g h0 (by omega) (by rw [rl.length]; exact hkn.2) fun h' n' g' hs => ?_
  rw [hkn.1] at g'
  obtain ⟨f', l'⟩ := f.mutate ef hv ho lx hs g' (rl.set rv n)
  exact hQ _ f' l'

theorem aS_augSub (S : Sd c A T ct.un ct.gl) (ef : EnvF ct env) {i : Nat} {idx e : X} {op : Operator} {x : Str} {p q pos : Pos} {j v : Expr} {Q : Flw → List Slot → Prop} (hv : isVar ct i x = true) (hdb : (x == ("__debug__" : Str)) = false) (hsl : notSlice j = true) (hmj : mX ct idx j = true) (hm : mX ct e v = true)
    (h : owned σ i fun d₀ => wX T σ idx fun di _ => getW d₀ di fun d₁ => wX T σ e fun d₂ _ => ibinW op d₁ d₂ fun d => match d₀, di with
    | .lst l, .int k => optW (posI l.length k) fun n => (0 ≤ k ∧ small k) ∧ Q .next (σ.set i (.ow (.lst (l.set n d))))
    | _, _ => False) : ExW c A ct env σ (exec (.AugAssign (.Subscript (.Name x p) j q) op v pos) env) Q := by
  intro Z W E s f
  obtain ⟨hx, hk⟩ := isVar_kind hv
  obtain ⟨a, d₀, ho, h, lx, r₀⟩ := ownLoc f hx h
  show wpAny _ A (do
    standAt pos
    let ov ← eval (.Name x p) env
    let iv ← holding [ov] (eval j env)
    let new ← holding [ov, iv] do
      standAt q
      let old ← getItem ov iv
      let v ← holding [old] (eval v env)
      standAt pos
      operate [old, v] (inplaceOp op old v)
    standAt q
    augStore j ov iv new) _ _ _
  refine wpAny_bind (wpAny_standAt (wpAny_bind (SlotR.name ef.m.ok lx ?_ hdb)))
  refine wpAny_bind (wpAny_holding (mono (sX idx ct S env Z W σ _ _ f.wz hmj ef.m h E s f.st) fun iv s₁ h₁ => ?_))
  obtain ⟨k₁, di, fli, h₁, r₁⟩ := h₁
  obtain ⟨d₁, h₁, hg, _⟩ := getW_ok (c := c) (A := A) h₁
  have f₁ := f.keeps k₁
  refine wpAny_bind (wpAny_holding (wpAny_bind (wpAny_standAt (wpAny_bind (mono (hg Z E s₁ _ iv f₁.st.pre (r₀.keeps k₁) r₁.rt) fun old s₂ h₂ => ?_)))))
  obtain ⟨k₂, ro⟩ := h₂
  refine wpAny_bind (wpAny_holding (mono (sX e ct S env Z W σ _ _ f.wz hm ef.m h₁ E s₂ (f₁.keeps k₂).st) fun u s₃ h₃ => ?_))
  obtain ⟨k₃, d₂, fl₂, h₃, r₂⟩ := h₃
  obtain ⟨d, hK, hr⟩ := ibinW_ok (c := c) (A := A) h₃
  have f₃ := (f₁.keeps k₂).keeps k₃
  refine wpAny_bind (wpAny_standAt (wpAny_operating (mono (hr Z E s₃ old u f₃.st.pre (.of (ro.keeps k₃)) r₂.rt) fun w s₄ h₄ => ?_)))
  obtain ⟨k₄, rw', _, _⟩ := h₄
  have f₄ := f₃.keeps k₄
  have kk := ((k₁.trans k₂).trans k₃).trans k₄
  refine wpAny_bind (wpAny_standAt ?_)
  cases d₀ with
  | lst l =>
   cases di with
   | int k =>
    obtain ⟨n, hp, ⟨h0, hsm⟩, hQ⟩ := optW_ok hK
    obtain ⟨t, rfl⟩ := r₁.rt.int_inv
    have es : augStore j (.ref a) (.int k t) w = (do holding [w, .ref a, .int k t] (setItem (.ref a) (.int k t) w); release [w, .ref a, .int k t] []; pure .next) := by
      cases j <;> first | rfl | cases hsl
    rw [es]
    refine wpAny_bind (wpAny_holding (own_set ef f₄ hv ho (lx.keeps kk.get) (r₀.keeps kk) rw' hp h0 hsm fun s₅ f₅ l₅ => ?_))
    exact wpAny_bind (wpAny_release (wpAny_pure ⟨.next, _, Z, W, hQ, rfl, f₅, (Later.kp kk).trans l₅⟩))
   | _ => exact hK.elim
  | _ => exact hK.elim

theorem aS_setSub (S : Sd c A T ct.un ct.gl) (ef : EnvF ct env) {i : Nat} {idx e : X} {x : Str} {p q pos : Pos} {j v : Expr} {Q : Flw → List Slot → Prop} (hv : isVar ct i x = true) (hdb : (x == ("__debug__" : Str)) = false) (hnc : notComp v = true) (hsl : notSlice j = true) (hmj : mX ct idx j = true) (hm : mX ct e v = true)
    (h : wX T σ e fun d fl => clean fl d ∧ owned σ i fun d₀ => wX T σ idx fun di _ => match d₀, di with
    | .lst l, .int k => optW (posI l.length k) fun n => (0 ≤ k ∧ small k) ∧ Q .next (σ.set i (.ow (.lst (l.set n d))))
    | _, _ => False) : ExW c A ct env σ (exec (.Assign [.Subscript (.Name x p) j q] v pos) env) Q := by
  intro Z W E s f
  obtain ⟨hx, hk⟩ := isVar_kind hv
  rw [exec_Assign]
  refine wpAny_bind (wpAny_standAt ?_)
  rw [show swapsWithSole [.Subscript (.Name x p) j q] v pos.line env = pure false from (show swapsWith v (some (.Subscript (.Name x p) j q)) pos.line env = pure false from notComp_swaps hnc _ _)]
  refine wpAny_bind (wpAny_pure ?_)
  rw [if_neg (by decide)]
  refine wpAny_bind (mono (sX e ct S env Z W σ _ _ f.wz hm ef.m h E s f.st) fun u s₁ h₁ => ?_)
  obtain ⟨k₁, d, fl, ⟨hcl, h₁⟩, r⟩ := h₁
  have f₁ := f.keeps k₁
  have rv : R c s₁ (NZ Z) u d := by
    unfold clean at hcl
    rw [Bool.or_eq_true] at hcl
    rcases hcl with q | q
    · exact r.r q
    · exact (r.rt.scal q).1
  obtain ⟨a, d₀, ho, h₁, lx, r₀⟩ := ownLoc f₁ hx h₁
  rw [show swappedStores [.Subscript (.Name x p) j q] v env = pure none from by cases v <;> rfl]
  refine wpAny_bind (wpAny_pure ?_)
  show wpAny _ A (do assignAll u [assign (.Subscript (.Name x p) j q) env]; pure Flow.next) _ _ _
  refine wpAny_bind ?_
  show wpAny _ A (assign (.Subscript (.Name x p) j q) env u) _ _ _
  have ea : assign (.Subscript (.Name x p) j q) env u = (do
    let ov ← holding [u] (eval (.Name x p) env)
    let iv ← holding [u, ov] (eval j env)
    standAt q
    holding [u, ov, iv] (setItem ov iv u)
    release [u, ov, iv] []) := by
    clear hmj
    cases j <;> first | rfl | cases hsl
  rw [ea]
  refine wpAny_bind (wpAny_holding (SlotR.name ef.m.ok lx ?_ hdb))
  refine wpAny_bind (wpAny_holding (mono (sX idx ct S env Z W σ _ _ f.wz hmj ef.m h₁ E s₁ f₁.st) fun iv s₂ h₂ => ?_))
  obtain ⟨k₂, di, fli, h₂, r₂⟩ := h₂
  cases d₀ with
  | lst l =>
   cases di with
   | int k =>
    obtain ⟨n, hp, ⟨h0, hsm⟩, hQ⟩ := optW_ok h₂
    obtain ⟨t, rfl⟩ := r₂.rt.int_inv
    refine wpAny_bind (wpAny_standAt (wpAny_bind (wpAny_holding (own_set ef (f₁.keeps k₂) hv ho (lx.keeps k₂.get) (r₀.keeps k₂) (rv.keeps k₂) hp h0 hsm fun s₃ f₃ l₃ => ?_))))
    exact wpAny_release (wpAny_pure ⟨.next, _, Z, W, hQ, rfl, f₃, (Later.kp (k₁.trans k₂)).trans l₃⟩)
   | _ => exact h₂.elim
  | _ => exact h₂.elim
theorem aS_delSub (S : Sd c A T ct.un ct.gl) (ef : EnvF ct env) {i : Nat} {idx : X} {x : Str} {p q pos : Pos} {j : Expr} {Q : Flw → List Slot → Prop} (hv : isVar ct i x = true) (hdb : (x == ("__debug__" : Str)) = false) (hmj : mX ct idx j = true)
    (h : owned σ i fun d₀ => wX T σ idx fun di _ => match d₀, di with
    | .lst l, .int k => optW (posI l.length k) fun n => (small k ∧ l.length ≤ 16777216) ∧ Q .next (σ.set i (.ow (.lst (l.eraseIdx n))))
    | _, _ => False) : ExW c A ct env σ (exec (.Delete [.Subscript (.Name x p) j q] pos) env) Q := by
  intro Z W E s f
  obtain ⟨hx, hk⟩ := isVar_kind hv
  obtain ⟨a, d₀, ho, h, lx, r₀⟩ := ownLoc f hx h
  refine wpAny_Delete ?_
  show wpAny _ A (do delete (.Subscript (.Name x p) j q) env; deleteEach [] env) _ _ _
  refine wpAny_bind (wpAny_delete_Subscript (SlotR.name ef.m.ok lx ?_ hdb))
  refine mono (sX idx ct S env Z W σ _ _ f.wz hmj ef.m h E s f.st) fun iv s₁ h₁ => ?_
  obtain ⟨k₁, di, fli, h₁, r₁⟩ := h₁
  cases d₀ with
  | lst l =>
   cases di with
   | int k =>
    obtain ⟨n, hp, ⟨hsm, hl⟩, hQ⟩ := optW_ok h₁
    obtain ⟨t, rfl⟩ := r₁.rt.int_inv
    obtain ⟨a', vs, m, e, g, rl⟩ := (r₀.keeps k₁).lst_inv
    cases e
    obtain ⟨hseq, hn⟩ := posI_seq hp
    refine wpAny_delItem_plain (items := vs.toArray) ⟨m, g⟩ ?_ (k := n) (by rw [List.size_toArray, rl.length]; exact hseq) (fun h' hpl hs => ?_) (by rw [List.size_toArray, rl.length, sizeLine_eq]; exact hl)
    · unfold Builtin.List.listFitsIndex
      have s1 := hsm.1; have s2 := hsm.2
      rw [decide_eq_true (by omega : -(2 ^ 63 : Int) ≤ k), decide_eq_true (by omega : k < 2 ^ 63)]; rfl
    · obtain ⟨m', g'⟩ := hpl
      have e1 : vs.toArray.eraseIdxIfInBounds n = (vs.eraseIdx n).toArray := by simp
      rw [e1] at g'
      obtain ⟨f', l'⟩ := (f.keeps k₁).mutate ef hv ho (lx.keeps k₁.get) hs g' (rl.erase n)
      exact wpAny_deleteEach_nil ⟨.next, _, Z, W, hQ, rfl, f', (Later.kp k₁).trans l'⟩
   | _ => exact h₁.elim
  | _ => exact h₁.elim
theorem aS_app (S : Sd c A T ct.un ct.gl) (ef : EnvF ct env) {i : Nat} {e : X} {x : Str} {p apos pos pos' : Pos} {v : Expr} {Q : Flw → List Slot → Prop} (hv : isVar ct i x = true) (hdb : (x == ("__debug__" : Str)) = false) (hline : (apos.endLine == pos.line) = true) (hst : notStar v = true) (hm : mX ct e v = true)
    (h : owned σ i fun d₀ => match d₀ with
    | .lst l => wX T σ e fun d fl => clean fl d ∧ l.length ≤ 16777216 ∧ Q .next (σ.set i (.ow (.lst (l ++ [d]))))
    | _ => False) : ExW c A ct env σ (exec (.Expr (.Call (.Attribute (.Name x p) "append" apos) [v] [] pos) pos') env) Q := by
  intro Z W E s f
  obtain ⟨hx, hk⟩ := isVar_kind hv
  obtain ⟨a, d₀, ho, h, lx, r₀⟩ := ownLoc f hx h
  refine wpAny_Expr_any ?_ (by unfold interactive; rw [ef.m.ok.kind]; rfl) rfl
  have ht : backTo pos (starEach [v] env) = [(false, eval v env)] := by rw [starEach_cons hst]; rfl
  refine wpAny_Call_append rfl (by rw [ht]; rfl) hline ht (SlotR.name ef.m.ok lx ?_ hdb)
  cases d₀ with
  | lst l =>
    obtain ⟨a', vs, m, e', g, rl⟩ := r₀.lst_inv
    cases e'
    refine ⟨a, vs.toArray, rfl, ⟨_, m, g, rfl, rfl, rfl⟩, mono (sX e ct S env Z W σ _ _ f.wz hm ef.m h E s f.st) fun u s₁ h₁ => ?_⟩
    obtain ⟨k₁, d, fl, ⟨hcl, hl, hQ⟩, r⟩ := h₁
    have rv : R c s₁ (NZ Z) u d := by
      unfold clean at hcl
      rw [Bool.or_eq_true] at hcl
      rcases hcl with q | q
      · exact r.r q
      · exact (r.rt.scal q).1
    refine wpAny_list_append_plain ⟨m, k₁.get _ _ g⟩ (fun h' hpl hs => ?_) (by rw [List.size_toArray, rl.length, sizeLine_eq]; exact hl)
    obtain ⟨m', g'⟩ := hpl
    have g2 : h'.get? a = some (seqO "list" (vs ++ [u]) m') := by rw [g']; simp [seqO]
    obtain ⟨f', l'⟩ := (f.keeps k₁).mutate ef hv ho (lx.keeps k₁.get) hs g2 ((rl.keeps k₁).append (.cons rv .nil))
    exact ⟨.next, _, Z, W, hQ, rfl, f', (Later.kp k₁).trans l'⟩
  | _ => exact h.elim
end
end Mine

end

section
open PySem PySem.W PyProof.Rows
set_option Elab.async false
set_option linter.unusedVariables false
set_option maxRecDepth 4000
namespace Mine
section
variable {c : Cx} {A : Around} {T : Tab} {env : Env} {Z W : Addr → Prop} {σ : List Slot} {s₀ s : Shared} {E : Value → Shared → Prop} {ct : Ct} {ns : List Str}

theorem Rt.itr {fp : Addr → Prop} {s' : Shared} {v : Value} {d : Mine.D} {Z' : Addr → Prop} (r : Rt c s (NZ Z) v d) (k : KpBut fp s s') (hf : ∀ a, fp a → Z a) (hz : ∀ a, Z' a → Z a) (hi : ∀ x, fp x → Itr s.heap x) : Rt c s' (NZ Z') v d := by
  have kk : ∀ a o, NZ Z a → s.heap.get? a = some o → NZ Z' a ∧ s'.heap.get? a = some o := fun a o p e => ⟨fun h => p (hz a h), k.keep a o (fun h => p (hf a h)) e⟩
  have off : ∀ {a : Addr} {o : Obj}, s.heap.get? a = some o → (o.cls = .type "list" ∨ o.cls = .type "tuple" ∨ o.cls = .type "dict") → ¬ fp a := fun e hc h => by
    obtain ⟨o', e', n1, n2, n3⟩ := hi _ h
    rw [e] at e'; cases e'
    rcases hc with h | h | h
    · exact n1 h
    · exact n2 h
    · exact n3 h
  cases r with
  | of r => exact .of (r.trans k.tk kk)
  | tup g l => exact .tup (k.keep _ _ (off g (.inr (.inl rfl))) g) (l.trans k.tk kk)
  | lst g l => exact .lst (k.keep _ _ (off g (.inl rfl)) g) (l.trans k.tk kk)
  | dct g l =>
    refine .dct ?_ (l.trans k.tk kk)
    obtain ⟨o, es, ep, ho, hx, rest⟩ := g
    exact ⟨o, es, ep, k.keep _ _ (off ho (.inr (.inr hx.1))) ho, hx, rest⟩
theorem Later.toBut {fp Z₁ W₁ : Addr → Prop} {s' : Shared} (l : Later Z fp s Z₁ W₁ s') : KpBut fp s s' := ⟨l.ex, l.tk, l.keep⟩

/-- the iterators' own objects were turned, or go -/
theorem FSt.skip {fp Z' : Addr → Prop} {s' : Shared} (ef : EnvF ct env) (f : FSt c env Z W ct.ns σ s) (k : KpBut fp s s') (hf : ∀ a, fp a → Z a) (off : ∀ a, fp a → ¬ W a) (hi : ∀ x, fp x → Itr s.heap x) (hn : ∀ x, fp x → c.h₀.get? x = none)
    (hz : ∀ a, Z' a → Z a) (zin : ZIn Z' s'.heap) (wz : ∀ a, W a → Z' a) : FSt c env Z' W ct.ns σ s' := by
  have kk : ∀ a o, NZ Z a → s.heap.get? a = some o → NZ Z' a ∧ s'.heap.get? a = some o := fun a o p e => ⟨fun h => p (hz a h), k.keep a o (fun h => p (hf a h)) e⟩
  have hL : ¬ fp env.locals := fun h => off _ h f.loc
  have hC : ∀ x a, env.cells.lookup x = some a → ¬ fp a := fun x a h2 h => off a h (f.cells x a (by rw [ef.m.kindOf]; exact ef.hcc x a h2) h2).1
  have loc : ∀ {y : Str} {v : Value}, Loc env s.heap y v → Loc env s'.heap y v := fun {y v} l => by
    cases l with
    | loc m a b e => exact .loc m a (b.at fun o e => k.keep _ o hL e) e
    | cell a b e g => obtain ⟨o, ho, hd⟩ := g; exact .cell a b e ⟨o, k.keep _ o (hC y a e) ho, hd⟩
  refine ⟨⟨⟨fun b o e => k.keep b o (fun h => by rw [hn b h] at e; cases e) (f.st.pre.keep b o e), zin, Nat.le_trans f.st.pre.tks k.tk⟩, fun j y q h1 h2 => ?_⟩, wz, f.loc, let ⟨m, h⟩ := f.nsx; ⟨m, h.at fun o e => k.keep _ o hL e⟩,
    fun x a h1 h2 => ⟨(f.cells x a h1 h2).1, let ⟨v, o, ho, hd⟩ := (f.cells x a h1 h2).2; ⟨v, o, k.keep a o (hC x a h2) ho, hd⟩⟩, f.new, f.rts, fun j y d h1 h2 a lv => ?_⟩
  · have r := f.st.vars j y q h1 h2
    cases q with
    | un => trivial
    | cl d => obtain ⟨v, lv, r⟩ := r; exact ⟨v, loc lv, r.trans k.tk kk⟩
    | rt d =>
      obtain ⟨v, lv, r, q⟩ := r
      have r' := r.itr k hf hz hi
      refine ⟨v, loc lv, r', fun a e => ⟨(q a e).1, ?_⟩⟩
      have hs := f.rts j d h2
      cases d with
      | lst l => obtain ⟨b, vs, n, e', g, _⟩ := r'.lst_inv; rw [e'] at e; cases e; exact ⟨_, g⟩
      | tup l => obtain ⟨b, vs, n, e', g, _⟩ := r'.tup_inv; rw [e'] at e; cases e; exact ⟨_, g⟩
      | dct l => obtain ⟨b, kvs, e', g, _⟩ := r'.dct_inv; rw [e'] at e; cases e; exact DictOf_get g
      | _ => cases hs
    | ow d => obtain ⟨a, lv, r, q⟩ := r; exact ⟨a, loc lv, r.itr k hf hz hi, q⟩
  · have back : ∀ {j : Nat} {y : Str} {e : Mine.D} {b : Addr}, ct.ns[j]? = some y → σ[j]? = some (.ow e) → Loc env s'.heap y (.ref b) → Loc env s.heap y (.ref b) := fun {j y e b} h1 h2 l => by
      obtain ⟨b', l', _⟩ := f.st.vars j y _ h1 h2
      have := (loc l').fun l
      rw [← this]; exact l'
    obtain ⟨p, q, r⟩ := f.own j y d h1 h2 a (back h1 h2 lv)
    exact ⟨p, q, fun j y e g1 g2 l' => r j y e g1 g2 (back g1 g2 l')⟩
/-- an iterator's objects are counted in -/
theorem FSt.hide {fp : Addr → Prop} {s' : Shared} (f : FSt c env Z W ns σ s) (k : Kp s s') (h0 : ∀ a, fp a → s.heap.get? a = none) (h1 : ∀ a, fp a → ∃ o, s'.heap.get? a = some o) : FSt c env (fun b => Z b ∨ fp b) W ns σ s' := by
  have f' := f.keeps k
  have lz : Later Z (fun _ => False) s (fun b => Z b ∨ fp b) (fun _ => False) s' := .ofKp k (fun b h => .inl h) fun b h => h.imp id (h0 b)
  refine ⟨⟨⟨f'.st.pre.keep, fun b h => h.elim (f'.st.pre.zin b) (h1 b), f'.st.pre.tks⟩, fun j y q g1 g2 => ?_⟩, fun b h => .inl (f.wz b h), f.loc, f'.nsx, f'.cells, f.new, f.rts, f'.own⟩
  have r := f.st.vars j y q g1 g2
  cases q with
  | un => trivial
  | cl d => obtain ⟨v, lv, r⟩ := r; exact ⟨v, lv.keeps k.get, lz.r0 r⟩
  | rt d => obtain ⟨v, lv, r, q⟩ := r; exact ⟨v, lv.keeps k.get, lz.rt0 r, fun b e => ⟨(q b e).1, let ⟨o, h⟩ := (q b e).2; ⟨o, k.get b o h⟩⟩⟩
  | ow d => obtain ⟨b, lv, r, q⟩ := r; exact ⟨b, lv.keeps k.get, lz.rt0 r, q⟩
/-- the own list is anybody's from here -/
theorem FSt.demote {i : Nat} {d : Mine.D} (f : FSt c env Z W ns σ s) (hd : d.isSeq = true) (h : σ[i]? = some (.ow d)) (hnd : ns.Nodup) : ∃ W', FSt c env Z W' ns (σ.set i (.rt d)) s ∧ (∀ a, W' a → W a) := by
  cases hx : ns[i]? with
  | none =>
    refine ⟨W, ⟨⟨f.st.pre, fun j y q g1 g2 => ?_⟩, f.wz, f.loc, f.nsx, f.cells, f.new, fun j e g => ?_, fun j y e g1 g2 a lv => ?_⟩, fun _ h => h⟩
    · have hj : i ≠ j := fun e => by rw [← e, hx] at g1; cases g1
      rw [getElem?_set_ne' hj] at g2; exact f.st.vars j y q g1 g2
    · by_cases hj : i = j
      · subst hj
        rw [List.getElem?_set] at g
        simp only [if_true] at g
        split at g <;> cases g
        exact hd
      · rw [getElem?_set_ne' hj] at g; exact f.rts j e g
    · have hj : i ≠ j := fun e => by rw [← e, hx] at g1; cases g1
      rw [getElem?_set_ne' hj] at g2
      obtain ⟨p, q, r⟩ := f.own j y e g1 g2 a lv
      refine ⟨p, q, fun k z u k1 k2 lz => ?_⟩
      have hk : i ≠ k := fun e => by rw [← e, hx] at k1; cases k1
      rw [getElem?_set_ne' hk] at k2
      exact r k z u k1 k2 lz
  | some x =>
    obtain ⟨a, lx, r, wa⟩ := f.st.vars i x _ hx h
    obtain ⟨m1, m2, m3⟩ := f.own i x d hx h a lx
    have hno : ∀ j y e, j ≠ i → ns[j]? = some y → σ[j]? = some (.ow e) → ¬ Loc env s.heap y (.ref a) := fun j y e hj g1 g2 lv => hj (m3 j y e g1 g2 lv).symm
    refine ⟨fun b => W b ∧ b ≠ a, ⟨⟨f.st.pre, fun j y q g1 g2 => ?_⟩, fun b hb => f.wz b hb.1, ⟨f.loc, Ne.symm m1⟩, f.nsx, fun y b g1 g2 => ⟨⟨(f.cells y b g1 g2).1, fun e => m2 y b g1 g2 e.symm⟩, (f.cells y b g1 g2).2⟩, fun b hb => f.new b hb.1, fun j e g => ?_, fun j y e g1 g2 b lv => ?_⟩, fun _ h => h.1⟩
    · by_cases hj : i = j
      · subst hj
        rw [hx] at g1; cases g1
        rw [List.getElem?_set] at g2
        simp only [if_true] at g2
        split at g2 <;> cases g2
        exact ⟨.ref a, lx, r, fun b e => by cases e; exact ⟨fun hb => hb.2 rfl, f.st.pre.zin a (f.wz a wa)⟩⟩
      · rw [getElem?_set_ne' hj] at g2
        have rr := f.st.vars j y q g1 g2
        cases q with
        | un => trivial
        | cl e => exact rr
        | rt e => obtain ⟨v, lv, r, q⟩ := rr; exact ⟨v, lv, r, fun b e => ⟨fun hb => (q b e).1 hb.1, (q b e).2⟩⟩
        | ow e => obtain ⟨b, lv, r, q⟩ := rr; exact ⟨b, lv, r, q, fun e' => hno j y e (Ne.symm hj) g1 g2 (e' ▸ lv)⟩
    · by_cases hj : i = j
      · subst hj
        rw [List.getElem?_set] at g
        simp only [if_true] at g
        split at g <;> cases g
        exact hd
      · rw [getElem?_set_ne' hj] at g; exact f.rts j e g
    · have key : ∀ {k : Nat} {u : Mine.D}, (σ.set i (.rt d))[k]? = some (.ow u) → i ≠ k ∧ σ[k]? = some (.ow u) := fun {k u} g => by
        by_cases hk : i = k
        · subst hk
          rw [List.getElem?_set] at g
          simp only [if_true] at g
          split at g <;> cases g
        · exact ⟨hk, by rw [getElem?_set_ne' hk] at g; exact g⟩
      obtain ⟨hj, g2⟩ := key g2
      obtain ⟨p, q, r⟩ := f.own j y e g1 g2 b lv
      exact ⟨p, q, fun k z u k1 k2 lz => r k z u k1 (key k2).2 lz⟩
end
end Mine

end

section
open PySem PySem.W PyProof.Rows
set_option Elab.async false
set_option linter.unusedVariables false
set_option maxRecDepth 4000
namespace Mine
section
variable {c : Cx} {A : Around} {T : Tab} {env : Env} {Z W : Addr → Prop} {σ : List Slot} {s₀ s : Shared} {E : Value → Shared → Prop} {ct : Ct}

theorem Done.mono {ns : List Str} {Q Q' : Flw → List Slot → Prop} {f : Flow} {s' : Shared} (d : Done c env Z W ns s Q f s') (h : ∀ f σ, Q f σ → Q' f σ) : Done c env Z W ns s Q' f s' := by
  obtain ⟨fw, σ', Z', W', q, r, g, l⟩ := d
  exact ⟨fw, σ', Z', W', h _ _ q, r, g, l⟩

theorem tgt_ok (hh : A.handled = none) (ef : EnvF ct env) (f : FSt c env Z W ct.ns σ s) {is : List Nat} {tgt : Expr} {v : Value} {d : Mine.D} {l : List (Nat × Slot)} (ht : isTgt ct is tgt = true) (r : R c s (NZ Z) v d) (hl : tgtS is d = some l) :
    wpAny (model c.prog c.w) A (assign tgt env v) (fun _ s' => Got c env Z W ct.ns (setAll l σ) s s') E s := by
  unfold isTgt at ht
  split at ht
  · rename_i i x p
    simp only [tgtS] at hl
    cases hl
    exact wpAny_assign_Name (f.assign (own := false) (fl := .cl) ef .rfl' ht (by simp [slotOf, Fl.isR]) r)
  · rename_i i j is es k p
    simp only [Bool.and_eq_true] at ht
    simp only [tgtS] at hl
    split at hl
    · exact mono (assignTup hh ef f ht.1 (.of r) rfl hl) fun _ s' h => ⟨Z, W, h.1, h.2⟩
    · cases hl
  · cases ht

theorem aS_for_core (hh : A.handled = none) (ef : EnvF ct env) {is : List Nat} {tgt iter : Expr} {b1 b2 : List Stmt} {pos : Pos} {step orl : List Slot → (Flw → List Slot → Prop) → Prop} {Q : Flw → List Slot → Prop} (ht : isTgt ct is tgt = true) (hset : ∀ v, foldedSetIterable iter env v = pure v)
    (f : FSt c env Z W ct.ns σ s) (hit : wpAny (model c.prog c.w) A (eval iter env) (fun xv s₁ => wpAny (model c.prog c.w) A (pyIter xv)
      (fun it s₂ => ∃ I ds, ∃ fl : Fl, ∃ fp : Addr → Prop, it = .ref I ∧ (fl ≠ .ow ∧ forW is step orl ds σ Q) ∧ Kp s s₂ ∧ (∀ x, fp x → s.heap.get? x = none) ∧ (∀ x, fp x → Itr s₂.heap x) ∧ fp I ∧
        (∀ (E : Value → Shared → Prop) (Q : Value → Shared → Prop) (s₃ : Shared), (∀ o, s₂.heap.get? I = some o → s₃.heap.get? I = some o) → Q (.ref I) s₃ → wpAny (model c.prog c.w) A (pyIter (.ref I)) Q E s₃) ∧
        ∀ Z' W' : Addr → Prop, (∀ x, W' x → Z' x) → (∀ x, fp x → Z' x) → (∀ x, Z' x → Z x ∨ fp x) → (∀ x, W' x → ¬ fp x) → (∀ x, W' x → W x) → (fl = .ow → ∀ x, ¬ W' x) → ItOk c A tgt I fp ds Z' W' s₂) E s₁) E s)
    (hstep : ∀ σ Q, step σ Q → ExW c A ct env σ (execs b1 env) Q) (horl : ∀ σ Q, orl σ Q → ExW c A ct env σ (execs b2 env) Q) : wpAny (model c.prog c.w) A (exec (.For tgt iter b1 b2 pos) env) (Done c env Z W ct.ns s Q) E s := by
  refine wpAny_For ?_ hset
  refine mono hit fun xv s₁ h₁ => mono h₁ fun iv s₂ h₂ => ?_
  obtain ⟨I, ds, fl, fp, rfl, ⟨hfl, hK⟩, k, hfz, hfe, hfI, hself, hok⟩ := h₂
  have zfp : ∀ a, Z a → ¬ fp a := fun a h hf => by obtain ⟨o, e⟩ := f.st.pre.zin a h; rw [hfz a hf] at e; cases e
  have hn₀ : ∀ x, fp x → c.h₀.get? x = none := fun x hx => by
    cases q : c.h₀.get? x with
    | none => rfl
    | some o => have := f.st.pre.keep x o q; rw [hfz x hx] at this; cases this
  have hok := hok (fun a => Z a ∨ fp a) W (fun a h => .inl (f.wz a h)) (fun _ h => .inr h) (fun _ h => h) (fun a h => zfp a (f.wz a h)) (fun _ h => h) (fun h => absurd h hfl)
  have f₂ := f.hide k hfz fun a h => let ⟨o, e, _⟩ := hfe a h; ⟨o, e⟩
  have l₂ : Later Z W s (fun a => Z a ∨ fp a) W s₂ := by
    have l : Later Z W s Z W s₂ := .kp k
    exact ⟨l.ex, l.tk, l.keep, l.dom, fun a h => .inl h, fun a h => h.imp id (hfz a), l.wnew⟩
  refine codeAny_forLoop_any (fun n s' => ∃ ds σ' Zi Wi si Z' W', n = ds.length ∧ forW is step orl ds σ' Q ∧ FSt c env Z' W' ct.ns σ' s' ∧ ItOk c A tgt I fp ds Zi Wi si ∧ Later Zi Wi si Z' W' s' ∧ (∀ x, fp x → Z' x) ∧ (∀ x, fp x → ¬ W' x) ∧ (∀ x, fp x → Itr s'.heap x) ∧ Later Z W s Z' W' s')
    ?_ ds.length ⟨ds, σ, _, _, s₂, _, W, rfl, hK, f₂, hok, .refl, fun _ h => .inr h, fun a h hw => zfp a (f.wz a hw) h, hfe, l₂⟩
  rintro n s' ⟨ds, σ', Zi, Wi, si, Z', W', rfl, hK, f', hok, li, hfZ, hfW, hfI', ls⟩
  have nfp : ∀ b o, s.heap.get? b = some o → ¬ fp b := fun b o e h => by rw [hfz b h] at e; cases e
  cases ds with
  | nil =>
    refine mono (hok _ Z' W' s' li f'.wz f'.st.pre.zin) fun r s₄ hr => ?_
    obtain ⟨rfl, kb⟩ := hr
    have z4 : ZIn (fun a => Z' a ∧ ¬ fp a) s₄.heap := fun a h => by obtain ⟨o, e⟩ := f'.st.pre.zin a h.1; exact ⟨o, kb.keep a o h.2 e⟩
    have f₄ : FSt c env (fun a => Z' a ∧ ¬ fp a) W' ct.ns σ' s₄ := f'.skip ef kb hfZ hfW hfI' hn₀ (fun a h => h.1) z4 fun a h => ⟨f'.wz a h, fun h' => hfW a h' h⟩
    have l₄ : Later Z W s (fun a => Z' a ∧ ¬ fp a) W' s₄ := by
      refine ⟨?_, Nat.le_trans ls.tk kb.tk, fun b o hb e => kb.keep b o (nfp b o e) (ls.keep b o hb e), fun b o e => ?_, fun a h => ⟨ls.z a h, zfp a h⟩, fun a h => ls.znew a h.1, ls.wnew⟩
      · obtain ⟨h1, t1, e1⟩ := ls.ex; obtain ⟨h2, t2, e2⟩ := kb.ex; exact ⟨h2, t2, by rw [e2, e1]⟩
      · obtain ⟨o', e'⟩ := ls.dom b o e; exact ⟨o', kb.keep b o' (nfp b o e) e'⟩
    exact mono (horl σ' Q hK _ _ _ s₄ f₄) fun fw s₅ h₅ => h₅.trans l₄
  | cons d ds =>
    refine mono (hok _ Z' W' s' li f'.wz f'.st.pre.zin) fun r s₁' hr => ?_
    obtain ⟨v, rfl, hr⟩ := hr
    refine mono hr fun _ s₃ hr => ?_
    obtain ⟨l₃, rd, hi₃, hok'⟩ := hr
    have z₃ : ZIn Z' s₃.heap := fun a h => by obtain ⟨o, e⟩ := f'.st.pre.zin a h; exact l₃.dom a o e
    have f₃ : FSt c env Z' W' ct.ns σ' s₃ := f'.skip ef l₃.toBut hfZ hfW hfI' hn₀ (fun a h => h) z₃ f'.wz
    have ls₃ : Later Z W s Z' W' s₃ := by
      refine ⟨?_, Nat.le_trans ls.tk l₃.tk, fun b o hb e => l₃.keep b o (nfp b o e) (ls.keep b o hb e), fun b o e => ?_, ls.z, ls.znew, ls.wnew⟩
      · obtain ⟨h1, t1, e1⟩ := ls.ex; obtain ⟨h2, t2, e2⟩ := l₃.ex; exact ⟨h2, t2, by rw [e2, e1]⟩
      · obtain ⟨o', e'⟩ := ls.dom b o e; exact l₃.dom b o' e'
    unfold forW at hK
    obtain ⟨l, hl, hK⟩ := optW_ok hK
    refine mono (tgt_ok hh ef f₃ ht rd hl) fun _ s₄ hg => ?_
    obtain ⟨Z₄, W₄, f₄, l₄⟩ := hg
    refine mono (hstep _ _ hK _ _ _ s₄ f₄) fun fw s₅ h₅ => ?_
    obtain ⟨fw', σ₅, Z₅, W₅, hQ, hfl, f₅, l₅⟩ := h₅
    have l₃₅ := l₄.trans l₅
    have lsAll := ls₃.trans l₃₅
    have again : forW is step orl ds σ₅ Q → ∃ m, m < (d :: ds).length ∧ ∃ ds σ' Zi Wi si Z' W', m = ds.length ∧ forW is step orl ds σ' Q ∧ FSt c env Z' W' ct.ns σ' s₅ ∧ ItOk c A tgt I fp ds Zi Wi si ∧ Later Zi Wi si Z' W' s₅ ∧ (∀ x, fp x → Z' x) ∧ (∀ x, fp x → ¬ W' x) ∧ (∀ x, fp x → Itr s₅.heap x) ∧ Later Z W s Z' W' s₅ := fun hq =>
      ⟨ds.length, Nat.lt_succ_self _, ds, σ₅, Z', W', s₃, Z₅, W₅, rfl, hq, f₅, hok', l₃₅, fun x h => l₃₅.z x (hfZ x h), fun x h hw => (l₃₅.wnew x hw).elim (hfW x h) (fun e => by obtain ⟨o, q, _⟩ := hi₃ x h; rw [e] at q; cases q),
        fun x h => let ⟨o, e, q⟩ := hi₃ x h; ⟨o, l₃₅.keep x o (hfW x h) e, q⟩, lsAll⟩
    cases fw' with
    | next => have : fw = .next := hfl; subst this; exact again hQ
    | cont => have : fw = .cont := hfl; subst this; exact again hQ
    | brk => have : fw = .brk := hfl; subst this; exact ⟨.next, σ₅, Z₅, W₅, hQ, rfl, f₅, lsAll⟩
    | ret d' fl' => obtain ⟨u, rfl, hr⟩ := hfl; exact ⟨.ret d' fl', σ₅, Z₅, W₅, hQ, ⟨u, rfl, hr⟩, f₅, lsAll⟩

theorem aS_for (S : Sd c A T ct.un ct.gl) (ef : EnvF ct env) {is : List Nat} {it : It} {tgt iter : Expr} {b1 b2 : List Stmt} {pos : Pos} {step orl : List Slot → (Flw → List Slot → Prop) → Prop} {Q : Flw → List Slot → Prop} (ht : isTgt ct is tgt = true) (hp : 1 < is.length ∨ itPlain it = true) (hmi : mIt ct it iter = true)
    (h : wIt T σ it fun ds fl => fl ≠ .ow ∧ forW is step orl ds σ Q) (hstep : ∀ σ Q, step σ Q → ExW c A ct env σ (execs b1 env) Q) (horl : ∀ σ Q, orl σ Q → ExW c A ct env σ (execs b2 env) Q) : ExW c A ct env σ (exec (.For tgt iter b1 b2 pos) env) Q := by
  intro Z W E s f
  refine aS_for_core S.hh ef ht (mIt_set hmi) f (sIt it ct S env Z W σ _ _ tgt f.wz hmi ef.m h (fun hn => ?_) E s f.st) hstep horl
  have h2 := hp.resolve_right (by rw [hn]; exact Bool.false_ne_true)
  unfold isTgt at ht
  split at ht
  · simp at h2
  · exact ⟨_, _, _, rfl⟩
  · cases ht

theorem aS_while (S : Sd c A T ct.un ct.gl) (ef : EnvF ct env) {t : B} {tc : Expr} {b1 : List Stmt} {pos : Pos} {step : List Slot → (Flw → List Slot → Prop) → Prop} {Q : Flw → List Slot → Prop} {n : Nat} (hm : mB ct t tc = true) (h : whilW (fun σ K => wB T σ t K) step n σ Q)
    (hstep : ∀ σ Q, step σ Q → ExW c A ct env σ (execs b1 env) Q) : ExW c A ct env σ (exec (.While tc b1 [] pos) env) Q := by
  intro Z W E s f
  refine wpAny_While ?_
  refine codeAny_whileLoop (fun n s' => ∃ σ' Z' W', whilW (fun σ K => wB T σ t K) step n σ' Q ∧ FSt c env Z' W' ct.ns σ' s' ∧ Later Z W s Z' W' s') ?_ n ⟨σ, Z, W, h, f, .refl⟩
  rintro n s' ⟨σ', Z', W', hK, f', ls⟩
  cases n with
  | zero => exact hK.elim
  | succ n =>
    unfold whilW at hK
    refine mono (sB t ct S env Z' W' σ' _ _ f'.wz hm ef.m hK _ s' f'.st) fun r s₁ h₁ => ?_
    obtain ⟨k₁, h1, h0⟩ := h₁
    have f₁ := f'.keeps k₁
    have l₁ : Later Z W s Z' W' s₁ := ls.trans (.kp k₁)
    cases r with
    | false => exact wpAny_execs_nil ⟨.next, σ', Z', W', h0 rfl, rfl, f₁, l₁⟩
    | true =>
      rw [if_pos rfl]
      refine mono (hstep _ _ (h1 rfl) _ _ _ s₁ f₁) fun fw s₂ h₂ => ?_
      obtain ⟨fw', σ₅, Z₅, W₅, hQ, hfl, f₅, l₅⟩ := h₂
      have la := l₁.trans l₅
      cases fw' with
      | next => have : fw = .next := hfl; subst this; exact ⟨n, Nat.lt_succ_self _, σ₅, Z₅, W₅, hQ, f₅, la⟩
      | cont => have : fw = .cont := hfl; subst this; exact ⟨n, Nat.lt_succ_self _, σ₅, Z₅, W₅, hQ, f₅, la⟩
      | brk => have : fw = .brk := hfl; subst this; exact ⟨.next, σ₅, Z₅, W₅, hQ, rfl, f₅, la⟩
      | ret d' fl' => obtain ⟨u, rfl, hr⟩ := hfl; exact ⟨.ret d' fl', σ₅, Z₅, W₅, hQ, ⟨u, rfl, hr⟩, f₅, la⟩
end
end Mine

end

section
open PySem PySem.W PyProof.Rows
set_option Elab.async false
set_option linter.unusedVariables false
set_option maxRecDepth 4000
namespace Mine
section
variable {c : Cx} {A : Around} {T : Tab} {env : Env} {Z W : Addr → Prop} {σ : List Slot} {s₀ s : Shared} {E : Value → Shared → Prop} {ct : Ct}

theorem aS_unpack (S : Sd c A T ct.un ct.gl) (ef : EnvF ct env) {is : List Nat} {e : X} {es : List Expr} {k : Nat} {p pos : Pos} {v : Expr} {Q : Flw → List Slot → Prop} (hv : isVars ct is es = true) (hnt : notTuple v = true) (hm : mX ct e v = true)
    (h : wX T σ e fun d fl => optW (seqOf d) fun ds => optW (clsOf is ds) fun l => Q .next (setAll l σ)) : ExW c A ct env σ (exec (.Assign [.Tuple es k p] v pos) env) Q := by
  intro Z W E s f
  refine Assign_Tuple (mono (sX e ct S env Z W σ _ _ f.wz hm ef.m h E s f.st) fun u s₁ h₁ => ?_) (hs := by cases v <;> rfl) (hw := by cases v <;> first | rfl | cases hnt)
  obtain ⟨k₁, d, fl, h₁, r⟩ := h₁
  obtain ⟨ds, hs, h₁⟩ := optW_ok h₁
  obtain ⟨l, hl, hQ⟩ := optW_ok h₁
  exact mono (assignTup S.hh ef (f.keeps k₁) hv r.rt hs hl) fun _ s₂ h₂ => ⟨.next, _, Z, W, hQ, rfl, h₂.1, (Later.kp k₁).trans h₂.2⟩

theorem chain_one (ef : EnvF ct env) {d : Mine.D} {u : Value} {i : Nat} {x : Str} {p : Pos} (h : isVar ct i x = true) (f : FSt c env Z W ct.ns σ s) (r : R c s (NZ Z) u d) :
    wpAny (model c.prog c.w) A (assign (.Name x p) env u) (fun _ s' => FSt c env Z W ct.ns (σ.set i (.cl d)) s' ∧ Later Z W s Z W s' ∧ R c s' (NZ Z) u d) E s := by
  refine wpAny_assign_Name (f.storeIn (p := ⟨i, .cl d, u⟩) (rest := []) ef h ⟨fun p hp => ?_, fun p hp a ha => ?_, List.pairwise_singleton _ _⟩ fun s' f' l' _ => ⟨f', l', r.later l' f.wz⟩)
  · rw [List.mem_singleton] at hp; subst hp; exact r
  · rw [List.mem_singleton] at hp; subst hp; obtain ⟨⟨q, hq⟩, _⟩ := ha; cases hq
theorem isVars_cons {is : List Nat} {e : Expr} {es : List Expr} (h : isVars ct is (e :: es) = true) : ∃ i is' x p, is = i :: is' ∧ e = .Name x p ∧ isVar ct i x = true ∧ isVars ct is' es = true := by
  cases is with
  | nil => simp [isVars] at h
  | cons i is =>
    cases e with
    | Name x p => simp only [isVars, Bool.and_eq_true] at h; exact ⟨_, _, _, _, rfl, rfl, h.1, h.2⟩
    | _ => simp [isVars] at h
theorem chain_all (ef : EnvF ct env) {d : Mine.D} {u : Value} (es : List Expr) : ∀ {is : List Nat} {σ : List Slot} {s : Shared}, isVars ct is es = true → FSt c env Z W ct.ns σ s → R c s (NZ Z) u d →
    wpAny (model c.prog c.w) A (assignAll u ((assignEach es env).map (·.2))) (fun _ s' => FSt c env Z W ct.ns (setAll (is.map fun i => (i, .cl d)) σ) s' ∧ Later Z W s Z W s') E s := by
  induction es with
  | nil =>
    intro is σ s h f r
    cases is with
    | nil => exact wpAny_pure ⟨f, .refl⟩
    | cons _ _ => simp [isVars] at h
  | cons e es ih =>
    intro is σ s h f r
    obtain ⟨i, is', x, p, rfl, rfl, hx, hr⟩ := isVars_cons h
    cases es with
    | nil =>
      cases is' with
      | cons _ _ => simp [isVars] at hr
      | nil => exact mono (chain_one ef hx f r) fun _ s' h' => ⟨h'.1, h'.2.1⟩
    | cons e es =>
      obtain ⟨j, is'', y, q, rfl, rfl, hy, hr'⟩ := isVars_cons hr
      show wpAny _ A (do holding [u] (assign (.Name x p) env u); assignAll u ((assignEach (.Name y q :: es) env).map (·.2))) _ _ _
      refine wpAny_bind (wpAny_holding (mono (chain_one ef hx f r) fun _ s' h' => ?_))
      exact mono (ih hr h'.1 h'.2.2) fun _ s'' h'' => ⟨h''.1, h'.2.1.trans h''.2⟩
theorem aS_chain (S : Sd c A T ct.un ct.gl) (ef : EnvF ct env) {is : List Nat} {e : X} {es : List Expr} {pos : Pos} {v : Expr} {Q : Flw → List Slot → Prop} (hv : isVars ct is es = true) (hlen : 1 < es.length) (hm : mX ct e v = true)
    (h : wX T σ e fun d fl => clean fl d ∧ Q .next (setAll (is.map fun i => (i, .cl d)) σ)) : ExW c A ct env σ (exec (.Assign es v pos) env) Q := by
  intro Z W E s f
  rw [exec_Assign]
  refine wpAny_bind (wpAny_standAt ?_)
  have e1 : swapsWithSole es v pos.line env = pure false := by
    match es, hlen with
    | _ :: _ :: _, _ => rfl
  have e2 : swappedStores es v env = pure none := by
    match es, hlen with
    | a :: b :: r, _ => unfold swappedStores; cases a <;> rfl
  rw [e1]
  refine wpAny_bind (wpAny_pure ?_)
  rw [if_neg (by decide)]
  refine wpAny_bind (mono (sX e ct S env Z W σ _ _ f.wz hm ef.m h E s f.st) fun u s₁ h₁ => ?_)
  obtain ⟨k₁, d, fl, ⟨hcl, hQ⟩, r⟩ := h₁
  have rv : R c s₁ (NZ Z) u d := by
    unfold clean at hcl
    rw [Bool.or_eq_true] at hcl
    rcases hcl with q | q
    · exact r.r q
    · exact (r.rt.scal q).1
  rw [e2]
  refine wpAny_bind (wpAny_pure ?_)
  show wpAny _ A (do assignAll u ((assignEach es env).map (·.2)); pure Flow.next) _ _ _
  exact wpAny_bind (mono (chain_all ef es hv (f.keeps k₁) rv) fun _ s₂ h₂ => wpAny_pure ⟨.next, _, Z, W, hQ, rfl, h₂.1, (Later.kp k₁).trans h₂.2⟩)

mutual
theorem sS : ∀ (x : S) (ct : Ct) (Sg : Sd c A T ct.un ct.gl) (env : Env) (ef : EnvF ct env) (σ : List Slot) (Q : Flw → List Slot → Prop) (st : Stmt), mS ct x st = true → wS T x σ Q → ExW c A ct env σ (exec st env) Q
  | .assign i own e, ct, Sg, env, ef, σ, Q, st, hm, h => by
    unfold mS at hm; split at hm
    · simp only [Bool.and_eq_true] at hm
      unfold wS at h
      exact aS_assign Sg ef hm.1 hm.2 h
    · cases hm
  | .chain is e, ct, Sg, env, ef, σ, Q, st, hm, h => by
    unfold mS at hm; split at hm
    · simp only [Bool.and_eq_true, decide_eq_true_eq] at hm
      unfold wS at h
      exact aS_chain Sg ef hm.1.1.1.1 hm.1.1.1.2 hm.2 h
    · cases hm
  | .unpack is e, ct, Sg, env, ef, σ, Q, st, hm, h => by
    unfold mS at hm; split at hm
    · simp only [Bool.and_eq_true, decide_eq_true_eq] at hm
      unfold wS at h
      exact aS_unpack Sg ef hm.1.1.1 hm.1.1.2 hm.2 h
    · cases hm
  | .unpackT is xs, ct, Sg, env, ef, σ, Q, st, hm, h => by
    unfold mS at hm; split at hm
    · simp only [Bool.and_eq_true, decide_eq_true_eq] at hm
      unfold wS at h
      exact aS_unpackT Sg ef hm.1.1.1 hm.1.1.2 hm.1.2 hm.2 h
    · cases hm
  | .aug i op e, ct, Sg, env, ef, σ, Q, st, hm, h => by
    unfold mS at hm; split at hm
    · simp only [Bool.and_eq_true, beq_iff_eq] at hm
      obtain ⟨⟨⟨h1, _⟩, rfl⟩, h2⟩ := hm
      unfold wS at h
      exact aS_aug Sg ef h1 h2 h
    · cases hm
  | .augSub i idx op e, ct, Sg, env, ef, σ, Q, st, hm, h => by
    unfold mS at hm; split at hm
    · simp only [Bool.and_eq_true, beq_iff_eq, Bool.not_eq_true'] at hm
      obtain ⟨⟨⟨⟨⟨h1, h2⟩, rfl⟩, h3⟩, h4⟩, h5⟩ := hm
      unfold wS at h
      exact aS_augSub Sg ef h1 h2 h3 h4 h5 h
    · cases hm
  | .setSub i idx e, ct, Sg, env, ef, σ, Q, st, hm, h => by
    unfold mS at hm; split at hm
    · simp only [Bool.and_eq_true, beq_iff_eq, Bool.not_eq_true'] at hm
      obtain ⟨⟨⟨⟨⟨h1, h2⟩, h3⟩, h4⟩, h5⟩, h6⟩ := hm
      unfold wS at h
      exact aS_setSub Sg ef h1 h2 h3 h4 h5 h6 h
    · cases hm
  | .delSub i idx, ct, Sg, env, ef, σ, Q, st, hm, h => by
    unfold mS at hm; split at hm
    · simp only [Bool.and_eq_true, beq_iff_eq, Bool.not_eq_true'] at hm
      obtain ⟨⟨⟨h1, h2⟩, h3⟩, h4⟩ := hm
      unfold wS at h
      exact aS_delSub Sg ef h1 h2 h4 h
    · cases hm
  | .app i e, ct, Sg, env, ef, σ, Q, st, hm, h => by
    unfold mS at hm; split at hm
    · simp only [Bool.and_eq_true, beq_iff_eq, Bool.not_eq_true'] at hm
      obtain ⟨⟨⟨⟨⟨h1, h2⟩, rfl⟩, h4⟩, h5⟩, h6⟩ := hm
      unfold wS at h
      exact aS_app Sg ef h1 h2 (by rw [h4]; exact beq_self_eq_true _) h5 h6 h
    · cases hm
  | .ife t a b, ct, Sg, env, ef, σ, Q, st, hm, h => by
    unfold mS at hm; split at hm
    · simp only [Bool.and_eq_true] at hm
      unfold wS at h
      intro Z W E s f
      rw [exec_If]
      refine wpAny_bind (wpAny_standAt (wpAny_bind (mono (sB t ct Sg env Z W σ _ _ f.wz hm.1.1 ef.m h E s f.st) fun r s₁ h₁ => ?_)))
      obtain ⟨k₁, h1, h0⟩ := h₁
      cases r with
      | true => exact mono (sSs a ct Sg env ef σ Q _ hm.1.2 (h1 rfl) Z W E s₁ (f.keeps k₁)) fun fw s₂ h₂ => h₂.trans (.kp k₁)
      | false => exact mono (sSs b ct Sg env ef σ Q _ hm.2 (h0 rfl) Z W E s₁ (f.keeps k₁)) fun fw s₂ h₂ => h₂.trans (.kp k₁)
    · cases hm
  | .forS is it body orelse, ct, Sg, env, ef, σ, Q, st, hm, h => by
    unfold mS at hm; split at hm
    · simp only [Bool.and_eq_true, Bool.or_eq_true, decide_eq_true_eq] at hm
      obtain ⟨⟨⟨⟨h1, h2⟩, h3⟩, h4⟩, h5⟩ := hm
      unfold wS at h
      exact aS_for Sg ef h1 h2 h3 h (fun σ' Q' h' => sSs body ct Sg env ef σ' Q' _ h4 h') (fun σ' Q' h' => sSs orelse ct Sg env ef σ' Q' _ h5 h')
    · cases hm
  | .whil t body, ct, Sg, env, ef, σ, Q, st, hm, h => by
    unfold mS at hm; split at hm
    · simp only [Bool.and_eq_true] at hm
      unfold wS at h
      obtain ⟨n, h⟩ := h
      exact aS_while Sg ef hm.1 h (fun σ' Q' h' => sSs body ct Sg env ef σ' Q' _ hm.2 h')
    · cases hm
  | .ret e, ct, Sg, env, ef, σ, Q, st, hm, h => by
    unfold mS at hm; split at hm
    · unfold wS at h
      intro Z W E s f
      rw [exec_Return_some]
      refine wpAny_bind (wpAny_standAt (wpAny_bind (mono (sX e ct Sg env Z W σ _ _ f.wz hm ef.m h E s f.st) fun v s₁ h₁ => ?_)))
      obtain ⟨k₁, d, fl, hQ, r⟩ := h₁
      exact wpAny_pure ⟨.ret d fl, σ, Z, W, hQ, ⟨v, rfl, fun h => r.r h, r.rt⟩, f.keeps k₁, .kp k₁⟩
    · cases hm
  | .brk, ct, Sg, env, ef, σ, Q, st, hm, h => by
    unfold mS at hm; split at hm
    · unfold wS at h
      exact fun Z W E s f => wpAny_Break ⟨.brk, σ, Z, W, h, rfl, f, .refl⟩
    · cases hm
  | .assert t, ct, Sg, env, ef, σ, Q, st, hm, h => by
    unfold mS at hm; split at hm
    · unfold wS at h
      intro Z W E s f
      refine wpAny_Assert_holds (mono (sB t ct Sg env Z W σ _ _ f.wz hm ef.m h E s f.st) fun r s₁ h₁ => ?_)
      obtain ⟨k₁, hr, hQ⟩ := h₁
      exact ⟨hr, .next, σ, Z, W, hQ, rfl, f.keeps k₁, .kp k₁⟩
    · cases hm
theorem sSs : ∀ (x : Ss) (ct : Ct) (Sg : Sd c A T ct.un ct.gl) (env : Env) (ef : EnvF ct env) (σ : List Slot) (Q : Flw → List Slot → Prop) (l : List Stmt), mSs ct x l = true → wSs T x σ Q → ExW c A ct env σ (execs l env) Q
  | .nil, ct, Sg, env, ef, σ, Q, l, hm, h => by
    unfold mSs at hm; split at hm
    · unfold wSs at h
      exact fun Z W E s f => wpAny_execs_nil ⟨.next, σ, Z, W, h, rfl, f, .refl⟩
    · cases hm
  | .cons x r, ct, Sg, env, ef, σ, Q, l, hm, h => by
    unfold mSs at hm; split at hm
    · simp only [Bool.and_eq_true] at hm
      unfold wSs at h
      intro Z W E s f
      refine wpAny_execs_cons (mono (sS x ct Sg env ef σ _ _ hm.1 h Z W E s f) fun fw s₁ h₁ => ?_)
      obtain ⟨fw', σ', Z', W', hQ, hfl, f', l'⟩ := h₁
      cases fw' with
      | next =>
        have : fw = .next := hfl; subst this
        exact mono (sSs r ct Sg env ef σ' Q _ hm.2 hQ Z' W' E s₁ f') fun g s₂ h₂ => h₂.trans l'
      | brk => have : fw = .brk := hfl; subst this; exact ⟨.brk, σ', Z', W', hQ, rfl, f', l'⟩
      | cont => have : fw = .cont := hfl; subst this; exact ⟨.cont, σ', Z', W', hQ, rfl, f', l'⟩
      | ret d fl => obtain ⟨v, rfl, hr⟩ := hfl; exact ⟨.ret d fl, σ', Z', W', hQ, ⟨v, rfl, hr⟩, f', l'⟩
    · cases hm
  | .demote i r, ct, Sg, env, ef, σ, Q, l, hm, h => by
    unfold mSs at hm
    unfold wSs owned at h
    intro Z W E s f
    split at h
    · rename_i d hd
      obtain ⟨hseq, h⟩ := h
      obtain ⟨W', f', hw⟩ := f.demote hseq hd ef.nodup
      refine mono (sSs r ct Sg env ef _ Q l hm h Z W' E s f') fun fw s₁ h₁ => ?_
      obtain ⟨fw', σ', Z₁, W₁, hQ, hfl, f₁, l₁⟩ := h₁
      exact ⟨fw', σ', Z₁, W₁, hQ, hfl, f₁, l₁.widen hw⟩
    · exact h.elim
end
end
end Mine

end

section
open PySem PySem.W PyProof.Rows
set_option Elab.async false
set_option linter.unusedVariables false
set_option maxRecDepth 4000
namespace Mine

theorem bindL_out {kindOf : Str → Option NameKind} {n : Str} : ∀ (binds : List (Str × Value)) (m : Str → Option Value), (∀ p ∈ binds, p.1 ≠ n) → bindL kindOf binds m n = m n
  | [], m, _ => rfl
  | (k, v) :: r, m, h => by
    unfold bindL
    rw [bindL_out r _ fun p hp => h p (List.mem_cons_of_mem _ hp)]
    split
    · have : n ≠ k := fun e => h _ List.mem_cons_self e.symm
      simp [this]
    · rfl
theorem bindC_out {kindOf : Str → Option NameKind} {n : Str} : ∀ (binds : List (Str × Value)) (m : Str → Option Value), (∀ p ∈ binds, p.1 ≠ n) → bindC kindOf binds m n = m n
  | [], m, _ => rfl
  | (k, v) :: r, m, h => by
    unfold bindC
    rw [bindC_out r _ fun p hp => h p (List.mem_cons_of_mem _ hp)]
    split
    · rfl
    · have : n ≠ k := fun e => h _ List.mem_cons_self e.symm
      simp [this]
theorem bindL_in {kindOf : Str → Option NameKind} : ∀ (binds : List (Str × Value)) (m : Str → Option Value) {n : Str} {v : Value}, (binds.map (·.1)).Nodup → (n, v) ∈ binds → kindOf n = some .local → bindL kindOf binds m n = some v
  | (k, u) :: r, m, n, v, hd, hm, hk => by
    rw [List.map_cons, List.nodup_cons] at hd
    unfold bindL
    rcases List.mem_cons.mp hm with e | hm
    · cases e
      rw [if_pos hk, bindL_out r _ fun p hp (e : p.1 = k) => hd.1 (e ▸ List.mem_map_of_mem (f := (·.1)) hp)]
      simp
    · exact bindL_in r _ hd.2 hm hk
theorem bindC_in {kindOf : Str → Option NameKind} : ∀ (binds : List (Str × Value)) (m : Str → Option Value) {n : Str} {v : Value}, (binds.map (·.1)).Nodup → (n, v) ∈ binds → kindOf n ≠ some .local → bindC kindOf binds m n = some v
  | (k, u) :: r, m, n, v, hd, hm, hk => by
    rw [List.map_cons, List.nodup_cons] at hd
    unfold bindC
    rcases List.mem_cons.mp hm with e | hm
    · cases e
      rw [if_neg hk, bindC_out r _ fun p hp (e : p.1 = k) => hd.1 (e ▸ List.mem_map_of_mem (f := (·.1)) hp)]
      simp
    · exact bindC_in r _ hd.2 hm hk

/-- the slot of a parameter -/
def pslot (d : D) : Slot := match d with
  | .lst _ | .tup _ | .dct _ => .rt d
  | _ => .cl d
def startσ (ds : List D) (n : Nat) : List Slot := ds.map pslot ++ List.replicate n .un
/-- what a call gives back -/
def retK (K : D → Fl → Prop) (f : Flw) : Prop := match f with
  | .next => K .none .cl
  | .ret d fl => K d (if fl.isR || d.scal then .cl else .ow)
  | _ => False

structure FnR (c : Cx) (a : Addr) (fd : FuncData) (body : List Stmt) (params : List Str) (o : Obj) : Prop where
  ho : c.h₀.get? a = some o
  hdata : o.data = .func fd
  lim : c.h₀.NoLimit
  hcd : c.h₀.CodeRec fd.code fd.qualname
  hbody : fd.body = .stmts body
  hclo : fd.closure = []
  hbind : ∀ vals, vals.length = params.length → bindArgs fd ⟨vals, []⟩ = pure (params.zip vals)
  kind : fd.scope.kind = .function
  co : fd.scope.isCoroutine = false
  gen : fd.scope.isGenerator = false
  gl : fd.globals = mainGlobals
  bl : fd.builtins = builtinsNs

/-- the code's reading fits the function -/
structure Fits' (ct : Ct) (scope : Scope) (params : List Str) : Prop where
  kd : ct.kd = scope.names
  ns : ∃ rest, ct.ns = params ++ rest
  nodup : ct.ns.Nodup
  pk : ∀ x ∈ params, scope.names.lookup x = some .local ∨ scope.names.lookup x = some .cell
  nofree : ∀ p ∈ scope.names, p.2 ≠ .free
  uniq : (scope.names.map (·.1)).Nodup

theorem cells_mem : ∀ (names : List (Str × NameKind)) (n : Nat) (acc : List (Str × Addr)) {y : Str} {b : Addr}, (y, b) ∈ cellsFrom n names acc → (y, NameKind.cell) ∈ names ∨ (y, b) ∈ acc
  | [], n, acc, y, b, h => .inr h
  | (k, kk) :: r, n, acc, y, b, h => by
    unfold cellsFrom at h
    split at h
    · rename_i hc
      have hkk : kk = .cell := beq_iff_eq.mp hc
      subst hkk
      rcases cells_mem r _ _ h with h | h
      · exact .inl (List.mem_cons_of_mem _ h)
      · rcases List.mem_cons.mp h with e | h
        · cases e; exact .inl List.mem_cons_self
        · exact .inr h
    · exact (cells_mem r _ _ h).imp (List.mem_cons_of_mem _) id
theorem cells_acc : ∀ (names : List (Str × NameKind)) (n : Nat) (acc : List (Str × Addr)) {p : Str × Addr}, p ∈ acc → p ∈ cellsFrom n names acc
  | [], n, acc, p, h => h
  | (k, kk) :: r, n, acc, p, h => by
    unfold cellsFrom
    split
    · exact cells_acc r _ _ (List.mem_cons_of_mem _ h)
    · exact cells_acc r _ _ h
theorem cells_has : ∀ (names : List (Str × NameKind)) (n : Nat) (acc : List (Str × Addr)) {y : Str}, (y, NameKind.cell) ∈ names → ∃ b, (y, b) ∈ cellsFrom n names acc
  | (k, kk) :: r, n, acc, y, h => by
    unfold cellsFrom
    rcases List.mem_cons.mp h with e | h
    · cases e
      rw [if_pos (by decide)]
      exact ⟨n, cells_acc r _ _ List.mem_cons_self⟩
    · split
      · exact cells_has r _ _ h
      · exact cells_has r _ _ h
theorem lookup_some {α : Type} : ∀ {l : List (Str × α)} {x : Str} {b : α}, (x, b) ∈ l → ∃ a, l.lookup x = some a
  | (k, v) :: r, x, b, h => by
    rw [List.lookup_cons]
    cases hx : x == k with
    | true => exact ⟨v, rfl⟩
    | false =>
      rcases List.mem_cons.mp h with e | h
      · cases e; simp at hx
      · exact lookup_some h
theorem lookup_uniq {α : Type} : ∀ {l : List (Str × α)} {x : Str} {b : α}, (l.map (·.1)).Nodup → (x, b) ∈ l → l.lookup x = some b
  | (k, v) :: r, x, b, hd, h => by
    rw [List.map_cons, List.nodup_cons] at hd
    rw [List.lookup_cons]
    rcases List.mem_cons.mp h with e | h
    · cases e; simp
    · have : (x == k) = false := by rw [beq_eq_false_iff_ne]; intro e; exact hd.1 (e ▸ List.mem_map_of_mem (f := (·.1)) h)
      rw [this]; exact lookup_uniq hd.2 h

section
variable {c : Cx} {A : Around} {T : Tab}
theorem RtL.get {s : Shared} {P : Addr → Prop} : ∀ {vs : List Value} {ds : List D} {i : Nat} {d : D}, RtL c s P vs ds → ds[i]? = some d → ∃ v, vs[i]? = some v ∧ Rt c s P v d
  | _, _, 0, d, .cons r _, h => by simp at h; subst h; exact ⟨_, by simp, r⟩
  | _, _, i + 1, d, .cons _ rl, h => by simp at h; obtain ⟨v, h1, h2⟩ := RtL.get rl h; exact ⟨v, by simpa using h1, h2⟩
  | _, _, _, _, .nil, h => by simp at h
theorem startσ_at {ds : List D} {n i : Nat} {sl : Slot} (h : (startσ ds n)[i]? = some sl) : sl = .un ∨ ∃ d, ds[i]? = some d ∧ sl = pslot d := by
  unfold startσ at h
  by_cases hi : i < ds.length
  · rw [List.getElem?_append_left (by simpa using hi), List.getElem?_map] at h
    cases q : ds[i]? with
    | none => rw [q] at h; cases h
    | some d => rw [q] at h; cases h; exact .inr ⟨d, rfl, rfl⟩
  · rw [List.getElem?_append_right (by simpa using hi)] at h
    rw [List.getElem?_replicate] at h
    split at h <;> cases h
    exact .inl rfl
theorem fn_start {a : Addr} {fd : FuncData} {body : List Stmt} {params : List Str} {o : Obj} {ct : Ct} (F : FnR c a fd body params o) (G : Fits' ct fd.scope params) {s s₁ : Shared} {Z : Addr → Prop} {vs : List Value} {ds : List Mine.D} (hp : Pre c Z s) (hlen : vs.length = params.length) (r : RtL c s (NZ Z) vs ds)
    (x : InCallC s (callEnvC fd s.heap.objs.size a).locals (bindL (callEnvC fd s.heap.objs.size a).kindOf (params.zip vs) fun _ => none) (callEnvC fd s.heap.objs.size a).cells (bindC (callEnvC fd s.heap.objs.size a).kindOf (params.zip vs) fun _ => none) s₁) (ht : s.toks ≤ s₁.toks) (n : Nat) :
    EnvF ct (callEnvC fd s.heap.objs.size a) ∧ ∃ Z' W', FSt c (callEnvC fd s.heap.objs.size a) Z' W' ct.ns (startσ ds n) s₁ ∧ Kp s s₁ ∧ (∀ b, Z b → Z' b) ∧ (∀ b, W' b → s.heap.get? b = none) := by
  have hkd : ∀ y, (callEnvC fd s.heap.objs.size a).kindOf y = ct.kd.lookup y := fun y => by rw [G.kd]; rfl
  have hcc : ∀ y b, (callEnvC fd s.heap.objs.size a).cells.lookup y = some b → ct.kd.lookup y = some .cell := fun y b h => by
    rw [G.kd]
    rcases cells_mem _ _ _ (mem_of_lookup h) with h | h
    · exact lookup_uniq G.uniq h
    · cases h
  have ef : EnvF ct (callEnvC fd s.heap.objs.size a) := by
    refine ⟨⟨⟨F.kind, F.gl, F.bl⟩, G.kd.symm, fun y hy => ?_⟩, fun y z b h1 h2 => name_of_addr x.apart (mem_of_lookup h1) (mem_of_lookup h2), fun y h => ?_, G.nodup, hcc⟩
    · rw [G.kd] at hy
      rcases hy with hy | hy
      · obtain ⟨b, hb⟩ := cells_has fd.scope.names (s.heap.objs.size + 1) [] (mem_of_lookup hy)
        exact lookup_some hb
      · exact absurd rfl (G.nofree _ (mem_of_lookup hy))
    · exact Nat.lt_irrefl _ (x.above y _ (mem_of_lookup h))
  obtain ⟨rest, hns⟩ := G.ns
  have kp : Kp s s₁ := by
    obtain ⟨h', tk, e⟩ := x.toInCall.same
    subst e
    exact .of x.toInCall.keep ht
  let Cs : Addr → Prop := fun b => ∃ y, (callEnvC fd s.heap.objs.size a).cells.lookup y = some b
  have hfr : ∀ b, (b = s.heap.objs.size ∨ Cs b) → s.heap.get? b = none := fun b h => by
    rcases h with rfl | ⟨y, h⟩
    · exact get_size _
    · exact Heap.get?_none_of_le (Nat.le_of_lt (x.above y b (mem_of_lookup h)))
  have lz : Later Z (fun _ => False) s (fun b => Z b ∨ (b = s.heap.objs.size ∨ Cs b)) (fun _ => False) s₁ := .ofKp kp (fun b h => .inl h) fun b h => h.imp id (hfr b)
  have hL := x.toInCall.ns
  refine ⟨ef, fun b => Z b ∨ (b = s.heap.objs.size ∨ Cs b), fun b => b = s.heap.objs.size ∨ Cs b, ⟨⟨⟨fun b o e => kp.get b o (hp.keep b o e), fun b h => ?_, Nat.le_trans hp.tks ht⟩, fun i y sl h1 h2 => ?_⟩, fun b h => .inr h, .inl rfl, ⟨_, hL⟩,
    fun y b h1 h2 => ⟨.inr ⟨y, h2⟩, _, x.cell y b h2⟩, fun b h => ?_, fun i d h => ?_, fun i y d h1 h2 => ?_⟩, kp, fun b h => .inl h, hfr⟩
  · rcases h with h | rfl | ⟨y, h⟩
    · obtain ⟨o, e⟩ := hp.zin b h; exact ⟨o, kp.get b o e⟩
    · obtain ⟨o, _, _, ho, _⟩ := id hL; exact ⟨o, ho⟩
    · obtain ⟨o, ho, _⟩ := x.cell y b h; exact ⟨o, ho⟩
  · rcases startσ_at h2 with rfl | ⟨d, hd, rfl⟩
    · trivial
    · obtain ⟨v, hv, rv⟩ := r.get hd
      have hi : i < params.length := by rw [← hlen]; exact (List.getElem?_eq_some_iff.mp hv).1
      have hy : params[i]? = some y := by rw [hns, List.getElem?_append_left hi] at h1; exact h1
      have hmem : (y, v) ∈ params.zip vs := List.mem_of_getElem? (i := i) (by rw [List.getElem?_zip_eq_some]; exact ⟨hy, hv⟩)
      have hnd : ((params.zip vs).map (·.1)).Nodup := by
        rw [show (params.zip vs).map (·.1) = params from by rw [List.map_fst_zip]; omega]
        have := G.nodup; rw [hns] at this; exact (List.nodup_append.mp this).1
      have loc : Loc (callEnvC fd s.heap.objs.size a) s₁.heap y v := by
        have hk : (callEnvC fd s.heap.objs.size a).kindOf y = fd.scope.names.lookup y := rfl
        rcases G.pk y (List.mem_of_getElem? hy) with h | h
        · exact .loc _ (by rw [hk]; exact h) hL (bindL_in _ _ hnd hmem (by rw [hk]; exact h))
        · obtain ⟨b, hb⟩ := ef.m.cells y (.inl (by rw [G.kd]; exact h))
          refine .cell b (.inl (by rw [hk]; exact h)) hb ?_
          have := x.cell y b hb
          rw [bindC_in _ _ hnd hmem (by rw [hk, h]; intro e; cases e)] at this
          exact this
      have rr := lz.rt0 rv
      have clean : (d.isSeq = false) → SlotR c (callEnvC fd s.heap.objs.size a) s₁ (fun b => Z b ∨ (b = s.heap.objs.size ∨ Cs b)) (fun b => b = s.heap.objs.size ∨ Cs b) y (.cl d) := fun hq => by
        cases rr with
        | of q => exact ⟨v, loc, q⟩
        | tup _ _ => cases hq
        | lst _ _ => cases hq
        | dct _ _ => cases hq
      have seq : (∃ b o, v = .ref b ∧ s.heap.get? b = some o) → SlotR c (callEnvC fd s.heap.objs.size a) s₁ (fun b => Z b ∨ (b = s.heap.objs.size ∨ Cs b)) (fun b => b = s.heap.objs.size ∨ Cs b) y (.rt d) := fun ⟨b, o, e, ho⟩ =>
        ⟨v, loc, rr, fun b' e' => by rw [e] at e'; cases e'; exact ⟨(fun h => by rw [hfr b h] at ho; cases ho), o, kp.get b o ho⟩⟩
      cases d with
      | lst l => obtain ⟨b, us, m, e, g, _⟩ := rv.lst_inv; exact seq ⟨b, _, e, g⟩
      | tup l => obtain ⟨b, us, m, e, g, _⟩ := rv.tup_inv; exact seq ⟨b, _, e, g⟩
      | dct l => obtain ⟨b, kvs, e, g, _⟩ := rv.dct_inv; obtain ⟨o, ho⟩ := DictOf_get g; exact seq ⟨b, o, e, ho⟩
      | _ => exact clean rfl
  · cases q : c.h₀.get? b with
    | none => rfl
    | some o => have := hp.keep b o q; rw [hfr b h] at this; cases this
  · rcases startσ_at h with e | ⟨d', _, e⟩
    · cases e
    · cases d' <;> cases e <;> rfl
  · rcases startσ_at h2 with e | ⟨d', _, e⟩
    · cases e
    · cases d' <;> cases e
end
end Mine

end

section
open PySem PySem.W PyProof.Rows
set_option Elab.async false
set_option linter.unusedVariables false
set_option maxRecDepth 4000
namespace Mine
section
variable {c : Cx} {A : Around} {T : Tab}
theorem RtL.length {s : Shared} {P : Addr → Prop} {vs : List Value} {ds : List Mine.D} (r : RtL c s P vs ds) : vs.length = ds.length := by
  induction r with
  | nil => rfl
  | cons _ _ ih => simp [ih]

/-- a call of a function of the program -/
theorem callW_fn {a : Addr} {fd : FuncData} {body : List Stmt} {params : List Str} {o : Obj} {ct : Ct} {code : Ss} {ds : List Mine.D} {K : Mine.D → Fl → Prop} (F : FnR c a fd body params o) (G : Fits' ct fd.scope params) (hm : mSs ct code body = true) (hd : ds.length = params.length) (hA : A.depth < 1000)
    (S : ∀ env : Env, Sd c (A.deeper env) T ct.un ct.gl) (n : Nat) (h : wSs T code (startσ ds n) fun f _ => retK K f) : CallW c A (.ref a) ds K := by
  intro Z W E s vs hw hp r
  have hlen : vs.length = params.length := by rw [r.length, hd]
  refine wpAny_call ?_
  refine codeAny_call_function hA (hp.keep _ _ F.ho) F.hdata F.co F.gen F.hbody (F.hcd.keeps hp.keep) ?_
  rw [F.hbind vs hlen, F.hclo]
  refine wpAny_pure (wpAny_with_toks (Nat.le_refl s.toks) (wpAny_newFunctionEnv_cells F.kind (fun p hpz => ?_) fun env he s₁ x ht => ?_))
  · have hpm : p.1 ∈ params := by
      obtain ⟨y, v⟩ := p
      exact (List.of_mem_zip hpz).1
    rcases G.pk _ hpm with h | h
    · exact .inl h
    · refine .inr ⟨h, ?_⟩
      obtain ⟨b, hb⟩ := cells_has fd.scope.names (s.heap.objs.size + 1) [] (mem_of_lookup h)
      obtain ⟨b', hb'⟩ := lookup_some hb
      rw [hb']; rfl
  · subst he
    obtain ⟨ef, Z', W', f, kp, hz, hwn⟩ := fn_start F G hp hlen r x ht n
    refine ⟨(F.lim.keeps hp.keep).keeps kp.get, codeAny_func ?_⟩
    refine mono (sSs code ct (S _) _ ef (startσ ds n) _ body hm h Z' W' _ s₁ f) fun fw s₂ h₂ => ?_
    obtain ⟨fw', σ', Z₂, W₂, hK, hfl, f₂, l₂⟩ := h₂
    have k₂ : Kp s s₂ := kp.later l₂ hwn
    have hzz : ∀ b, Z b → Z₂ b := fun b h => l₂.z b (hz b h)
    cases fw' with
    | next => have : fw = .next := hfl; subst this; exact ⟨k₂, .none, .cl, hK, R.none⟩
    | brk => exact hK.elim
    | cont => exact hK.elim
    | ret d fl =>
      obtain ⟨v, rfl, h1, h2⟩ := hfl
      refine ⟨k₂, d, _, hK, ?_⟩
      by_cases hc : (fl.isR || d.scal) = true
      · rw [if_pos hc]
        have rr : R c s₂ (NZ Z₂) v d := by
          rw [Bool.or_eq_true] at hc
          rcases hc with q | q
          · exact h1 q
          · exact (h2.scal q).1
        exact R.less rr hzz
      · rw [if_neg hc]
        exact Rt.less h2 hzz
end
end Mine

end

section
open PySem PySem.W PyProof.Rows
set_option Elab.async false
set_option linter.unusedVariables false
set_option maxRecDepth 4000
namespace Mine
section
variable {c : Cx} {A : Around}
theorem RtL.one {s : Shared} {P : Addr → Prop} {vs : List Value} {d : Mine.D} (r : RtL c s P vs [d]) : ∃ v, vs = [v] ∧ Rt c s P v d := by
  cases r with | cons a b => cases b; exact ⟨_, rfl, a⟩
theorem RtL.two {s : Shared} {P : Addr → Prop} {vs : List Value} {d e : Mine.D} (r : RtL c s P vs [d, e]) : ∃ v u, vs = [v, u] ∧ Rt c s P v d ∧ Rt c s P u e := by
  cases r with | cons a b => cases b with | cons x y => cases y; exact ⟨_, _, rfl, a, x⟩
theorem RtL.three {s : Shared} {P : Addr → Prop} {vs : List Value} {d e g : Mine.D} (r : RtL c s P vs [d, e, g]) : ∃ v u t, vs = [v, u, t] ∧ Rt c s P v d ∧ Rt c s P u e ∧ Rt c s P t g := by
  cases r with | cons a b => cases b with | cons x y => cases y with | cons p q => cases q; exact ⟨_, _, _, rfl, a, x, p⟩
theorem Ans.sc {Z W : Addr → Prop} {s s' : Shared} {K : Mine.D → Fl → Prop} {v : Value} {d : Mine.D} (k : Kp s s') (h : K d .fr) (r : R c s' (NZ Z) v d) (hv : ∀ a, v ≠ .ref a := by intro _ e; cases e) : Ans c Z W s K v s' := ⟨k, d, .fr, h, Res.sc r hv⟩

theorem bi_len_lst {l : List Mine.D} {K : Mine.D → Fl → Prop} (hl : l.length ≤ 16777216) (h : K (.int l.length) .fr) : CallW c A (.builtin "len") [.lst l] K := by
  intro Z W E s vs hw hp r
  obtain ⟨v, rfl, q⟩ := r.one
  obtain ⟨a, us, n, rfl, g, rl⟩ := q.lst_inv
  refine Calls.call_len_list (isList_of g) (by rw [List.size_toArray, rl.length]; omega) (.sc (.tok (Nat.le_trans (Nat.le_succ _) (Nat.le_succ _))) h ?_)
  rw [List.size_toArray, rl.length]; exact R.int _ _
theorem bi_len_str {l : List Nat} {K : Mine.D → Fl → Prop} (hl : l.length ≤ 16777216) (h : K (.int l.length) .fr) : CallW c A (.builtin "len") [.str l] K := by
  intro Z W E s vs hw hp r
  obtain ⟨v, rfl, q⟩ := r.one
  obtain ⟨t, rfl⟩ := q.str_inv
  refine PyProof.Rows.len_str (x := ⟨l.toArray⟩) (by rw [strN_length]; omega) (.sc (.tok (Nat.le_trans (Nat.le_succ _) (Nat.le_succ _))) h ?_)
  rw [strN_length]; exact R.int _ _
theorem bi_tuple {l : List Mine.D} {K : Mine.D → Fl → Prop} (hl : l.length ≤ 16777216) (h : K (.tup l) .fr) : CallW c A (.type "tuple") [.lst l] K := by
  intro Z W E s vs hw hp r
  obtain ⟨v, rfl, q⟩ := r.one
  obtain ⟨a, us, n, rfl, g, rl⟩ := q.lst_inv
  refine call_tuple_list (isList_of g) (fun h' hk => ?_) (by rw [List.size_toArray, rl.length, sizeLine_eq]; exact hl)
  have k₁ : Kp s { s with heap := h' } := .of hk (Nat.le_refl _)
  have k₂ : Kp { s with heap := h' } { s with heap := h'.push (seqO "tuple" us 0) } := .push (s := { s with heap := h' })
  have rl' := rl.keeps k₁
  have hn : ({ s with heap := h' } : Shared).heap.get? ({ s with heap := h' } : Shared).heap.objs.size = none := get_size _
  have hz : ¬ Z h'.objs.size := ZIn.fresh (Pre.keeps hp k₁).zin hn
  refine ⟨k₁.trans k₂, _, .fr, h, R.tup (vs := us) (n := 0) hz (Heap.get?_push_size _ rfl) (rl'.keeps k₂), Fr.keeps (s' := { s with heap := h' }) (fun b e => by cases e; exact hn) k₁, ?_⟩
  exact .tup (vs := us) (n := 0) (Heap.get?_push_size _ rfl) (RL.offPush (s := { s with heap := h' }) rl' hn)
theorem bi_int_flt {x : UInt64} {fr : Ag} {sg : Bool} {m : Nat} {e : Int} {K : Mine.D → Fl → Prop} (hd : Float64.decode x = .fin sg m e) (h : K (.int (Float64.truncOf sg m e)) .fr) : CallW c A (.type "int") [.flt x fr] K := by
  intro Z W E s vs hw hp r
  obtain ⟨v, rfl, q⟩ := r.one
  obtain ⟨t, rfl, _⟩ := q.flt_inv
  exact call_int_float hd (.sc .tok1 h (R.int _ _))
theorem bi_min2 {a b : Int} {K : Mine.D → Fl → Prop} (hh : A.handled = none) (h : K (.int (if b < a then b else a)) .fr) : CallW c A (.builtin "min") [.int a, .int b] K := by
  intro Z W E s vs hw hp r
  obtain ⟨v, u, rfl, q1, q2⟩ := r.two
  obtain ⟨t, rfl⟩ := q1.int_inv
  obtain ⟨t', rfl⟩ := q2.int_inv
  refine kpw (min_two_ints hh fun h' tk hk => ⟨⟨h', tk, rfl, hk⟩, _, .fr, h, ?_⟩)
  split <;> exact Res.sc (R.int _ _)
theorem bi_max2 {a b : Int} {K : Mine.D → Fl → Prop} (hh : A.handled = none) (h : K (.int (if b > a then b else a)) .fr) : CallW c A (.builtin "max") [.int a, .int b] K := by
  intro Z W E s vs hw hp r
  obtain ⟨v, u, rfl, q1, q2⟩ := r.two
  obtain ⟨t, rfl⟩ := q1.int_inv
  obtain ⟨t', rfl⟩ := q2.int_inv
  refine kpw (max_two_ints hh fun h' tk hk => ⟨⟨h', tk, rfl, hk⟩, _, .fr, h, ?_⟩)
  split <;> exact Res.sc (R.int _ _)
theorem RL.intPairs {s : Shared} {P : Addr → Prop} : ∀ {l : List Int} {vs : List Value}, RL c s P vs (l.map Mine.D.int) → ∃ xs : List (Int × Tok), vs = xs.map (fun p => Value.int p.1 p.2) ∧ xs.map (·.1) = l
  | [], _, .nil => ⟨[], rfl, rfl⟩
  | a :: l, _, .cons r rl => by
    obtain ⟨t, rfl⟩ := Rt.int_inv (.of r)
    obtain ⟨xs, rfl, rfl⟩ := RL.intPairs rl
    exact ⟨(a, t) :: xs, rfl, rfl⟩
theorem preSum_take (xs : List (Int × Tok)) : ∀ n, n ≤ xs.length → preSum (numAt xs.toArray) n = ((xs.map (·.1)).take n).sum
  | 0, _ => by simp [preSum]
  | n + 1, h => by
    rw [preSum, preSum_take xs n (by omega), List.take_add_one, List.sum_append]
    congr 1
    have hlt : n < xs.length := by omega
    simp [numAt, hlt]
theorem sum_bound {l : List Int} {B : Int} (h : ∀ a ∈ l, 0 ≤ a ∧ a ≤ B) : 0 ≤ l.sum ∧ l.sum ≤ B * l.length := by
  induction l with
  | nil => simp
  | cons a l ih =>
    obtain ⟨h1, h2⟩ := ih fun b hb => h b (List.mem_cons_of_mem _ hb)
    obtain ⟨h3, h4⟩ := h a List.mem_cons_self
    rw [List.sum_cons, List.length_cons]
    constructor
    · omega
    · have : B * ((l.length + 1 : Nat) : Int) = B * l.length + B := by rw [Int.natCast_add]; simp [Int.mul_add]
      omega
theorem bi_sum {l : List Int} {K : Mine.D → Fl → Prop} (hh : A.handled = none) (hb : ∀ a ∈ l, 0 ≤ a ∧ a ≤ 1099511627776) (hl : l.length ≤ 1048576) (h : K (.int l.sum) .fr) : CallW c A (.builtin "sum") [.lst (l.map Mine.D.int)] K := by
  intro Z W E s vs hw hp r
  obtain ⟨v, rfl, q⟩ := r.one
  obtain ⟨a, us, n, rfl, g, rl⟩ := q.lst_inv
  obtain ⟨xs, rfl, rfl⟩ := rl.intPairs
  have hi : s.heap.IsList a (intItems xs.toArray) := by
    have := isList_of g
    simpa [intItems] using this
  rw [List.length_map] at hl
  refine kpw (sum_intList hh hi (fun j hj => ?_) fun h' tk t' hk => ⟨⟨h', tk, rfl, hk⟩, _, .fr, h, ?_⟩)
  · rw [List.size_toArray] at hj
    have b1 : ∀ a ∈ (xs.map (·.1)).take (j + 1), 0 ≤ a ∧ a ≤ 1099511627776 := fun a ha => hb a (List.mem_of_mem_take ha)
    obtain ⟨s1, s2⟩ := sum_bound b1
    have hln : (((xs.map (·.1)).take (j + 1)).length : Int) ≤ 1048576 := by rw [List.length_take, List.length_map]; omega
    rw [preSum_take xs (j + 1) (by omega)]
    have hx : numAt xs.toArray j = xs[j].1 := by simp [numAt, hj]
    obtain ⟨c1, c2⟩ := hb xs[j].1 (List.mem_map_of_mem (f := (·.1)) (List.getElem_mem hj))
    rw [hx]
    unfold InLong
    omega
  · have := preSum_take xs xs.length (Nat.le_refl _)
    rw [List.take_of_length_le (by simp)] at this
    rw [List.size_toArray, this]
    exact Res.sc (R.int _ _)
theorem bi_max {l : List Int} {K : Mine.D → Fl → Prop} (hh : A.handled = none) (hne : l ≠ []) (h : ∀ m, m ∈ l → (∀ a ∈ l, a ≤ m) → K (.int m) .fr) : CallW c A (.builtin "max") [.lst (l.map Mine.D.int)] K := by
  intro Z W E s vs hw hp r
  obtain ⟨v, rfl, q⟩ := r.one
  obtain ⟨a, us, n, rfl, g, rl⟩ := q.lst_inv
  obtain ⟨xs, rfl, rfl⟩ := rl.intPairs
  have hi : s.heap.IsList a (intItems xs.toArray) := by
    have := isList_of g
    simpa [intItems] using this
  have hx0 : 0 < xs.toArray.size := by
    rw [List.size_toArray]
    cases xs with
    | nil => exact absurd rfl hne
    | cons _ _ => simp
  refine kpw (max_intList hh hi hx0 fun v h' tk hv hk => ⟨⟨h', tk, rfl, hk⟩, ?_⟩)
  obtain ⟨hle, hbest⟩ := argBest_gt (numAt xs.toArray) (xs.toArray.size - 1)
  generalize argBest (fun i j => decide (numAt xs.toArray i > numAt xs.toArray j)) (xs.toArray.size - 1) = k at hv hle hbest
  rw [List.size_toArray] at hle hbest hx0
  have hk' : k < xs.length := by omega
  have hat : ∀ (j : Nat) (hj : j < xs.length), numAt xs.toArray j = xs[j].1 := fun j hj => by simp [numAt, hj]
  have ev : v = .int xs[k].1 xs[k].2 := by
    simp [intItems, hk'] at hv
    exact hv.symm
  subst ev
  refine ⟨_, .fr, h xs[k].1 (List.mem_map_of_mem (f := (·.1)) (List.getElem_mem hk')) (fun b hb => ?_), Res.sc (R.int _ _)⟩
  obtain ⟨p, hp', rfl⟩ := List.mem_map.mp hb
  obtain ⟨j, hj, rfl⟩ := List.getElem_of_mem hp'
  have := hbest j (by omega)
  rw [hat j hj, hat k hk'] at this
  exact this
/-- the text of a number to the base of 16 -/
def hexL (i : Int) : List Nat := (baseText "0x" 16 i).cps.toList
theorem bi_hex {i : Int} {K : Mine.D → Fl → Prop} (hs : i.natAbs < 1000000000000) (h : K (.str (hexL i)) .fr) : CallW c A (.builtin "hex") [.int i] K := by
  intro Z W E s vs hw hp r
  obtain ⟨v, rfl, q⟩ := r.one
  obtain ⟨t, rfl⟩ := q.int_inv
  refine PySem.P.hex_of_int (.sc .tok1 h ?_) (PySem.baseText_under (by decide) (by decide) (by omega))
  have : baseText "0x" 16 i = ⟨(hexL i).toArray⟩ := by unfold hexL; simp
  rw [this]; exact R.str _ _
end
end Mine

end

section
open PySem PySem.W PyProof.Rows
set_option Elab.async false
set_option linter.unusedVariables false
set_option maxRecDepth 4000
namespace Mine
section
variable {prog : Program} {w : World} {A : Around} {E : Value → Shared → Prop} {s : Shared}
theorem max_three_num {Q : Value → Shared → Prop} {a b d : Value} (hh : A.handled = none) (ha : Flt.NumV a) (hb : Flt.NumV b) (hd : Flt.NumV d)
    (h : ∀ h' tk, (∀ c o, s.heap.get? c = some o → h'.get? c = some o) → Q (if Flt.ltV (if Flt.ltV a b then b else a) d then d else (if Flt.ltV a b then b else a)) { s with heap := h', toks := tk }) :
    wpAny (model prog w) A (call (.builtin "max") [a, b, d]) Q E s := by
  have hT : (s.heap.push { cls := .type "tuple", data := .seq #[a, b, d] }).IsTuple s.heap.objs.size #[a, b, d] := ⟨_, Heap.get?_push_size _ rfl, rfl, 0, rfl⟩
  refine call_max_three (wpAny_pyIter_tuple hT ?_)
  have hsz : (s.heap.push { cls := .type "tuple", data := .seq #[a, b, d] }).objs.size = s.heap.objs.size + 1 := Heap.size_push ..
  refine ⟨_, [_, s.heap.objs.size], [_], _, _, _, _, rfl, Walks.tuple (A := A.in1) hh _ s.heap.objs.size (by rw [hsz]; exact Nat.ne_of_lt (Nat.lt_succ_self _)) #[a, b, d],
    ⟨⟨_, Heap.get?_push_size _ rfl, rfl, rfl⟩, hT.push _⟩, fun c hc => ?_, by simp, Flt.cmpOf_gt #[a, b, d] (by simp [ha, hb, hd]), fun v h' tk hP hk => ?_⟩
  · show c < ((s.heap.push _).push _).objs.size
    rw [Heap.size_push, hsz]
    rcases List.mem_cons.mp hc with rfl | hc
    · rw [hsz]; exact Nat.lt_succ_self _
    · rcases List.mem_cons.mp hc with rfl | hc
      · exact Nat.lt_succ_of_lt (Nat.lt_succ_self _)
      · cases hc
  · have hold : ∀ c o, s.heap.get? c = some o → h'.get? c = some o := fun c o e => by
      refine hk c o (fun hm => ?_) (Heap.get?_push_of_some _ (Heap.get?_push_of_some _ e))
      rcases List.mem_cons.mp hm with e1 | hm
      · have := Heap.lt_size e; rw [e1, hsz] at this; exact Nat.lt_irrefl _ (Nat.lt_of_succ_lt this)
      · cases hm
    have := h h' tk hold
    have hv : v = (if Flt.ltV (if Flt.ltV a b then b else a) d then d else (if Flt.ltV a b then b else a)) := by
      have hP' : (#[a, b, d] : Array Value)[argBest (fun i j => Flt.ltV ((#[a, b, d] : Array Value).getD j .none) ((#[a, b, d] : Array Value).getD i .none)) 2]? = some v := hP
      clear hP this h hk hold hT
      have e0 : (#[a, b, d] : Array Value).getD 0 .none = a := rfl
      have e1 : (#[a, b, d] : Array Value).getD 1 .none = b := rfl
      have e2 : (#[a, b, d] : Array Value).getD 2 .none = d := rfl
      cases h1 : Flt.ltV a b <;> cases h2 : Flt.ltV a d <;> cases h3 : Flt.ltV b d <;> simp [argBest, e0, e1, e2, h1, h2, h3] at hP' ⊢ <;> exact hP'.symm
    rw [hv]; exact this
theorem min_three_num {Q : Value → Shared → Prop} {a b d : Value} (hh : A.handled = none) (ha : Flt.NumV a) (hb : Flt.NumV b) (hd : Flt.NumV d)
    (h : ∀ h' tk, (∀ c o, s.heap.get? c = some o → h'.get? c = some o) → Q (if Flt.ltV d (if Flt.ltV b a then b else a) then d else (if Flt.ltV b a then b else a)) { s with heap := h', toks := tk }) :
    wpAny (model prog w) A (call (.builtin "min") [a, b, d]) Q E s := by
  have hT : (s.heap.push { cls := .type "tuple", data := .seq #[a, b, d] }).IsTuple s.heap.objs.size #[a, b, d] := ⟨_, Heap.get?_push_size _ rfl, rfl, 0, rfl⟩
  refine call_min_three (wpAny_pyIter_tuple hT ?_)
  have hsz : (s.heap.push { cls := .type "tuple", data := .seq #[a, b, d] }).objs.size = s.heap.objs.size + 1 := Heap.size_push ..
  refine ⟨_, [_, s.heap.objs.size], [_], _, _, _, _, rfl, Walks.tuple (A := A.in1) hh _ s.heap.objs.size (by rw [hsz]; exact Nat.ne_of_lt (Nat.lt_succ_self _)) #[a, b, d],
    ⟨⟨_, Heap.get?_push_size _ rfl, rfl, rfl⟩, hT.push _⟩, fun c hc => ?_, by simp, Flt.cmpOf_lt #[a, b, d] (by simp [ha, hb, hd]), fun v h' tk hP hk => ?_⟩
  · show c < ((s.heap.push _).push _).objs.size
    rw [Heap.size_push, hsz]
    rcases List.mem_cons.mp hc with rfl | hc
    · rw [hsz]; exact Nat.lt_succ_self _
    · rcases List.mem_cons.mp hc with rfl | hc
      · exact Nat.lt_succ_of_lt (Nat.lt_succ_self _)
      · cases hc
  · have hold : ∀ c o, s.heap.get? c = some o → h'.get? c = some o := fun c o e => by
      refine hk c o (fun hm => ?_) (Heap.get?_push_of_some _ (Heap.get?_push_of_some _ e))
      rcases List.mem_cons.mp hm with e1 | hm
      · have := Heap.lt_size e; rw [e1, hsz] at this; exact Nat.lt_irrefl _ (Nat.lt_of_succ_lt this)
      · cases hm
    have := h h' tk hold
    have hv : v = (if Flt.ltV d (if Flt.ltV b a then b else a) then d else (if Flt.ltV b a then b else a)) := by
      have hP' : (#[a, b, d] : Array Value)[argBest (fun i j => Flt.ltV ((#[a, b, d] : Array Value).getD i .none) ((#[a, b, d] : Array Value).getD j .none)) 2]? = some v := hP
      clear hP this h hk hold hT
      have e0 : (#[a, b, d] : Array Value).getD 0 .none = a := rfl
      have e1 : (#[a, b, d] : Array Value).getD 1 .none = b := rfl
      have e2 : (#[a, b, d] : Array Value).getD 2 .none = d := rfl
      cases h1 : Flt.ltV b a <;> cases h2 : Flt.ltV d a <;> cases h3 : Flt.ltV d b <;> simp [argBest, e0, e1, e2, h1, h2, h3] at hP' ⊢ <;> exact hP'.symm
    rw [hv]; exact this
end
end Mine

end

section
open PySem PySem.W PyProof.Rows
set_option Elab.async false
set_option linter.unusedVariables false
set_option maxRecDepth 4000
namespace Mine
/-- the greater, the smaller of three numbers, as the machine picks them -/
def gtF (a b : UInt64 × Ag) : UInt64 × Ag := if Float64.cmp a.1 b.1 == some .lt then b else a
def ltF (a b : UInt64 × Ag) : UInt64 × Ag := if Float64.cmp b.1 a.1 == some .lt then b else a
def fltD (a : UInt64 × Ag) : D := .flt a.1 a.2
section
variable {c : Cx} {A : Around}
theorem R.fltK {s s' : Shared} {Z : Addr → Prop} {x : UInt64} {fr : Ag} {t : Tok} (k : Kp s s') (h0 : t ≠ 0) (hl : (fr = .new → c.lo ≤ t) ∧ (fr = .old → t < c.lo)) (hu : t < s.toks) : R c s' (NZ Z) (.float x t) (.flt x fr) :=
  .flt x fr h0 hl (Nat.lt_of_lt_of_le hu k.tk)
theorem pick_flt {Z : Addr → Prop} {s s' : Shared} {a b : UInt64 × Ag} {t u : Tok} (q1 : R c s (NZ Z) (.float a.1 t) (fltD a)) (q2 : R c s (NZ Z) (.float b.1 u) (fltD b)) :
    (∃ t', (if Flt.ltV (.float a.1 t) (.float b.1 u) then Value.float b.1 u else .float a.1 t) = .float (gtF a b).1 t' ∧ R c s (NZ Z) (.float (gtF a b).1 t') (fltD (gtF a b))) ∧
    (∃ t', (if Flt.ltV (.float b.1 u) (.float a.1 t) then Value.float b.1 u else .float a.1 t) = .float (ltF a b).1 t' ∧ R c s (NZ Z) (.float (ltF a b).1 t') (fltD (ltF a b))) := by
  constructor
  · unfold gtF Flt.ltV
    by_cases h : (Float64.cmp a.1 b.1 == some .lt) = true
    · simp only [h, if_true]; exact ⟨u, rfl, q2⟩
    · simp only [h]; exact ⟨t, rfl, q1⟩
  · unfold ltF Flt.ltV
    by_cases h : (Float64.cmp b.1 a.1 == some .lt) = true
    · simp only [h, if_true]; exact ⟨u, rfl, q2⟩
    · simp only [h]; exact ⟨t, rfl, q1⟩
theorem R.toPair {s : Shared} {P : Addr → Prop} {v : Value} {a : UInt64 × Ag} (r : Rt c s P v (fltD a)) : ∃ t, v = .float a.1 t ∧ ∀ Q, R c s Q (.float a.1 t) (fltD a) := by
  obtain ⟨t, rfl, x, y, z⟩ := r.flt_inv
  exact ⟨t, rfl, fun Q => .flt _ _ x y z⟩
theorem bi_max3 {a b d : UInt64 × Ag} {K : Mine.D → Fl → Prop} (hh : A.handled = none) (h : K (fltD (gtF (gtF a b) d)) .fr) : CallW c A (.builtin "max") [fltD a, fltD b, fltD d] K := by
  intro Z W E s vs hw hp r
  obtain ⟨v, u, w, rfl, q1, q2, q3⟩ := r.three
  obtain ⟨t1, rfl, x1⟩ := R.toPair q1
  obtain ⟨t2, rfl, x2⟩ := R.toPair q2
  obtain ⟨t3, rfl, x3⟩ := R.toPair q3
  obtain ⟨t4, e4, x4⟩ := (pick_flt (s' := s) (x1 (NZ Z)) (x2 _)).1
  obtain ⟨t5, e5, x5⟩ := (pick_flt (s' := s) x4 (x3 _)).1
  refine mono (kpw (P := fun v _ => v = .float (gtF (gtF a b) d).1 t5) (max_three_num hh (.float _ _) (.float _ _) (.float _ _) fun h' tk hk => ⟨⟨h', tk, rfl, hk⟩, ?_⟩)) fun v s' hs => ?_
  · rw [e4, e5]
  · obtain ⟨k, rfl⟩ := hs
    exact ⟨k, _, .fr, h, Res.sc (x5.keeps k)⟩
theorem bi_min3 {a b d : UInt64 × Ag} {K : Mine.D → Fl → Prop} (hh : A.handled = none) (h : K (fltD (ltF (ltF a b) d)) .fr) : CallW c A (.builtin "min") [fltD a, fltD b, fltD d] K := by
  intro Z W E s vs hw hp r
  obtain ⟨v, u, w, rfl, q1, q2, q3⟩ := r.three
  obtain ⟨t1, rfl, x1⟩ := R.toPair q1
  obtain ⟨t2, rfl, x2⟩ := R.toPair q2
  obtain ⟨t3, rfl, x3⟩ := R.toPair q3
  obtain ⟨t4, e4, x4⟩ := (pick_flt (s' := s) (x1 (NZ Z)) (x2 _)).2
  obtain ⟨t5, e5, x5⟩ := (pick_flt (s' := s) x4 (x3 _)).2
  refine mono (kpw (P := fun v _ => v = .float (ltF (ltF a b) d).1 t5) (min_three_num hh (.float _ _) (.float _ _) (.float _ _) fun h' tk hk => ⟨⟨h', tk, rfl, hk⟩, ?_⟩)) fun v s' hs => ?_
  · rw [e4, e5]
  · obtain ⟨k, rfl⟩ := hs
    exact ⟨k, _, .fr, h, Res.sc (x5.keeps k)⟩

/-- texts -/
abbrev toS (l : List Nat) : Str := ⟨l.toArray⟩
def joinL (sep : List Nat) (ls : List (List Nat)) : List Nat := (Txt.join (toS sep) (ls.map toS)).cps.toList
def splitL (x y : List Nat) : List (List Nat) := (Txt.split (toS x) (toS y)).map fun z => z.cps.toList
def startsL (x y : List Nat) : Bool := Txt.startswith (toS x) (toS y)
def endsL (x y : List Nat) : Bool := Txt.endswith (toS x) (toS y)
def findL (x y : List Nat) (i j : Int) : Int := match Builtin.Str.occurrences (toS x) (toS y) (fromIndex x.length i) (min (fromIndex x.length j) x.length) 1 with | k :: _ => (k : Int) | [] => -1
theorem toS_list (z : Str) : z = toS z.cps.toList := by simp [toS]
theorem RL.strs {s : Shared} {P : Addr → Prop} : ∀ {ls : List (List Nat)} {vs : List Value}, RL c s P vs (ls.map Mine.D.str) → StrsAre vs (ls.map toS)
  | [], _, .nil => .nil
  | a :: l, _, .cons r rl => by
    obtain ⟨t, rfl⟩ := Rt.str_inv (.of r)
    exact .cons _ _ (RL.strs rl)
theorem me_join {sep : List Nat} {ls : List (List Nat)} {K : Mine.D → Fl → Prop} (hok : (ls.map (·.length)).sum + ls.length * sep.length ≤ 16777216) (h : K (.str (joinL sep ls)) .fr) : CallW c A (.builtin "str.join") [.str sep, .lst (ls.map Mine.D.str)] K := by
  intro Z W E s vs hw hp r
  obtain ⟨v, u, rfl, q1, q2⟩ := r.two
  obtain ⟨t, rfl⟩ := q1.str_inv
  obtain ⟨a, us, n, rfl, g, rl⟩ := q2.lst_inv
  have hi := rl.strs
  refine mono (kpw (P := fun v _ => ∃ t', v = .str (Txt.join (toS sep) (ls.map toS)) t') (join_list (isList_of g) (by simpa using hi) ?_ fun t' k => ⟨keeps_tk, t', rfl⟩)) fun v s' hs => ?_
  · have e1 : ((ls.map toS).map (·.length)) = ls.map (·.length) := by rw [List.map_map]; exact List.map_congr_left fun l _ => strN_length l
    rw [e1, List.length_map, strN_length]; exact hok
  · obtain ⟨k, t', rfl⟩ := hs
    refine ⟨k, _, .fr, h, Res.sc ?_⟩
    rw [toS_list (Txt.join _ _)]; exact R.str _ _
theorem me_startswith {x y : List Nat} {K : Mine.D → Fl → Prop} (h : K (.bool (startsL x y)) .fr) : CallW c A (.builtin "str.startswith") [.str x, .str y] K := by
  intro Z W E s vs hw hp r
  obtain ⟨v, u, rfl, q1, q2⟩ := r.two
  obtain ⟨t, rfl⟩ := q1.str_inv
  obtain ⟨t', rfl⟩ := q2.str_inv
  exact SC.startswith (.sc .rfl' h (R.bool _))
theorem me_endswith {x y : List Nat} {K : Mine.D → Fl → Prop} (h : K (.bool (endsL x y)) .fr) : CallW c A (.builtin "str.endswith") [.str x, .str y] K := by
  intro Z W E s vs hw hp r
  obtain ⟨v, u, rfl, q1, q2⟩ := r.two
  obtain ⟨t, rfl⟩ := q1.str_inv
  obtain ⟨t', rfl⟩ := q2.str_inv
  exact SC.endswith (.sc .rfl' h (R.bool _))
open Builtin Builtin.Str in
theorem gives_str_find_range (x y : Str) (i j : Int) (t u v w : Tok) : Gives («str.find» ⟨[.str x t, .str y u, .int i v, .int j w], []⟩) (.int (match occurrences x y (fromIndex x.length i) (min (fromIndex x.length j) x.length) 1 with | k :: _ => (k : Int) | [] => -1)) := by
  show Gives (match occurrences x y (fromIndex x.length i) (min (fromIndex x.length j) x.length) 1 with | k :: _ => retInt k | [] => (do rule "str.find.not-found"; retInt (-1))) _
  cases occurrences x y (fromIndex x.length i) (min (fromIndex x.length j) x.length) 1 with
  | nil => exact .rule (.of_eq rfl)
  | cons k _ => exact .of_eq rfl
theorem me_find {x y : List Nat} {i j : Int} {K : Mine.D → Fl → Prop} (h : K (.int (findL x y i j)) .fr) : CallW c A (.builtin "str.find") [.str x, .str y, .int i, .int j] K := by
  intro Z W E s vs hw hp r
  cases r with | cons q1 r => cases r with | cons q2 r => cases r with | cons q3 r => cases r with | cons q4 r => cases r with | nil =>
  obtain ⟨t, rfl⟩ := q1.str_inv
  obtain ⟨t2, rfl⟩ := q2.str_inv
  obtain ⟨t3, rfl⟩ := q3.int_inv
  obtain ⟨t4, rfl⟩ := q4.int_inv
  refine call_gives F.slot_str_find (typeIs_str _ _ _) F.entry_str_find (F.args_str_find_4 _ _ _ _) (gives_str_find_range _ _ i j t t2 t3 t4) ?_
  refine .sc .tok1 h ?_
  unfold findL
  rw [strN_length]
  exact R.int _ _
theorem RL.ofStrs {s : Shared} {P : Addr → Prop} : ∀ (l : List (Str × Tok)), RL c s P (strValues l) ((l.map (·.1)).map fun z => Mine.D.str z.cps.toList)
  | [] => .nil
  | (z, t) :: l => by
    refine .cons (v := .str z t) ?_ (RL.ofStrs l)
    have := R.str (c := c) (s := s) (P := P) z.cps.toList t
    rw [show (⟨z.cps.toList.toArray⟩ : Str) = z from (toS_list z).symm] at this
    exact this
open Builtin Builtin.Str in
theorem split_new {prog : Program} {w : World} {E : Value → Shared → Prop} {s : Shared} {x y : Str} {t u : Tok} {Q : Value → Shared → Prop} (hy : (y.length == 0) = false) (hsz : x.length ≤ sizeLine) (hsz2 : (partsBetween x (occurrences x y 0 x.length (x.length + 1)) y.length).length ≤ sizeLine)
    (hq : ∀ (l : List (Str × Tok)) tk, l.map (·.1) = Txt.split x y → Q (.ref s.heap.objs.size) { s with toks := tk, heap := s.heap.push (seqO "list" (strValues l) 0) }) :
    wpAny (model prog w) A (call (.builtin "str.split") [.str x t, .str y u]) Q E s := by
  cases h1 : (decide (x.length < y.length) || decide (strKind x < strKind y))
  · cases hf : (occurrences x y 0 x.length (x.length + 1)).isEmpty
    · refine call_meets F.slot_str_split (typeIs_str _ _ _) F.entry_str_split (F.args_str_split_2 _ _) (meets_str_split_sep x y t u h1 hy hf hsz hsz2) ?_
      show wants Q E _ { s with toks := _, heap := s.heap.push { cls := .type "list", data := .seq (strsFrom s.toks (partsBetween x (occurrences x y 0 x.length (x.length + 1)) y.length)).toArray } }
      rw [strsFrom_eq]
      exact hq (numbered s.toks _) _ ((numbered_texts _ _).trans ((if_neg (ne_true_of_eq_false h1)).trans (if_neg (ne_true_of_eq_false hf))).symm)
    · exact call_meets F.slot_str_split (typeIs_str _ _ _) F.entry_str_split (F.args_str_split_2 _ _) (meets_str_split_not_found x y t u h1 hy hf)
        (hq [(x, t)] _ ((if_neg (ne_true_of_eq_false h1)).trans (if_pos hf)).symm)
  · exact call_meets F.slot_str_split (typeIs_str _ _ _) F.entry_str_split (F.args_str_split_2 _ _) (meets_str_split_cannot_occur x y t u h1)
      (hq [(x, t)] _ (if_pos h1).symm)
theorem me_split {x y : List Nat} {K : Mine.D → Fl → Prop} (hx : x.length ≤ 1048576) (hy : y ≠ []) (h : K (.lst ((splitL x y).map Mine.D.str)) .fr) : CallW c A (.builtin "str.split") [.str x, .str y] K := by
  intro Z W E s vs hw hp r
  obtain ⟨v, u, rfl, q1, q2⟩ := r.two
  obtain ⟨t, rfl⟩ := q1.str_inv
  obtain ⟨t', rfl⟩ := q2.str_inv
  have hl := strN_length x
  refine mono (kpw (P := fun v s' => ∃ l : List (Str × Tok), ∃ tk : Nat, v = .ref s.heap.objs.size ∧ s' = { s with toks := tk, heap := s.heap.push (seqO "list" (strValues l) 0) } ∧ l.map (·.1) = Txt.split (toS x) (toS y)) (split_new ?_ ?_ ?_ fun l tk e => ⟨⟨_, tk, rfl, fun b o e => Heap.get?_push_of_some _ e⟩, l, tk, rfl, rfl, e⟩)) fun v s' hs => ?_
  · rw [strN_length]
    cases y with
    | nil => exact absurd rfl hy
    | cons _ _ => rfl
  · rw [hl, sizeLine_eq]; omega
  · rw [length_partsBetween, sizeLine_eq]
    have := StrLaws.occ_length_le ⟨x.toArray⟩ ⟨y.toArray⟩ 0 x.length (x.length + 1)
    rw [hl]; omega
  · obtain ⟨k, l, tk, rfl, rfl, e⟩ := hs
    have hz : ¬ Z s.heap.objs.size := ZIn.fresh hp.zin (get_size _)
    have e2 : (splitL x y).map Mine.D.str = (l.map (·.1)).map fun z => Mine.D.str z.cps.toList := by rw [e]; unfold splitL; rw [List.map_map]; rfl
    rw [e2] at h
    refine ⟨k, _, .fr, h, R.lst (vs := strValues l) (n := 0) hz (Heap.get?_push_size _ rfl) (RL.ofStrs l), .size, .lst (vs := strValues l) (n := 0) (Heap.get?_push_size _ rfl) (RL.ofStrs l)⟩
theorem RL.intsAre {s : Shared} {P : Addr → Prop} : ∀ {l : List Int} {vs : List Value}, RL c s P vs (l.map Mine.D.int) → IntsAre vs l
  | [], _, .nil => .nil
  | a :: l, _, .cons r rl => by
    obtain ⟨t, rfl⟩ := Rt.int_inv (.of r)
    exact .cons _ _ (RL.intsAre rl)
theorem me_count {l : List Int} {k : Int} {K : Mine.D → Fl → Prop} (h : K (.int (l.count k : Nat)) .fr) : CallW c A (.builtin "list.count") [.lst (l.map Mine.D.int), .int k] K := by
  intro Z W E s vs hw hp r
  obtain ⟨v, u, rfl, q1, q2⟩ := r.two
  obtain ⟨a, us, n, rfl, g, rl⟩ := q1.lst_inv
  obtain ⟨t', rfl⟩ := q2.int_inv
  exact count_list_ints (isList_of g) rl.intsAre (.sc .tok1 h (R.int _ _))
/-- the first place of a new number -/
def idxF (x : UInt64) : List D → Option Nat
  | [] => none
  | d :: l => match inF x [d] with
    | true => some 0
    | false => (idxF x l).map (· + 1)
theorem idxF_spec {s : Shared} {P : Addr → Prop} {x : UInt64} : ∀ {vs : List Value} {ds : List Mine.D} {j : Nat}, RL c s P vs ds → okF x ds = true → idxF x ds = some j → ∃ hj : j < vs.length, fltIs x vs[j] = true ∧ ∀ m (hm : m < vs.length), m < j → fltIs x vs[m] = false
  | _, _, j, .nil, _, h => by cases h
  | _, _, j, .cons (v := v) (d := d) (vs := vs) (ds := ds) r rl, ho, h => by
    have h2 : okF x ds = true := by unfold okF at ho ⊢; rw [List.all_cons, Bool.and_eq_true] at ho; exact ho.2
    have h1 := okF_mem ho List.mem_cons_self
    have e : fltIs x v = inF x [d] := by
      cases d with
      | flt y fr => obtain ⟨t, rfl, _⟩ := Rt.flt_inv (.of r); simp [inF, fltIs]
      | _ => simp [okF] at h1
    unfold idxF at h
    split at h
    · rename_i hh
      cases h
      exact ⟨Nat.zero_lt_succ _, by simpa [hh] using e, fun m hm hlt => absurd hlt (Nat.not_lt_zero _)⟩
    · rename_i hh
      cases q : idxF x ds with
      | none => rw [q] at h; cases h
      | some i =>
        rw [q] at h; cases h
        obtain ⟨hi, b1, b2⟩ := idxF_spec rl h2 q
        refine ⟨Nat.succ_lt_succ hi, by simpa using b1, fun m hm hlt => ?_⟩
        cases m with
        | zero => simpa [hh] using e
        | succ m => simpa using b2 m (by simpa using hm) (Nat.lt_of_succ_lt_succ hlt)
theorem me_index {x : UInt64} {l : List Mine.D} {j : Nat} {K : Mine.D → Fl → Prop} (ho : okF x l = true) (hj : idxF x l = some j) (hl : l.length ≤ 16777216) (h : K (.int j) .fr) : CallW c A (.builtin "list.index") [.lst l, .flt x .new] K := by
  intro Z W E s vs hw hp r
  obtain ⟨v, u, rfl, q1, q2⟩ := r.two
  obtain ⟨a, us, n, rfl, g, rl⟩ := q1.lst_inv
  obtain ⟨t', rfl, h0, hg, _⟩ := q2.flt_inv
  obtain ⟨hj', b1, b2⟩ := idxF_spec rl ho hj
  have hln := rl.length
  refine call_meets PySem.F.slot_list_index ⟨_, g, rfl⟩ PySem.F.entry_list_index (PySem.F.args_list_index_2 _ _)
    (SeqAt.list_indexAt a us.toArray n none _ (.float x t') (fltIs x) j (by simpa using hj') (by omega) (by simpa using b1) (fun m hm hlt => by simpa using b2 m (by simpa using hm) hlt)) ⟨g, fun y hy => ?_, .sc .tok1 h (R.int _ _)⟩
  obtain ⟨d, hd, rd⟩ := rl.mem (by simpa using hy)
  exact (EqAt_fltAny hp.keep rd h0 (hg.1 rfl) (okF_mem ho hd)).1
end
end Mine

end

section
open PySem PySem.W PyProof.Rows
set_option Elab.async false
set_option linter.unusedVariables false
set_option maxRecDepth 4000
namespace Mine
/-- the entries of a table from numbers to texts -/
def readEs : List DictEntry → Option (List (Int × List Nat))
  | [] => some []
  | e :: r => match e.key, e.val with
    | .int k _, .str s _ => if e.hash == hashInt k then (readEs r).map ((k, s.cps.toList) :: ·) else none
    | _, _ => none
def readTab (K : Frag) (a : Addr) : Option (List (Int × List Nat)) := match K.lookup a with
  | some ⟨.type "dict", none, .dict es _, sl⟩ => if sl.isEmpty then readEs es.toList else none
  | _ => none
theorem readEs_spec : ∀ {es : List DictEntry} {tb : List (Int × List Nat)}, readEs es = some tb →
    (∀ e ∈ es, ∃ k t, e.key = .int k t ∧ e.hash = hashInt k) ∧ ∀ k, match tb.lookup k with
      | some l => ∃ t, (es.find? fun e => Value.isInt k e.key).map (·.val) = some (.str (toS l) t)
      | none => (es.find? fun e => Value.isInt k e.key).map (·.val) = none
  | [], tb, h => by cases h; exact ⟨fun _ h => (nomatch h), fun k => rfl⟩
  | e :: r, tb, h => by
    obtain ⟨hsh, key, val⟩ := e
    unfold readEs at h
    split at h
    · rename_i k t s u hk hv
      dsimp only at hk hv h
      subst hk hv
      split at h
      · rename_i hh
        cases q : readEs r with
        | none => rw [q] at h; cases h
        | some tb' =>
          rw [q] at h; cases h
          obtain ⟨h1, h2⟩ := readEs_spec q
          refine ⟨fun e he => ?_, fun i => ?_⟩
          · rcases List.mem_cons.mp he with rfl | he
            · exact ⟨k, t, rfl, beq_iff_eq.mp hh⟩
            · exact h1 e he
          · rw [List.lookup_cons, List.find?_cons]
            have e0 : Value.isInt i (Value.int k t) = (k == i) := rfl
            rw [e0]
            cases hi : (i == k) with
            | true =>
              have := beq_iff_eq.mp hi; subst this
              simp only [BEq.rfl]
              exact ⟨u, by simp [toS]⟩
            | false =>
              have : (k == i) = false := by rw [beq_eq_false_iff_ne] at hi ⊢; exact fun h => hi h.symm
              rw [this]
              exact h2 i
      · cases h
    · cases h
section
variable {c : Cx} {A : Around}
theorem me_get {a : Addr} {tb : List (Int × List Nat)} {i : Int} {l : List Nat} {K : Mine.D → Fl → Prop} (ht : readTab c.K a = some tb) (ha : (a == sysModules) = false) (h : K (.str ((tb.lookup i).getD l)) .fr) : CallW c A (.builtin "dict.get") [.raw (.ref a), .int i, .str l] K := by
  intro Z W E s vs hw hp r
  obtain ⟨v, u, w, rfl, q1, q2, q3⟩ := r.three
  have := q1.raw_inv; subst this
  obtain ⟨t, rfl⟩ := q2.int_inv
  obtain ⟨t', rfl⟩ := q3.str_inv
  unfold readTab at ht
  split at ht
  · rename_i es n sl ho
    split at ht
    · rename_i hsl
      obtain ⟨h1, h2⟩ := readEs_spec ht
      have hg := hp.kin _ _ ho
      have hx : s.heap.MapOf (PySem.intKind c.prog c.w) a (findBy Value.isInt es) := by
        refine ⟨_, es, n, hg, ⟨rfl, rfl, by simpa using hsl⟩, rfl, fun e he => ?_, fun k => rfl⟩
        obtain ⟨k, t, e1, e2⟩ := h1 e (by simpa using he)
        exact ⟨k, by rw [e1]; simp [PySem.intKind, Value.isInt], e2⟩
      have hd : s.TypeIs (.ref a) "dict" := ⟨_, hg, rfl⟩
      refine call_meetsIn PySem.F.slot_dict_get hd PySem.F.entry_dict_get (PySem.F.args_dict_get_3 _ _ _) (meets_dict_get_default (PySem.intKind c.prog c.w) (k := i) a (by simp [PySem.intKind, Value.isInt]) ha _) ⟨_, hx, ?_⟩
      have h3 := h2 i
      have e : findBy Value.isInt es i = (es.toList.find? fun e => Value.isInt i e.key).map (·.val) := by unfold findBy; rw [← Array.find?_toList]
      rw [e]
      cases q : tb.lookup i with
      | none =>
        rw [q] at h3 h
        simp only at h3
        rw [h3]
        exact .sc .tok1 h (R.str _ _)
      | some m =>
        rw [q] at h3 h
        obtain ⟨u, h3⟩ := h3
        rw [h3]
        exact .sc .tok1 h (R.str _ _)
    · cases ht
  · cases ht
theorem bi_len_tup {l : List Mine.D} {K : Mine.D → Fl → Prop} (hl : l.length ≤ 16777216) (h : K (.int l.length) .fr) : CallW c A (.builtin "len") [.tup l] K := by
  intro Z W E s vs hw hp r
  obtain ⟨v, rfl, q⟩ := r.one
  obtain ⟨a, us, n, rfl, g, rl⟩ := q.tup_inv
  refine len_tuple ⟨_, g, rfl, n, rfl⟩ (by rw [List.size_toArray, rl.length]; omega) (.sc (.tok (Nat.le_trans (Nat.le_succ _) (Nat.le_succ _))) h ?_)
  rw [List.size_toArray, rl.length]; exact R.int _ _

/-- the values of an object's own table -/
theorem RF.get {s : Shared} {P : Addr → Prop} {x : Str} : ∀ {es : List DictEntry} {fs : List (Str × Mine.D)} {d : Mine.D}, RF c s P es fs → fs.lookup x = some d → ∃ v, getL x es = some (some v) ∧ R c s P v d
  | _, _, d, .nil, h => by cases h
  | _, _, d, .cons (hs := hs) (f := f) (t := t) (v := v) (es := es) (fs := fs) r rl, h => by
    rw [List.lookup_cons] at h
    unfold getL
    rw [List.find?_cons]
    have e0 : (Value.str f t).isStr x = (f == x) := rfl
    rw [e0]
    cases q : (x == f) with
    | true =>
      have := beq_iff_eq.mp q; subst this
      rw [q] at h; cases h
      simp only [BEq.rfl]
      exact ⟨v, rfl, r⟩
    | false =>
      rw [q] at h
      have hne : (f == x) = false := by rw [beq_eq_false_iff_ne] at q ⊢; exact fun h => q h.symm
      rw [hne]
      obtain ⟨u, h1, h2⟩ := RF.get rl h
      refine ⟨u, ?_, h2⟩
      unfold getL at h1
      simp only [List.any_cons]
      exact h1
theorem RF.noName {s : Shared} {P : Addr → Prop} {x : Str} : ∀ {es : List DictEntry} {fs : List (Str × Mine.D)}, RF c s P es fs → fs.lookup x = none → getL x es = some none
  | _, _, .nil, h => rfl
  | _, _, .cons (hs := hs) (f := f) (t := t) (v := v) (es := es) (fs := fs) r rl, h => by
    rw [List.lookup_cons] at h
    unfold getL
    rw [List.find?_cons]
    have e0 : (Value.str f t).isStr x = (f == x) := rfl
    rw [e0]
    cases q : (x == f) with
    | true => rw [q] at h; cases h
    | false =>
      rw [q] at h
      have hne : (f == x) = false := by rw [beq_eq_false_iff_ne] at q ⊢; exact fun h => q h.symm
      rw [hne]
      have h1 := RF.noName rl h
      unfold getL at h1
      simp only [List.any_cons]
      exact h1
/-- what is asked of a class whose objects have their values in their own table -/
structure ClsOk (K : Frag) (C : Addr) (name : Str) : Prop where
  get : plainGet K C name = true
  dict : hasDictIn K C = true
def D.handed : Mine.D → Bool
  | .raw _ => false
  | _ => true
theorem R.handed {s : Shared} {P : Addr → Prop} {v : Value} {d : Mine.D} (r : R c s P v d) (h : d.handed = true) : handedIn v = true := by
  cases r <;> first | rfl | cases h
theorem attr_obj {Z : Addr → Prop} {E : Value → Shared → Prop} {s : Shared} {v : Value} {C : Addr} {fs : List (Str × Mine.D)} {x : Str} {d : Mine.D} {attr : Option Value} (hp : Pre c Z s) (r : Rt c s (NZ Z) v (.obj C fs)) (O : ClsOk c.K C x) (ha : findIn c.K (.ref C) x = some attr) (hn : noGet c.K attr = true)
    (hf : fs.lookup x = some d) (hh : d.handed = true) : wpAny (model c.prog c.w) A (getAttr v x true) (fun r s' => Kp s s' ∧ R c s' (NZ Z) r d) E s := by
  obtain ⟨a, dx, es, n, rfl, g, g', rf⟩ := r.obj_inv
  obtain ⟨u, h1, h2⟩ := rf.get hf
  exact get_value hp.kin ⟨g, rfl, rfl, g'⟩ (plainGet_of O.get).1 (findObj_own O.dict ha hn (by rw [lookIn_dict]; exact h1)) (h2.handed hh) ⟨.tok1, h2.keeps .tok1⟩
theorem meth_obj {Z : Addr → Prop} {E : Value → Shared → Prop} {s : Shared} {v : Value} {C f : Addr} {fs : List (Str × Mine.D)} {x : Str} {pl : Sem Bool} (hp : Pre c Z s) (r : Rt c s (NZ Z) v (.obj C fs)) (O : ClsOk c.K C x) (ha : findIn c.K (.ref C) x = some (some (.ref f))) (ht : isFn c.K (.ref f) = true)
    (hf : fs.lookup x = none) : wpAny (model c.prog c.w) A (getMethod v x pl) (fun fx s' => fx = (.ref f, [v]) ∧ Kp s s') E s := by
  obtain ⟨a, dx, es, n, rfl, g, g', rf⟩ := r.obj_inv
  have I : InstAt s.heap a (instObj C dx) C (some (dictOf es n)) := ⟨g, rfl, rfl, g'⟩
  exact method_fn hp.kin I (plainGet_of O.get).1 (plainGet_of O.get).2 ha (beq_iff_eq.mp ht) (by show (lookIn x (dictOf es n)).map _ = _; rw [lookIn_dict, rf.noName hf]; rfl) ⟨rfl, .rfl'⟩
end
end Mine

end

section
open PySem PySem.W PyProof.Rows
set_option Elab.async false
set_option linter.unusedVariables false
set_option maxRecDepth 4000
namespace Mine
/-- the function that lies at an address -/
def fdAt (K : Frag) (a : Addr) : Option (FuncData × List Stmt) := match K.lookup a with
  | some ⟨_, _, .func fd, _⟩ => match fd.body with
    | .stmts b => some (fd, b)
    | _ => none
  | _ => none
def ctAt (K : Frag) (a : Addr) (params rest un gl : List Str) : Ct := { ns := params ++ rest, kd := (fdAt K a).elim [] fun x => x.1.scope.names, un := un, gl := gl }
def nodupB : List Str → Bool
  | [] => true
  | x :: l => !l.contains x && nodupB l
theorem nodupB_ok : ∀ {l : List Str}, nodupB l = true → l.Nodup
  | [], _ => List.nodup_nil
  | x :: l, h => by
    unfold nodupB at h
    rw [Bool.and_eq_true] at h
    rw [List.nodup_cons]
    refine ⟨fun hm => ?_, nodupB_ok h.2⟩
    have := h.1
    rw [List.contains_iff_mem.mpr hm] at this
    cases this
def fnHd (K : Frag) (a : Addr) (params rest : List Str) : Bool := match fdAt K a with
  | some (fd, body) => keepIn K (.ref a) && codeIn K fd.code fd.qualname && fd.closure.isEmpty && fd.scope.kind == .function && !fd.scope.isCoroutine && !fd.scope.isGenerator && fd.globals == mainGlobals && fd.builtins == builtinsNs
    && nodupB (params ++ rest) && params.all (fun x => fd.scope.names.lookup x == some .local || fd.scope.names.lookup x == some .cell) && fd.scope.names.all (fun p => p.2 != .free) && nodupB (fd.scope.names.map (·.1))
  | none => false
def bdAt (K : Frag) (a : Addr) : List Stmt := (fdAt K a).elim [] (·.2)
structure FnHd (K : Frag) (a : Addr) (params rest : List Str) : Prop where
  ok : fnHd K a params rest = true
  hb : ∀ vals, vals.length = params.length → (fdAt K a).map (fun x => bindArgs x.1 ⟨vals, []⟩) = some (pure (params.zip vals))
structure FnAt (K : Frag) (a : Addr) (params rest un gl : List Str) (code : Ss) : Prop where
  hd : FnHd K a params rest
  rd : mSs (ctAt K a params rest un gl) code (bdAt K a) = true
section
variable {c : Cx} {A : Around} {T : Tab}
theorem FnHd.keep {a : Addr} {params rest : List Str} (F : FnHd c.K a params rest) : keepIn c.K (.ref a) = true := by
  have := F.ok
  unfold fnHd at this
  split at this
  · simp only [Bool.and_eq_true] at this; exact this.1.1.1.1.1.1.1.1.1.1.1
  · cases this
theorem FnHd.get {a : Addr} {params rest : List Str} (F : FnHd c.K a params rest) (lim : c.h₀.NoLimit) (un gl : List Str) : ∃ fd o, FnR c a fd (bdAt c.K a) params o ∧ Fits' (ctAt c.K a params rest un gl) fd.scope params := by
  have h := F.ok
  unfold fnHd at h
  split at h
  · rename_i fd body hf
    simp only [Bool.and_eq_true, beq_iff_eq, Bool.not_eq_true', List.isEmpty_iff] at h
    obtain ⟨⟨⟨⟨⟨⟨⟨⟨⟨⟨⟨h0, h1⟩, h2⟩, h3⟩, h4⟩, h5⟩, h6⟩, h7⟩, h8⟩, h9⟩, h10⟩, h11⟩ := h
    have hb := F.hb
    rw [hf] at hb
    have hf' := hf
    unfold fdAt at hf
    split at hf
    · rename_i oc od fd' sl ho
      split at hf
      · rename_i b hbd
        cases hf
        have hbody : fd.body = .stmts (bdAt c.K a) := by
          rw [hbd]; unfold bdAt; rw [hf']; rfl
        refine ⟨fd, _, ⟨c.X _ _ ho, rfl, lim, codeRec_of c.X h1, hbody, h2, fun vals hv => ?_, h3, h4, h5, h6, h7⟩, ⟨?_, ⟨rest, rfl⟩, nodupB_ok h8, fun x hx => ?_, fun p hp => ?_, nodupB_ok h11⟩⟩
        · have := hb vals hv
          simpa using this
        · show (fdAt c.K a).elim [] _ = _
          rw [hf']; rfl
        · have := List.all_eq_true.mp h9 x hx
          simpa [Bool.or_eq_true] using this
        · have := List.all_eq_true.mp h10 p hp
          simpa using this
      · cases hf
    · cases hf
  · cases h
theorem FnAt.call {a : Addr} {params rest un gl : List Str} {code : Ss} {ds : List Mine.D} {K : Mine.D → Fl → Prop} (F : FnAt c.K a params rest un gl code) (lim : c.h₀.NoLimit) (hA : A.depth < 1000) (S : ∀ env : Env, Sd c (A.deeper env) T un gl) (n : Nat)
    (hd : ds.length = params.length) (h : wSs T code (startσ ds n) fun f _ => retK K f) : CallW c A (.ref a) ds K := by
  obtain ⟨fd, o, fr, ft⟩ := F.hd.get lim un gl
  exact callW_fn fr ft F.rd hd hA S n h
end

/-- the names of methods -/
inductive Mt where
  | join | split | startswith | endswith | find | index | count | get | indent
  deriving DecidableEq
def mtOf (x : Str) : Option Mt :=
  if x == "join" then some .join else if x == "split" then some .split else if x == "startswith" then some .startswith else if x == "endswith" then some .endswith else if x == "find" then some .find
  else if x == "index" then some .index else if x == "count" then some .count else if x == "get" then some .get else if x == "indent_level" then some .indent else none
theorem mtOf_join : mtOf "join" = some .join := by decide +kernel
theorem mtOf_split : mtOf "split" = some .split := by decide +kernel
theorem mtOf_startswith : mtOf "startswith" = some .startswith := by decide +kernel
theorem mtOf_endswith : mtOf "endswith" = some .endswith := by decide +kernel
theorem mtOf_find : mtOf "find" = some .find := by decide +kernel
theorem mtOf_index : mtOf "index" = some .index := by decide +kernel
theorem mtOf_count : mtOf "count" = some .count := by decide +kernel
theorem mtOf_get : mtOf "get" = some .get := by decide +kernel
theorem mtOf_indent : mtOf "indent_level" = some .indent := by decide +kernel
def Mt.str : Mt → Str
  | .join => "join" | .split => "split" | .startswith => "startswith" | .endswith => "endswith" | .find => "find" | .index => "index" | .count => "count" | .get => "get" | .indent => "indent_level"
theorem mtOf_eq {x : Str} {m : Mt} (h : mtOf x = some m) : x = m.str := by
  unfold mtOf at h
  split at h; · rename_i q; cases h; exact beq_iff_eq.mp q
  split at h; · rename_i q; cases h; exact beq_iff_eq.mp q
  split at h; · rename_i q; cases h; exact beq_iff_eq.mp q
  split at h; · rename_i q; cases h; exact beq_iff_eq.mp q
  split at h; · rename_i q; cases h; exact beq_iff_eq.mp q
  split at h; · rename_i q; cases h; exact beq_iff_eq.mp q
  split at h; · rename_i q; cases h; exact beq_iff_eq.mp q
  split at h; · rename_i q; cases h; exact beq_iff_eq.mp q
  split at h; · rename_i q; cases h; exact beq_iff_eq.mp q
  cases h

/-- where things lie -/
structure Pg where
  dic : Addr
  ws : Addr
  ind : Addr
  tb : List (Int × List Nat)
def bltNames : List Str := ["len", "min", "max", "sum", "hex", "int", "list", "tuple", "divmod", "range", "enumerate", "zip"]
def attrNames : List Str := ["raw", "n", "nt", "norm", "is_simple"]
structure PgOk (K : Frag) (p : Pg) : Prop where
  blt : bltNames.all (fun x => nsIn K mainGlobals x == some none) = true
  gl0 : ∃ t, nsIn K mainGlobals "ELLIPSIS_MARKER" = some (some (.str (toS [46, 46, 46]) t))
  gl1 : nsIn K mainGlobals "COMPILER_FLAG_NAMES" = some (some (.ref p.dic))
  gl2 : nsIn K mainGlobals "Whitespace" = some (some (.ref p.ws))
  tab : readTab K p.dic = some p.tb
  sysm : (p.dic == sysModules) = false
  get : plainGet K p.ws "" = true
  dict : hasDictIn K p.ws = true
  attr : attrNames.all (fun x => findIn K (.ref p.ws) x == some none) = true
  ind : findIn K (.ref p.ws) "indent_level" = some (some (.ref p.ind))
  indF : isFn K (.ref p.ind) = true
  indK : keepIn K (.ref p.ind) = true
  mc : readsIn K p.ws (.type "type") = true
  clsS : ∃ t, findCls K (.ref p.ws) (.type "type") "S" = some (.val (.str (toS [32]) t))
  clsT : ∃ t, findCls K (.ref p.ws) (.type "type") "T" = some (.val (.str (toS [9]) t))

def intF (x : UInt64) : Option Int := match Float64.decode x with
  | .fin sg m e => some (Float64.truncOf sg m e)
  | _ => none
def biW (f : Fn) (ds : List D) (K : D → Fl → Prop) : Prop := match f, ds with
  | .len, [.lst l] => l.length ≤ 16777216 ∧ K (.int l.length) .fr
  | .len, [.str l] => l.length ≤ 16777216 ∧ K (.int l.length) .fr
  | .len, [.tup l] => l.length ≤ 16777216 ∧ K (.int l.length) .fr
  | .min, [.int a, .int b] => K (.int (if b < a then b else a)) .fr
  | .max, [.int a, .int b] => K (.int (if b > a then b else a)) .fr
  | .min, [.flt a x, .flt b y, .flt d z] => K (fltD (ltF (ltF (a, x) (b, y)) (d, z))) .fr
  | .max, [.flt a x, .flt b y, .flt d z] => K (fltD (gtF (gtF (a, x) (b, y)) (d, z))) .fr
  | .max, [.lst l] => ∃ (l' : List Int) (m : Int), l = l'.map D.int ∧ m ∈ l' ∧ (∀ a ∈ l', a ≤ m) ∧ K (.int m) .fr
  | .sum, [.lst l] => ∃ l' : List Int, l = l'.map D.int ∧ (∀ a ∈ l', 0 ≤ a ∧ a ≤ 1099511627776) ∧ l'.length ≤ 1048576 ∧ K (.int l'.sum) .fr
  | .hex, [.int i] => i.natAbs < 1000000000000 ∧ K (.str (hexL i)) .fr
  | .int, [.flt x _] => ∃ i, intF x = some i ∧ K (.int i) .fr
  | .tuple, [.lst l] => l.length ≤ 16777216 ∧ K (.tup l) .fr
  | _, _ => False
def meW (p : Pg) (m : Mt) (d₀ : D) (ds : List D) (K : D → Fl → Prop) : Prop := match m, d₀, ds with
  | .join, .str sep, [.lst l] => ∃ ls : List (List Nat), l = ls.map D.str ∧ (ls.map (·.length)).sum + ls.length * sep.length ≤ 16777216 ∧ K (.str (joinL sep ls)) .fr
  | .split, .str x, [.str y] => (x.length ≤ 1048576 ∧ y ≠ []) ∧ K (.lst ((splitL x y).map D.str)) .fr
  | .startswith, .str x, [.str y] => K (.bool (startsL x y)) .fr
  | .endswith, .str x, [.str y] => K (.bool (endsL x y)) .fr
  | .find, .str x, [.str y, .int i, .int j] => K (.int (findL x y i j)) .fr
  | .count, .lst l, [.int k] => ∃ l' : List Int, l = l'.map D.int ∧ K (.int (l'.count k : Nat)) .fr
  | .index, .lst l, [.flt x .new] => (okF x l = true ∧ l.length ≤ 16777216) ∧ optW (idxF x l) fun j => K (.int j) .fr
  | .get, .raw (.ref a), [.int i, .str l] => a = p.dic ∧ K (.str ((p.tb.lookup i).getD l)) .fr
  | _, _, _ => False
def mvW (p : Pg) (m : Mt) (d₀ : D) : Option Value := match m, d₀ with
  | .join, .str _ => some (.builtin "str.join")
  | .split, .str _ => some (.builtin "str.split")
  | .startswith, .str _ => some (.builtin "str.startswith")
  | .endswith, .str _ => some (.builtin "str.endswith")
  | .find, .str _ => some (.builtin "str.find")
  | .count, .lst _ => some (.builtin "list.count")
  | .index, .lst _ => some (.builtin "list.index")
  | .get, .raw (.ref a) => if a = p.dic then some (.builtin "dict.get") else none
  | .indent, .obj C fs => if C = p.ws ∧ fs.lookup ("indent_level" : Str) = Option.none then some (.ref p.ind) else none
  | _, _ => none
def gaW (p : Pg) (x : Str) (d₀ : D) (K : D → Prop) : Prop := match d₀ with
  | .obj C fs => (C = p.ws ∧ attrNames.contains x = true) ∧ optW (fs.lookup x) fun d => d.handed = true ∧ K d
  | .raw (.ref a) => a = p.ws ∧ ((x = "S" ∧ K (.str [32])) ∨ (x = "T" ∧ K (.str [9])))
  | _ => False
def glNames : List Str := ["ELLIPSIS_MARKER", "COMPILER_FLAG_NAMES", "Whitespace"]
def glW (p : Pg) : Nat → Option D
  | 0 => some (.str [46, 46, 46])
  | 1 => some (.raw (.ref p.dic))
  | 2 => some (.raw (.ref p.ws))
  | _ => none
/-- the table, with what the program's own functions do -/
def tabW (p : Pg) (fn : Nat → List D → (D → Fl → Prop) → Prop) (ind : D → List D → (D → Fl → Prop) → Prop) : Tab where
  bi := biW
  fn := fn
  gl := glW p
  mv := fun x d => (mtOf x).bind fun m => mvW p m d
  me := fun x d ds K => optW (mtOf x) fun m => match m with
    | .indent => ind d ds K
    | m => meW p m d ds K
  ga := gaW p
end Mine

end

section
open PySem PySem.W PyProof.Rows
set_option Elab.async false
set_option linter.unusedVariables false
set_option maxRecDepth 4000
namespace Mine
section
variable {c : Cx} {A : Around} {p : Pg}
theorem CallW.imp {f : Value} {ds : List Mine.D} {K K' : Mine.D → Fl → Prop} (h : CallW c A f ds K) (k : ∀ d fl, K d fl → K' d fl) : CallW c A f ds K' :=
  fun Z W E s vs hw hp r => mono (h Z W E s vs hw hp r) fun v s' a => ⟨a.1, let ⟨d, fl, q, x⟩ := a.2; ⟨d, fl, k d fl q, x⟩⟩
theorem blt_of {x : Str} (O : PgOk c.K p) (hx : bltNames.contains x = true) : nsIn c.K mainGlobals x = some none := by
  have := List.all_eq_true.mp O.blt x (List.contains_iff_mem.mp hx)
  exact beq_iff_eq.mp this
theorem bi_ok (hh : A.handled = none) (O : PgOk c.K p) (f : Fn) (hf : ∀ n, f ≠ .user n) : ∃ x v, (∀ ct, f.name ct = some x) ∧ bootBuiltins x = some v ∧ x ≠ "__name__" ∧ (∀ a, v ≠ .ref a) ∧ nsIn c.K mainGlobals x = some none ∧ ∀ ds K, biW f ds K → CallW c A v ds K := by
  cases f with
  | user n => exact absurd rfl (hf n)
  | len =>
    refine ⟨"len", .builtin "len", fun _ => rfl, by kernel_rfl, by decide +kernel, (fun _ e => nomatch e), blt_of O (by decide +kernel), fun ds K h => ?_⟩
    unfold biW at h
    split at h <;> first | exact bi_len_lst h.1 h.2 | exact bi_len_str h.1 h.2 | exact bi_len_tup h.1 h.2 | contradiction | exact h.elim
  | min =>
    refine ⟨"min", .builtin "min", fun _ => rfl, by kernel_rfl, by decide +kernel, (fun _ e => nomatch e), blt_of O (by decide +kernel), fun ds K h => ?_⟩
    unfold biW at h
    split at h <;> first | contradiction | skip
    all_goals first | exact bi_min2 hh h | exact bi_min3 (a := (_, _)) (b := (_, _)) (d := (_, _)) hh h
  | max =>
    refine ⟨"max", .builtin "max", fun _ => rfl, by kernel_rfl, by decide +kernel, (fun _ e => nomatch e), blt_of O (by decide +kernel), fun ds K h => ?_⟩
    unfold biW at h
    split at h <;> first | contradiction | skip
    · exact bi_max2 hh h
    · exact bi_max3 (a := (_, _)) (b := (_, _)) (d := (_, _)) hh h
    · obtain ⟨l', m, rfl, hm, hle, hK⟩ := h
      refine bi_max hh (by intro e; rw [e] at hm; cases hm) fun m' h1 h2 => ?_
      have : m' = m := Int.le_antisymm (hle _ h1) (h2 _ hm)
      rw [this]; exact hK
  | sum =>
    refine ⟨"sum", .builtin "sum", fun _ => rfl, by kernel_rfl, by decide +kernel, (fun _ e => nomatch e), blt_of O (by decide +kernel), fun ds K h => ?_⟩
    unfold biW at h
    split at h <;> first | contradiction | skip
    · obtain ⟨l', rfl, h1, h2, h3⟩ := h; exact bi_sum hh h1 h2 h3
  | hex =>
    refine ⟨"hex", .builtin "hex", fun _ => rfl, by kernel_rfl, by decide +kernel, (fun _ e => nomatch e), blt_of O (by decide +kernel), fun ds K h => ?_⟩
    unfold biW at h
    split at h <;> first | exact bi_hex h.1 h.2 | contradiction | exact h.elim
  | int =>
    refine ⟨"int", .type "int", fun _ => rfl, by kernel_rfl, by decide +kernel, (fun _ e => nomatch e), blt_of O (by decide +kernel), fun ds K h => ?_⟩
    unfold biW at h
    split at h <;> first | contradiction | skip
    · obtain ⟨i, hi, h⟩ := h
      unfold intF at hi
      split at hi
      · rename_i hd; cases hi; exact bi_int_flt hd h
      · cases hi
  | list =>
    refine ⟨"list", .type "list", fun _ => rfl, by kernel_rfl, by decide +kernel, (fun _ e => nomatch e), blt_of O (by decide +kernel), fun ds K h => ?_⟩
    unfold biW at h
    split at h <;> first | contradiction | exact h.elim
  | tuple =>
    refine ⟨"tuple", .type "tuple", fun _ => rfl, by kernel_rfl, by decide +kernel, (fun _ e => nomatch e), blt_of O (by decide +kernel), fun ds K h => ?_⟩
    unfold biW at h
    split at h <;> first | exact bi_tuple h.1 h.2 | contradiction | exact h.elim
  | divmod =>
    refine ⟨"divmod", .builtin "divmod", fun _ => rfl, by kernel_rfl, by decide +kernel, (fun _ e => nomatch e), blt_of O (by decide +kernel), fun ds K h => ?_⟩
    unfold biW at h
    split at h <;> first | contradiction | exact h.elim
theorem getM_str {x : List Nat} {Z : Addr → Prop} {E : Value → Shared → Prop} {s : Shared} {v : Value} {pl : Sem Bool} {name : Str} {id : String} (r : Rt c s (NZ Z) v (.str x)) (slot : PySem.Slot "str" name id) (ty : typeOf (.builtin id) = pure (.type "method_descriptor")) :
    wpAny (model c.prog c.w) A (getMethod v name pl) (fun fx s' => fx = (.builtin id, [v]) ∧ Kp s s') E s := by
  obtain ⟨t, rfl⟩ := r.str_inv
  exact GM.of _ (typeIs_str _ _ _) slot ty GM.noRef ⟨rfl, .rfl'⟩
theorem getM_lst {l : List Mine.D} {Z : Addr → Prop} {E : Value → Shared → Prop} {s : Shared} {v : Value} {pl : Sem Bool} {name : Str} {id : String} (r : Rt c s (NZ Z) v (.lst l)) (slot : PySem.Slot "list" name id) (ty : typeOf (.builtin id) = pure (.type "method_descriptor")) :
    wpAny (model c.prog c.w) A (getMethod v name pl) (fun fx s' => fx = (.builtin id, [v]) ∧ Kp s s') E s := by
  obtain ⟨a, us, n, rfl, g, rl⟩ := r.lst_inv
  exact getMethod_builtin ⟨_, g, rfl⟩ PySem.F.plainAttrs_list slot ty (fun a e => by cases e; exact ⟨_, g, rfl⟩) ⟨rfl, .rfl'⟩
theorem mv_str {m : Mt} {x : List Nat} {f : Value} (h : mvW p m (.str x) = some f) : ∃ id, f = .builtin id ∧ PySem.Slot "str" m.str id ∧ typeOf (.builtin id) = pure (.type "method_descriptor") := by
  cases m <;> simp only [mvW] at h <;> first | cases h
  · exact ⟨_, rfl, F.slot_str_join, F.type_str_join⟩
  · exact ⟨_, rfl, F.slot_str_split, F.type_str_split⟩
  · exact ⟨_, rfl, F.slot_str_startswith, F.type_str_startswith⟩
  · exact ⟨_, rfl, F.slot_str_endswith, F.type_str_endswith⟩
  · exact ⟨_, rfl, F.slot_str_find, F.type_str_find⟩
theorem me_ok {m : Mt} {d₀ : Mine.D} {f : Value} (O : PgOk c.K p) (hf : mvW p m d₀ = some f) (hm : m ≠ .indent) : (∀ a, f ≠ .ref a) ∧ (∀ ds K, meW p m d₀ ds K → CallW c A f (d₀ :: ds) K) ∧
    ∀ (Z : Addr → Prop) (E : Value → Shared → Prop) (s : Shared) (v : Value) (pl : Sem Bool), Pre c Z s → Rt c s (NZ Z) v d₀ → wpAny (model c.prog c.w) A (getMethod v m.str pl) (fun fx s' => fx = (f, [v]) ∧ Kp s s') E s := by
  have key : ∀ id, f = .builtin id → ∀ a, f ≠ .ref a := fun id e a h => by rw [e] at h; cases h
  unfold mvW at hf
  split at hf
  · cases hf
    refine ⟨key _ rfl, fun ds K h => ?_, fun Z E s v pl hp r => getM_str r F.slot_str_join F.type_str_join⟩
    unfold meW at h
    split at h <;> first | contradiction | skip
    injections; subst_vars
    obtain ⟨ls, rfl, h1, h2⟩ := h; exact me_join h1 h2
  · cases hf
    refine ⟨key _ rfl, fun ds K h => ?_, fun Z E s v pl hp r => getM_str r F.slot_str_split F.type_str_split⟩
    unfold meW at h
    split at h <;> first | contradiction | skip
    injections; subst_vars
    exact me_split h.1.1 h.1.2 h.2
  · cases hf
    refine ⟨key _ rfl, fun ds K h => ?_, fun Z E s v pl hp r => getM_str r F.slot_str_startswith F.type_str_startswith⟩
    unfold meW at h
    split at h <;> first | contradiction | skip
    injections; subst_vars
    exact me_startswith h
  · cases hf
    refine ⟨key _ rfl, fun ds K h => ?_, fun Z E s v pl hp r => getM_str r F.slot_str_endswith F.type_str_endswith⟩
    unfold meW at h
    split at h <;> first | contradiction | skip
    injections; subst_vars
    exact me_endswith h
  · cases hf
    refine ⟨key _ rfl, fun ds K h => ?_, fun Z E s v pl hp r => getM_str r F.slot_str_find F.type_str_find⟩
    unfold meW at h
    split at h <;> first | contradiction | skip
    injections; subst_vars
    exact me_find h
  · cases hf
    refine ⟨key _ rfl, fun ds K h => ?_, fun Z E s v pl hp r => getM_lst r F.slot_list_count F.type_list_count⟩
    unfold meW at h
    split at h <;> first | contradiction | skip
    injections; subst_vars
    obtain ⟨l', rfl, h⟩ := h; exact me_count h
  · cases hf
    refine ⟨key _ rfl, fun ds K h => ?_, fun Z E s v pl hp r => getM_lst r F.slot_list_index F.type_list_index⟩
    unfold meW at h
    split at h <;> first | contradiction | skip
    injections; subst_vars
    obtain ⟨j, hj, h2⟩ := optW_ok h.2
    exact me_index h.1.1 hj h.1.2 h2
  · rename_i a
    split at hf
    · rename_i ha; subst ha; cases hf
      refine ⟨key _ rfl, fun ds K h => ?_, fun Z E s v pl hp r => ?_⟩
      · unfold meW at h
        split at h <;> first | contradiction | skip
        injections; subst_vars
        exact me_get O.tab O.sysm h.2
      · have := r.raw_inv; subst this
        have ht := O.tab
        unfold readTab at ht
        split at ht
        · rename_i es n sl ho
          have hg := hp.kin _ _ ho
          exact getMethod_builtin ⟨_, hg, rfl⟩ PySem.F.plainAttrs_dict PySem.F.slot_dict_get PySem.F.type_dict_get (fun a e => by cases e; exact ⟨_, hg, rfl⟩) ⟨rfl, .rfl'⟩
        · cases ht
    · cases hf
  · exact absurd rfl hm
  · cases hf
theorem ga_ok {x : Str} {d₀ : Mine.D} {K : Mine.D → Prop} (O : PgOk c.K p) (h : gaW p x d₀ K) : ∃ d, K d ∧ ∀ (Z : Addr → Prop) (E : Value → Shared → Prop) (s : Shared) (v : Value), Pre c Z s → Rt c s (NZ Z) v d₀ → wpAny (model c.prog c.w) A (getAttr v x true) (fun r s' => Kp s s' ∧ R c s' (NZ Z) r d) E s := by
  unfold gaW at h
  split at h
  · rename_i C fs
    obtain ⟨⟨rfl, hx⟩, h⟩ := h
    obtain ⟨d, hd, hh, hK⟩ := optW_ok h
    refine ⟨d, hK, fun Z E s v hp r => ?_⟩
    have ha := beq_iff_eq.mp (List.all_eq_true.mp O.attr x (List.contains_iff_mem.mp hx))
    exact attr_obj hp r ⟨O.get, O.dict⟩ ha rfl hd hh
  · rename_i a
    obtain ⟨rfl, h⟩ := h
    rcases h with ⟨rfl, hK⟩ | ⟨rfl, hK⟩
    · refine ⟨_, hK, fun Z E s v hp r => ?_⟩
      have := r.raw_inv; subst this
      obtain ⟨t, ht⟩ := O.clsS
      exact cls_value hp.kin O.mc ht rfl ⟨.tok1, R.str _ _⟩
    · refine ⟨_, hK, fun Z E s v hp r => ?_⟩
      have := r.raw_inv; subst this
      obtain ⟨t, ht⟩ := O.clsT
      exact cls_value hp.kin O.mc ht rfl ⟨.tok1, R.str _ _⟩
  · exact h.elim
theorem tabW_ok {fn : Nat → List Mine.D → (Mine.D → Fl → Prop) → Prop} {ind : Mine.D → List Mine.D → (Mine.D → Fl → Prop) → Prop} {un : List Str} (O : PgOk c.K p) (hh : A.handled = none)
    (hfn : ∀ n name, un[n]? = some name → ∃ a, nsIn c.K mainGlobals name = some (some (.ref a)) ∧ keepIn c.K (.ref a) = true ∧ ∀ ds K, fn n ds K → CallW c A (.ref a) ds K)
    (hind : ∀ fs ds K, ind (.obj p.ws fs) ds K → CallW c A (.ref p.ind) (.obj p.ws fs :: ds) K) : TabOk c A (tabW p fn ind) un glNames where
  fn := hfn
  gl := fun n d h => by
    match n, h with
    | 0, h => cases h; obtain ⟨t, ht⟩ := O.gl0; exact ⟨_, _, rfl, ht, fun Z s _ => R.str _ _⟩
    | 1, h => cases h; exact ⟨_, _, rfl, O.gl1, fun Z s _ => R.raw _⟩
    | 2, h => cases h; exact ⟨_, _, rfl, O.gl2, fun Z s _ => R.raw _⟩
    | n + 3, h => cases h
  me := fun x d₀ f hf => by
    simp only [tabW] at hf ⊢
    cases hm : mtOf x with
    | none => rw [hm] at hf; cases hf
    | some m =>
      rw [hm] at hf
      have hx := mtOf_eq hm
      subst hx
      by_cases hi : m = .indent
      · subst hi
        simp only [Option.bind_some] at hf
        unfold mvW at hf
        split at hf <;> first | contradiction | skip
        rename_i C fs _
        split at hf
        · rename_i hc
          obtain ⟨rfl, hl⟩ := hc
          cases hf
          exact ⟨.inl O.indK, fun ds K h => hind fs ds K h, fun Z E s v pl hp r => meth_obj hp r ⟨O.get, O.dict⟩ O.ind O.indF hl⟩
        · cases hf
      · obtain ⟨h1, h2, h3⟩ := me_ok (A := A) O hf hi
        refine ⟨.inr h1, fun ds K h => h2 ds K ?_, h3⟩
        cases m <;> first | exact absurd rfl hi | exact h
  ga := fun x d₀ K h => ga_ok O h
  bi := fun f hf => bi_ok hh O f hf
  it := fun x h => blt_of O (by rcases h with rfl | rfl | rfl <;> decide +kernel)
end
end Mine

end

section
open PySem PySem.W PyProof.Rows
set_option Elab.async false
set_option linter.unusedVariables false
set_option maxRecDepth 4000
namespace Mine
mutual
/-- every number's age is set -/
def D.setA (g : Ag) : Mine.D → Mine.D
  | .flt x _ => .flt x g
  | .tup l => .tup (D.setL g l)
  | .lst l => .lst (D.setL g l)
  | .obj C f => .obj C (D.setF g f)
  | .dct f => .dct (D.setF g f)
  | .none => .none
  | .bool b => .bool b
  | .int i => .int i
  | .str s => .str s
  | .raw v => .raw v
def D.setL (g : Ag) : List Mine.D → List Mine.D
  | [] => []
  | d :: l => D.setA g d :: D.setL g l
def D.setF (g : Ag) : List (Str × Mine.D) → List (Str × Mine.D)
  | [] => []
  | (x, d) :: l => (x, D.setA g d) :: D.setF g l
end
theorem D.setL_eq (g : Ag) : ∀ l : List Mine.D, D.setL g l = l.map (D.setA g)
  | [] => rfl
  | d :: l => by rw [D.setL, List.map_cons, D.setL_eq g l]
abbrev Cx.at (c : Cx) (n : Nat) : Cx := { c with lo := n }
section
variable {c : Cx} {s : Shared} {P : Addr → Prop} {n m : Nat} {g : Ag}
mutual
theorem R.setA (hg : ∀ t, t < s.toks → (g = .new → m ≤ t) ∧ (g = .old → t < m)) : ∀ {v d}, R (c.at n) s P v d → R (c.at m) s P v (d.setA g)
  | _, _, .none => by unfold D.setA; exact .none
  | _, _, .bool b => by unfold D.setA; exact .bool b
  | _, _, .int i t => by unfold D.setA; exact .int i t
  | _, _, .flt x fr h0 hl hu => by unfold D.setA; exact .flt x g h0 (hg _ hu) hu
  | _, _, .str l t => by unfold D.setA; exact .str l t
  | _, _, .raw v => by unfold D.setA; exact .raw v
  | _, _, .tup p e r => by unfold D.setA; exact .tup p e (RL.setA hg r)
  | _, _, .lst p e r => by unfold D.setA; exact .lst p e (RL.setA hg r)
  | _, _, .obj p q e e' r => by unfold D.setA; exact .obj p q e e' (RF.setA hg r)
  | _, _, .dct p e r => by unfold D.setA; exact .dct p e (RK.setA hg r)
theorem RL.setA (hg : ∀ t, t < s.toks → (g = .new → m ≤ t) ∧ (g = .old → t < m)) : ∀ {vs ds}, RL (c.at n) s P vs ds → RL (c.at m) s P vs (D.setL g ds)
  | _, _, .nil => by unfold D.setL; exact .nil
  | _, _, .cons a b => by unfold D.setL; exact .cons (R.setA hg a) (RL.setA hg b)
theorem RF.setA (hg : ∀ t, t < s.toks → (g = .new → m ≤ t) ∧ (g = .old → t < m)) : ∀ {vs ds}, RF (c.at n) s P vs ds → RF (c.at m) s P vs (D.setF g ds)
  | _, _, .nil => by unfold D.setF; exact .nil
  | _, _, .cons a b => by unfold D.setF; exact .cons (R.setA hg a) (RF.setA hg b)
theorem RK.setA (hg : ∀ t, t < s.toks → (g = .new → m ≤ t) ∧ (g = .old → t < m)) : ∀ {vs ds}, RK (c.at n) s P vs ds → RK (c.at m) s P vs (D.setF g ds)
  | _, _, .nil => by unfold D.setF; exact .nil
  | _, _, .cons a b => by unfold D.setF; exact .cons (R.setA hg a) (RK.setA hg b)
end
theorem Rt.setA (hg : ∀ t, t < s.toks → (g = .new → m ≤ t) ∧ (g = .old → t < m)) {v d} (r : Rt (c.at n) s P v d) : Rt (c.at m) s P v (d.setA g) := by
  cases r with
  | of r => exact .of (r.setA hg)
  | tup e r => unfold D.setA; exact .tup e (r.setA hg)
  | lst e r => unfold D.setA; exact .lst e (r.setA hg)
  | dct e r => unfold D.setA; exact .dct e (r.setA hg)
end
def Slot.setA (g : Ag) : Slot → Slot
  | .un => .un
  | .cl d => .cl (d.setA g)
  | .rt d => .rt (d.setA g)
  | .ow d => .ow (d.setA g)
def Flw.setA (g : Ag) : Flw → Flw
  | .ret d fl => .ret (d.setA g) fl
  | f => f
theorem D.setA_isSeq (g : Ag) (d : Mine.D) : (d.setA g).isSeq = d.isSeq := by cases d <;> unfold D.setA <;> rfl
section
variable {c : Cx} {A : Around} {T : Tab} {env : Env} {Z W : Addr → Prop} {σ : List Slot} {s₀ s : Shared} {E : Value → Shared → Prop} {ct : Ct} {n m : Nat} {g : Ag}
theorem getElem?_mapS {σ : List Slot} {i : Nat} {sl : Slot} (h : (σ.map (Slot.setA g))[i]? = some sl) : ∃ sl', σ[i]? = some sl' ∧ sl = sl'.setA g := by
  rw [List.getElem?_map] at h
  cases q : σ[i]? with
  | none => rw [q] at h; cases h
  | some x => rw [q] at h; cases h; exact ⟨x, rfl, rfl⟩
theorem FSt.setA {ns : List Str} (f : FSt (c.at n) env Z W ns σ s) (hm : m ≤ s.toks) (hg : ∀ t, t < s.toks → (g = .new → m ≤ t) ∧ (g = .old → t < m)) : FSt (c.at m) env Z W ns (σ.map (Slot.setA g)) s := by
  refine ⟨⟨⟨f.st.pre.keep, f.st.pre.zin, hm⟩, fun i x sl h1 h2 => ?_⟩, f.wz, f.loc, f.nsx, f.cells, f.new, fun i d h => ?_, fun i x d h1 h2 a l => ?_⟩
  · obtain ⟨sl', h3, rfl⟩ := getElem?_mapS h2
    have r := f.st.vars i x sl' h1 h3
    cases sl' with
    | un => trivial
    | cl d => obtain ⟨v, l, r⟩ := r; exact ⟨v, l, r.setA hg⟩
    | rt d => obtain ⟨v, l, r, q⟩ := r; exact ⟨v, l, r.setA hg, q⟩
    | ow d => obtain ⟨v, l, r, q⟩ := r; exact ⟨v, l, r.setA hg, q⟩
  · obtain ⟨sl', h3, e⟩ := getElem?_mapS h
    cases sl' <;> cases e
    rw [D.setA_isSeq]; exact f.rts i _ h3
  · obtain ⟨sl', h3, e⟩ := getElem?_mapS h2
    cases sl' <;> cases e
    obtain ⟨p, q, r⟩ := f.own i x _ h1 h3 a l
    refine ⟨p, q, fun j y e g1 g2 l' => ?_⟩
    obtain ⟨sl'', h4, e'⟩ := getElem?_mapS g2
    cases sl'' <;> cases e'
    exact r j y _ g1 h4 l'
/-- a turn of a loop in which older numbers are told apart from new ones -/
theorem aged {body : Ss} {b1 : List Stmt} {Q : Flw → List Slot → Prop} (Sg : ∀ n, c.lo ≤ n → Sd (c.at n) A T ct.un ct.gl) (ef : EnvF ct env) (hm : mSs ct body b1 = true) (σ : List Slot)
    (h : wSs T body (σ.map (Slot.setA .old)) fun f σ' => Q (f.setA .any) (σ'.map (Slot.setA .any))) : ExW c A ct env σ (execs b1 env) Q := by
  intro Z W E s f
  have f' : FSt (c.at s.toks) env Z W ct.ns (σ.map (Slot.setA .old)) s := FSt.setA (n := c.lo) (m := s.toks) f (Nat.le_refl _) fun t ht => ⟨fun h => (nomatch h), fun _ => ht⟩
  refine mono (sSs (c := c.at s.toks) body ct (Sg _ f.st.pre.tks) env ef _ _ b1 hm h Z W E s f') fun fw s₁ h₁ => ?_
  obtain ⟨fw', σ', Z', W', hQ, hfl, f₁, l₁⟩ := h₁
  have f₂ : FSt c env Z' W' ct.ns (σ'.map (Slot.setA .any)) s₁ := FSt.setA (c := c) (n := s.toks) (m := c.lo) (g := .any) f₁ (Nat.le_trans f.st.pre.tks l₁.tk) fun t ht => ⟨fun h => (nomatch h), fun h => (nomatch h)⟩
  have hany : ∀ t, t < s₁.toks → ((Ag.any = .new → c.lo ≤ t) ∧ (Ag.any = .old → t < c.lo)) := fun t ht => ⟨fun h => (nomatch h), fun h => (nomatch h)⟩
  refine ⟨fw'.setA .any, _, Z', W', hQ, ?_, f₂, l₁⟩
  cases fw' with
  | next => exact hfl
  | brk => exact hfl
  | cont => exact hfl
  | ret d fl =>
    obtain ⟨v, rfl, h1, h2⟩ := hfl
    exact ⟨v, rfl, fun h => R.setA (c := c) (n := s.toks) (m := c.lo) hany (h1 h), Rt.setA (c := c) (n := s.toks) (m := c.lo) hany h2⟩

def catS : Ss → Ss → Ss
  | .nil, b => b
  | .cons x l, b => .cons x (catS l b)
  | .demote i l, b => .demote i (catS l b)
/-- a first part by the calculus, the rest by hand -/
theorem sSs_cat : ∀ (pre post : Ss) (ct : Ct) (Sg : Sd c A T ct.un ct.gl) (env : Env) (ef : EnvF ct env) (σ : List Slot) (Q : Flw → List Slot → Prop) (l : List Stmt), mSs ct (catS pre post) l = true →
    wSs T pre σ (fun f σ' => match f with
      | .next => ∀ l', mSs ct post l' = true → ExW c A ct env σ' (execs l' env) Q
      | f => Q f σ') → ExW c A ct env σ (execs l env) Q
  | .nil, post, ct, Sg, env, ef, σ, Q, l, hm, h => by
    unfold wSs at h
    exact h l hm
  | .cons x r, post, ct, Sg, env, ef, σ, Q, l, hm, h => by
    unfold catS mSs at hm; split at hm
    · simp only [Bool.and_eq_true] at hm
      unfold wSs at h
      intro Z W E s f
      refine wpAny_execs_cons (mono (sS x ct Sg env ef σ _ _ hm.1 h Z W E s f) fun fw s₁ h₁ => ?_)
      obtain ⟨fw', σ', Z', W', hQ, hfl, f', l'⟩ := h₁
      cases fw' with
      | next =>
        have : fw = .next := hfl; subst this
        exact mono (sSs_cat r post ct Sg env ef σ' Q _ hm.2 hQ Z' W' E s₁ f') fun g s₂ h₂ => h₂.trans l'
      | brk => have : fw = .brk := hfl; subst this; exact ⟨.brk, σ', Z', W', hQ, rfl, f', l'⟩
      | cont => have : fw = .cont := hfl; subst this; exact ⟨.cont, σ', Z', W', hQ, rfl, f', l'⟩
      | ret d fl => obtain ⟨v, rfl, hr⟩ := hfl; exact ⟨.ret d fl, σ', Z', W', hQ, ⟨v, rfl, hr⟩, f', l'⟩
    · cases hm
  | .demote i r, post, ct, Sg, env, ef, σ, Q, l, hm, h => by
    unfold catS mSs at hm
    unfold wSs owned at h
    intro Z W E s f
    split at h
    · rename_i d hd
      obtain ⟨hseq, h⟩ := h
      obtain ⟨W', f', hw⟩ := f.demote hseq hd ef.nodup
      refine mono (sSs_cat r post ct Sg env ef _ Q l hm h Z W' E s f') fun fw s₁ h₁ => ?_
      obtain ⟨fw', σ', Z₁, W₁, hQ, hfl, f₁, l₁⟩ := h₁
      exact ⟨fw', σ', Z₁, W₁, hQ, hfl, f₁, l₁.widen hw⟩
    · exact h.elim
theorem ExW.cons {s : Stmt} {l : List Stmt} {Q₁ Q : Flw → List Slot → Prop} (h1 : ExW c A ct env σ (exec s env) Q₁) (h2 : ∀ σ', Q₁ .next σ' → ExW c A ct env σ' (execs l env) Q) (h3 : ∀ f σ', f ≠ .next → Q₁ f σ' → Q f σ') : ExW c A ct env σ (execs (s :: l) env) Q := by
  intro Z W E s f
  refine wpAny_execs_cons (mono (h1 Z W E s f) fun fw s₁ h₁ => ?_)
  obtain ⟨fw', σ', Z', W', hQ, hfl, f', l'⟩ := h₁
  cases fw' with
  | next =>
    have : fw = .next := hfl; subst this
    exact mono (h2 σ' hQ Z' W' E s₁ f') fun g s₂ h₂ => h₂.trans l'
  | brk => have : fw = .brk := hfl; subst this; exact ⟨.brk, σ', Z', W', h3 _ _ (by intro h; cases h) hQ, rfl, f', l'⟩
  | cont => have : fw = .cont := hfl; subst this; exact ⟨.cont, σ', Z', W', h3 _ _ (by intro h; cases h) hQ, rfl, f', l'⟩
  | ret d fl => obtain ⟨v, rfl, hr⟩ := hfl; exact ⟨.ret d fl, σ', Z', W', h3 _ _ (by intro h; cases h) hQ, ⟨v, rfl, hr⟩, f', l'⟩
/-- a loop over what a number is compared with, and the rest -/
theorem sSs_aged {is : List Nat} {it : It} {body orelse post : Ss} {Q : Flw → List Slot → Prop} {l : List Stmt} (Sg : ∀ n, c.lo ≤ n → Sd (c.at n) A T ct.un ct.gl) (ef : EnvF ct env) (hm : mSs ct (.cons (.forS is it body orelse) post) l = true)
    (h : wIt T σ it fun ds fl => fl ≠ .ow ∧ forW is (fun σ Q => wSs T body (σ.map (Slot.setA .old)) fun f σ' => Q (f.setA .any) (σ'.map (Slot.setA .any))) (fun σ Q => wSs T orelse σ Q) ds σ fun f σ' => match f with
      | .next => ∀ l', mSs ct post l' = true → ExW c A ct env σ' (execs l' env) Q
      | f => Q f σ') : ExW c A ct env σ (execs l env) Q := by
  unfold mSs at hm; split at hm
  · simp only [Bool.and_eq_true] at hm
    obtain ⟨hm, hp⟩ := hm
    unfold mS at hm; split at hm
    · simp only [Bool.and_eq_true, Bool.or_eq_true, decide_eq_true_eq] at hm
      obtain ⟨⟨⟨⟨h1, h2⟩, h3⟩, h4⟩, h5⟩ := hm
      refine ExW.cons (aS_for (Sg _ (Nat.le_refl _)) ef h1 h2 h3 h (fun σ' Q' h' => aged Sg ef h4 σ' h') (fun σ' Q' h' => sSs orelse ct (Sg _ (Nat.le_refl _)) env ef σ' Q' _ h5 h')) (fun σ' h => h _ hp) fun f σ' hf h => ?_
      cases f with
      | next => exact absurd rfl hf
      | _ => exact h
    · cases hm
  · cases hm
end
end Mine

end

section
open PySem PySem.W PyProof.Rows
set_option Elab.async false
set_option linter.unusedVariables false
set_option maxRecDepth 4000
namespace Mine
/-- what is asked of a class whose objects' values may be stored -/
structure SetOk (K : Frag) (C : Addr) : Prop where
  set : findIn K (.ref C) "__setattr__" = some (some (.builtin "object.__setattr__"))
  plain : plainOver K C = true
  dict : hasDictIn K C = true
theorem putL_new {name : Str} {hsh : Int} {key v : Value} : ∀ {es : List DictEntry}, getL name es = some none → putL name hsh key v es = es ++ [⟨hsh, key, v⟩]
  | [], _ => rfl
  | e :: r, h => by
    unfold getL at h
    rw [List.find?_cons] at h
    unfold putL
    cases q : e.key.isStr name with
    | true => rw [q] at h; cases h
    | false =>
      rw [q] at h
      simp only [Bool.false_eq_true, if_false, List.cons_append]
      congr 1
      refine putL_new ?_
      unfold getL
      dsimp only at h
      cases q' : r.find? (fun x => x.key.isStr name) with
      | some x => rw [q'] at h; cases h
      | none =>
        rw [q'] at h
        dsimp only at h
        rw [List.any_cons] at h
        cases q2 : r.any (fun x => x.refKey) with
        | true => rw [q2] at h; simp at h
        | false => rfl
def others (h : Heap) (x y : Addr) : List (Addr × Obj) := (List.range h.objs.size).filterMap fun b => if b = x ∨ b = y then none else (h.get? b).map fun o => (b, o)
theorem others_mem {h : Heap} {x y b : Addr} {o : Obj} (e : h.get? b = some o) (h1 : b ≠ x) (h2 : b ≠ y) : (b, o) ∈ others h x y := by
  refine List.mem_filterMap.mpr ⟨b, List.mem_range.mpr (Heap.lt_size e), ?_⟩
  rw [if_neg (by simp [h1, h2]), e]; rfl
theorem others_of {h : Heap} {x y : Addr} {p : Addr × Obj} (hm : p ∈ others h x y) : p.1 ≠ x ∧ p.1 ≠ y ∧ h.get? p.1 = some p.2 := by
  obtain ⟨b, _, e⟩ := List.mem_filterMap.mp hm
  split at e
  · cases e
  · rename_i hn
    cases q : h.get? b with
    | none => rw [q] at e; cases e
    | some o => rw [q] at e; cases e; exact ⟨fun h => hn (.inl h), fun h => hn (.inr h), q⟩
abbrev noHeap : Heap := { objs := #[] }
theorem noHeap_get (b : Addr) : noHeap.get? b = none := Heap.get?_none_of_le (Nat.zero_le _)
theorem seq_ne_dict {es : List DictEntry} {n m : Nat} {t : String} {vs : List Value} (e : some (dictOf es n) = some (seqO t vs m)) : False := by
  injection e with e
  have := congrArg Obj.data e
  cases this
theorem seq_ne_inst {C dx : Addr} {m : Nat} {t : String} {vs : List Value} (e : some (instObj C dx) = some (seqO t vs m)) : False := by
  injection e with e
  have := congrArg Obj.data e
  cases this
section
variable {c : Cx} {A : Around} {T : Tab} {env : Env} {Z W : Addr → Prop} {σ : List Slot} {s : Shared} {E : Value → Shared → Prop} {ct : Ct}
theorem setAttr_new {Q : Unit → Shared → Prop} {x dx C L : Addr} {es : List DictEntry} {n : Nat} {name : Str} {v : Value} {m : Str → Option Value} (S : SetOk c.K C) (ht : takerIn c.K C name = some none) (hp : Pre c Z s)
    (hx : s.heap.get? x = some (instObj C dx)) (hd : s.heap.get? dx = some (dictOf es n)) (hn : s.heap.Ns L m) (hxL : dx ≠ L) (hl : getL name es = some none) (hz : es.length < 1000)
    (h : ∀ h' n' hsh, h'.Ns L m → (∀ b o, b ≠ dx → b ≠ L → s.heap.get? b = some o → h'.get? b = some o) → h'.get? dx = some (dictOf (es ++ [⟨hsh, .str name (s.toks + 1), v⟩]) n') → Q () { s with heap := h', toks := s.toks + 2 }) :
    wpAny (model c.prog c.w) A (setAttr (.ref x) name v) Q E s := by
  have I : InstAt s.heap x (instObj C dx) C (some (dictOf es n)) := ⟨hx, rfl, rfl, hd⟩
  have F : PyProof.Rows.Fr noHeap L s.heap m := ⟨hn, (fun b o e => by rw [noHeap_get] at e; cases e), Nat.zero_le _⟩
  have N : News noHeap L s.heap ([] ++ (dx, dictOf es n) :: others s.heap dx L) := fun p hp => by
    rcases List.mem_cons.mp hp with rfl | hp
    · exact ⟨hd, hxL, noHeap_get _⟩
    · obtain ⟨h1, h2, h3⟩ := others_of hp; exact ⟨h3, h2, noHeap_get _⟩
  refine set_plain hp.kin I S.set (osa_dict (s := { s with toks := s.toks + 1 }) (od' := dictOf (putL name (PyData.keyHash c.w.params name) (.str name (s.toks + 1)) v es) (putN name es n)) F N hp.kin I rfl S.plain ht S.dict (by rw [lookIn_dict, hl]; rfl) (fun _ h => nomatch h) (fun p hp => (others_of hp).1) (by rw [putName_dict]) rfl ?_ fun h' F' N' => ?_)
  · rw [putL_new hl, List.length_append]; simp; omega
  · rw [putL_new hl] at N'
    refine h h' _ _ F'.ns (fun b o h1 h2 e => ?_) (N' (dx, _) (List.mem_append_right _ List.mem_cons_self)).1
    exact (N' (b, o) (by simp [others_mem e h1 h2])).1

/-- slots whose roots are no tables -/
def Slot.easy : Slot → Bool
  | .un | .cl _ => true
  | .rt _ => false
  | .ow (.lst _) => true
  | .ow _ => false
theorem FSt.ow_ne {ns : List Str} {i : Nat} {y : Str} {l : List Mine.D} {dx : Addr} {a : Addr} {o : Obj} (f : FSt c env Z W ns σ s) (h1 : ns[i]? = some y) (h2 : σ[i]? = some (.ow (.lst l))) (lv : Loc env s.heap y (.ref a)) (hd : s.heap.get? dx = some o) (ho : ∀ vs n, o ≠ seqO "list" vs n) : a ≠ dx := by
  obtain ⟨b, lb, r, w⟩ := f.st.vars i y _ h1 h2
  have := lv.fun lb; cases this
  obtain ⟨b, us, m, e, g, _⟩ := r.lst_inv
  cases e
  intro e; subst e
  rw [g] at hd; cases hd
  exact ho _ _ rfl
theorem cell_ne {h : Heap} {a dx : Addr} {v : Option Value} {C : Addr} {es : List DictEntry} {n : Nat} (hc : h.IsCell a v) (hd : h.get? dx = some (dictOf es n)) : a ≠ dx := by
  obtain ⟨o, ho, hdt⟩ := hc
  intro e; subst e
  rw [ho] at hd; cases hd
  cases hdt
/-- a value of an object's table was stored -/
theorem FSt.turnD {s' : Shared} {dx : Addr} {es es' : List DictEntry} {n n' : Nat} (ef : EnvF ct env) (f : FSt c env Z W ct.ns σ s) (hz : Z dx) (hd : s.heap.get? dx = some (dictOf es n)) (hnew : c.h₀.get? dx = none) (hsh : ∃ h' tk, s' = { s with heap := h', toks := tk }) (ht : s.toks ≤ s'.toks)
    (hns : ∀ m, s.heap.Ns env.locals m → s'.heap.Ns env.locals m) (keep : ∀ b o, b ≠ dx → b ≠ env.locals → s.heap.get? b = some o → s'.heap.get? b = some o) (hd' : s'.heap.get? dx = some (dictOf es' n')) (he : ∀ (i : Nat) (sl : Mine.Slot), σ[i]? = some sl → sl.easy = true) :
    FSt c env Z W ct.ns σ s' := by
  have hL : Z env.locals := f.wz _ f.loc
  have kk : ∀ a o, NZ Z a → s.heap.get? a = some o → NZ Z a ∧ s'.heap.get? a = some o := fun a o p e => ⟨p, keep a o (fun h => p (h ▸ hz)) (fun h => p (h ▸ hL)) e⟩
  have hcell : ∀ x a v, env.cells.lookup x = some a → s.heap.IsCell a v → s'.heap.IsCell a v := fun x a v h hc => by
    have h1 : a ≠ dx := cell_ne (C := dx) hc hd
    have h2 : a ≠ env.locals := fun e => ef.hL x (e ▸ h)
    obtain ⟨o, ho, hdt⟩ := hc
    exact ⟨o, keep a o h1 h2 ho, hdt⟩
  have loc : ∀ {y : Str} {v : Value}, Loc env s.heap y v → Loc env s'.heap y v := fun {y v} l => by
    cases l with
    | loc m a b e => exact .loc m a (hns m b) e
    | cell a b e g => exact .cell a b e (hcell y a _ e g)
  have dom : ZIn Z s'.heap := fun a h => by
    by_cases h1 : a = dx
    · exact ⟨_, h1 ▸ hd'⟩
    · by_cases h2 : a = env.locals
      · obtain ⟨m, hm⟩ := f.nsx
        obtain ⟨o, _, _, ho, _⟩ := hns m hm
        exact ⟨o, h2 ▸ ho⟩
      · obtain ⟨o, e⟩ := f.st.pre.zin a h
        exact ⟨o, keep a o h1 h2 e⟩
  have rows : ∀ {i : Nat} {y : Str} {l : List Mine.D} {a : Addr}, ct.ns[i]? = some y → σ[i]? = some (.ow (.lst l)) → Loc env s.heap y (.ref a) → a ≠ dx ∧ a ≠ env.locals := fun {i y l a} h1 h2 lv =>
    ⟨f.ow_ne h1 h2 lv hd (fun vs m h => seq_ne_dict (congrArg some h)), (f.own i y _ h1 h2 a lv).1⟩
  refine ⟨⟨⟨fun b o e => keep b o (fun h => by rw [h, hnew] at e; cases e) (fun h => by rw [h, f.new _ f.loc] at e; cases e) (f.st.pre.keep b o e), dom, Nat.le_trans f.st.pre.tks ht⟩, fun j y q h1 h2 => ?_⟩, f.wz, f.loc, let ⟨m, h⟩ := f.nsx; ⟨m, hns m h⟩,
    fun x a h1 h2 => ⟨(f.cells x a h1 h2).1, let ⟨v, hv⟩ := (f.cells x a h1 h2).2; ⟨v, hcell x a v h2 hv⟩⟩, f.new, f.rts, fun j y d h1 h2 a lv => ?_⟩
  · have r := f.st.vars j y q h1 h2
    have hq := he j q h2
    cases q with
    | un => trivial
    | cl d => obtain ⟨v, lv, r⟩ := r; exact ⟨v, loc lv, r.trans ht kk⟩
    | rt d => cases hq
    | ow d =>
      obtain ⟨a, lv, r, w⟩ := r
      cases d with
      | lst l =>
        obtain ⟨b, us, m, e, g, rl⟩ := r.lst_inv
        cases e
        obtain ⟨n1, n2⟩ := rows h1 h2 lv
        exact ⟨a, loc lv, .lst (keep a _ n1 n2 g) (rl.trans ht kk), w⟩
      | _ => cases hq
  · have back : ∀ {j : Nat} {y : Str} {e : Mine.D} {b : Addr}, ct.ns[j]? = some y → σ[j]? = some (.ow e) → Loc env s'.heap y (.ref b) → Loc env s.heap y (.ref b) := fun {j y e b} h1 h2 l => by
      obtain ⟨b', l', _⟩ := f.st.vars j y _ h1 h2
      have := (loc l').fun l
      rw [← this]; exact l'
    obtain ⟨p, q, r⟩ := f.own j y d h1 h2 a (back h1 h2 lv)
    exact ⟨p, q, fun k z e g1 g2 l' => r k z e g1 g2 (back g1 g2 l')⟩

mutual
/-- deep values with no objects and tables in them -/
def D.plainB : Mine.D → Bool
  | .tup l => D.plainL l
  | .lst l => D.plainL l
  | .obj _ _ => false
  | .dct _ => false
  | .none => true
  | .bool _ => true
  | .int _ => true
  | .flt _ _ => true
  | .str _ => true
  | .raw _ => true
def D.plainL : List Mine.D → Bool
  | [] => true
  | d :: l => D.plainB d && D.plainL l
end
section
variable {P : Addr → Prop} {x dx C : Addr} {es : List DictEntry} {n : Nat}
mutual
theorem R.avoid (hx : s.heap.get? x = some (instObj C dx)) (hd : s.heap.get? dx = some (dictOf es n)) : ∀ {v d}, R c s P v d → d.plainB = true → R c s (fun a => P a ∧ a ≠ x ∧ a ≠ dx) v d
  | _, _, .none, _ => .none
  | _, _, .bool b, _ => .bool b
  | _, _, .int i t, _ => .int i t
  | _, _, .flt y fr h0 hl hu, _ => .flt y fr h0 hl hu
  | _, _, .str l t, _ => .str l t
  | _, _, .raw v, _ => .raw v
  | _, _, .tup p e r, h => .tup ⟨p, (fun q => by rw [q, hx] at e; exact seq_ne_inst e), fun q => by rw [q, hd] at e; exact seq_ne_dict e⟩ e (RL.avoid hx hd r (by unfold D.plainB at h; exact h))
  | _, _, .lst p e r, h => .lst ⟨p, (fun q => by rw [q, hx] at e; exact seq_ne_inst e), fun q => by rw [q, hd] at e; exact seq_ne_dict e⟩ e (RL.avoid hx hd r (by unfold D.plainB at h; exact h))
  | _, _, .obj _ _ _ _ _, h => by unfold D.plainB at h; cases h
  | _, _, .dct _ _ _, h => by unfold D.plainB at h; cases h
theorem RL.avoid (hx : s.heap.get? x = some (instObj C dx)) (hd : s.heap.get? dx = some (dictOf es n)) : ∀ {vs ds}, RL c s P vs ds → D.plainL ds = true → RL c s (fun a => P a ∧ a ≠ x ∧ a ≠ dx) vs ds
  | _, _, .nil, _ => .nil
  | _, _, .cons a b, h => by
    unfold D.plainL at h
    rw [Bool.and_eq_true] at h
    exact .cons (R.avoid hx hd a h.1) (RL.avoid hx hd b h.2)
end
end
theorem R.wide {P P' : Addr → Prop} {v : Value} {d : Mine.D} (r : R c s P v d) (h : ∀ a, P a → P' a) : R c s P' v d := r.trans (Nat.le_refl _) fun a o p e => ⟨h a p, e⟩
theorem RL.wide {P P' : Addr → Prop} {v : List Value} {d : List Mine.D} (r : RL c s P v d) (h : ∀ a, P a → P' a) : RL c s P' v d := r.trans (Nat.le_refl _) fun a o p e => ⟨h a p, e⟩
theorem RF.wide {P P' : Addr → Prop} {v : List DictEntry} {d : List (Str × Mine.D)} (r : RF c s P v d) (h : ∀ a, P a → P' a) : RF c s P' v d := r.trans (Nat.le_refl _) fun a o p e => ⟨h a p, e⟩
/-- the object's own addresses become nobody's -/
theorem FSt.freeze {x dx C : Addr} {es : List DictEntry} {n : Nat} (ef : EnvF ct env) (f : FSt c env Z W ct.ns σ s) (hx : s.heap.get? x = some (instObj C dx)) (hd : s.heap.get? dx = some (dictOf es n)) (hxW : ¬ W x) (hL : env.locals ≠ dx) (he : ∀ (i : Nat) (sl : Mine.Slot), σ[i]? = some sl → sl.easy = true) :
    FSt c env (fun a => Z a ∧ a ≠ x ∧ a ≠ dx) (fun a => W a ∧ a ≠ dx) ct.ns σ s := by
  have nz : ∀ a, NZ Z a → NZ (fun a => Z a ∧ a ≠ x ∧ a ≠ dx) a := fun a h h' => h h'.1
  refine ⟨⟨⟨f.st.pre.keep, fun a h => f.st.pre.zin a h.1, f.st.pre.tks⟩, fun j y q h1 h2 => ?_⟩, fun a h => ⟨f.wz a h.1, (fun e => hxW (e ▸ h.1)), h.2⟩, ⟨f.loc, hL⟩, f.nsx, fun y a h1 h2 => ⟨⟨(f.cells y a h1 h2).1, let ⟨v, hv⟩ := (f.cells y a h1 h2).2; cell_ne (C := dx) hv hd⟩, (f.cells y a h1 h2).2⟩, fun a h => f.new a h.1, f.rts, f.own⟩
  have r := f.st.vars j y q h1 h2
  have hq := he j q h2
  cases q with
  | un => trivial
  | cl d => obtain ⟨v, lv, r⟩ := r; exact ⟨v, lv, r.wide nz⟩
  | rt d => cases hq
  | ow d =>
    obtain ⟨a, lv, r, w⟩ := r
    cases d with
    | lst l =>
      obtain ⟨b, us, m, e, g, rl⟩ := r.lst_inv
      cases e
      exact ⟨a, lv, .lst g (rl.wide nz), w, f.ow_ne h1 h2 lv hd (fun vs m h => seq_ne_dict (congrArg some h))⟩
    | _ => cases hq
def Slot.plain : Slot → Bool
  | .un => true
  | .cl d => d.plainB
  | .rt _ => false
  | .ow (.lst l) => D.plainL l
  | .ow _ => false
/-- the object's own addresses are ours again -/
theorem FSt.thaw {x dx C : Addr} {es : List DictEntry} {n : Nat} (ef : EnvF ct env) (f : FSt c env Z W ct.ns σ s) (hx : s.heap.get? x = some (instObj C dx)) (hd : s.heap.get? dx = some (dictOf es n)) (hnew : c.h₀.get? dx = none) (he : ∀ (i : Nat) (sl : Mine.Slot), σ[i]? = some sl → sl.plain = true) :
    FSt c env (fun a => Z a ∨ a = x ∨ a = dx) (fun a => W a ∨ a = dx) ct.ns σ s := by
  have nz : ∀ a, (NZ Z a ∧ a ≠ x ∧ a ≠ dx) → NZ (fun a => Z a ∨ a = x ∨ a = dx) a := fun a h h' => by rcases h' with h' | h' | h'; exact h.1 h'; exact h.2.1 h'; exact h.2.2 h'
  refine ⟨⟨⟨f.st.pre.keep, fun a h => ?_, f.st.pre.tks⟩, fun j y q h1 h2 => ?_⟩, fun a h => h.elim (fun h => .inl (f.wz a h)) fun h => .inr (.inr h), .inl f.loc, f.nsx, fun y a h1 h2 => ⟨.inl (f.cells y a h1 h2).1, (f.cells y a h1 h2).2⟩, fun a h => h.elim (f.new a) fun e => e ▸ hnew, f.rts, f.own⟩
  · rcases h with h | rfl | rfl
    · exact f.st.pre.zin a h
    · exact ⟨_, hx⟩
    · exact ⟨_, hd⟩
  · have r := f.st.vars j y q h1 h2
    have hq := he j q h2
    cases q with
    | un => trivial
    | cl d => obtain ⟨v, lv, r⟩ := r; exact ⟨v, lv, (R.avoid hx hd r hq).wide nz⟩
    | rt d => cases hq
    | ow d =>
      obtain ⟨a, lv, r, w⟩ := r
      cases d with
      | lst l =>
        obtain ⟨b, us, m, e, g, rl⟩ := r.lst_inv
        cases e
        exact ⟨a, lv, .lst g ((RL.avoid hx hd rl hq).wide nz), .inl w⟩
      | _ => cases hq
end
end Mine

end

section
open PySem PySem.W PyProof.Rows
set_option Elab.async false
set_option linter.unusedVariables false
set_option maxRecDepth 4000
namespace Mine
/-- the store of a value of the object itself -/
def isSet (ct : Ct) (name : Str) (e : X) (s : Stmt) : Bool := match s with
  | .Assign [.Attribute (.Name y _) nm _] v _ => ct.ns[0]? == some y && !(y == ("__debug__" : Str)) && nm == name && notComp v && mX ct e v
  | _ => false
section
variable {c : Cx} {A : Around} {T : Tab} {env : Env} {Z W : Addr → Prop} {σ : List Slot} {s : Shared} {E : Value → Shared → Prop} {ct : Ct}
structure IS (c : Cx) (env : Env) (ct : Ct) (x dx C : Addr) (fs : List (Str × Mine.D)) (Z W : Addr → Prop) (σ : List Slot) (s : Shared) : Prop where
  f : FSt c env Z W ct.ns σ s
  hx : s.heap.get? x = some (instObj C dx)
  hd : ∃ es n, s.heap.get? dx = some (dictOf es n) ∧ RF c s (NZ Z) es fs ∧ es.length = fs.length
  zx : Z x
  wd : W dx
  xW : ¬ W x
  dL : dx ≠ env.locals
  easy : ∀ (i : Nat) (sl : Mine.Slot), σ[i]? = some sl → sl.easy = true
  self : σ[0]? = some (.cl (.raw (.ref x)))
  new : c.h₀.get? dx = none
theorem RF.snoc {P : Addr → Prop} {es : List DictEntry} {fs : List (Str × Mine.D)} {h : Int} {f : Str} {t : Tok} {v : Value} {d : Mine.D} (r : RF c s P es fs) (q : R c s P v d) : RF c s P (es ++ [⟨h, .str f t, v⟩]) (fs ++ [(f, d)]) := by
  induction es generalizing fs with
  | nil => cases r; exact .cons q .nil
  | cons e es ih => cases r with | cons a b => exact .cons a (ih b)
theorem store_attr {x dx C : Addr} {fs : List (Str × Mine.D)} {name : Str} {e : X} {st : Stmt} {K : Mine.D → Prop} (Sg : Sd c A T ct.un ct.gl) (ef : EnvF ct env) (I : IS c env ct x dx C fs Z W σ s) (S : SetOk c.K C) (ht : takerIn c.K C name = some none) (hm : isSet ct name e st = true)
    (hf : fs.lookup name = none) (hl : fs.length < 900) (h : wX T σ e fun d fl => clean fl d ∧ K d) :
    wpAny (model c.prog c.w) A (exec st env) (fun fw s' => fw = .next ∧ ∃ d, K d ∧ IS c env ct x dx C (fs ++ [(name, d)]) Z W σ s' ∧ Later Z W s Z W s') E s := by
  unfold isSet at hm; split at hm
  · rename_i y p nm p2 v p3
    simp only [Bool.and_eq_true, beq_iff_eq, Bool.not_eq_true'] at hm
    obtain ⟨⟨⟨⟨hy, hdb⟩, rfl⟩, hnc⟩, hmx⟩ := hm
    refine plainObj_wpAny_Assign_Attribute ?_ (notComp_swaps hnc _ _)
    refine mono (sX e ct Sg env Z W σ _ _ I.f.wz hmx ef.m h E s I.f.st) fun v s₁ h₁ => ?_
    obtain ⟨k₁, d, fl, ⟨hcl, hK⟩, r⟩ := h₁
    have f₁ := I.f.keeps k₁
    obtain ⟨u, lu, ru⟩ := f₁.st.vars 0 y _ hy I.self
    have := (Rt.of ru).raw_inv; subst this
    refine SlotR.name ef.m.ok lu ?_ hdb
    have rv : R c s₁ (NZ Z) v d := by
      unfold clean at hcl
      rw [Bool.or_eq_true] at hcl
      rcases hcl with q | q
      · exact r.r q
      · exact (r.rt.scal q).1
    obtain ⟨es, n, hd, rf, hle⟩ := I.hd
    have hd₁ := k₁.get _ _ hd
    have hx₁ := k₁.get _ _ I.hx
    have rf₁ := rf.keeps k₁
    obtain ⟨m, hns⟩ := f₁.nsx
    have hz : Z dx := I.f.wz _ I.wd
    refine setAttr_new S ht f₁.st.pre hx₁ hd₁ hns I.dL (rf₁.noName hf) (by omega) fun h' n' hsh hns' keep hd' => ⟨rfl, d, hK, ?_, ?_⟩
    · have f' : FSt c env Z W ct.ns σ { s₁ with heap := h', toks := s₁.toks + 2 } := f₁.turnD ef hz hd₁ I.new ⟨_, _, rfl⟩ (Nat.le_add_right _ _) (fun m' hm' => by
          have := hns.agree hm'
          have e : m = m' := funext this
          rw [← e]; exact hns') keep hd' I.easy
      have kk : ∀ a o, NZ Z a → s₁.heap.get? a = some o → NZ Z a ∧ h'.get? a = some o := fun a o p e => ⟨p, keep a o (fun q => p (q ▸ hz)) (fun q => p (q ▸ I.f.wz _ I.f.loc)) e⟩
      have hxd : x ≠ dx := fun e => I.xW (e ▸ I.wd)
      have hxL : x ≠ env.locals := fun e => I.xW (e ▸ I.f.loc)
      exact ⟨f', keep x _ hxd hxL hx₁, ⟨_, n', hd', RF.snoc (rf₁.trans (s' := { s₁ with heap := h', toks := s₁.toks + 2 }) (Nat.le_add_right _ _) kk) (rv.trans (s' := { s₁ with heap := h', toks := s₁.toks + 2 }) (Nat.le_add_right _ _) kk), by simp [hle]⟩, I.zx, I.wd, I.xW, I.dL, I.easy, I.self, I.new⟩
    · refine (Later.kp k₁).trans ⟨⟨h', s₁.toks + 2, rfl⟩, Nat.le_add_right _ _, fun b o hb e => keep b o (fun q => hb (q ▸ I.wd)) (fun q => hb (q ▸ I.f.loc)) e, fun b o e => ?_, fun a h => h, fun a h => .inl h, fun a h => .inl h⟩
      by_cases h1 : b = dx
      · exact ⟨_, h1 ▸ hd'⟩
      · by_cases h2 : b = env.locals
        · obtain ⟨o', _, _, ho, _⟩ := id hns'
          exact ⟨o', h2 ▸ ho⟩
        · exact ⟨o, keep b o h1 h2 e⟩
  · cases hm

/-- a first part by the calculus, then by hand -/
theorem sSs_then : ∀ (pre : Ss) (ct : Ct) (Sg : Sd c A T ct.un ct.gl) (env : Env) (ef : EnvF ct env) (σ : List Slot) (N : List Slot → Prop) (l₁ l₂ : List Stmt) (P : Flow → Shared → Prop) (E : Value → Shared → Prop) (Z W : Addr → Prop) (s : Shared), mSs ct pre l₁ = true → wSs T pre σ (fun f σ' => f = .next ∧ N σ') → FSt c env Z W ct.ns σ s →
    (∀ σ' Z' W' s', N σ' → FSt c env Z' W' ct.ns σ' s' → Later Z W s Z' W' s' → wpAny (model c.prog c.w) A (execs l₂ env) P E s') → wpAny (model c.prog c.w) A (execs (l₁ ++ l₂) env) P E s
  | .nil, ct, Sg, env, ef, σ, N, l₁, l₂, P, E, Z, W, s, hm, h, f, k => by
    unfold mSs at hm; split at hm
    · unfold wSs at h
      exact k σ Z W s h.2 f .refl
    · cases hm
  | .cons x r, ct, Sg, env, ef, σ, N, l₁, l₂, P, E, Z, W, s, hm, h, f, k => by
    unfold mSs at hm; split at hm
    · simp only [Bool.and_eq_true] at hm
      unfold wSs at h
      rw [List.cons_append]
      refine wpAny_execs_cons (mono (sS x ct Sg env ef σ _ _ hm.1 h Z W E s f) fun fw s₁ h₁ => ?_)
      obtain ⟨fw', σ', Z', W', hQ, hfl, f', l'⟩ := h₁
      cases fw' with
      | next =>
        have : fw = .next := hfl; subst this
        exact sSs_then r ct Sg env ef σ' N _ l₂ P E Z' W' s₁ hm.2 hQ f' fun σ'' Z'' W'' s'' hN f'' l'' => k σ'' Z'' W'' s'' hN f'' (l'.trans l'')
      | brk => exact absurd hQ.1 (by intro h; cases h)
      | cont => exact absurd hQ.1 (by intro h; cases h)
      | ret d fl => exact absurd hQ.1 (by intro h; cases h)
    · cases hm
  | .demote i r, ct, Sg, env, ef, σ, N, l₁, l₂, P, E, Z, W, s, hm, h, f, k => by
    unfold mSs at hm
    unfold wSs owned at h
    split at h
    · rename_i d hd
      obtain ⟨hseq, h⟩ := h
      obtain ⟨W', f', hw⟩ := f.demote hseq hd ef.nodup
      exact sSs_then r ct Sg env ef _ N l₁ l₂ P E Z W' s hm h f' fun σ'' Z'' W'' s'' hN f'' l'' => k σ'' Z'' W'' s'' hN f'' (l''.widen hw)
    · exact h.elim
end
end Mine

end

section
open PySem PySem.W PyProof.Rows
set_option Elab.async false
set_option linter.unusedVariables false
set_option maxRecDepth 4000
namespace Mine
def wsParams : List Str := ["self", "ws"]
def wsRest : List Str := ["S", "T", "count", "b", "n", "nt", "ch"]
def wsPre : Ss := .cons (.unpackT [(2, false), (3, false)] (.cons (.attr (.gl 2) "S") (.cons (.attr (.gl 2) "T") .nil))) (.cons (.assign 4 true (.lst .nil)) (.cons (.chain [5, 6, 7] (.int 0)) .nil))
def wsLoop : Ss := (.cons (.ife (.cmp .Eq (.var 8) (.var 2)) (.cons (.assign 6 false (.bin .Add (.var 6) (.int 1))) (.cons (.assign 5 false (.bin .Add (.var 5) (.int 1))) .nil)) (.cons (.ife (.cmp .Eq (.var 8) (.var 3)) (.cons (.assign 6 false (.bin .Add (.var 6) (.int 1))) (.cons (.assign 7 false (.bin .Add (.var 7) (.int 1))) (.cons (.ife (.cmp .GtE (.var 5) (.call .len (.cons (.var 4) .nil))) (.cons (.assign 4 true (.bin .Add (.var 4) (.bin .Mult (.lst (.cons (.int 0) .nil)) (.bin .Add (.bin .Sub (.var 5) (.call .len (.cons (.var 4) .nil))) (.int 1))))) .nil) .nil) (.cons (.setSub 4 (.var 5) (.bin .Add (.sub (.var 4) (.var 5)) (.int 1))) (.cons (.assign 5 false (.int 0)) .nil))))) (.cons (.brk) .nil)) .nil)) .nil)
def wsE1 : X := .var 6
def wsE2 : X := .var 7
def wsE3 : X := .tup (.cons (.call .tuple (.cons (.var 4) .nil)) (.cons (.var 5) .nil))
def wsE4 : X := .cmp .LtE (.call .len (.cons (.var 4) .nil)) (.int 1)
abbrev ctI (K : Frag) (fI : Addr) : Ct := ctAt K fI wsParams wsRest [] glNames
def initRd (K : Frag) (fI : Addr) : Bool := match bdAt K fI with
  | [s1, m1, m2, m3, .For tgt (.Attribute (.Name y _) nm _) b1 b2 _, t1, t2, t3, t4] => isSet (ctI K fI) "raw" (.var 1) s1 && mSs (ctI K fI) wsPre [m1, m2, m3] && (ctI K fI).ns[0]? == some y && !(y == ("__debug__" : Str)) && nm == "raw"
    && isTgt (ctI K fI) [8] tgt && mSs (ctI K fI) wsLoop b1 && mSs (ctI K fI) .nil b2 && isSet (ctI K fI) "n" wsE1 t1 && isSet (ctI K fI) "nt" wsE2 t2 && isSet (ctI K fI) "norm" wsE3 t3 && isSet (ctI K fI) "is_simple" wsE4 t4
  | _ => false
structure InitOk (K : Frag) (p : Pg) (fI : Addr) : Prop where
  make : makesIn K p.ws = true
  init : findIn K (.ref p.ws) "__init__" = some (some (.ref fI))
  fn : typeIn K (.ref fI) = some (.type "function")
  set : SetOk K p.ws
  tk : attrNames.all (fun x => takerIn K p.ws x == some none) = true
  hd : FnHd K fI wsParams wsRest
  rd : initRd K fI = true
def wsσ (x : Addr) (ws : List Nat) : List Slot := [.cl (.raw (.ref x)), .cl (.str ws), .un, .un, .un, .un, .un, .un, .un]
def easyAll (σ : List Slot) : Prop := ∀ (i : Nat) (sl : Slot), σ[i]? = some sl → sl.easy = true
def wsObj (p : Pg) (ws : List Nat) (d1 d2 d3 d4 : D) : D := .obj p.ws [("raw", .str ws), ("n", d1), ("nt", d2), ("norm", d3), ("is_simple", d4)]
def wsQ (T : Tab) (p : Pg) (ws : List Nat) (x : Addr) (K : D → Fl → Prop) (f : Flw) (σ : List Slot) : Prop := f = .next ∧ easyAll σ ∧ σ[0]? = some (.cl (.raw (.ref x))) ∧
    wX T σ wsE1 fun d1 f1 => clean f1 d1 ∧ wX T σ wsE2 fun d2 f2 => clean f2 d2 ∧ wX T σ wsE3 fun d3 f3 => clean f3 d3 ∧ wX T σ wsE4 fun d4 f4 => clean f4 d4 ∧ K (wsObj p ws d1 d2 d3 d4) .cl
/-- what the making of an object does -/
def wsW (T : Tab) (p : Pg) (ws : List Nat) (K : D → Fl → Prop) : Prop := (ws.length ≤ 16777216 ∧ ∀ ch ∈ ws, ch < 128) ∧ ∀ x : Addr, wSs T wsPre (wsσ x ws) fun f σ' => f = .next ∧ σ'[0]? = some (.cl (.raw (.ref x))) ∧
  forW [8] (fun σ Q => wSs T wsLoop σ Q) (fun σ Q => wSs T .nil σ Q) (chD ws) σ' (wsQ T p ws x K)
section
variable {c : Cx} {A : Around} {T : Tab} {env : Env} {Z W : Addr → Prop} {σ : List Slot} {s : Shared} {E : Value → Shared → Prop} {ct : Ct}
theorem FSt.addW {ns : List Str} {dx : Addr} (f : FSt c env Z W ns σ s) (hz : Z dx) (hnew : c.h₀.get? dx = none) (he : easyAll σ) : FSt c env Z (fun a => W a ∨ a = dx) ns σ s := by
  refine ⟨⟨f.st.pre, fun i y q h1 h2 => ?_⟩, fun a h => h.elim (f.wz a) fun e => e ▸ hz, .inl f.loc, f.nsx, fun x a h1 h2 => ⟨.inl (f.cells x a h1 h2).1, (f.cells x a h1 h2).2⟩, fun a h => h.elim (f.new a) fun e => e ▸ hnew, f.rts, f.own⟩
  have r := f.st.vars i y q h1 h2
  have hq := he i q h2
  cases q with
  | un => trivial
  | cl d => exact r
  | rt d => cases hq
  | ow d => obtain ⟨a, l, r, w⟩ := r; exact ⟨a, l, r, .inl w⟩
theorem FSt.lessW {ns : List Str} {dx : Addr} (f : FSt c env Z (fun a => W a ∨ a = dx) ns σ s) (hl : W env.locals) (hc : ∀ x a, env.kindOf x = some .cell → env.cells.lookup x = some a → W a) (he : ∀ (i : Nat) (sl : Mine.Slot), σ[i]? = some sl → sl = .un ∨ ∃ d, sl = .cl d) : FSt c env Z W ns σ s := by
  refine ⟨⟨f.st.pre, fun i y q h1 h2 => ?_⟩, fun a h => f.wz a (.inl h), hl, f.nsx, fun x a h1 h2 => ⟨hc x a h1 h2, (f.cells x a h1 h2).2⟩, fun a h => f.new a (.inl h), f.rts, f.own⟩
  have r := f.st.vars i y q h1 h2
  rcases he i q h2 with rfl | ⟨d, rfl⟩
  · trivial
  · exact r
theorem wsσ_easy (x : Addr) (ws : List Nat) : ∀ (i : Nat) (sl : Mine.Slot), (wsσ x ws)[i]? = some sl → sl = .un ∨ ∃ d, sl = .cl d := by
  intro i sl h
  have hm := List.mem_of_getElem? h
  simp only [wsσ, List.mem_cons, List.not_mem_nil, or_false] at hm
  rcases hm with h | h | h | h | h | h | h | h | h <;> subst h <;> first | exact .inr ⟨_, rfl⟩ | exact .inl rfl
theorem under_depth {A : Around} {C : Addr} {rest : List Value} {kw : List (Str × Value)} : (A.under (.builtin "type.__call__" ⟨.ref C :: rest, kw⟩)).depth = A.depth + 1 := rfl
theorem under_units {A : Around} {C : Addr} {rest : List Value} {kw : List (Str × Value)} : (A.under (.builtin "type.__call__" ⟨.ref C :: rest, kw⟩)).units = A.units + 1 := rfl
/-- what remains of the body -/
theorem ws_body {p : Pg} {fI : Addr} {ws : List Nat} {x dx : Addr} {K : Mine.D → Fl → Prop} (O : PgOk c.K p) (I : InitOk c.K p fI) (Sg : Sd c A T [] glNames) (ef : EnvF (ctI c.K fI) env) (f : FSt c env Z W (ctI c.K fI).ns (wsσ x ws) s)
    (zx : Z x) (zd : Z dx) (xW : ¬ W x) (dW : ¬ W dx) (hxd : x ≠ dx) (hx : s.heap.get? x = some (instObj p.ws dx)) (hd : s.heap.get? dx = some (dictOf [] 0)) (hnew : c.h₀.get? dx = none) (h : wsW T p ws K) :
    wpAny (model c.prog c.w) A (execs (bdAt c.K fI) env) (fun fw s' => fw = .next ∧ ∃ d1 d2 d3 d4, ∃ Z' W' : Addr → Prop, K (wsObj p ws d1 d2 d3 d4) .cl ∧ s'.heap.get? x = some (instObj p.ws dx) ∧
      (∃ es n, s'.heap.get? dx = some (dictOf es n) ∧ RF c s' (NZ Z') es [("raw", .str ws), ("n", d1), ("nt", d2), ("norm", d3), ("is_simple", d4)]) ∧ Later Z (fun a => W a ∨ a = dx) s Z' W' s') E s := by
  have hrd := I.rd
  unfold initRd at hrd
  split at hrd
  · rename_i s1 m1 m2 m3 tgt y yp nm np b1 b2 fp t1 t2 t3 t4 hb
    simp only [Bool.and_eq_true, beq_iff_eq, Bool.not_eq_true'] at hrd
    obtain ⟨⟨⟨⟨⟨⟨⟨⟨⟨⟨⟨r1, r2⟩, r3⟩, r4⟩, rfl⟩, r6⟩, r7⟩, r8⟩, r9⟩, r10⟩, r11⟩, r12⟩ := hrd
    have tk : ∀ nm, attrNames.contains nm = true → takerIn c.K p.ws nm = some none := fun nm h => beq_iff_eq.mp (List.all_eq_true.mp I.tk nm (List.contains_iff_mem.mp h))
    have he0 : easyAll (wsσ x ws) := fun i sl h => by rcases wsσ_easy x ws i sl h with rfl | ⟨d, rfl⟩ <;> rfl
    rw [hb]
    obtain ⟨⟨hlen, hasc⟩, hW⟩ := h
    have hW := hW x
    have I0 : IS c env (ctI c.K fI) x dx p.ws [] Z (fun a => W a ∨ a = dx) (wsσ x ws) s :=
      ⟨f.addW zd hnew he0, hx, ⟨[], 0, hd, .nil, rfl⟩, zx, .inr rfl, (fun h => h.elim xW hxd), (fun e => dW (e ▸ f.loc)), he0, rfl, hnew⟩
    refine wpAny_execs_cons (mono (store_attr (K := fun d => d = .str ws) Sg ef I0 I.set (tk _ (by decide +kernel)) r1 rfl (by decide) (by unfold wX; exact ⟨rfl, rfl⟩)) fun fw s₁ h₁ => ?_)
    obtain ⟨rfl, d0, rfl, I1, l₁⟩ := h₁
    have f₁ : FSt c env Z W (ctI c.K fI).ns (wsσ x ws) s₁ := I1.f.lessW f.loc (fun y a h1 h2 => (f.cells y a h1 h2).1) (wsσ_easy x ws)
    refine sSs_then wsPre (ctI c.K fI) Sg env ef (wsσ x ws) _ [m1, m2, m3] _ _ E Z W s₁ r2 hW f₁ fun σ' Z₁ W₁ s₂ hN f₂ l₂ => ?_
    have hx₁ := I1.hx
    obtain ⟨es₁, n₁, hd₁, rf₁, hle₁⟩ := I1.hd
    have hx₂ := l₂.keep _ _ xW hx₁
    have hd₂ := l₂.keep _ _ dW hd₁
    have rf₂ := rf₁.later l₂ f.wz
    have xW₁ : ¬ W₁ x := fun h => (l₂.wnew x h).elim xW fun e => by rw [hx₁] at e; cases e
    have dW₁ : ¬ W₁ dx := fun h => (l₂.wnew dx h).elim dW fun e => by rw [hd₁] at e; cases e
    obtain ⟨hs0, hfor⟩ := hN
    refine wpAny_execs_cons (mono (aS_for_core (is := [8]) (step := fun σ Q => wSs T wsLoop σ Q) (orl := fun σ Q => wSs T .nil σ Q) (Q := wsQ T p ws x K) Sg.hh ef r6 (fun v => rfl) f₂ ?_ (fun σ' Q' h' => sSs wsLoop _ Sg env ef σ' Q' _ r7 h') (fun σ' Q' h' => sSs .nil _ Sg env ef σ' Q' _ r8 h')) fun fw s₃ h₃ => ?_)
    · rw [arm_eval_Attribute, notSuper_base rfl]
      obtain ⟨u, lu, ru⟩ := f₂.st.vars 0 y _ r3 hs0
      have := (Rt.of ru).raw_inv; subst this
      refine wpAny_bind (SlotR.name ef.m.ok lu ?_ r4)
      refine wpAny_bind (wpAny_standAt (wpAny_bind (wpAny_holding ?_)))
      obtain ⟨v, hv, rv⟩ := rf₂.get (x := "raw") (d := .str ws) rfl
      have ha := beq_iff_eq.mp (List.all_eq_true.mp O.attr "raw" (by decide +kernel))
      have Ix : InstAt s₂.heap x (instObj p.ws dx) p.ws (some (dictOf es₁ n₁)) := ⟨hx₂, rfl, rfl, hd₂⟩
      refine get_value f₂.st.pre.kin Ix (plainGet_of O.get).1 (findObj_own O.dict ha rfl (by rw [lookIn_dict]; exact hv)) (rv.handed rfl) ?_
      refine wpAny_bind (wpAny_letTemporaryGo (wpAny_pure ?_))
      exact iter_ok (fl := .cl) (d := .str ws) (K := fun l fl => fl ≠ .ow ∧ forW [8] (fun σ Q => wSs T wsLoop σ Q) (fun σ Q => wSs T .nil σ Q) l σ' (wsQ T p ws x K)) Sg.hh f₂.st.pre.zin f₂.wz .tok1 (rv.keeps .tok1) ⟨⟨hlen, hasc⟩, (by intro h; cases h), hfor⟩
    · obtain ⟨fw', σ'', Z₂, W₂, ⟨rfl, he2, hs2, hE⟩, hfl, f₃, l₃⟩ := h₃
      have : fw = .next := hfl; subst this
      have hx₃ := l₃.keep _ _ xW₁ hx₂
      have hd₃ := l₃.keep _ _ dW₁ hd₂
      have rf₃ := rf₂.later l₃ f₂.wz
      have xW₂ : ¬ W₂ x := fun h => (l₃.wnew x h).elim xW₁ fun e => by rw [hx₂] at e; cases e
      have zx₂ : Z₂ x := l₃.z _ (l₂.z _ zx)
      have zd₂ : Z₂ dx := l₃.z _ (l₂.z _ zd)
      have I3 : IS c env (ctI c.K fI) x dx p.ws [("raw", .str ws)] Z₂ (fun a => W₂ a ∨ a = dx) σ'' s₃ :=
        ⟨f₃.addW zd₂ hnew he2, hx₃, ⟨es₁, n₁, hd₃, rf₃, hle₁⟩, zx₂, .inr rfl, (fun h => h.elim xW₂ hxd), I1.dL, he2, hs2, hnew⟩
      have lA : Later Z (fun a => W a ∨ a = dx) s Z₂ (fun a => W₂ a ∨ a = dx) s₃ := by
        have l01 : Later Z (fun a => W a ∨ a = dx) s Z W s₁ := l₁.narrow fun a h => .inl (.inl h)
        refine ((l01.trans l₂).trans l₃).narrow fun a h => ?_
        rcases h with h | h
        · exact ((l01.trans l₂).trans l₃).wnew a h
        · exact .inl (.inr h)
      refine wpAny_execs_cons (mono (store_attr Sg ef I3 I.set (tk _ (by decide +kernel)) r9 (by kernel_rfl) (by simp) hE) fun fw s₄ h₄ => ?_)
      obtain ⟨rfl, d1, hE, I4, l₄⟩ := h₄
      refine wpAny_execs_cons (mono (store_attr Sg ef I4 I.set (tk _ (by decide +kernel)) r10 (by kernel_rfl) (by simp) hE) fun fw s₅ h₅ => ?_)
      obtain ⟨rfl, d2, hE, I5, l₅⟩ := h₅
      refine wpAny_execs_cons (mono (store_attr Sg ef I5 I.set (tk _ (by decide +kernel)) r11 (by kernel_rfl) (by simp) hE) fun fw s₆ h₆ => ?_)
      obtain ⟨rfl, d3, hE, I6, l₆⟩ := h₆
      refine wpAny_execs_cons (mono (store_attr Sg ef I6 I.set (tk _ (by decide +kernel)) r12 (by kernel_rfl) (by simp) hE) fun fw s₇ h₇ => ?_)
      obtain ⟨rfl, d4, hE, I7, l₇⟩ := h₇
      obtain ⟨es, n, hd, rf, hle⟩ := I7.hd
      exact wpAny_execs_nil ⟨rfl, d1, d2, d3, d4, Z₂, _, hE, I7.hx, ⟨es, n, hd, rf⟩, (((lA.trans l₄).trans l₅).trans l₆).trans l₇⟩
  · cases hrd
/-- the making of an object of the class -/
theorem ws_call {p : Pg} {fI : Addr} {ws : List Nat} {K : Mine.D → Fl → Prop} (O : PgOk c.K p) (I : InitOk c.K p fI) (lim : c.h₀.NoLimit) (hA : A.depth < 900) (hS : ∀ A' : Around, A'.handled = A.handled → A'.units = A.units + 4 → A'.depth = A.depth + 2 → Sd c A' T [] glNames) (h : wsW T p ws K) :
    CallW c A (.ref p.ws) [.str ws] K := by
  intro Z W E s vs hw hp r
  obtain ⟨v, rfl, q⟩ := r.one
  obtain ⟨t, rfl⟩ := q.str_inv
  obtain ⟨hh, g, d, tk, os⟩ := s
  refine wpAny_call ?_
  have X := hp.kin
  refine make_core (makes_of X I.make) (looks_findIn X I.init) (fun self => bind_fn X self I.fn) (.inl rfl) ?_
  obtain ⟨fd, o, fr, ft⟩ := I.hd.get lim [] glNames
  have hk : ∀ b o, hh.get? b = some o → ((hh.push emptyDict).push (instObj p.ws hh.objs.size)).get? b = some o := fun b o e => Heap.get?_push_of_some _ (Heap.get?_push_of_some _ e)
  have kp₀ : Kp ⟨hh, g, d, tk, os⟩ ⟨(hh.push emptyDict).push (instObj p.ws hh.objs.size), g, d, tk, os⟩ := .of (s := ⟨hh, g, d, tk, os⟩) hk (Nat.le_refl _)
  have hp₀ := hp.keeps kp₀
  have hx : ((hh.push emptyDict).push (instObj p.ws hh.objs.size)).get? (hh.objs.size + 1) = some (instObj p.ws hh.objs.size) := by heap_get
  have hd : ((hh.push emptyDict).push (instObj p.ws hh.objs.size)).get? hh.objs.size = some (dictOf [] 0) := by heap_get
  have hn1 : hh.get? hh.objs.size = none := get_size hh
  have hn2 : hh.get? (hh.objs.size + 1) = none := Heap.get?_none_of_le (Nat.le_succ _)
  refine codeAny_call_function (by rw [under_depth]; show A.depth + 1 < 1000; omega) (hp₀.keep _ _ fr.ho) fr.hdata fr.co fr.gen fr.hbody (fr.hcd.keeps hp₀.keep) ?_
  rw [fr.hbind [.ref (hh.objs.size + 1), .str ⟨ws.toArray⟩ t] rfl, fr.hclo]
  have hp₁ : Pre c (fun a => Z a ∨ a = hh.objs.size + 1 ∨ a = hh.objs.size) ⟨(hh.push emptyDict).push (instObj p.ws hh.objs.size), g, d, tk, os⟩ := ⟨hp₀.keep, fun a h => by
    rcases h with h | rfl | rfl
    · exact hp₀.zin a h
    · exact ⟨_, hx⟩
    · exact ⟨_, hd⟩, hp₀.tks⟩
  have r₁ : RtL c ⟨(hh.push emptyDict).push (instObj p.ws hh.objs.size), g, d, tk, os⟩ (NZ fun a => Z a ∨ a = hh.objs.size + 1 ∨ a = hh.objs.size) [.ref (hh.objs.size + 1), .str ⟨ws.toArray⟩ t] [.raw (.ref (hh.objs.size + 1)), .str ws] :=
    .cons (.of (R.raw _)) (.cons (.of (R.str _ _)) .nil)
  refine wpAny_pure (wpAny_with_toks (Nat.le_refl tk) (wpAny_newFunctionEnv_cells fr.kind (fun q hpz => ?_) fun env he s₁ xc ht => ?_))
  · have hpm : q.1 ∈ wsParams := by
      obtain ⟨y, v⟩ := q
      exact (List.of_mem_zip hpz).1
    rcases ft.pk _ hpm with h | h
    · exact .inl h
    · refine .inr ⟨h, ?_⟩
      obtain ⟨b, hb⟩ := cells_has fd.scope.names (((hh.push emptyDict).push (instObj p.ws hh.objs.size)).objs.size + 1) [] (mem_of_lookup h)
      obtain ⟨b', hb'⟩ := lookup_some hb
      show (List.lookup _ _).isSome = true
      rw [hb']; rfl
  · subst he
    obtain ⟨ef, Z', W', f, kp, hz, hwn⟩ := fn_start fr ft hp₁ rfl r₁ xc ht 7
    refine ⟨(fr.lim.keeps hp₀.keep).keeps kp.get, codeAny_func ?_⟩
    have zx : Z' (hh.objs.size + 1) := hz _ (.inr (.inl rfl))
    have zd : Z' hh.objs.size := hz _ (.inr (.inr rfl))
    have nx : ¬ W' (hh.objs.size + 1) := fun h => by have := hwn _ h; rw [hx] at this; cases this
    have nd : ¬ W' hh.objs.size := fun h => by have := hwn _ h; rw [hd] at this; cases this
    have h0 : c.h₀.get? hh.objs.size = none := by
      cases q : c.h₀.get? hh.objs.size with
      | none => rfl
      | some o => have := hp.keep _ o q; rw [hn1] at this; cases this
    refine mono (ws_body (T := T) O I (hS _ rfl rfl rfl) ef f zx zd nx nd (Nat.ne_of_gt (Nat.lt_succ_self _)) (kp.get _ _ hx) (kp.get _ _ hd) h0 h) fun fw s₂ h₂ => ?_
    obtain ⟨rfl, d1, d2, d3, d4, Z₂, W₂, hK, hx₂, ⟨es, n, hd₂, rf⟩, l₂⟩ := h₂
    have k₁ : Kp ⟨hh, g, d, tk, os⟩ s₂ := (kp₀.trans kp).later l₂ fun a h => by
      rcases h with h | h
      · cases q : hh.get? a with
        | none => rfl
        | some o => have := hwn a h; rw [hk a o q] at this; cases this
      · rw [h]; exact hn1
    refine ⟨rfl, k₁, _, .cl, hK, ?_⟩
    have hzz : ∀ b, NZ Z₂ b → NZ Z b := fun b h hb => h (l₂.z b (hz b (.inl hb)))
    exact R.obj (ZIn.fresh hp.zin hn2) (ZIn.fresh hp.zin hn1) hx₂ hd₂ (rf.wide hzz)
end
end Mine

end

section
open PySem PySem.W PyProof.Rows
set_option Elab.async false
set_option linter.unusedVariables false
set_option maxRecDepth 8000
namespace Mine
def codeIndP : List Str := ["self", "tabsize"]
def codeIndR : List Str := ["count", "trailing", "il", "i"]
def codeInd : Ss := (.cons (.unpack [2, 3] (.attr (.var 0) "norm")) (.cons (.assign 4 false (.int 0)) (.cons (.forS [5] (.range (.cons (.var 1) (.cons (.call .len (.cons (.var 2) .nil)) .nil))) (.cons (.assign 4 false (.bin .Add (.var 4) (.bin .Mult (.bin .FloorDiv (.var 5) (.var 1)) (.sub (.var 2) (.var 5))))) .nil) .nil) (.cons (.ret (.bin .Add (.var 3) (.bin .Mult (.var 1) (.bin .Add (.var 4) (.attr (.var 0) "nt"))))) .nil))))
def codeRgblP : List Str := ["r", "g", "b"]
def codeRgblR : List Str := ["maxc", "minc", "sumc", "rangec", "l", "s", "rc", "gc", "bc", "h"]
def codeRgbl : Ss := (.cons (.assign 3 false (.call .max (.cons (.var 0) (.cons (.var 1) (.cons (.var 2) .nil))))) (.cons (.assign 4 false (.call .min (.cons (.var 0) (.cons (.var 1) (.cons (.var 2) .nil))))) (.cons (.assign 5 false (.bin .Add (.var 3) (.var 4))) (.cons (.assign 6 false (.bin .Sub (.var 3) (.var 4))) (.cons (.assign 7 false (.bin .Div (.var 5) (.flt 4611686018427387904))) (.cons (.ife (.cmp .Eq (.var 4) (.var 3)) (.cons (.ret (.tup (.cons (.flt 0) (.cons (.var 7) (.cons (.flt 0) .nil))))) .nil) .nil) (.cons (.ife (.cmp .LtE (.var 7) (.flt 4602678819172646912)) (.cons (.assign 8 false (.bin .Div (.var 6) (.var 5))) .nil) (.cons (.assign 8 false (.bin .Div (.var 6) (.bin .Sub (.bin .Sub (.flt 4611686018427387904) (.var 3)) (.var 4)))) .nil)) (.cons (.assign 9 false (.bin .Div (.bin .Sub (.var 3) (.var 0)) (.var 6))) (.cons (.assign 10 false (.bin .Div (.bin .Sub (.var 3) (.var 1)) (.var 6))) (.cons (.assign 11 false (.bin .Div (.bin .Sub (.var 3) (.var 2)) (.var 6))) (.cons (.ife (.cmp .Eq (.var 0) (.var 3)) (.cons (.assign 12 false (.bin .Sub (.var 11) (.var 10))) .nil) (.cons (.ife (.cmp .Eq (.var 1) (.var 3)) (.cons (.assign 12 false (.bin .Sub (.bin .Add (.flt 4611686018427387904) (.var 9)) (.var 11))) .nil) (.cons (.assign 12 false (.bin .Sub (.bin .Add (.flt 4616189618054758400) (.var 10)) (.var 9))) .nil)) .nil)) (.cons (.assign 12 false (.bin .Mod (.bin .Div (.var 12) (.flt 4618441417868443648)) (.flt 4607182418800017408))) (.cons (.ret (.tup (.cons (.var 12) (.cons (.var 7) (.cons (.var 8) .nil))))) .nil)))))))))))))
def codeRgbvP : List Str := ["r", "g", "b"]
def codeRgbvR : List Str := ["maxc", "minc", "rangec", "v", "s", "rc", "gc", "bc", "h"]
def codeRgbv : Ss := (.cons (.assign 3 false (.call .max (.cons (.var 0) (.cons (.var 1) (.cons (.var 2) .nil))))) (.cons (.assign 4 false (.call .min (.cons (.var 0) (.cons (.var 1) (.cons (.var 2) .nil))))) (.cons (.assign 5 false (.bin .Sub (.var 3) (.var 4))) (.cons (.assign 6 false (.var 3)) (.cons (.ife (.cmp .Eq (.var 4) (.var 3)) (.cons (.ret (.tup (.cons (.flt 0) (.cons (.flt 0) (.cons (.var 6) .nil))))) .nil) .nil) (.cons (.assign 7 false (.bin .Div (.var 5) (.var 3))) (.cons (.assign 8 false (.bin .Div (.bin .Sub (.var 3) (.var 0)) (.var 5))) (.cons (.assign 9 false (.bin .Div (.bin .Sub (.var 3) (.var 1)) (.var 5))) (.cons (.assign 10 false (.bin .Div (.bin .Sub (.var 3) (.var 2)) (.var 5))) (.cons (.ife (.cmp .Eq (.var 0) (.var 3)) (.cons (.assign 11 false (.bin .Sub (.var 10) (.var 9))) .nil) (.cons (.ife (.cmp .Eq (.var 1) (.var 3)) (.cons (.assign 11 false (.bin .Sub (.bin .Add (.flt 4611686018427387904) (.var 8)) (.var 10))) .nil) (.cons (.assign 11 false (.bin .Sub (.bin .Add (.flt 4616189618054758400) (.var 9)) (.var 8))) .nil)) .nil)) (.cons (.assign 11 false (.bin .Mod (.bin .Div (.var 11) (.flt 4618441417868443648)) (.flt 4607182418800017408))) (.cons (.ret (.tup (.cons (.var 11) (.cons (.var 7) (.cons (.var 6) .nil))))) .nil))))))))))))
def codeHsvP : List Str := ["h", "s", "v"]
def codeHsvR : List Str := ["i", "f", "p", "q", "t"]
def codeHsv : Ss := (.cons (.ife (.cmp .Eq (.var 1) (.flt 0)) (.cons (.ret (.tup (.cons (.var 2) (.cons (.var 2) (.cons (.var 2) .nil))))) .nil) .nil) (.cons (.assign 3 false (.call .int (.cons (.bin .Mult (.var 0) (.flt 4618441417868443648)) .nil))) (.cons (.assign 4 false (.bin .Sub (.bin .Mult (.var 0) (.flt 4618441417868443648)) (.var 3))) (.cons (.assign 5 false (.bin .Mult (.var 2) (.bin .Sub (.flt 4607182418800017408) (.var 1)))) (.cons (.assign 6 false (.bin .Mult (.var 2) (.bin .Sub (.flt 4607182418800017408) (.bin .Mult (.var 1) (.var 4))))) (.cons (.assign 7 false (.bin .Mult (.var 2) (.bin .Sub (.flt 4607182418800017408) (.bin .Mult (.var 1) (.bin .Sub (.flt 4607182418800017408) (.var 4)))))) (.cons (.assign 3 false (.bin .Mod (.var 3) (.int 6))) (.cons (.ife (.cmp .Eq (.var 3) (.int 0)) (.cons (.ret (.tup (.cons (.var 2) (.cons (.var 7) (.cons (.var 5) .nil))))) .nil) .nil) (.cons (.ife (.cmp .Eq (.var 3) (.int 1)) (.cons (.ret (.tup (.cons (.var 6) (.cons (.var 2) (.cons (.var 5) .nil))))) .nil) .nil) (.cons (.ife (.cmp .Eq (.var 3) (.int 2)) (.cons (.ret (.tup (.cons (.var 5) (.cons (.var 2) (.cons (.var 7) .nil))))) .nil) .nil) (.cons (.ife (.cmp .Eq (.var 3) (.int 3)) (.cons (.ret (.tup (.cons (.var 5) (.cons (.var 6) (.cons (.var 2) .nil))))) .nil) .nil) (.cons (.ife (.cmp .Eq (.var 3) (.int 4)) (.cons (.ret (.tup (.cons (.var 7) (.cons (.var 5) (.cons (.var 2) .nil))))) .nil) .nil) (.cons (.ife (.cmp .Eq (.var 3) (.int 5)) (.cons (.ret (.tup (.cons (.var 2) (.cons (.var 5) (.cons (.var 6) .nil))))) .nil) .nil) .nil)))))))))))))
def codeFlagsP : List Str := ["flags"]
def codeFlagsR : List Str := ["names", "i", "flag"]
def codeFlags : Ss := (.cons (.assign 1 true (.lst .nil)) (.cons (.forS [2] (.range (.cons (.int 32) .nil)) (.cons (.assign 3 false (.bin .LShift (.int 1) (.var 2))) (.cons (.ife (.val (.bin .BitAnd (.var 0) (.var 3))) (.cons (.app 1 (.meth (.gl 1) "get" (.cons (.var 3) (.cons (.call .hex (.cons (.var 3) .nil)) .nil)))) (.cons (.aug 0 .BitXor (.var 3)) (.cons (.ife (.not (.val (.var 0))) (.cons (.brk) .nil) .nil) .nil))) .nil) .nil)) (.cons (.app 1 (.call .hex (.cons (.var 0) .nil))) .nil)) (.cons (.ret (.meth (.str [44, 32]) "join" (.cons (.var 1) .nil))) .nil)))
def codeEllP : List Str := ["want", "got"]
def codeEllR : List Str := ["ws", "startpos", "endpos", "w"]
def codeEll : Ss := (.cons (.ife (.cmp .NotIn (.gl 0) (.var 0)) (.cons (.ret (.cmp .Eq (.var 0) (.var 1))) .nil) .nil) (.cons (.assign 2 true (.meth (.var 0) "split" (.cons (.gl 0) .nil))) (.cons (.assert (.cmp .GtE (.call .len (.cons (.var 2) .nil)) (.int 2))) (.cons (.unpackT [(3, false), (4, false)] (.cons (.int 0) (.cons (.call .len (.cons (.var 1) .nil)) .nil))) (.cons (.assign 5 false (.sub (.var 2) (.int 0))) (.cons (.ife (.val (.var 5)) (.cons (.ife (.val (.meth (.var 1) "startswith" (.cons (.var 5) .nil))) (.cons (.assign 3 false (.call .len (.cons (.var 5) .nil))) (.cons (.delSub 2 (.int 0)) .nil)) (.cons (.ret (.bool false)) .nil)) .nil) .nil) (.cons (.assign 5 false (.sub (.var 2) (.un .USub (.int 1)))) (.cons (.ife (.val (.var 5)) (.cons (.ife (.val (.meth (.var 1) "endswith" (.cons (.var 5) .nil))) (.cons (.aug 4 .Sub (.call .len (.cons (.var 5) .nil))) (.cons (.delSub 2 (.un .USub (.int 1))) .nil)) (.cons (.ret (.bool false)) .nil)) .nil) .nil) (.cons (.ife (.cmp .Gt (.var 3) (.var 4)) (.cons (.ret (.bool false)) .nil) .nil) (.demote 2 (.cons (.forS [5] (.x (.var 2)) (.cons (.assign 3 false (.meth (.var 1) "find" (.cons (.var 5) (.cons (.var 3) (.cons (.var 4) .nil))))) (.cons (.ife (.cmp .Lt (.var 3) (.int 0)) (.cons (.ret (.bool false)) .nil) .nil) (.cons (.aug 3 .Add (.call .len (.cons (.var 5) .nil))) .nil))) .nil) (.cons (.ret (.bool true)) .nil))))))))))))
def unNames : List Str := ["hsv_to_rgb", "rgb_to_hsv", "rgb_to_hls", "pretty_flags", "_ellipsis_match", "Whitespace"]
/-- the table for the functions that call no others -/
def T0 (p : Pg) : Tab := tabW p (fun _ _ _ => False) (fun _ _ _ => False)
def fnW (p : Pg) (n : Nat) (ds : List D) (K : D → Fl → Prop) : Prop := match n, ds with
  | 0, [a, b, d] => wSs (T0 p) codeHsv (startσ [a, b, d] 5) fun f _ => retK K f
  | 1, [a, b, d] => wSs (T0 p) codeRgbv (startσ [a, b, d] 9) fun f _ => retK K f
  | 2, [a, b, d] => wSs (T0 p) codeRgbl (startσ [a, b, d] 10) fun f _ => retK K f
  | 3, [a] => wSs (T0 p) codeFlags (startσ [a] 3) fun f _ => retK K f
  | 4, [a, b] => wSs (T0 p) codeEll (startσ [a, b] 4) fun f _ => retK K f
  | 5, [.str ws] => wsW (T0 p) p ws K
  | _, _ => False
def indW (p : Pg) (d : D) (ds : List D) (K : D → Fl → Prop) : Prop := match ds with
  | [t] => wSs (T0 p) codeInd (startσ [d, t] 4) fun f _ => retK K f
  | _ => False
def T1 (p : Pg) : Tab := tabW p (fnW p) (indW p)
/-- where the functions lie -/
structure FnsOk (K : Frag) (p : Pg) (fI a0 a1 a2 a3 a4 : Addr) : Prop where
  n0 : nsIn K mainGlobals "hsv_to_rgb" = some (some (.ref a0))
  n1 : nsIn K mainGlobals "rgb_to_hsv" = some (some (.ref a1))
  n2 : nsIn K mainGlobals "rgb_to_hls" = some (some (.ref a2))
  n3 : nsIn K mainGlobals "pretty_flags" = some (some (.ref a3))
  n4 : nsIn K mainGlobals "_ellipsis_match" = some (some (.ref a4))
  f0 : FnAt K a0 codeHsvP codeHsvR [] glNames codeHsv
  f1 : FnAt K a1 codeRgbvP codeRgbvR [] glNames codeRgbv
  f2 : FnAt K a2 codeRgblP codeRgblR [] glNames codeRgbl
  f3 : FnAt K a3 codeFlagsP codeFlagsR [] glNames codeFlags
  f4 : FnAt K a4 codeEllP codeEllR [] glNames codeEll
  ind : FnAt K p.ind codeIndP codeIndR [] glNames codeInd
  pg : PgOk K p
  init : InitOk K p fI
  keepW : keepIn K (.ref p.ws) = true
section
variable {c : Cx} {p : Pg} {fI a0 a1 a2 a3 a4 : Addr}
theorem sd0 (F : FnsOk c.K p fI a0 a1 a2 a3 a4) (hlo : 1 ≤ c.lo) {A : Around} (hh : A.handled = none) (hu : A.units < 9000) : Sd c A (T0 p) [] glNames :=
  ⟨hlo, hh, hu, tabW_ok F.pg hh (fun n name h => by simp at h) fun fs ds K h => h.elim⟩
theorem fn_ok (F : FnsOk c.K p fI a0 a1 a2 a3 a4) (hlo : 1 ≤ c.lo) (lim : c.h₀.NoLimit) {A : Around} (hh : A.handled = none) (hu : A.units < 8900) (hd : A.depth < 800) :
    ∀ n name, unNames[n]? = some name → ∃ a, nsIn c.K mainGlobals name = some (some (.ref a)) ∧ keepIn c.K (.ref a) = true ∧ ∀ ds K, fnW p n ds K → CallW c A (.ref a) ds K := by
  have S : ∀ env : Env, Sd c (A.deeper env) (T0 p) [] glNames := fun env => sd0 F hlo hh (by rw [Around.deeper_units]; omega)
  intro n name h
  match n, h with
  | 0, h =>
    cases h
    refine ⟨a0, F.n0, F.f0.hd.keep, fun ds K h => ?_⟩
    unfold fnW at h; split at h <;> first | contradiction | skip
    exact F.f0.call lim (by omega) S _ rfl h
  | 1, h =>
    cases h
    refine ⟨a1, F.n1, F.f1.hd.keep, fun ds K h => ?_⟩
    unfold fnW at h; split at h <;> first | contradiction | skip
    exact F.f1.call lim (by omega) S _ rfl h
  | 2, h =>
    cases h
    refine ⟨a2, F.n2, F.f2.hd.keep, fun ds K h => ?_⟩
    unfold fnW at h; split at h <;> first | contradiction | skip
    exact F.f2.call lim (by omega) S _ rfl h
  | 3, h =>
    cases h
    refine ⟨a3, F.n3, F.f3.hd.keep, fun ds K h => ?_⟩
    unfold fnW at h; split at h <;> first | contradiction | skip
    exact F.f3.call lim (by omega) S _ rfl h
  | 4, h =>
    cases h
    refine ⟨a4, F.n4, F.f4.hd.keep, fun ds K h => ?_⟩
    unfold fnW at h; split at h <;> first | contradiction | skip
    exact F.f4.call lim (by omega) S _ rfl h
  | 5, h =>
    cases h
    refine ⟨p.ws, F.pg.gl2, F.keepW, fun ds K h => ?_⟩
    unfold fnW at h; split at h <;> first | contradiction | skip
    exact ws_call F.pg F.init lim (by omega) (fun A' h1 h2 h3 => sd0 F hlo (h1.trans hh) (by rw [h2]; omega)) h
  | n + 6, h => simp [unNames] at h
theorem sd1 (F : FnsOk c.K p fI a0 a1 a2 a3 a4) (hlo : 1 ≤ c.lo) (lim : c.h₀.NoLimit) {A : Around} (hh : A.handled = none) (hu : A.units < 8900) (hd : A.depth < 800) : Sd c A (T1 p) unNames glNames := by
  refine ⟨hlo, hh, by omega, tabW_ok F.pg hh (fn_ok F hlo lim hh hu hd) fun fs ds K h => ?_⟩
  unfold indW at h; split at h <;> first | contradiction | skip
  exact F.ind.call lim (by omega) (fun env => sd0 F hlo hh (by rw [Around.deeper_units]; omega)) _ rfl h
end
end Mine

end

section
open PySem PySem.W PyProof.Rows
set_option Elab.async false
set_option linter.unusedVariables false
set_option maxRecDepth 4000
namespace Mine
/-- a call with one argument, which takes a mark -/
theorem newEnv_one {M : Model} {A : Around} {E : Value → Shared → Prop} {s : Shared} {scope : Scope} {globals : Addr} {n : Str} {v : Value} {qual : Str} {func : Option Addr} {code : Value} {builtins : Addr} {Q : Env → Shared → Prop} (hk : scope.kind = .function) (hl : scope.names.lookup n = some .local)
    (hQ : ∀ env, env = newEnv scope s.heap.objs.size globals (cellsFrom (s.heap.objs.size + 1) scope.names []) qual func code none builtins →
      ∀ s', InCallC s env.locals (bindL env.kindOf [(n, v)] fun _ => none) env.cells (bindC env.kindOf [(n, v)] fun _ => none) s' → s.toks + 1 ≤ s'.toks → Q env s') :
    wpAny M A (newFunctionEnv scope globals [] [(n, v)] qual func code none builtins) Q E s := by
  simp only [newFunctionEnv, Option.isSome_none, Bool.false_eq_true, if_false]
  refine wpAny_bind (wpAny_alloc ?_)
  refine wpAny_bind (wpAny_layCells _ (fun name kind cells => by cases hkc : kind == NameKind.cell <;> simp [hkc]) _ _ _ _ ?_)
  have ok := cellsFrom_ok scope.names (s.heap.push { cls := .type "frame", data := .dict #[] }) (s.heap.objs.size + 1) [] ⟨fun _ _ hm => (nomatch hm), List.Pairwise.nil⟩ (by rw [Heap.size_push]; exact Nat.le_refl _)
  rw [Heap.size_push] at ok
  rw [show ({ s with heap := s.heap.push { cls := .type "frame", data := .dict #[] } } : Shared).heap.objs.size = s.heap.objs.size + 1 from Heap.size_push ..]
  rw [List.forIn_cons]
  have hl' : (newEnv scope s.heap.objs.size globals (cellsFrom (s.heap.objs.size + 1) scope.names []) qual func code none builtins).kindOf n = some .local := hl
  refine wpAny_bind (wpAny_bind (wpAny_bind (wpAny_storeName_local (env := newEnv scope s.heap.objs.size globals (cellsFrom (s.heap.objs.size + 1) scope.names []) qual func code none builtins) hl ((Heap.Ns.new s.heap (.type "frame")).keeps (pushCells_keeps _ _)) (fun h' hn' hs' => ?_) (notTop hk))))
  refine wpAny_pure ?_
  dsimp only
  rw [List.forIn_nil]
  refine wpAny_pure (wpAny_pure (hQ _ rfl _ ⟨⟨⟨_, _, rfl⟩, ?_, fun b o e => ?_, Nat.le_refl _⟩, fun y a hc => ?_, ok.apart, fun y a hm => (ok.empty y a hm).2⟩ (Nat.le_refl _)))
  · have e : bindL (newEnv scope s.heap.objs.size globals (cellsFrom (s.heap.objs.size + 1) scope.names []) qual func code none builtins).kindOf [(n, v)] (fun _ => none) = fun y => if y = n then some v else none := by
      unfold bindL
      rw [if_pos hl']; rfl
    rw [e]; exact hn'
  · have hne : b ≠ s.heap.objs.size := Nat.ne_of_lt (Heap.lt_size e)
    exact (hs'.2 b hne).trans (pushCells_keeps _ _ b o (Heap.get?_push_of_some _ e))
  · have hab := (ok.empty y a (mem_of_lookup hc)).2
    have e : bindC (newEnv scope s.heap.objs.size globals (cellsFrom (s.heap.objs.size + 1) scope.names []) qual func code none builtins).kindOf [(n, v)] (fun _ => none) y = none := by
      unfold bindC
      rw [if_pos hl']; rfl
    rw [e]
    exact (ok.empty y a (mem_of_lookup hc)).1.sameBut hs' (Nat.ne_of_gt hab)
section
variable {c : Cx} {A : Around} {T : Tab}
theorem ints_RL {s : Shared} {P : Addr → Prop} : ∀ {vs : List Value} {l : List Int}, IntsAre vs l → RL c s P vs (l.map Mine.D.int)
  | _, _, .nil => .nil
  | _, _, .cons i t r => .cons (.int _ _) (ints_RL r)
/-- the law is called with a list of numbers -/
theorem law_call {a b : Addr} {params rest un gl : List Str} {x : Str} {l : List Int} {vs : List Value} {n k : Nat} {s : Shared} {E : Value → Shared → Prop} {K : Value → Shared → Prop} (F : FnHd c.K a params rest) (lim : c.h₀.NoLimit) (hp1 : params = [x]) (hloc : (ctAt c.K a params rest un gl).kd.lookup x = some .local)
    (hA : A.depth < 900) (hkeep : ∀ b o, c.h₀.get? b = some o → s.heap.get? b = some o) (hg : s.heap.get? b = some (seqO "list" vs n)) (hi : IntsAre vs l)
    (h : ∀ m, 1 ≤ m → ∀ env, EnvF (ctAt c.K a params rest un gl) env → ExW (c.at m) (A.deeper env) (ctAt c.K a params rest un gl) env (startσ [.lst (l.map Mine.D.int)] k) (execs (bdAt c.K a) env) fun f _ => ∃ fl, f = .ret (.bool true) fl)
    (hK : ∀ s', Kp s s' → K (.bool true) s') : wpAny (model c.prog c.w) A (call (.ref a) [.ref b]) K E s := by
  subst hp1
  obtain ⟨fd, o, fr, ft⟩ := F.get lim un gl
  have hp : Pre (c.at s.toks) (fun _ => False) s := ⟨hkeep, fun a h => h.elim, Nat.le_refl _⟩
  have r₁ : RtL (c.at s.toks) s (NZ fun _ => False) [.ref b] [.lst (l.map Mine.D.int)] := .cons (.lst hg (ints_RL hi)) .nil
  have fr' : FnR (c.at s.toks) a fd (bdAt c.K a) [x] o := ⟨fr.ho, fr.hdata, fr.lim, fr.hcd, fr.hbody, fr.hclo, fr.hbind, fr.kind, fr.co, fr.gen, fr.gl, fr.bl⟩
  refine wpAny_call ?_
  refine codeAny_call_function (by show A.depth < 1000; omega) (hkeep _ _ fr.ho) fr.hdata fr.co fr.gen fr.hbody (fr.hcd.keeps hkeep) ?_
  rw [fr.hbind [.ref b] rfl, fr.hclo]
  refine wpAny_pure (newEnv_one fr.kind (by rw [← ft.kd]; exact hloc) fun env he s₁ xc ht => ?_)
  subst he
  obtain ⟨ef, Z', W', f, kp, hz, hwn⟩ := fn_start fr' ft hp rfl r₁ xc (by omega) k
  refine ⟨(fr.lim.keeps hkeep).keeps kp.get, codeAny_func ?_⟩
  have f' := FSt.setA (c := c) (n := s.toks) (m := s.toks + 1) (g := .any) f ht fun t _ => ⟨fun h => (nomatch h), fun h => (nomatch h)⟩
  have e : (startσ [.lst (l.map Mine.D.int)] k).map (Slot.setA .any) = startσ [.lst (l.map Mine.D.int)] k := by
    unfold startσ
    rw [List.map_append, List.map_replicate]
    congr 1
    simp only [List.map_cons, List.map_nil, pslot, Slot.setA, D.setA, D.setL_eq, List.map_map]
    congr 3
  rw [e] at f'
  refine mono (h (s.toks + 1) (Nat.le_add_left _ _) _ ef Z' W' _ s₁ f') fun fw s₂ h₂ => ?_
  obtain ⟨fw', σ', Z₂, W₂, ⟨fl, rfl⟩, hfl, f₂, l₂⟩ := h₂
  have k₂ : Kp s s₂ := kp.later l₂ hwn
  obtain ⟨v, rfl, h1, h2⟩ := hfl
  have := h2.bool_inv
  subst this
  exact hK s₂ k₂
end
end Mine

end

section
open PySem PySem.W PyProof.Rows
set_option Elab.async false
set_option linter.unusedVariables false
set_option maxRecDepth 8000
set_option exponentiation.threshold 5000
namespace Mine
open PySem.Float64
/-- n / 4096 -/
def fx (n : Int) : UInt64 := ofFrac (decide (n < 0)) n.natAbs 4096
theorem pw_split : (2 : Nat) ^ 1074 = 2 ^ 1062 * 4096 := by
  rw [show (4096 : Nat) = 2 ^ 12 by decide, ← Nat.pow_add]
theorem fx_right (n : Int) : Right (fx n) (decide (n < 0)) (n.natAbs * 2 ^ 1062) 1 :=
  ofFrac_right (by decide) (by rw [pw_split, Nat.mul_one, Nat.mul_assoc]) (by decide)
theorem V_inj {t u : Nat} (h : V t = V u) : t = u := by
  rcases Nat.lt_trichotomy t u with q | q | q
  · have := V_lt q; omega
  · exact q
  · have := V_lt q; omega
theorem rep_fx {N : Nat} (h : N < 2 ^ 53) : ∃ t, t < infMag ∧ V t = N * 2 ^ 1062 := by
  by_cases h0 : N = 0
  · subst h0; exact ⟨0, by decide, by rw [V_zero, Nat.zero_mul]⟩
  · have l1 : N.log2 < 53 := (Nat.log2_lt h0).mpr h
    have l2 : 2 ^ N.log2 ≤ N := Nat.log2_self_le h0
    have l3 : N < 2 ^ (N.log2 + 1) := Nat.lt_log2_self
    generalize N.log2 = l at *
    have q1 : N * 2 ^ (52 - l) < 2 ^ 53 := by
      have : N * 2 ^ (52 - l) < 2 ^ (l + 1) * 2 ^ (52 - l) := Nat.mul_lt_mul_of_pos_right l3 (Nat.two_pow_pos _)
      rw [← Nat.pow_add, show l + 1 + (52 - l) = 53 by omega] at this
      exact this
    have q2 : 2 ^ 52 ≤ N * 2 ^ (52 - l) := by
      have : 2 ^ l * 2 ^ (52 - l) ≤ N * 2 ^ (52 - l) := Nat.mul_le_mul_right _ l2
      rw [← Nat.pow_add, show l + (52 - l) = 52 by omega] at this
      exact this
    refine ⟨(1010 + l) * 2 ^ 52 + N * 2 ^ (52 - l), ?_, ?_⟩
    · have e1 : infMag = 2047 * 2 ^ 52 := rfl
      omega
    · rw [V_at (Nat.le_of_lt q1) (.inl q2), Nat.mul_assoc, ← Nat.pow_add]
      congr 2; omega
theorem exact_at {r : UInt64} {neg : Bool} {W D N : Nat} (x : Right r neg W D) (hD : 0 < D) (hN : N < 2 ^ 53) (hW : W = D * (N * 2 ^ 1062)) : ∃ t, r = pack neg t ∧ t < infMag ∧ V t = N * 2 ^ 1062 := by
  obtain ⟨t, hr, h1, h2, h3⟩ := x
  have hlt : t < infMag := by
    refine Nat.lt_of_le_of_ne h1 fun e => ?_
    have := h2.mp e
    rw [hW, show 2 * (D * (N * 2 ^ 1062)) = D * (2 * N * 2 ^ 1062) by ac_rfl] at this
    have h4 := Nat.le_of_mul_le_mul_left this hD
    have h5 : 2 * N * 2 ^ 1062 < 2 ^ 54 * 2 ^ 1062 := Nat.mul_lt_mul_of_pos_right (by omega) (Nat.two_pow_pos _)
    have h6 : (2 : Nat) ^ 54 * 2 ^ 1062 ≤ (2 ^ 54 - 1) * 2 ^ 2045 := by
      rw [← Nat.pow_add]
      calc (2 : Nat) ^ (54 + 1062) ≤ 2 ^ 2045 := Nat.pow_le_pow_right (by decide) (by decide)
        _ ≤ (2 ^ 54 - 1) * 2 ^ 2045 := Nat.le_mul_of_pos_left _ (by decide)
    omega
  obtain ⟨t0, ht0, hv⟩ := rep_fx hN
  have h4 := (h3 hlt t0).1
  rw [hv, ← hW] at h4
  have hd0 : dist W W = 0 := by unfold dist; omega
  rw [hd0] at h4
  have h5 : W = D * V t := by unfold dist at h4; omega
  rw [hW] at h5
  exact ⟨t, hr, hlt, (Nat.eq_of_mul_eq_mul_left hD h5).symm⟩
theorem exact_eq {r r' : UInt64} {neg : Bool} {W D W' D' N : Nat} (x : Right r neg W D) (y : Right r' neg W' D') (hD : 0 < D) (hD' : 0 < D') (hN : N < 2 ^ 53) (hW : W = D * (N * 2 ^ 1062)) (hW' : W' = D' * (N * 2 ^ 1062)) : r = r' := by
  obtain ⟨t, rfl, _, e1⟩ := exact_at x hD hN hW
  obtain ⟨u, rfl, _, e2⟩ := exact_at y hD' hN hW'
  rw [V_inj (e1.trans e2.symm)]
theorem decode_fx {n : Int} (h : n.natAbs < 2 ^ 53) : ∃ m e, decode (fx n) = .fin (decide (n < 0)) m e ∧ m * 2 ^ (e + 1074).toNat = n.natAbs * 2 ^ 1062 := by
  obtain ⟨t, hr, hlt, hv⟩ := exact_at (fx_right n) (by decide) h (Nat.one_mul _).symm
  obtain ⟨m, e, hd, hm⟩ := decode_pack (decide (n < 0)) hlt
  exact ⟨m, e, hr ▸ hd, hm.trans hv⟩
theorem sgn_abs (n : Int) : sgn (decide (n < 0)) n.natAbs = n := by
  unfold sgn
  by_cases h : n < 0 <;> simp [h] <;> omega
theorem val_fx {n : Int} (h : n.natAbs < 2 ^ 53) : val (fx n) = n * ((2 ^ 1062 : Nat) : Int) := by
  obtain ⟨m, e, hd, hm⟩ := decode_fx h
  rw [val_eq hd, hm, sgn_mul, sgn_abs]
theorem pos1062 : (0 : Int) < ((2 ^ 1062 : Nat) : Int) := Int.ofNat_lt.mpr (Nat.two_pow_pos _)
theorem mul_lt0 {a : Int} : a * ((2 ^ 1062 : Nat) : Int) < 0 ↔ a < 0 := by
  have := pos1062
  generalize ((2 ^ 1062 : Nat) : Int) = K at *
  constructor
  · intro h
    by_cases h2 : a < 0
    · exact h2
    · have := Int.mul_nonneg (show 0 ≤ a by omega) (Int.le_of_lt this); omega
  · intro h; exact Int.mul_neg_of_neg_of_pos h this
theorem mul_eq0 {a : Int} : a * ((2 ^ 1062 : Nat) : Int) = 0 ↔ a = 0 := by
  have := pos1062
  generalize ((2 ^ 1062 : Nat) : Int) = K at *
  constructor
  · intro h; rcases Int.mul_eq_zero.mp h with h | h
    · exact h
    · omega
  · intro h; rw [h, Int.zero_mul]
theorem fx_zero : fx 0 = zero false := by decide +kernel
theorem add_fx {a b : Int} (ha : a.natAbs < 2 ^ 53) (hb : b.natAbs < 2 ^ 53) (hc : (a + b).natAbs < 2 ^ 53) : Float64.add (fx a) (fx b) = fx (a + b) := by
  obtain ⟨m, e, hd, hm⟩ := decode_fx ha
  obtain ⟨k, f, hd', hm'⟩ := decode_fx hb
  obtain ⟨h1, h2⟩ := add_right hd hd'
  rw [val_fx ha, val_fx hb, ← Int.add_mul] at h1 h2
  by_cases h0 : a + b = 0
  · rw [h1 (mul_eq0.mpr h0), h0, fx_zero]
    congr 1
    by_cases ha0 : a < 0 <;> by_cases hb0 : b < 0 <;> simp [ha0, hb0] <;> omega
  · have h3 := h2 (fun e => h0 (mul_eq0.mp e))
    rw [show decide ((a + b) * ((2 ^ 1062 : Nat) : Int) < 0) = decide (a + b < 0) from decide_eq_decide.mpr mul_lt0, Int.natAbs_mul, Int.natAbs_natCast] at h3
    exact exact_eq h3 (fx_right _) (by decide) (by decide) hc (Nat.one_mul _).symm (Nat.one_mul _).symm
theorem sub_fx {a b : Int} (ha : a.natAbs < 2 ^ 53) (hb : b.natAbs < 2 ^ 53) (hc : (a - b).natAbs < 2 ^ 53) : Float64.sub (fx a) (fx b) = fx (a - b) := by
  obtain ⟨m, e, hd, hm⟩ := decode_fx ha
  obtain ⟨k, f, hd', hm'⟩ := decode_fx hb
  obtain ⟨h1, h2⟩ := sub_right hd hd'
  rw [val_fx ha, val_fx hb, ← Int.sub_mul] at h1 h2
  by_cases h0 : a - b = 0
  · rw [h1 (mul_eq0.mpr h0), h0, fx_zero]
    congr 1
    have : a = b := by omega
    subst this
    by_cases ha0 : a < 0 <;> simp [ha0]
  · have h3 := h2 (fun e => h0 (mul_eq0.mp e))
    rw [show decide ((a - b) * ((2 ^ 1062 : Nat) : Int) < 0) = decide (a - b < 0) from decide_eq_decide.mpr mul_lt0, Int.natAbs_mul, Int.natAbs_natCast] at h3
    exact exact_eq h3 (fx_right _) (by decide) (by decide) hc (Nat.one_mul _).symm (Nat.one_mul _).symm
theorem sgn_prod {a b c : Int} (hp : a * b = c * 4096) (hz : c ≠ 0 ∨ (0 ≤ a ∧ 0 ≤ b)) : (decide (a < 0) != decide (b < 0)) = decide (c < 0) := by
  rcases hz with hz | ⟨h1, h2⟩
  · rcases Int.lt_trichotomy a 0 with ha | ha | ha <;> rcases Int.lt_trichotomy b 0 with hb | hb | hb
    · have := Int.mul_pos_of_neg_of_neg ha hb
      have h3 : ¬ c < 0 := by omega
      simp [ha, hb, h3]
    · subst hb; simp at hp; omega
    · have := Int.mul_neg_of_neg_of_pos ha hb
      have h3 : c < 0 := by omega
      have h4 : ¬ b < 0 := by omega
      simp [ha, h3, h4]
    · subst ha; simp at hp; omega
    · subst ha; simp at hp; omega
    · subst ha; simp at hp; omega
    · have := Int.mul_neg_of_pos_of_neg ha hb
      have h3 : c < 0 := by omega
      have h4 : ¬ a < 0 := by omega
      simp [hb, h3, h4]
    · subst hb; simp at hp; omega
    · have := Int.mul_pos ha hb
      have h3 : ¬ c < 0 := by omega
      have h4 : ¬ a < 0 := by omega
      have h5 : ¬ b < 0 := by omega
      simp [h3, h4, h5]
  · have := Int.mul_nonneg h1 h2
    have h3 : ¬ c < 0 := by omega
    have h4 : ¬ a < 0 := by omega
    have h5 : ¬ b < 0 := by omega
    simp [h3, h4, h5]
theorem mul_fx {a b : Int} (c : Int) (hp : a * b = c * 4096) (ha : a.natAbs < 2 ^ 53) (hb : b.natAbs < 2 ^ 53) (hc : c.natAbs < 2 ^ 53) (hz : c ≠ 0 ∨ (0 ≤ a ∧ 0 ≤ b)) : Float64.mul (fx a) (fx b) = fx c := by
  obtain ⟨m, e, hd, hm⟩ := decode_fx ha
  obtain ⟨k, f, hd', hm'⟩ := decode_fx hb
  have h := mul_right hd hd'
  rw [sgn_prod hp hz, val_fx ha, val_fx hb] at h
  refine exact_eq h (fx_right c) (Nat.two_pow_pos _) (by decide) hc ?_ (Nat.one_mul _).symm
  rw [Int.natAbs_mul, Int.natAbs_mul, Int.natAbs_natCast]
  have e : a.natAbs * b.natAbs = c.natAbs * 4096 := by rw [← Int.natAbs_mul, hp, Int.natAbs_mul]; rfl
  rw [pw_split]
  generalize (2 : Nat) ^ 1062 = K
  calc a.natAbs * K * (b.natAbs * K) = (a.natAbs * b.natAbs) * K * K := by ac_rfl
    _ = K * 4096 * (c.natAbs * K) := by rw [e]; ac_rfl
theorem div_fx {a b : Int} (c : Int) (hp : c * b = a * 4096) (hb0 : b ≠ 0) (ha : a.natAbs < 2 ^ 53) (hb : b.natAbs < 2 ^ 53) (hc : c.natAbs < 2 ^ 53) (hz : a ≠ 0 ∨ 0 < b) : Float64.div (fx a) (fx b) = fx c := by
  obtain ⟨m, e, hd, hm⟩ := decode_fx ha
  obtain ⟨k, f, hd', hm'⟩ := decode_fx hb
  have hk : k ≠ 0 := by
    intro h0
    rw [h0, Nat.zero_mul] at hm'
    have := Nat.two_pow_pos 1062
    have hbb : b.natAbs ≠ 0 := by omega
    rcases Nat.mul_eq_zero.mp hm'.symm with h | h <;> omega
  have h := div_right hd hd' hk
  have hs : (decide (a < 0) != decide (b < 0)) = decide (c < 0) := by
    rcases Int.lt_trichotomy a 0 with qa | qa | qa <;> rcases Int.lt_trichotomy b 0 with qb | qb | qb
    · have h3 : ¬ c < 0 := fun h => by have := Int.mul_pos_of_neg_of_neg h qb; omega
      simp [qa, qb, h3]
    · exact absurd qb hb0
    · have h3 : c < 0 := by
        by_cases q : c < 0
        · exact q
        · have := Int.mul_nonneg (show 0 ≤ c by omega) (Int.le_of_lt qb); omega
      have h4 : ¬ b < 0 := by omega
      simp [qa, h3, h4]
    · rcases hz with hz | hz
      · exact absurd qa hz
      · omega
    · exact absurd qb hb0
    · subst qa
      have : c = 0 := by
        rcases Int.mul_eq_zero.mp (show c * b = 0 by omega) with h | h
        · exact h
        · omega
      subst this
      have h4 : ¬ b < 0 := by omega
      simp [h4]
    · have h3 : c < 0 := by
        by_cases q : c < 0
        · exact q
        · have := Int.mul_nonpos_of_nonneg_of_nonpos (show 0 ≤ c by omega) (Int.le_of_lt qb); omega
      have h4 : ¬ a < 0 := by omega
      simp [qb, h3, h4]
    · exact absurd qb hb0
    · have h3 : ¬ c < 0 := fun h => by have := Int.mul_neg_of_neg_of_pos h qb; omega
      have h4 : ¬ a < 0 := by omega
      have h5 : ¬ b < 0 := by omega
      simp [h3, h4, h5]
  rw [hs, val_fx ha, val_fx hb] at h
  refine exact_eq h (fx_right c) ?_ (by decide) hc ?_ (Nat.one_mul _).symm
  · rw [Int.natAbs_mul, Int.natAbs_natCast]
    exact Nat.mul_pos (by omega) (Nat.two_pow_pos _)
  · rw [Int.natAbs_mul, Int.natAbs_mul, Int.natAbs_natCast, pw_split]
    have e : c.natAbs * b.natAbs = a.natAbs * 4096 := by rw [← Int.natAbs_mul, hp, Int.natAbs_mul]; rfl
    generalize (2 : Nat) ^ 1062 = K
    calc a.natAbs * K * (K * 4096) = (a.natAbs * 4096) * K * K := by ac_rfl
      _ = b.natAbs * K * (c.natAbs * K) := by rw [← e]; ac_rfl
theorem cmp_fx {a b : Int} (ha : a.natAbs < 2 ^ 53) (hb : b.natAbs < 2 ^ 53) : Float64.cmp (fx a) (fx b) = some (compare a b) := by
  obtain ⟨m, e, hd, hm⟩ := decode_fx ha
  obtain ⟨k, f, hd', hm'⟩ := decode_fx hb
  rw [cmp_right hd hd', val_fx ha, val_fx hb]
  have := pos1062
  generalize ((2 ^ 1062 : Nat) : Int) = K at *
  congr 1
  rcases Int.lt_trichotomy a b with h | h | h
  · rw [Int.compare_eq_lt.mpr h, Int.compare_eq_lt.mpr (Int.mul_lt_mul_of_pos_right h this)]
  · subst h; simp
  · rw [Int.compare_eq_gt.mpr h, Int.compare_eq_gt.mpr (Int.mul_lt_mul_of_pos_right h this)]
end Mine

end

section
open PySem PySem.W PyProof.Rows
set_option Elab.async false
set_option linter.unusedVariables false
set_option maxRecDepth 8000
set_option exponentiation.threshold 5000
namespace Mine
open PySem.Float64
theorem divII_fx {a b : Int} (c : Int) (hp : c * b = a * 4096) (hb : 0 < b) (ha : 0 ≤ a) (hc : c.natAbs < 2 ^ 53) : divII a b = fx c := by
  have hc0 : 0 ≤ c := by
    by_cases q : 0 ≤ c
    · exact q
    · have := Int.mul_neg_of_neg_of_pos (show c < 0 by omega) hb; omega
  have h : Right (divII a b) (decide (c < 0)) (a.natAbs * 2 ^ 1074) b.natAbs := by
    have e : (decide (a < 0) != decide (b < 0)) = decide (c < 0) := by
      have h1 : ¬ a < 0 := by omega
      have h2 : ¬ b < 0 := by omega
      have h3 : ¬ c < 0 := by omega
      simp [h1, h2, h3]
    show Right (ofFrac (decide (a < 0) != decide (b < 0)) a.natAbs b.natAbs) _ _ _
    rw [e]
    exact ofFrac_right (by omega) rfl (by omega)
  refine exact_eq h (fx_right c) (by omega) (by decide) hc ?_ (Nat.one_mul _).symm
  have e : c.natAbs * b.natAbs = a.natAbs * 4096 := by rw [← Int.natAbs_mul, hp, Int.natAbs_mul]; rfl
  rw [pw_split]
  generalize (2 : Nat) ^ 1062 = K
  calc a.natAbs * (K * 4096) = (a.natAbs * 4096) * K := by ac_rfl
    _ = b.natAbs * (c.natAbs * K) := by rw [← e]; ac_rfl
theorem ofInt_fx {i : Int} (h : (4096 * i).natAbs < 2 ^ 53) : ofInt i = fx (4096 * i) := by
  have x := ofInt_right i
  have e : decide (i < 0) = decide (4096 * i < 0) := decide_eq_decide.mpr (by omega)
  rw [e] at x
  refine exact_eq x (fx_right _) (by decide) (by decide) h ?_ (Nat.one_mul _).symm
  rw [pw_split, Int.natAbs_mul]
  generalize (2 : Nat) ^ 1062 = K
  show i.natAbs * (K * 4096) = 1 * (4096 * i.natAbs * K)
  rw [Nat.one_mul]; ac_rfl
theorem isInf_fx {n : Int} (h : n.natAbs < 2 ^ 53) : isInf (fx n) = false := by
  obtain ⟨m, e, hd, _⟩ := decode_fx h
  unfold isInf; rw [hd]
theorem isNaN_fx {n : Int} (h : n.natAbs < 2 ^ 53) : Float64.isNaN (fx n) = false := by
  obtain ⟨m, e, hd, _⟩ := decode_fx h
  unfold Float64.isNaN; rw [hd]
theorem isZero_fx {n : Int} (h : n.natAbs < 2 ^ 53) (h0 : n ≠ 0) : isZero (fx n) = false := by
  obtain ⟨m, e, hd, hm⟩ := decode_fx h
  unfold isZero; rw [hd]
  cases m with
  | zero =>
    exfalso
    rw [Nat.zero_mul] at hm
    have := Nat.two_pow_pos 1062
    rcases Nat.mul_eq_zero.mp hm.symm with h | h <;> omega
  | succ m => rfl
theorem trunc_fx {n : Int} (h : n.natAbs < 2 ^ 53) (h0 : 0 ≤ n) : ∃ m e, decode (fx n) = .fin false m e ∧ truncOf false m e = n.fdiv 4096 := by
  obtain ⟨m, e, hd, hm⟩ := decode_fx h
  have hn : ¬ n < 0 := by omega
  rw [decide_eq_false hn] at hd
  refine ⟨m, e, hd, ?_⟩
  have he := decode_ge hd
  have hfd : n.fdiv 4096 = ((n.natAbs / 4096 : Nat) : Int) := by
    rw [Int.fdiv_eq_ediv_of_nonneg _ (by decide)]
    omega
  rw [hfd]
  show floorOf false m e = _
  unfold floorOf
  split
  · rename_i h1
    have h2 : (e + 1074).toNat = e.toNat + 1074 := by omega
    rw [h2, Nat.pow_add, pw_split] at hm
    have h3 : m * 2 ^ e.toNat * 4096 = n.natAbs := by
      refine Nat.eq_of_mul_eq_mul_right (Nat.two_pow_pos 1062) ?_
      rw [← hm]
      generalize (2 : Nat) ^ 1062 = K
      ac_rfl
    rw [← h3, Nat.mul_div_cancel _ (by decide)]
    unfold sgn
    push_cast
    rfl
  · rename_i h1
    have h2 : 1074 = (-e).toNat + (e + 1074).toNat := by omega
    have h3 : m / 2 ^ (-e).toNat = n.natAbs / 4096 := by
      rw [← Nat.mul_div_mul_right m (2 ^ (-e).toNat) (Nat.two_pow_pos (e + 1074).toNat), hm, ← Nat.pow_add, ← h2, pw_split, Nat.mul_comm (2 ^ 1062) 4096, Nat.mul_div_mul_right _ _ (Nat.two_pow_pos 1062)]
    show ((m : Int)).fdiv (2 ^ (-e).toNat) = _
    rw [← h3]
    have : ((2 : Int) ^ (-e).toNat) = ((2 ^ (-e).toNat : Nat) : Int) := by push_cast; rfl
    rw [this, Int.fdiv_eq_ediv_of_nonneg _ (Int.natCast_nonneg _), Int.natCast_ediv]
theorem fmod_fx {a : Int} (h : a.natAbs < 2 ^ 53) : ∃ t, fmod (fx a) (fx 4096) = pack (decide (a < 0)) t ∧ t < infMag ∧ V t = (a.natAbs % 4096) * 2 ^ 1062 := by
  obtain ⟨m, e, hd, hm⟩ := decode_fx h
  obtain ⟨k, f, hd', hm'⟩ := decode_fx (n := 4096) (by decide)
  have he := decode_ge hd
  have hf := decode_ge hd'
  have hk : k ≠ 0 := by
    intro h0
    rw [h0, Nat.zero_mul] at hm'
    have := Nat.two_pow_pos 1062
    rcases Nat.mul_eq_zero.mp hm'.symm with h | h
    · exact absurd h (by decide)
    · omega
  have hx : fmod (fx a) (fx 4096) = ofBin (decide (a < 0)) ((m * 2 ^ (e - min e f).toNat) % (k * 2 ^ (f - min e f).toNat)) (min e f) := by
    unfold fmod
    rw [hd, hd']
    simp only
    rw [if_neg (by simpa using hk)]
    unfold align sgn
    simp only [Bool.false_eq_true, if_false, Int.toNat_natCast]
  have r := ofBin_right (neg := decide (a < 0)) (M := (m * 2 ^ (e - min e f).toNat) % (k * 2 ^ (f - min e f).toNat)) (g := min e f) (by omega)
  rw [← hx] at r
  refine exact_at r (by decide) (N := a.natAbs % 4096) (by have := Nat.mod_lt a.natAbs (show 0 < 4096 by decide); omega) ?_
  rw [Nat.one_mul, ← Nat.mul_mod_mul_right, Nat.mul_assoc, Nat.mul_assoc, ← Nat.pow_add, ← Nat.pow_add]
  have e1 : (e - min e f).toNat + (min e f + 1074).toNat = (e + 1074).toNat := by omega
  have e2 : (f - min e f).toNat + (min e f + 1074).toNat = (f + 1074).toNat := by omega
  rw [e1, e2, hm, hm', Nat.mul_mod_mul_right]
  rfl
theorem mod_one_fx {a : Int} (h : a.natAbs < 2 ^ 52) : fmodF (fx a) (fx 4096) = fx (a.fmod 4096) := by
  obtain ⟨t, ht, hlt, hv⟩ := fmod_fx (a := a) (by omega)
  have hmod := Nat.mod_lt a.natAbs (show 0 < 4096 by decide)
  have hfm : a.fmod 4096 = a % 4096 := Int.fmod_eq_emod_of_nonneg _ (by decide)
  show (divmod (fx a) (fx 4096)).2 = _
  unfold divmod
  rw [ht]
  by_cases h0 : a.natAbs % 4096 = 0
  · have t0 : t = 0 := V_inj (by rw [hv, h0, Nat.zero_mul, V_zero])
    subst t0
    have hz : isZero (pack (decide (a < 0)) 0) = true := by cases decide (a < 0) <;> decide +kernel
    simp only [hz, if_true]
    have : a.fmod 4096 = 0 := by rw [hfm]; omega
    rw [this]
    decide +kernel
  · generalize hc : (if a < 0 then -((a.natAbs % 4096 : Nat) : Int) else ((a.natAbs % 4096 : Nat) : Int)) = c
    have hcabs : c.natAbs = a.natAbs % 4096 := by rw [← hc]; split <;> omega
    have hcs : c < 0 ↔ a < 0 := by rw [← hc]; split <;> omega
    have hr : pack (decide (a < 0)) t = fx c := by
      obtain ⟨u, hu, hul, huv⟩ := exact_at (fx_right c) (by decide) (N := a.natAbs % 4096) (by omega) (by rw [hcabs, Nat.one_mul])
      rw [hu, decide_eq_decide.mpr hcs, V_inj (huv.trans hv.symm)]
    rw [hr]
    have hc1 : c.natAbs < 4096 := by omega
    have hc0 : c ≠ 0 := by omega
    have hb : c.natAbs < 2 ^ 53 := by omega
    have hz := isZero_fx hb hc0
    have l1 : lt (fx 4096) (zero false) = false := by decide +kernel
    have l2 : lt (fx c) (zero false) = decide (c < 0) := by
      unfold lt
      rw [← fx_zero, cmp_fx hb (by decide)]
      rcases Int.lt_trichotomy c 0 with q | q | q
      · rw [Int.compare_eq_lt.mpr q]; simp [q]
      · exact absurd q hc0
      · rw [Int.compare_eq_gt.mpr q]
        have : ¬ c < 0 := by omega
        simp [this]
    by_cases q : c < 0
    · simp only [hz, l1, l2, q, decide_true, Bool.false_bne, Bool.false_eq_true, if_false, if_true]
      rw [add_fx hb (by decide) (by omega)]
      congr 1
      rw [hfm]
      have := hcs.mp q
      omega
    · simp only [hz, l1, l2, q, decide_false, Bool.bne_false, Bool.false_eq_true, if_false]
      congr 1
      rw [hfm]
      have : ¬ a < 0 := fun h => q (hcs.mpr h)
      omega
end Mine

end

section
open PySem PySem.W PyProof.Rows
set_option Elab.async false
set_option linter.unusedVariables false
set_option linter.unusedSimpArgs false
set_option maxRecDepth 8000
set_option maxHeartbeats 4000000
namespace Mine
section
variable {p : Pg}
theorem T0_bi : (T0 p).bi = biW := rfl
theorem T0_gl : (T0 p).gl = glW p := rfl
theorem T0_ga : (T0 p).ga = gaW p := rfl
theorem T0_mv (x d) : (T0 p).mv x d = (mtOf x).bind fun m => mvW p m d := rfl
theorem T1_bi : (T1 p).bi = biW := rfl
theorem T1_gl : (T1 p).gl = glW p := rfl
theorem T1_ga : (T1 p).ga = gaW p := rfl
theorem T1_fn : (T1 p).fn = fnW p := rfl
theorem T1_mv (x d) : (T1 p).mv x d = (mtOf x).bind fun m => mvW p m d := rfl
theorem c6 : (4618441417868443648 : UInt64) = fx 24576 := by decide +kernel
theorem c1 : (4607182418800017408 : UInt64) = fx 4096 := by decide +kernel
theorem c2 : (4611686018427387904 : UInt64) = fx 8192 := by decide +kernel
theorem c4 : (4616189618054758400 : UInt64) = fx 16384 := by decide +kernel
theorem ch : (4602678819172646912 : UInt64) = fx 2048 := by decide +kernel
theorem c0 : (0 : UInt64) = fx 0 := by decide +kernel
theorem cmp_eq_fx {a b : Int} (ha : a.natAbs < 2 ^ 53) (hb : b.natAbs < 2 ^ 53) : (Float64.cmp (fx a) (fx b) == some .eq) = decide (a = b) := by
  rw [cmp_fx ha hb]
  rcases Int.lt_trichotomy a b with h | h | h
  · rw [Int.compare_eq_lt.mpr h]; have : ¬ a = b := by omega
    simp [this]
  · subst h; simp
  · rw [Int.compare_eq_gt.mpr h]; have : ¬ a = b := by omega
    simp [this]
theorem cmp_lt_fx {a b : Int} (ha : a.natAbs < 2 ^ 53) (hb : b.natAbs < 2 ^ 53) : (Float64.cmp (fx a) (fx b) == some .lt) = decide (a < b) := by
  rw [cmp_fx ha hb]
  rcases Int.lt_trichotomy a b with h | h | h
  · rw [Int.compare_eq_lt.mpr h]; simp [h]
  · subst h; simp
  · rw [Int.compare_eq_gt.mpr h]; have : ¬ a < b := by omega
    simp [this]
theorem subS {a b : Int} (ha : a.natAbs < 2 ^ 44) (hb : b.natAbs < 2 ^ 44) : Float64.sub (fx a) (fx b) = fx (a - b) := sub_fx (by omega) (by omega) (by omega)
theorem addS {a b : Int} (ha : a.natAbs < 2 ^ 44) (hb : b.natAbs < 2 ^ 44) : Float64.add (fx a) (fx b) = fx (a + b) := add_fx (by omega) (by omega) (by omega)
theorem mulS {a b : Int} (c : Int) (hp : a * b = c * 4096) (ha : a.natAbs < 2 ^ 44) (hb : b.natAbs < 2 ^ 44) (hc : c.natAbs < 2 ^ 44) (h1 : 0 ≤ a) (h2 : 0 ≤ b) : Float64.mul (fx a) (fx b) = fx c := mul_fx c hp (by omega) (by omega) (by omega) (.inr ⟨h1, h2⟩)
theorem divS {a b : Int} (c : Int) (hp : c * b = a * 4096) (b0 : 0 < b) (ha : a.natAbs < 2 ^ 44) (hb : b.natAbs < 2 ^ 44) (hc : c.natAbs < 2 ^ 44) : Float64.div (fx a) (fx b) = fx c := div_fx c hp (by omega) (by omega) (by omega) (by omega) (.inr b0)
theorem absS {a b : Int} {k : Nat} (ha : a.natAbs < 2 ^ k) (hb : b.natAbs < 2 ^ k) : (a - b).natAbs < 2 ^ (k + 1) := by rw [Nat.pow_succ]; omega
theorem absA {a b : Int} {k : Nat} (ha : a.natAbs < 2 ^ k) (hb : b.natAbs < 2 ^ k) : (a + b).natAbs < 2 ^ (k + 1) := by rw [Nat.pow_succ]; omega
theorem abs_le {a : Int} {k : Nat} (ha : a.natAbs < 2 ^ k) (h : k ≤ 44) : a.natAbs < 2 ^ 44 := Nat.lt_of_lt_of_le ha (Nat.pow_le_pow_right (by decide) h)
theorem nzS {a : Int} (ha : a.natAbs < 2 ^ 44) (h : a ≠ 0) : Float64.isZero (fx a) = false := isZero_fx (by omega) h
theorem eqS {a b : Int} (ha : a.natAbs < 2 ^ 44) (hb : b.natAbs < 2 ^ 44) : (Float64.cmp (fx a) (fx b) == some .eq) = decide (a = b) := cmp_eq_fx (by omega) (by omega)
theorem cleanS {fl : Fl} {d : Mine.D} (h : d.scal = true) : clean fl d := by unfold clean; rw [h, Bool.or_true]
theorem cleanF {fl : Fl} {x : UInt64} {g : Ag} {P : Prop} (h : P) : clean fl (.flt x g) ∧ P := ⟨cleanS rfl, h⟩
theorem pos_sub {a b : Int} (h : b < a) : 0 < a - b := by omega
theorem rgbv_run {R G B M m S' rc gc bc X Y : Int} {x y z g g' : Ag} {K : D → Fl → Prop} (hM : gtF (gtF (fx R, x) (fx G, y)) (fx B, z) = (fx M, g)) (hm : ltF (ltF (fx R, x) (fx G, y)) (fx B, z) = (fx m, g'))
    (hne : m ≠ M) (bR : R.natAbs < 2 ^ 40) (bG : G.natAbs < 2 ^ 40) (bB : B.natAbs < 2 ^ 40) (bM : M.natAbs < 2 ^ 40) (bm : m.natAbs < 2 ^ 40) (M0 : 0 < M) (mM : m < M)
    (hS : S' * M = (M - m) * 4096) (hrc : rc * (M - m) = (M - R) * 4096) (hgc : gc * (M - m) = (M - G) * 4096) (hbc : bc * (M - m) = (M - B) * 4096) (bS : S'.natAbs < 2 ^ 40) (brc : rc.natAbs < 2 ^ 40) (bgc : gc.natAbs < 2 ^ 40) (bbc : bc.natAbs < 2 ^ 40)
    (hX : X = if R = M then bc - gc else if G = M then 8192 + rc - bc else 16384 + gc - rc) (hY : Y * 6 = X) (h : K (.tup [.flt (fx (Y.fmod 4096)) .new, .flt (fx S') .new, .flt (fx M) g]) .cl) :
    fnW p 1 [.flt (fx R) x, .flt (fx G) y, .flt (fx B) z] K := by
  show wSs (T0 p) codeRgbv (startσ [.flt (fx R) x, .flt (fx G) y, .flt (fx B) z] 9) (fun f _ => retK K f)
  have cR := abs_le bR (by decide); have cG := abs_le bG (by decide); have cB := abs_le bB (by decide); have cM := abs_le bM (by decide); have cm := abs_le bm (by decide)
  have cS := abs_le bS (by decide); have crc := abs_le brc (by decide); have cgc := abs_le bgc (by decide); have cbc := abs_le bbc (by decide)
  have cd := abs_le (absS bM bm) (by decide)
  have dp := pos_sub mM
  have nzd := nzS cd (Int.ne_of_gt dp)
  conv => whnf
  rw [hM, hm]
  dsimp only [fltD]
  refine ⟨fun hr => ?_, fun _ => ?_⟩
  · rw [eqS cm cM] at hr
    exact absurd (of_decide_eq_true hr) hne
  rw [subS cM cm]
  conv => whnf
  refine ⟨nzS cM (Int.ne_of_gt M0), ?_⟩
  rw [divS S' hS M0 cd cM cS]
  conv => whnf
  refine ⟨nzd, ?_⟩
  rw [subS cM cR, divS rc hrc dp (abs_le (absS bM bR) (by decide)) cd crc]
  conv => whnf
  refine ⟨nzd, ?_⟩
  rw [subS cM cG, divS gc hgc dp (abs_le (absS bM bG) (by decide)) cd cgc]
  conv => whnf
  refine ⟨nzd, ?_⟩
  rw [subS cM cB, divS bc hbc dp (abs_le (absS bM bB) (by decide)) cd cbc]
  conv => whnf
  rw [eqS cR cM]
  have c1' : Float64.isZero 4607182418800017408 = false := by decide +kernel
  have c6' : Float64.isZero 4618441417868443648 = false := by decide +kernel
  have fin : ∀ X', X' = X → X'.natAbs < 2 ^ 42 → fmodF (Float64.div (fx X') 4618441417868443648) 4607182418800017408 = fx (Y.fmod 4096) := fun X' e b => by
    clear hS hrc hgc hbc hM hm hX h
    have hYb : Y.natAbs < 2 ^ 42 := by omega
    have hp : Y * 24576 = X' * 4096 := by omega
    rw [c6, c1, divS Y hp (by decide) (abs_le b (by decide)) (by decide) (abs_le hYb (by decide)), mod_one_fx (Nat.lt_of_lt_of_le hYb (by decide))]
  refine ⟨fun hr => ?_, fun hr => ?_⟩
  · have hr := of_decide_eq_true hr
    rw [if_pos hr] at hX
    conv => whnf
    refine ⟨c6', ?_⟩
    conv => whnf
    refine ⟨c1', ?_⟩
    rw [subS cbc cgc, fin _ hX.symm (Nat.lt_of_lt_of_le (absS bbc bgc) (by decide))]
    conv => whnf
    refine cleanF ?_
    refine cleanF ?_
    refine cleanF ?_
    refine ⟨by simp, ?_⟩
    conv => whnf
    exact h
  · have hr := of_decide_eq_false hr
    rw [if_neg hr] at hX
    conv => whnf
    rw [eqS cG cM]
    refine ⟨fun hq => ?_, fun hq => ?_⟩
    · have hq := of_decide_eq_true hq
      rw [if_pos hq] at hX
      conv => whnf
      refine ⟨c6', ?_⟩
      conv => whnf
      refine ⟨c1', ?_⟩
      rw [c2, addS (a := 8192) (by decide) crc, subS (abs_le (absA (a := 8192) (by decide) brc) (by decide)) cbc, fin _ hX.symm (by have := absS (absA (a := 8192) (k := 40) (by decide) brc) (Nat.lt_of_lt_of_le bbc (by decide)); exact this)]
      conv => whnf
      refine cleanF ?_
      refine cleanF ?_
      refine cleanF ?_
      refine ⟨by simp, ?_⟩
      conv => whnf
      exact h
    · have hq := of_decide_eq_false hq
      rw [if_neg hq] at hX
      conv => whnf
      refine ⟨c6', ?_⟩
      conv => whnf
      refine ⟨c1', ?_⟩
      rw [c4, addS (a := 16384) (by decide) cgc, subS (abs_le (absA (a := 16384) (by decide) bgc) (by decide)) crc, fin _ hX.symm (by have := absS (absA (a := 16384) (k := 40) (by decide) bgc) (Nat.lt_of_lt_of_le brc (by decide)); exact this)]
      conv => whnf
      refine cleanF ?_
      refine cleanF ?_
      refine cleanF ?_
      refine ⟨by simp, ?_⟩
      conv => whnf
      exact h
end
end Mine

end

section
open PySem PySem.W PyProof.Rows
set_option Elab.async false
set_option linter.unusedVariables false
set_option linter.unusedSimpArgs false
set_option maxRecDepth 8000
set_option maxHeartbeats 4000000


namespace Mine
section
variable {p : Pg}
theorem intF_fx {n : Int} (h : n.natAbs < 2 ^ 44) (h0 : 0 ≤ n) : intF (fx n) = some (n.fdiv 4096) := by
  obtain ⟨m, e, hd, ht⟩ := trunc_fx (Nat.lt_of_lt_of_le h (by decide)) h0
  unfold intF
  rw [hd]
  exact congrArg some ht
theorem ofIntS {i : Int} (h : i.natAbs < 2 ^ 32) : Float64.ofInt i = fx (4096 * i) := ofInt_fx (by omega)
theorem hsv_run {H S V i F P sf Q s1f U : Int} {x y z : Ag} {K : D → Fl → Prop} (bH : H.natAbs < 2 ^ 40) (bS : S.natAbs < 2 ^ 40) (bV : V.natAbs < 2 ^ 40) (H0 : 0 ≤ H) (S0 : 0 < S) (S1 : S ≤ 4096) (V0 : 0 ≤ V)
    (hi : i = (6 * H).fdiv 4096) (bi : i.natAbs < 2 ^ 32) (hF : F = 6 * H - 4096 * i) (F0 : 0 ≤ F) (F1 : F ≤ 4096)
    (hP : V * (4096 - S) = P * 4096) (bP : P.natAbs < 2 ^ 40) (hsf : S * F = sf * 4096) (bsf : 0 ≤ sf ∧ sf ≤ 4096) (hQ : V * (4096 - sf) = Q * 4096) (bQ : Q.natAbs < 2 ^ 40)
    (hs1 : S * (4096 - F) = s1f * 4096) (bs1 : 0 ≤ s1f ∧ s1f ≤ 4096) (hU : V * (4096 - s1f) = U * 4096) (bU : U.natAbs < 2 ^ 40)
    (h : ∀ R G B : UInt64 × Ag, ((i.fmod 6 = 0 ∧ R = (fx V, z) ∧ G = (fx U, .new) ∧ B = (fx P, .new)) ∨ (i.fmod 6 = 1 ∧ R = (fx Q, .new) ∧ G = (fx V, z) ∧ B = (fx P, .new)) ∨ (i.fmod 6 = 2 ∧ R = (fx P, .new) ∧ G = (fx V, z) ∧ B = (fx U, .new)) ∨
      (i.fmod 6 = 3 ∧ R = (fx P, .new) ∧ G = (fx Q, .new) ∧ B = (fx V, z)) ∨ (i.fmod 6 = 4 ∧ R = (fx U, .new) ∧ G = (fx P, .new) ∧ B = (fx V, z)) ∨ (i.fmod 6 = 5 ∧ R = (fx V, z) ∧ G = (fx P, .new) ∧ B = (fx Q, .new))) → K (.tup [fltD R, fltD G, fltD B]) .cl) :
    fnW p 0 [.flt (fx H) x, .flt (fx S) y, .flt (fx V) z] K := by
  show wSs (T0 p) codeHsv (startσ [.flt (fx H) x, .flt (fx S) y, .flt (fx V) z] 5) (fun f _ => retK K f)
  have cH := abs_le bH (by decide); have cS := abs_le bS (by decide); have cV := abs_le bV (by decide); have cP := abs_le bP (by decide); have cQ := abs_le bQ (by decide); have cU := abs_le bU (by decide)
  have e6 : Float64.mul (fx H) 4618441417868443648 = fx (6 * H) := by
    clear hP hsf hQ hs1 hU h
    rw [c6]; exact mulS _ (by omega) cH (by decide) (by omega) H0 (by decide)
  have b6 : (6 * H).natAbs < 2 ^ 44 := by clear hP hsf hQ hs1 hU h; omega
  have bF : F.natAbs < 2 ^ 44 := by clear hP hsf hQ hs1 hU h; omega
  have b1 : ∀ q : Int, 0 ≤ q ∧ q ≤ 4096 → q.natAbs < 2 ^ 44 := fun q hq => by clear hP hsf hQ hs1 hU h; omega
  have b2 : ∀ q : Int, 0 ≤ q ∧ q ≤ 4096 → 0 ≤ 4096 - q ∧ 4096 - q ≤ 4096 := fun q hq => by omega
  have one : (4096 : Int).natAbs < 2 ^ 44 := by decide
  conv => whnf
  refine ⟨fun hr => ?_, fun _ => ?_⟩
  · rw [c0, eqS cS (by decide)] at hr
    have := of_decide_eq_true hr
    omega
  conv => whnf
  rw [e6]
  refine ⟨i, by rw [intF_fx b6 (by omega), hi], ?_⟩
  conv => whnf
  rw [e6, ofIntS bi]
  have b4i : (4096 * i).natAbs < 2 ^ 44 := by clear hP hsf hQ hs1 hU h hi hF; omega
  refine ⟨isInf_fx (Nat.lt_of_lt_of_le b4i (by decide)), ?_⟩
  rw [subS b6 b4i, ← hF]
  have eP : Float64.mul (fx V) (Float64.sub 4607182418800017408 (fx S)) = fx P := by
    rw [c1, subS one cS]; exact mulS P hP cV (b1 _ (b2 _ ⟨Int.le_of_lt S0, S1⟩)) cP V0 (b2 _ ⟨Int.le_of_lt S0, S1⟩).1
  have eQ : Float64.mul (fx V) (Float64.sub 4607182418800017408 (Float64.mul (fx S) (fx F))) = fx Q := by
    rw [c1, mulS sf hsf cS bF (b1 _ bsf) (Int.le_of_lt S0) F0, subS one (b1 _ bsf)]; exact mulS Q hQ cV (b1 _ (b2 _ bsf)) cQ V0 (b2 _ bsf).1
  have eU : Float64.mul (fx V) (Float64.sub 4607182418800017408 (Float64.mul (fx S) (Float64.sub 4607182418800017408 (fx F)))) = fx U := by
    rw [c1, subS one bF, mulS s1f hs1 cS (b1 _ (b2 _ ⟨F0, F1⟩)) (b1 _ bs1) (Int.le_of_lt S0) (b2 _ ⟨F0, F1⟩).1, subS one (b1 _ bs1)]; exact mulS U hU cV (b1 _ (b2 _ bs1)) cU V0 (b2 _ bs1).1
  conv => whnf
  refine ⟨by decide, ?_⟩
  rw [eP, eQ, eU]
  conv => whnf
  refine ⟨fun hr => ?_, fun h0 => ?_⟩
  · have hr := eq_of_beq hr
    conv => whnf
    refine cleanF ?_
    refine cleanF ?_
    refine cleanF ?_
    refine ⟨by simp, ?_⟩
    conv => whnf
    exact h (_, _) (_, _) (_, _) (.inl ⟨hr, rfl, rfl, rfl⟩)
  conv => whnf
  refine ⟨fun hr => ?_, fun h1 => ?_⟩
  · have hr := eq_of_beq hr
    conv => whnf
    refine cleanF ?_
    refine cleanF ?_
    refine cleanF ?_
    refine ⟨by simp, ?_⟩
    conv => whnf
    exact h (_, _) (_, _) (_, _) (.inr (.inl ⟨hr, rfl, rfl, rfl⟩))
  conv => whnf
  refine ⟨fun hr => ?_, fun h2 => ?_⟩
  · have hr := eq_of_beq hr
    conv => whnf
    refine cleanF ?_
    refine cleanF ?_
    refine cleanF ?_
    refine ⟨by simp, ?_⟩
    conv => whnf
    exact h (_, _) (_, _) (_, _) (.inr (.inr (.inl ⟨hr, rfl, rfl, rfl⟩)))
  conv => whnf
  refine ⟨fun hr => ?_, fun h3 => ?_⟩
  · have hr := eq_of_beq hr
    conv => whnf
    refine cleanF ?_
    refine cleanF ?_
    refine cleanF ?_
    refine ⟨by simp, ?_⟩
    conv => whnf
    exact h (_, _) (_, _) (_, _) (.inr (.inr (.inr (.inl ⟨hr, rfl, rfl, rfl⟩))))
  conv => whnf
  refine ⟨fun hr => ?_, fun h4 => ?_⟩
  · have hr := eq_of_beq hr
    conv => whnf
    refine cleanF ?_
    refine cleanF ?_
    refine cleanF ?_
    refine ⟨by simp, ?_⟩
    conv => whnf
    exact h (_, _) (_, _) (_, _) (.inr (.inr (.inr (.inr (.inl ⟨hr, rfl, rfl, rfl⟩)))))
  conv => whnf
  refine ⟨fun hr => ?_, fun h5 => ?_⟩
  · have hr := eq_of_beq hr
    conv => whnf
    refine cleanF ?_
    refine cleanF ?_
    refine cleanF ?_
    refine ⟨by simp, ?_⟩
    conv => whnf
    exact h (_, _) (_, _) (_, _) (.inr (.inr (.inr (.inr (.inr ⟨hr, rfl, rfl, rfl⟩)))))
  · exfalso
    have q0 := of_decide_eq_false h0; have q1 := of_decide_eq_false h1; have q2 := of_decide_eq_false h2; have q3 := of_decide_eq_false h3; have q4 := of_decide_eq_false h4; have q5 := of_decide_eq_false h5
    clear hP hsf hQ hs1 hU h
    have := Int.fmod_eq_emod_of_nonneg i (show (0:Int) ≤ 6 by decide)
    omega
end
end Mine

end

section
open PySem PySem.W PyProof.Rows
set_option Elab.async false
set_option linter.unusedVariables false
set_option linter.unusedSimpArgs false
set_option maxRecDepth 8000
set_option maxHeartbeats 4000000


namespace Mine
section
variable {p : Pg}
theorem rgbl_run {R G B M m L rc gc bc X Y : Int} {x y z g g' : Ag} {K : D → Fl → Prop} (hM : gtF (gtF (fx R, x) (fx G, y)) (fx B, z) = (fx M, g)) (hm : ltF (ltF (fx R, x) (fx G, y)) (fx B, z) = (fx m, g'))
    (hne : m ≠ M) (bR : R.natAbs < 2 ^ 40) (bG : G.natAbs < 2 ^ 40) (bB : B.natAbs < 2 ^ 40) (bM : M.natAbs < 2 ^ 40) (bm : m.natAbs < 2 ^ 40) (mM : m < M) (s0 : 0 < M + m) (s1 : M + m < 8192) (hL : L * 2 = M + m)
    (hrc : rc * (M - m) = (M - R) * 4096) (hgc : gc * (M - m) = (M - G) * 4096) (hbc : bc * (M - m) = (M - B) * 4096) (brc : rc.natAbs < 2 ^ 40) (bgc : gc.natAbs < 2 ^ 40) (bbc : bc.natAbs < 2 ^ 40)
    (hX : X = if R = M then bc - gc else if G = M then 8192 + rc - bc else 16384 + gc - rc) (hY : Y * 6 = X) (h : ∀ s8, K (.tup [.flt (fx (Y.fmod 4096)) .new, .flt (fx L) .new, .flt s8 .new]) .cl) :
    fnW p 2 [.flt (fx R) x, .flt (fx G) y, .flt (fx B) z] K := by
  show wSs (T0 p) codeRgbl (startσ [.flt (fx R) x, .flt (fx G) y, .flt (fx B) z] 10) (fun f _ => retK K f)
  have cR := abs_le bR (by decide); have cG := abs_le bG (by decide); have cB := abs_le bB (by decide); have cM := abs_le bM (by decide); have cm := abs_le bm (by decide)
  have cd := abs_le (absS bM bm) (by decide)
  have ca := abs_le (absA bM bm) (by decide)
  have cL : L.natAbs < 2 ^ 44 := by clear hrc hgc hbc hX h hM hm; omega
  have hLp : L * 8192 = (M + m) * 4096 := by clear hrc hgc hbc hX h hM hm; omega
  have crc := abs_le brc (by decide); have cgc := abs_le bgc (by decide); have cbc := abs_le bbc (by decide)
  have dp := pos_sub mM
  have nzd := nzS cd (Int.ne_of_gt dp)
  have c2' : Float64.isZero 4611686018427387904 = false := by decide +kernel
  conv => whnf
  refine ⟨c2', ?_⟩
  rw [hM, hm]
  dsimp only [fltD]
  rw [addS cM cm, subS cM cm, c2, divS L hLp (by decide) ca (by decide) cL]
  conv => whnf
  refine ⟨fun hr => ?_, fun _ => ?_⟩
  · rw [eqS cm cM] at hr
    exact absurd (of_decide_eq_true hr) hne
  conv => whnf
  refine ⟨fun _ => ?_, fun _ => ?_⟩
  · conv => whnf
    refine ⟨nzS ca (Int.ne_of_gt s0), ?_⟩
    conv => whnf
    refine ⟨nzd, ?_⟩
    rw [subS cM cR, divS rc hrc dp (abs_le (absS bM bR) (by decide)) cd crc]
    conv => whnf
    refine ⟨nzd, ?_⟩
    rw [subS cM cG, divS gc hgc dp (abs_le (absS bM bG) (by decide)) cd cgc]
    conv => whnf
    refine ⟨nzd, ?_⟩
    rw [subS cM cB, divS bc hbc dp (abs_le (absS bM bB) (by decide)) cd cbc]
    conv => whnf
    rw [eqS cR cM]
    have c1' : Float64.isZero 4607182418800017408 = false := by decide +kernel
    have c6' : Float64.isZero 4618441417868443648 = false := by decide +kernel
    have fin : ∀ X', X' = X → X'.natAbs < 2 ^ 42 → fmodF (Float64.div (fx X') 4618441417868443648) 4607182418800017408 = fx (Y.fmod 4096) := fun X' e b => by
      clear hrc hgc hbc hX h hM hm hLp
      have hYb : Y.natAbs < 2 ^ 42 := by omega
      have hp : Y * 24576 = X' * 4096 := by omega
      rw [c6, c1, divS Y hp (by decide) (abs_le b (by decide)) (by decide) (abs_le hYb (by decide)), mod_one_fx (Nat.lt_of_lt_of_le hYb (by decide))]
    refine ⟨fun hr => ?_, fun hr => ?_⟩
    · have hr := of_decide_eq_true hr
      rw [if_pos hr] at hX
      conv => whnf
      refine ⟨c6', ?_⟩
      conv => whnf
      refine ⟨c1', ?_⟩
      rw [subS cbc cgc, fin _ hX.symm (Nat.lt_of_lt_of_le (absS bbc bgc) (by decide))]
      conv => whnf
      refine cleanF ?_
      refine cleanF ?_
      refine cleanF ?_
      refine ⟨by simp, ?_⟩
      conv => whnf
      exact h _
    · have hr := of_decide_eq_false hr
      rw [if_neg hr] at hX
      conv => whnf
      rw [eqS cG cM]
      refine ⟨fun hq => ?_, fun hq => ?_⟩
      · have hq := of_decide_eq_true hq
        rw [if_pos hq] at hX
        conv => whnf
        refine ⟨c6', ?_⟩
        conv => whnf
        refine ⟨c1', ?_⟩
        rw [addS (a := 8192) (by decide) crc, subS (abs_le (absA (a := 8192) (by decide) brc) (by decide)) cbc, fin _ hX.symm (by have := absS (absA (a := 8192) (k := 40) (by decide) brc) (Nat.lt_of_lt_of_le bbc (by decide)); exact this)]
        conv => whnf
        refine cleanF ?_
        refine cleanF ?_
        refine cleanF ?_
        refine ⟨by simp, ?_⟩
        conv => whnf
        exact h _
      · have hq := of_decide_eq_false hq
        rw [if_neg hq] at hX
        conv => whnf
        refine ⟨c6', ?_⟩
        conv => whnf
        refine ⟨c1', ?_⟩
        rw [c4, addS (a := 16384) (by decide) cgc, subS (abs_le (absA (a := 16384) (by decide) bgc) (by decide)) crc, fin _ hX.symm (by have := absS (absA (a := 16384) (k := 40) (by decide) bgc) (Nat.lt_of_lt_of_le brc (by decide)); exact this)]
        conv => whnf
        refine cleanF ?_
        refine cleanF ?_
        refine cleanF ?_
        refine ⟨by simp, ?_⟩
        conv => whnf
        exact h _
  · conv => whnf
    rw [subS (by decide) cM, subS (abs_le (absS (a := 8192) (by decide) bM) (by decide)) cm]
    refine ⟨nzS (abs_le (absS (absS (a := 8192) (k := 40) (by decide) bM) (Nat.lt_of_lt_of_le bm (by decide))) (by decide)) (by omega), ?_⟩
    conv => whnf
    refine ⟨nzd, ?_⟩
    rw [subS cM cR, divS rc hrc dp (abs_le (absS bM bR) (by decide)) cd crc]
    conv => whnf
    refine ⟨nzd, ?_⟩
    rw [subS cM cG, divS gc hgc dp (abs_le (absS bM bG) (by decide)) cd cgc]
    conv => whnf
    refine ⟨nzd, ?_⟩
    rw [subS cM cB, divS bc hbc dp (abs_le (absS bM bB) (by decide)) cd cbc]
    conv => whnf
    rw [eqS cR cM]
    have c1' : Float64.isZero 4607182418800017408 = false := by decide +kernel
    have c6' : Float64.isZero 4618441417868443648 = false := by decide +kernel
    have fin : ∀ X', X' = X → X'.natAbs < 2 ^ 42 → fmodF (Float64.div (fx X') 4618441417868443648) 4607182418800017408 = fx (Y.fmod 4096) := fun X' e b => by
      clear hrc hgc hbc hX h hM hm hLp
      have hYb : Y.natAbs < 2 ^ 42 := by omega
      have hp : Y * 24576 = X' * 4096 := by omega
      rw [c6, c1, divS Y hp (by decide) (abs_le b (by decide)) (by decide) (abs_le hYb (by decide)), mod_one_fx (Nat.lt_of_lt_of_le hYb (by decide))]
    refine ⟨fun hr => ?_, fun hr => ?_⟩
    · have hr := of_decide_eq_true hr
      rw [if_pos hr] at hX
      conv => whnf
      refine ⟨c6', ?_⟩
      conv => whnf
      refine ⟨c1', ?_⟩
      rw [subS cbc cgc, fin _ hX.symm (Nat.lt_of_lt_of_le (absS bbc bgc) (by decide))]
      conv => whnf
      refine cleanF ?_
      refine cleanF ?_
      refine cleanF ?_
      refine ⟨by simp, ?_⟩
      conv => whnf
      exact h _
    · have hr := of_decide_eq_false hr
      rw [if_neg hr] at hX
      conv => whnf
      rw [eqS cG cM]
      refine ⟨fun hq => ?_, fun hq => ?_⟩
      · have hq := of_decide_eq_true hq
        rw [if_pos hq] at hX
        conv => whnf
        refine ⟨c6', ?_⟩
        conv => whnf
        refine ⟨c1', ?_⟩
        rw [addS (a := 8192) (by decide) crc, subS (abs_le (absA (a := 8192) (by decide) brc) (by decide)) cbc, fin _ hX.symm (by have := absS (absA (a := 8192) (k := 40) (by decide) brc) (Nat.lt_of_lt_of_le bbc (by decide)); exact this)]
        conv => whnf
        refine cleanF ?_
        refine cleanF ?_
        refine cleanF ?_
        refine ⟨by simp, ?_⟩
        conv => whnf
        exact h _
      · have hq := of_decide_eq_false hq
        rw [if_neg hq] at hX
        conv => whnf
        refine ⟨c6', ?_⟩
        conv => whnf
        refine ⟨c1', ?_⟩
        rw [c4, addS (a := 16384) (by decide) cgc, subS (abs_le (absA (a := 16384) (by decide) bgc) (by decide)) crc, fin _ hX.symm (by have := absS (absA (a := 16384) (k := 40) (by decide) bgc) (Nat.lt_of_lt_of_le brc (by decide)); exact this)]
        conv => whnf
        refine cleanF ?_
        refine cleanF ?_
        refine cleanF ?_
        refine ⟨by simp, ?_⟩
        conv => whnf
        exact h _
end
end Mine

end

section
open PySem PySem.W PyProof.Rows
set_option Elab.async false
set_option linter.unusedVariables false
set_option linter.unusedSimpArgs false
set_option maxRecDepth 8000
set_option maxHeartbeats 4000000
namespace Mine
theorem gtF_fx {a b : Int} {x y : Ag} (ha : a.natAbs < 2 ^ 44) (hb : b.natAbs < 2 ^ 44) : gtF (fx a, x) (fx b, y) = (fx (max a b), if a < b then y else x) := by
  unfold gtF
  dsimp only
  rw [cmp_lt_fx (Nat.lt_of_lt_of_le ha (by decide)) (Nat.lt_of_lt_of_le hb (by decide))]
  by_cases h : a < b
  · simp only [h, decide_true, if_true]; rw [show max a b = b by omega]
  · simp only [h, decide_false, if_false, Bool.false_eq_true]; rw [show max a b = a by omega]
theorem ltF_fx {a b : Int} {x y : Ag} (ha : a.natAbs < 2 ^ 44) (hb : b.natAbs < 2 ^ 44) : ltF (fx a, x) (fx b, y) = (fx (min a b), if b < a then y else x) := by
  unfold ltF
  dsimp only
  rw [cmp_lt_fx (Nat.lt_of_lt_of_le hb (by decide)) (Nat.lt_of_lt_of_le ha (by decide))]
  by_cases h : b < a
  · simp only [h, decide_true, if_true]; rw [show min a b = b by omega]
  · simp only [h, decide_false, if_false, Bool.false_eq_true]; rw [show min a b = a by omega]
/-- three shares of light that the readers read back -/
def Painted (p : Pg) (H a b : Int) (R G B : UInt64 × Ag) : Prop :=
  (∀ K : D → Fl → Prop, (∀ g, K (.tup [.flt (fx (H.fmod 4096)) .new, .flt (fx (1024 * a)) .new, .flt (fx (1024 * b)) g]) .cl) → fnW p 1 [fltD R, fltD G, fltD B] K) ∧
  (∀ K : D → Fl → Prop, (∀ s8, K (.tup [.flt (fx (H.fmod 4096)) .new, .flt (fx (1024 * b - 128 * (a * b))) .new, .flt s8 .new]) .cl) → fnW p 2 [fltD R, fltD G, fltD B] K)
theorem mmc (a b c d : Int) : a * b * (c * d) = a * c * (b * d) := by ac_rfl
theorem mm (k d : Int) : 16 * k * (256 * d) = d * k * 4096 := by
  rw [mmc, Int.mul_comm k d]
  show 4096 * (d * k) = _
  rw [Int.mul_comm]
theorem painted {p : Pg} {a b kR kG kB H Y X : Int} {x y z : Ag} (ha : 1 ≤ a ∧ a ≤ 4) (hb : 1 ≤ b ∧ b ≤ 4) (h1 : 0 ≤ kR ∧ kR ≤ 256) (h2 : 0 ≤ kG ∧ kG ≤ 256) (h3 : 0 ≤ kB ∧ kB ≤ 256)
    (hmax : kR = 0 ∨ kG = 0 ∨ kB = 0) (hmin : kR = 256 ∨ kG = 256 ∨ kB = 256) (hX : X = if kR = 0 then 16 * kB - 16 * kG else if kG = 0 then 8192 + 16 * kR - 16 * kB else 16384 + 16 * kG - 16 * kR) (hY : Y * 6 = X) (hYm : Y.fmod 4096 = H.fmod 4096) :
    Painted p H a b (fx (1024 * b - a * b * kR), x) (fx (1024 * b - a * b * kG), y) (fx (1024 * b - a * b * kB), z) := by
  have eS : 1024 * a * (1024 * b) = (256 * (a * b)) * 4096 := by rw [mmc]; omega
  have d1 : 1 ≤ a * b := by
    have := Int.mul_le_mul ha.1 hb.1 (by decide) (by omega)
    omega
  have d2 : a * b ≤ 4 * b := Int.mul_le_mul_of_nonneg_right ha.2 (by omega)
  unfold Painted
  generalize a * b = d at *
  have lin : ∀ k, 0 ≤ k ∧ k ≤ 256 → 0 ≤ d * k ∧ d * k ≤ d * 256 ∧ (d * k = 0 ↔ k = 0) := fun k hk => ⟨Int.mul_nonneg (by omega) hk.1, Int.mul_le_mul_of_nonneg_left hk.2 (by omega), by
    constructor
    · intro h; rcases Int.mul_eq_zero.mp h with h | h
      · omega
      · exact h
    · intro h; rw [h, Int.mul_zero]⟩
  obtain ⟨r1, r2, r3⟩ := lin kR h1
  obtain ⟨g1, g2, g3⟩ := lin kG h2
  obtain ⟨b1, b2, b3⟩ := lin kB h3
  have mR := mm kR d; have mG := mm kG d; have mB := mm kB d
  have s256 : kR = 256 → d * kR = d * 256 := fun h => by rw [h]
  have t256 : kG = 256 → d * kG = d * 256 := fun h => by rw [h]
  have u256 : kB = 256 → d * kB = d * 256 := fun h => by rw [h]
  have bb : ∀ q : Int, 0 ≤ q ∧ q ≤ d * 256 → (1024 * b - q).natAbs < 2 ^ 40 := fun q hq => by omega
  have cR := bb _ ⟨r1, r2⟩; have cG := bb _ ⟨g1, g2⟩; have cB := bb _ ⟨b1, b2⟩
  have cR' := abs_le cR (by decide); have cG' := abs_le cG (by decide); have cB' := abs_le cB (by decide)
  have cRG : (max (1024 * b - d * kR) (1024 * b - d * kG)).natAbs < 2 ^ 44 := by omega
  have cRG' : (min (1024 * b - d * kR) (1024 * b - d * kG)).natAbs < 2 ^ 44 := by omega
  have hM : ∃ g, gtF (gtF (fx (1024 * b - d * kR), x) (fx (1024 * b - d * kG), y)) (fx (1024 * b - d * kB), z) = (fx (1024 * b), g) := by
    rw [gtF_fx cR' cG', gtF_fx cRG cB']
    refine ⟨_, Prod.ext (congrArg fx ?_) rfl⟩
    clear mR mG mB hX hY hYm eS
    rcases hmax with h | h | h
    · have := r3.mpr h; omega
    · have := g3.mpr h; omega
    · have := b3.mpr h; omega
  have hm : ∃ g, ltF (ltF (fx (1024 * b - d * kR), x) (fx (1024 * b - d * kG), y)) (fx (1024 * b - d * kB), z) = (fx (1024 * b - d * 256), g) := by
    rw [ltF_fx cR' cG', ltF_fx cRG' cB']
    refine ⟨_, Prod.ext (congrArg fx ?_) rfl⟩
    clear mR mG mB hX hY hYm eS
    rcases hmin with h | h | h
    · have := s256 h; omega
    · have := t256 h; omega
    · have := u256 h; omega
  obtain ⟨g, hM⟩ := hM
  obtain ⟨g', hm⟩ := hm
  have eq1 : 1024 * b - d * kR = 1024 * b ↔ kR = 0 := by rw [← r3]; omega
  have eq2 : 1024 * b - d * kG = 1024 * b ↔ kG = 0 := by rw [← g3]; omega
  have hX' : X = if 1024 * b - d * kR = 1024 * b then 16 * kB - 16 * kG else if 1024 * b - d * kG = 1024 * b then 8192 + 16 * kR - 16 * kB else 16384 + 16 * kG - 16 * kR := by
    rw [hX]
    by_cases q1 : kR = 0
    · rw [if_pos q1, if_pos (eq1.mpr q1)]
    · rw [if_neg q1, if_neg (fun h => q1 (eq1.mp h))]
      by_cases q2 : kG = 0
      · rw [if_pos q2, if_pos (eq2.mpr q2)]
      · rw [if_neg q2, if_neg (fun h => q2 (eq2.mp h))]
  have e1 : 1024 * b - (1024 * b - d * 256) = 256 * d := by omega
  have e2 : ∀ q, 1024 * b - (1024 * b - q) = q := fun q => by omega
  have bk : ∀ k : Int, 0 ≤ k ∧ k ≤ 256 → (16 * k).natAbs < 2 ^ 40 := fun k hk => by omega
  have bM : (1024 * b).natAbs < 2 ^ 40 := by omega
  have bm : (1024 * b - d * 256).natAbs < 2 ^ 40 := by omega
  constructor
  · intro K h
    refine rgbv_run (rc := 16 * kR) (gc := 16 * kG) (bc := 16 * kB) (S' := 1024 * a) hM hm (by omega) cR cG cB bM bm (by omega) (by omega) (by rw [e1]; exact eS) (by rw [e1, e2]; exact mR) (by rw [e1, e2]; exact mG) (by rw [e1, e2]; exact mB) (by omega) (bk _ h1) (bk _ h2) (bk _ h3) hX' hY ?_
    rw [hYm]; exact h g
  · intro K h
    refine rgbl_run (rc := 16 * kR) (gc := 16 * kG) (bc := 16 * kB) (L := 1024 * b - 128 * d) hM hm (by omega) cR cG cB bM bm (by omega) (by omega) (by omega) (by omega) (by rw [e1, e2]; exact mR) (by rw [e1, e2]; exact mG) (by rw [e1, e2]; exact mB) (bk _ h1) (bk _ h2) (bk _ h3) hX' hY fun s8 => ?_
    rw [hYm]; exact h s8
theorem paint {p : Pg} {u a b : Int} {x y z : Ag} {K : D → Fl → Prop} (hu : 0 ≤ u ∧ u < 100000) (ha : 1 ≤ a ∧ a ≤ 4) (hb : 1 ≤ b ∧ b ≤ 4) (h : ∀ R G B, Painted p (8 * u) a b R G B → K (.tup [fltD R, fltD G, fltD B]) .cl) :
    fnW p 0 [.flt (fx (8 * u)) x, .flt (fx (1024 * a)) y, .flt (fx (1024 * b)) z] K := by
  have hdiv : (6 * (8 * u)).fdiv 4096 = (3 * u) / 256 := by
    rw [Int.fdiv_eq_ediv_of_nonneg _ (by decide)]; omega
  have ew : ∃ w i : Int, w = (3 * u) % 256 ∧ i = (3 * u) / 256 := ⟨_, _, rfl, rfl⟩
  obtain ⟨w, i, hw, hi⟩ := ew
  rw [← hi] at hdiv
  have hwi : 3 * u = 256 * i + w := by omega
  have w0 : 0 ≤ w ∧ w < 256 := by omega
  have i0 : 0 ≤ i ∧ i < 2000 := by omega
  have d1 : a * w = w * a := Int.mul_comm _ _
  have aw1 : 0 ≤ a * w := Int.mul_nonneg (by omega) w0.1
  have aw2 : a * w ≤ a * 256 := Int.mul_le_mul_of_nonneg_left (by omega) (by omega)
  have ab1 : 0 ≤ a * b := Int.mul_nonneg (by omega) (by omega)
  have ab2 : a * b ≤ 4 * b := Int.mul_le_mul_of_nonneg_right ha.2 (by omega)
  have abw1 : 0 ≤ a * b * w := Int.mul_nonneg ab1 w0.1
  have abw2 : a * b * w ≤ a * b * 256 := Int.mul_le_mul_of_nonneg_left (by omega) ab1
  have hP : 1024 * b * (4096 - 1024 * a) = (1024 * b - a * b * 256) * 4096 := by
    have : 1024 * b * (1024 * a) = 1048576 * (a * b) := by rw [mmc, Int.mul_comm b a]; omega
    rw [Int.mul_sub, this]; omega
  have hsf : 1024 * a * (16 * w) = (4 * (a * w)) * 4096 := by rw [mmc]; omega
  have hQ : 1024 * b * (4096 - 4 * (a * w)) = (1024 * b - a * b * w) * 4096 := by
    have : 1024 * b * (4 * (a * w)) = 4096 * (a * b * w) := by rw [mmc, show b * (a * w) = a * b * w by ac_rfl]; omega
    rw [Int.mul_sub, this]; omega
  have hs1 : 1024 * a * (4096 - 16 * w) = (1024 * a - 4 * (a * w)) * 4096 := by rw [Int.mul_sub, hsf]; omega
  have hU : 1024 * b * (4096 - (1024 * a - 4 * (a * w))) = (1024 * b - a * b * (256 - w)) * 4096 := by
    have e1 : 1024 * b * (4 * (a * w)) = 4096 * (a * b * w) := by rw [mmc, show b * (a * w) = a * b * w by ac_rfl]; omega
    have e2 : 1024 * b * (1024 * a) = 1048576 * (a * b) := by rw [mmc, Int.mul_comm b a]; omega
    rw [Int.mul_sub, Int.mul_sub, e1, e2, Int.mul_sub]; omega
  have hUb : a * b * (256 - w) = a * b * 256 - a * b * w := Int.mul_sub _ _ _
  have e256 : a * b * 256 = 256 * (a * b) := Int.mul_comm _ _
  have k0 : ((fx (1024 * b), z) : UInt64 × Ag) = (fx (1024 * b - a * b * 0), z) := by rw [Int.mul_zero, Int.sub_zero]
  have fin : ∀ j : Int, i.fmod 6 = j → 0 ≤ j ∧ j < 6 ∧ ∃ t, i = 6 * t + j := fun j hj => by
    rw [Int.fmod_eq_emod_of_nonneg _ (by decide)] at hj
    exact ⟨by omega, by omega, i / 6, by omega⟩
  refine hsv_run (i := i) (F := 16 * w) (P := 1024 * b - a * b * 256) (sf := 4 * (a * w)) (Q := 1024 * b - a * b * w) (s1f := 1024 * a - 4 * (a * w)) (U := 1024 * b - a * b * (256 - w)) (by omega) (by omega) (by omega) (by omega) (by omega) (by omega) (by omega) hdiv.symm (by omega) (by omega) (by omega) (by omega)
    hP (by omega) hsf (by omega) hQ (by omega) hs1 (by omega) hU (by omega) fun R G B hc => ?_
  clear hP hsf hQ hs1 hU hUb hdiv aw1 aw2 abw1 abw2 d1 hw hi
  rcases hc with ⟨hj, rfl, rfl, rfl⟩ | ⟨hj, rfl, rfl, rfl⟩ | ⟨hj, rfl, rfl, rfl⟩ | ⟨hj, rfl, rfl, rfl⟩ | ⟨hj, rfl, rfl, rfl⟩ | ⟨hj, rfl, rfl, rfl⟩ <;> obtain ⟨_, _, t, ht⟩ := fin _ hj <;> refine h _ _ _ ?_ <;> rw [k0]
  · refine painted (kR := 0) (kG := 256 - w) (kB := 256) (Y := 8 * u - 4096 * t) ha hb (by omega) (by omega) (by omega) (.inl rfl) (.inr (.inr rfl)) rfl ?_ ?_
    · rw [if_pos rfl]; omega
    · rw [Int.fmod_eq_emod_of_nonneg _ (by decide), Int.fmod_eq_emod_of_nonneg _ (by decide)]; omega
  · refine painted (kR := w) (kG := 0) (kB := 256) (Y := 8 * u - 4096 * t) ha hb (by omega) (by omega) (by omega) (.inr (.inl rfl)) (.inr (.inr rfl)) rfl ?_ ?_
    · split
      · omega
      · rw [if_pos rfl]; omega
    · rw [Int.fmod_eq_emod_of_nonneg _ (by decide), Int.fmod_eq_emod_of_nonneg _ (by decide)]; omega
  · refine painted (kR := 256) (kG := 0) (kB := 256 - w) (Y := 8 * u - 4096 * t) ha hb (by omega) (by omega) (by omega) (.inr (.inl rfl)) (.inl rfl) rfl ?_ ?_
    · rw [if_neg (by decide), if_pos rfl]; omega
    · rw [Int.fmod_eq_emod_of_nonneg _ (by decide), Int.fmod_eq_emod_of_nonneg _ (by decide)]; omega
  · refine painted (kR := 256) (kG := w) (kB := 0) (Y := 8 * u - 4096 * t) ha hb (by omega) (by omega) (by omega) (.inr (.inr rfl)) (.inl rfl) rfl ?_ ?_
    · rw [if_neg (by decide)]; split <;> omega
    · rw [Int.fmod_eq_emod_of_nonneg _ (by decide), Int.fmod_eq_emod_of_nonneg _ (by decide)]; omega
  · refine painted (kR := 256 - w) (kG := 256) (kB := 0) (Y := 8 * u - 4096 * t) ha hb (by omega) (by omega) (by omega) (.inr (.inr rfl)) (.inr (.inl rfl)) rfl ?_ ?_
    · rw [if_neg (by omega), if_neg (by decide)]; omega
    · rw [Int.fmod_eq_emod_of_nonneg _ (by decide), Int.fmod_eq_emod_of_nonneg _ (by decide)]; omega
  · refine painted (kR := 0) (kG := 256) (kB := w) (Y := 8 * u - 4096 * (t + 1)) ha hb (by omega) (by omega) (by omega) (.inl rfl) (.inr (.inl rfl)) rfl ?_ ?_
    · rw [if_pos rfl]; omega
    · rw [Int.fmod_eq_emod_of_nonneg _ (by decide), Int.fmod_eq_emod_of_nonneg _ (by decide)]; omega
end Mine

end

section
open PySem PySem.W PyProof.Rows
set_option Elab.async false
set_option linter.unusedVariables false
set_option linter.unusedSimpArgs false
set_option maxRecDepth 8000
set_option maxHeartbeats 4000000
namespace Mine
theorem optW_in {α : Type} {o : Option α} {K : α → Prop} {d : α} (h : o = some d) (k : K d) : optW o K := by rw [h]; exact k
/-- the lead's state -/
def wst (x : Addr) (ws : List Nat) (cnt : List Int) (b n nt : Int) (ch : Slot) : List Slot := [.cl (.raw (.ref x)), .cl (.str ws), .cl (.str [32]), .cl (.str [9]), .ow (.lst (cnt.map D.int)), .cl (.int b), .cl (.int n), .cl (.int nt), ch]
/-- one run more -/
def cntAdd (l : List Int) (b : Nat) : List Int :=
  let l' := l ++ List.replicate (b + 1 - l.length) 0
  l'.set b (l'.getD b 0 + 1)
theorem cntAdd_len (l : List Int) (b : Nat) : (cntAdd l b).length = max l.length (b + 1) := by
  unfold cntAdd; simp; omega
section
variable {p : Pg} {x : Addr} {ws : List Nat} {Q : Flw → List Slot → Prop}
abbrev wsFor (p : Pg) (ds : List D) (σ : List Slot) (Q : Flw → List Slot → Prop) : Prop := forW [8] (fun σ Q => wSs (T0 p) wsLoop σ Q) (fun σ Q => wSs (T0 p) .nil σ Q) ds σ Q
theorem ws_blank {cnt : List Int} {b n nt : Int} {c : Slot} {ds : List D} (h : wsFor p ds (wst x ws cnt (b + 1) (n + 1) nt (.cl (.str [32]))) Q) : wsFor p (.str [32] :: ds) (wst x ws cnt b n nt c) Q := by
  show optW (tgtS [8] (.str [32])) _
  refine optW_in (d := [(8, .cl (.str [32]))]) rfl ?_
  conv => whnf
  refine ⟨fun _ => ?_, fun hr => absurd hr (by decide)⟩
  conv => whnf
  exact h
theorem repD_zero (k : Nat) : rep [D.int 0] k = (List.replicate k (0 : Int)).map D.int := by
  unfold rep
  induction k with
  | zero => rfl
  | succ k ih => rw [List.replicate_succ, List.flatten_cons, ih, List.replicate_succ]; rfl
theorem atI_map {l : List Int} {b : Nat} (h : b < l.length) : atI (l.map D.int) (b : Int) = some (.int (l.getD b 0)) := by
  unfold atI
  rw [if_pos (by omega), Int.toNat_natCast, List.getElem?_map, List.getElem?_eq_getElem h, List.getD_eq_getElem?_getD, List.getElem?_eq_getElem h]; rfl
theorem posI_in {n b : Nat} (h : b < n) : posI n (b : Int) = some b := by
  unfold posI
  rw [if_pos (by omega), if_pos (by omega), Int.toNat_natCast]
theorem ws_tab {cnt : List Int} {b : Nat} {n nt : Int} {c : Slot} {ds : List D} (hb : b ≤ 100000) (hc : cnt.length ≤ 100000) (h : wsFor p ds (wst x ws (cntAdd cnt b) 0 (n + 1) (nt + 1) (.cl (.str [9]))) Q) : wsFor p (.str [9] :: ds) (wst x ws cnt b n nt c) Q := by
  show optW (tgtS [8] (.str [9])) _
  refine optW_in (d := [(8, .cl (.str [9]))]) rfl ?_
  have hcl : (cnt.map D.int).length ≤ 16777216 := by rw [List.length_map]; omega
  have sb : small (b : Int) := ⟨by omega, by omega⟩
  conv => whnf
  refine ⟨fun hr => absurd hr (by decide), fun _ => ?_⟩
  conv => whnf
  refine ⟨fun _ => ?_, fun hr => absurd hr (by decide)⟩
  conv => whnf
  refine ⟨hcl, ?_⟩
  conv => whnf
  rw [List.length_map]
  refine ⟨fun hr => ?_, fun hr => ?_⟩
  · have hr := of_decide_eq_true hr
    have hk : ((b : Int) - (cnt.length : Int) + 1).toNat = b + 1 - cnt.length := by omega
    have hl : (cnt ++ List.replicate (b + 1 - cnt.length) 0).length = b + 1 := by simp; omega
    conv => whnf
    refine ⟨cleanS rfl, ?_⟩
    conv => whnf
    refine ⟨by simp, ?_⟩
    conv => whnf
    refine ⟨hcl, ?_⟩
    conv => whnf
    rw [List.length_map]
    refine ⟨⟨by omega, by omega, by simp; omega⟩, ?_⟩
    conv => whnf
    rw [hk, repD_zero]
    refine ⟨by simp; omega, ?_⟩
    rw [← List.map_append]
    conv => whnf
    refine ⟨sb, ?_⟩
    refine optW_in (atI_map (by omega)) ?_
    conv => whnf
    refine ⟨cleanS rfl, ?_⟩
    refine optW_in (d := b) (by rw [List.length_map]; exact posI_in (by omega)) ?_
    refine ⟨⟨by omega, sb⟩, ?_⟩
    conv => whnf
    have e : ((cnt ++ List.replicate (b + 1 - cnt.length) 0).map D.int).set b (D.int ((cnt ++ List.replicate (b + 1 - cnt.length) 0).getD b 0 + 1)) = (cntAdd cnt b).map D.int := by
      unfold cntAdd; rw [List.map_set]
    rw [e]
    exact h
  · have hr := of_decide_eq_false hr
    have e0 : b + 1 - cnt.length = 0 := by omega
    conv => whnf
    refine ⟨sb, ?_⟩
    refine optW_in (atI_map (by omega)) ?_
    conv => whnf
    refine ⟨cleanS rfl, ?_⟩
    refine optW_in (d := b) (by rw [List.length_map]; exact posI_in (by omega)) ?_
    refine ⟨⟨by omega, sb⟩, ?_⟩
    conv => whnf
    have e : (cnt.map D.int).set b (D.int (cnt.getD b 0 + 1)) = (cntAdd cnt b).map D.int := by
      unfold cntAdd; rw [e0, List.replicate_zero, List.append_nil, List.map_set]
    rw [e]
    exact h
theorem ws_stop {cnt : List Int} {b n nt : Int} {c : Slot} {ch : Nat} {ds : List D} (h1 : ch ≠ 32) (h2 : ch ≠ 9) (h : Q .next (wst x ws cnt b n nt (.cl (.str [ch])))) : wsFor p (.str [ch] :: ds) (wst x ws cnt b n nt c) Q := by
  show optW (tgtS [8] (.str [ch])) _
  refine optW_in (d := [(8, .cl (.str [ch]))]) rfl ?_
  conv => whnf
  refine ⟨fun hr => absurd (eq_of_beq hr) (by simpa using h1), fun _ => ?_⟩
  conv => whnf
  refine ⟨fun hr => absurd (eq_of_beq hr) (by simpa using h2), fun _ => ?_⟩
  conv => whnf
  exact h
end
end Mine

end

section
open PySem PySem.W PyProof.Rows
set_option Elab.async false
set_option linter.unusedVariables false
set_option linter.unusedSimpArgs false
set_option maxRecDepth 8000
set_option maxHeartbeats 4000000
namespace Mine
/-- the words of a number -/
def flagsGo (tb : List (Int × List Nat)) : List Nat → Int → List (List Nat) → Option (List (List Nat))
  | [], f, nm => if f.natAbs < 1000000000000 then some (nm ++ [hexL f]) else none
  | i :: is, f, nm => if Builtin.bitAnd f (1 * 2 ^ i) != 0 then
      (if Builtin.bitXor f (1 * 2 ^ i) != 0 then flagsGo tb is (Builtin.bitXor f (1 * 2 ^ i)) (nm ++ [(tb.lookup (1 * 2 ^ i)).getD (hexL (1 * 2 ^ i))]) else some (nm ++ [(tb.lookup (1 * 2 ^ i)).getD (hexL (1 * 2 ^ i))]))
    else flagsGo tb is f nm
def flagsF (tb : List (Int × List Nat)) (f : Int) : Option (List Nat) := (flagsGo tb (List.range 32) f []).bind fun ls => if (ls.map (·.length)).sum + ls.length * 2 ≤ 16777216 then some (joinL [44, 32] ls) else none
section
variable {p : Pg}
def flBody : Ss := (.cons (.assign 3 false (.bin .LShift (.int 1) (.var 2))) (.cons (.ife (.val (.bin .BitAnd (.var 0) (.var 3))) (.cons (.app 1 (.meth (.gl 1) "get" (.cons (.var 3) (.cons (.call .hex (.cons (.var 3) .nil)) .nil)))) (.cons (.aug 0 .BitXor (.var 3)) (.cons (.ife (.not (.val (.var 0))) (.cons (.brk) .nil) .nil) .nil))) .nil) .nil))
def flElse : Ss := (.cons (.app 1 (.call .hex (.cons (.var 0) .nil))) .nil)
def flEnd : Ss := (.cons (.ret (.meth (.str [44, 32]) "join" (.cons (.var 1) .nil))) .nil)
theorem codeFlags_eq : codeFlags = .cons (.assign 1 true (.lst .nil)) (.cons (.forS [2] (.range (.cons (.int 32) .nil)) flBody flElse) flEnd) := rfl
theorem map_snoc {α β : Type} (f : α → β) (l : List α) (a : α) : l.map f ++ [f a] = (l ++ [a]).map f := by simp
theorem T0_me (x d ds K) : (T0 p).me x d ds K = optW (mtOf x) fun m => match m with
    | .indent => False
    | m => meW p m d ds K := rfl
theorem wX_get {σ : List Slot} {l : Xs} {K : D → Fl → Prop} (h : wA (T0 p) σ l fun ds => meW p .get (.raw (.ref p.dic)) ds K) : wX (T0 p) σ (.meth (.gl 1) "get" l) K := by
  rw [wX, wX, T0_gl]
  show optW ((T0 p).mv "get" (.raw (.ref p.dic))) _
  rw [T0_mv, mtOf_get]
  refine optW_in (d := .builtin "dict.get") (by simp [mvW]) ?_
  have e : (fun ds => (T0 p).me "get" (.raw (.ref p.dic)) ds K) = fun ds => meW p .get (.raw (.ref p.dic)) ds K := by
    funext ds; rw [T0_me, mtOf_get]; rfl
  rw [e]; exact h
theorem fl_loop {Q : Flw → List Slot → Prop} : ∀ (is : List Nat) (f : Int) (nm ls : List (List Nat)) (s2 s3 : Slot), (∀ i ∈ is, i < 32) → nm.length + is.length ≤ 1000 → flagsGo p.tb is f nm = some ls → (∀ f' s2 s3, Q .next [.cl (.int f'), .ow (.lst (ls.map D.str)), s2, s3]) →
    forW [2] (fun σ Q => wSs (T0 p) flBody σ Q) (fun σ Q => wSs (T0 p) flElse σ Q) (is.map fun (k : Nat) => D.int (0 + (k : Int))) [.cl (.int f), .ow (.lst (nm.map D.str)), s2, s3] Q
  | [], f, nm, ls, s2, s3, hi, hl, h, hq => by
    unfold flagsGo at h
    split at h
    · rename_i hb
      cases h
      show wSs (T0 p) flElse _ Q
      conv => whnf
      refine ⟨hb, ?_⟩
      conv => whnf
      refine ⟨cleanS rfl, by simp at hl ⊢; omega, ?_⟩
      conv => whnf
      rw [map_snoc]
      exact hq _ _ _
    · cases h
  | i :: is, f, nm, ls, s2, s3, hi, hl, h, hq => by
    have hi0 := hi i List.mem_cons_self
    have e0 : (0 + (i : Int)).toNat = i := by omega
    unfold flagsGo at h
    rw [List.map_cons]
    show optW (tgtS [2] (.int (0 + (i : Int)))) _
    refine optW_in (d := [(2, .cl (.int (0 + (i : Int))))]) rfl ?_
    conv => whnf
    refine ⟨⟨by omega, by omega, by decide, by decide⟩, ?_⟩
    rw [e0]
    conv => whnf
    have hb : ((1 : Int) * 2 ^ i).natAbs < 1000000000000 := by
      rw [Int.one_mul, Int.natAbs_pow]
      have : 2 ^ i < 2 ^ 32 := Nat.pow_lt_pow_right (by decide) hi0
      show 2 ^ i < _
      omega
    refine ⟨fun hr => ?_, fun hr => ?_⟩
    · rw [if_pos hr] at h
      refine wX_get (p := p) (σ := [.cl (.int f), .ow (.lst (nm.map D.str)), .cl (.int (0 + (i : Int))), .cl (.int (1 * 2 ^ i))]) ?_
      conv => whnf
      refine ⟨hb, ?_⟩
      conv => whnf
      refine ⟨rfl, cleanS rfl, by simp at hl ⊢; omega, ?_⟩
      rw [map_snoc]
      conv => whnf
      refine ⟨fun hx => ?_, fun hx => ?_⟩
      · conv => whnf
        have hx' : ¬ (Builtin.bitXor f (1 * 2 ^ i) != 0) = true := by
          intro h'
          have hx : (!(Builtin.bitXor f (1 * 2 ^ i) != 0)) = true := hx
          rw [h'] at hx; cases hx
        rw [if_neg hx'] at h
        cases h
        exact hq _ _ _
      · conv => whnf
        have hx' : (Builtin.bitXor f (1 * 2 ^ i) != 0) = true := by
          have hx : (!(Builtin.bitXor f (1 * 2 ^ i) != 0)) = false := hx
          simpa using hx
        rw [if_pos hx'] at h
        exact fl_loop is _ _ ls _ _ (fun j hj => hi j (List.mem_cons_of_mem _ hj)) (by simp at hl ⊢; omega) h hq
    · have hr' : ¬ (Builtin.bitAnd f (1 * 2 ^ i) != 0) = true := by rw [hr]; decide
      rw [if_neg hr'] at h
      conv => whnf
      exact fl_loop is f nm ls _ _ (fun j hj => hi j (List.mem_cons_of_mem _ hj)) (by simp at hl ⊢; omega) h hq
theorem flags_ok {f : Int} {r : List Nat} {K : D → Fl → Prop} (h : flagsF p.tb f = some r) (hK : K (.str r) .cl) : fnW p 3 [.int f] K := by
  unfold flagsF at h
  cases q : flagsGo p.tb (List.range 32) f [] with
  | none => rw [q] at h; cases h
  | some ls =>
    rw [q] at h
    simp only [Option.bind_some] at h
    split at h
    · rename_i hz
      cases h
      show wSs (T0 p) codeFlags (startσ [.int f] 3) (fun f _ => retK K f)
      rw [codeFlags_eq]
      conv => whnf
      refine ⟨by simp, ?_⟩
      conv => whnf
      refine ⟨⟨by decide, by decide⟩, ?_⟩
      conv => whnf
      refine ⟨(fun h => nomatch h), ?_⟩
      refine fl_loop (p := p) (List.range 32) f [] ls .un .un (fun i hi => List.mem_range.mp hi) (by simp) q fun f' s2 s3 => ?_
      conv => whnf
      refine ⟨ls, rfl, hz, ?_⟩
      conv => whnf
      exact hK
    · cases h
end
end Mine

end

section
open PySem PySem.W PyProof.Rows
set_option Elab.async false
set_option linter.unusedVariables false
set_option linter.unusedSimpArgs false
set_option maxRecDepth 8000
set_option maxHeartbeats 4000000
namespace Mine
abbrev dots : List Nat := [46, 46, 46]
def ellGo (got : List Nat) : List (List Nat) → Int → Int → Bool
  | [], _, _ => true
  | w :: ws, s, e => if findL got w s e < 0 then false else ellGo got ws (findL got w s e + (w.length : Int)) e
def ellTail (got : List Nat) (ws : List (List Nat)) (s : Int) : Bool :=
  let wl := ws.getLastD []
  if !wl.isEmpty && !endsL got wl then false else
  let e : Int := if wl.isEmpty then (got.length : Int) else (got.length : Int) - (wl.length : Int)
  if e < s then false else ellGo got (if wl.isEmpty then ws else ws.dropLast) s e
def ellS (got : List Nat) (ws : List (List Nat)) : Bool :=
  let w := ws.headD []
  if !w.isEmpty && !startsL got w then false else if w.isEmpty then ellTail got ws 0 else ellTail got ws.tail (w.length : Int)
def wsOk (ws : List (List Nat)) : Bool := decide (2 ≤ ws.length) && decide (ws.length ≤ 1000000) && ws.all fun w => decide (w.length ≤ 1000000)
def ellF (want got : List Nat) : Option Bool :=
  if (occ dots want).isEmpty then some (want == got) else
  if decide (want.length ≤ 1000000) && decide (got.length ≤ 1000000) && wsOk (splitL want dots) then some (ellS got (splitL want dots)) else none
section
variable {p : Pg}
def elFor : Ss := (.cons (.assign 3 false (.meth (.var 1) "find" (.cons (.var 5) (.cons (.var 3) (.cons (.var 4) .nil))))) (.cons (.ife (.cmp .Lt (.var 3) (.int 0)) (.cons (.ret (.bool false)) .nil) .nil) (.cons (.aug 3 .Add (.call .len (.cons (.var 5) .nil))) .nil)))
theorem el_loop {want got : List Nat} {Q : Flw → List Slot → Prop} {b : Bool} {all : List D} {e : Int} : ∀ (ws : List (List Nat)) (s : Int) (s5 : Slot), (∀ w ∈ ws, w.length ≤ 1000000) → ellGo got ws s e = b →
    ((b = false → ∀ σ, Q (.ret (.bool false) .fr) σ) ∧ (b = true → ∀ s' s5, Q .next [.cl (.str want), .cl (.str got), .rt (.lst all), .cl (.int s'), .cl (.int e), s5])) →
    forW [5] (fun σ Q => wSs (T0 p) elFor σ Q) (fun σ Q => wSs (T0 p) .nil σ Q) (ws.map D.str) [.cl (.str want), .cl (.str got), .rt (.lst all), .cl (.int s), .cl (.int e), s5] Q
  | [], s, s5, hw, h, hq => by
    unfold ellGo at h
    show wSs (T0 p) .nil _ Q
    conv => whnf
    exact hq.2 h.symm _ _
  | w :: ws, s, s5, hw, h, hq => by
    unfold ellGo at h
    have hwl := hw w List.mem_cons_self
    rw [List.map_cons]
    show optW (tgtS [5] (.str w)) _
    refine optW_in (d := [(5, .cl (.str w))]) rfl ?_
    conv => whnf
    refine ⟨fun hr => ?_, fun hr => ?_⟩
    · have hr := of_decide_eq_true hr
      rw [if_pos hr] at h
      conv => whnf
      exact hq.1 h.symm _
    · have hr := of_decide_eq_false hr
      rw [if_neg hr] at h
      conv => whnf
      refine ⟨by omega, ?_⟩
      conv => whnf
      exact el_loop ws _ _ (fun v hv => hw v (List.mem_cons_of_mem _ hv)) h hq
def elT3 : Ss := (.cons (.ife (.cmp .Gt (.var 3) (.var 4)) (.cons (.ret (.bool false)) .nil) .nil) (.demote 2 (.cons (.forS [5] (.x (.var 2)) elFor .nil) (.cons (.ret (.bool true)) .nil))))
def elT2 : Ss := (.cons (.assign 5 false (.sub (.var 2) (.un .USub (.int 1)))) (.cons (.ife (.val (.var 5)) (.cons (.ife (.val (.meth (.var 1) "endswith" (.cons (.var 5) .nil))) (.cons (.aug 4 .Sub (.call .len (.cons (.var 5) .nil))) (.cons (.delSub 2 (.un .USub (.int 1))) .nil)) (.cons (.ret (.bool false)) .nil)) .nil) .nil) elT3))
def elT1 : Ss := (.cons (.assign 5 false (.sub (.var 2) (.int 0))) (.cons (.ife (.val (.var 5)) (.cons (.ife (.val (.meth (.var 1) "startswith" (.cons (.var 5) .nil))) (.cons (.assign 3 false (.call .len (.cons (.var 5) .nil))) (.cons (.delSub 2 (.int 0)) .nil)) (.cons (.ret (.bool false)) .nil)) .nil) .nil) elT2))
theorem codeEll_eq : codeEll = (.cons (.ife (.cmp .NotIn (.gl 0) (.var 0)) (.cons (.ret (.cmp .Eq (.var 0) (.var 1))) .nil) .nil) (.cons (.assign 2 true (.meth (.var 0) "split" (.cons (.gl 0) .nil))) (.cons (.assert (.cmp .GtE (.call .len (.cons (.var 2) .nil)) (.int 2))) (.cons (.unpackT [(3, false), (4, false)] (.cons (.int 0) (.cons (.call .len (.cons (.var 1) .nil)) .nil))) elT1)))) := rfl
theorem el3 {want got : List Nat} {K : D → Fl → Prop} {ws : List (List Nat)} {s e : Int} {s5 : Slot} (hl : ws.length ≤ 1000000) (hw : ∀ w ∈ ws, w.length ≤ 1000000) (h : K (.bool (if e < s then false else ellGo got ws s e)) .cl) :
    wSs (T0 p) elT3 [.cl (.str want), .cl (.str got), .ow (.lst (ws.map D.str)), .cl (.int s), .cl (.int e), s5] (fun f _ => retK K f) := by
  conv => whnf
  refine ⟨fun hr => ?_, fun hr => ?_⟩
  · have hr := of_decide_eq_true hr
    rw [if_pos hr] at h
    conv => whnf
    exact h
  · have hr := of_decide_eq_false hr
    rw [if_neg hr] at h
    conv => whnf
    refine ⟨rfl, ?_⟩
    conv => whnf
    refine ⟨by simp; omega, ?_⟩
    conv => whnf
    refine ⟨(fun h => nomatch h), ?_⟩
    refine el_loop (p := p) (want := want) (b := ellGo got ws s e) ws s s5 hw rfl ⟨fun hb σ => ?_, fun hb s' s5 => ?_⟩
    · rw [hb] at h
      conv => whnf
      exact h
    · rw [hb] at h
      conv => whnf
      exact h
theorem atI_last {α : Type} {l : List α} {d : α} (h : l ≠ []) : atI l (-1) = some (l.getLastD d) := by
  have hl : 0 < l.length := List.length_pos_iff.mpr h
  unfold atI
  rw [if_neg (by decide), if_pos (by omega)]
  have e : (-1 + (l.length : Int)).toNat = l.length - 1 := by omega
  rw [e, ← List.getLast?_eq_getElem?, List.getLastD_eq_getLast?]
  cases q : l.getLast? with
  | none => exact absurd (List.getLast?_eq_none_iff.mp q) h
  | some x => rfl
theorem posI_last {n : Nat} (h : 0 < n) : posI n (-1) = some (n - 1) := by
  unfold posI
  rw [if_neg (by decide), if_pos (by omega)]
  congr 1; omega
theorem getLastD_mem {α : Type} {l : List α} {d : α} (h : l ≠ []) : l.getLastD d ∈ l := by
  rw [List.getLastD_eq_getLast?]
  cases q : l.getLast? with
  | none => exact absurd (List.getLast?_eq_none_iff.mp q) h
  | some x => exact List.mem_of_getLast? q
theorem erase_last {α : Type} (l : List α) : l.eraseIdx (l.length - 1) = l.dropLast := by
  rw [List.eraseIdx_eq_take_drop_succ]
  cases l with
  | nil => rfl
  | cons a l =>
    simp only [List.length_cons, Nat.add_sub_cancel]
    rw [List.drop_of_length_le (by simp), List.append_nil, List.dropLast_eq_take]; simp
theorem notEmpty {w : List Nat} {b : Bool} (h : (!w.isEmpty) = b) : w.isEmpty = !b := by rw [← h]; simp
theorem el2 {want got : List Nat} {K : D → Fl → Prop} {ws : List (List Nat)} {s : Int} {s5 : Slot} (hne : ws ≠ []) (hl : ws.length ≤ 1000000) (hw : ∀ w ∈ ws, w.length ≤ 1000000) (h : K (.bool (ellTail got ws s)) .cl) :
    wSs (T0 p) elT2 [.cl (.str want), .cl (.str got), .ow (.lst (ws.map D.str)), .cl (.int s), .cl (.int got.length), s5] (fun f _ => retK K f) := by
  have hlen : 0 < ws.length := List.length_pos_iff.mpr hne
  have hlast := hw _ (getLastD_mem (d := []) hne)
  have hat : atI (ws.map D.str) (-1) = some (.str (ws.getLastD [])) := by
    have : ws.map D.str ≠ [] := by simpa using hne
    rw [atI_last (d := .str []) this]
    congr 1
    simp only [List.getLastD_eq_getLast?, List.getLast?_map]
    cases ws.getLast? <;> rfl
  unfold ellTail at h
  dsimp only at h
  conv => whnf
  refine ⟨⟨by decide, by decide⟩, ?_⟩
  refine optW_in hat ?_
  conv => whnf
  refine ⟨by omega, ?_⟩
  generalize ws.getLastD [] = wl at *
  refine ⟨fun hr => ?_, fun hr => ?_⟩
  · have he := notEmpty hr
    rw [he] at h
    conv => whnf
    refine ⟨fun hr2 => ?_, fun hr2 => ?_⟩
    · rw [hr2] at h
      conv => whnf
      refine ⟨by omega, ?_⟩
      conv => whnf
      refine optW_in (d := ws.length - 1) (by rw [List.length_map]; exact posI_last hlen) ?_
      refine ⟨⟨⟨by decide, by decide⟩, by rw [List.length_map]; omega⟩, ?_⟩
      conv => whnf
      have e1 : (ws.map D.str).eraseIdx (ws.length - 1) = ws.dropLast.map D.str := by
        rw [show ws.length - 1 = (ws.map D.str).length - 1 by simp, erase_last, List.map_dropLast]
      rw [e1]
      refine el3 (by simp; omega) (fun w hw' => hw w (List.dropLast_subset _ hw')) ?_
      simpa using h
    · rw [hr2] at h
      conv => whnf
      have h' : K (.bool false) .cl := by simpa using h
      exact h'
  · have he := notEmpty hr
    rw [he] at h
    conv => whnf
    refine el3 hl hw ?_
    simpa using h
theorem el1 {want got : List Nat} {K : D → Fl → Prop} {ws : List (List Nat)} {s5 : Slot} (hok : wsOk ws = true) (hg : got.length ≤ 1000000) (h : K (.bool (ellS got ws)) .cl) :
    wSs (T0 p) elT1 [.cl (.str want), .cl (.str got), .ow (.lst (ws.map D.str)), .cl (.int 0), .cl (.int got.length), s5] (fun f _ => retK K f) := by
  unfold wsOk at hok
  simp only [Bool.and_eq_true, decide_eq_true_eq, List.all_eq_true] at hok
  obtain ⟨⟨h2, hl⟩, hw⟩ := hok
  cases ws with
  | nil => simp at h2
  | cons w ws =>
    have hwl := hw w List.mem_cons_self
    unfold ellS at h
    dsimp only [List.headD_cons, List.tail_cons] at h
    conv => whnf
    refine ⟨⟨by decide, by decide⟩, ?_⟩
    refine optW_in (d := .str w) rfl ?_
    conv => whnf
    refine ⟨by omega, ?_⟩
    refine ⟨fun hr => ?_, fun hr => ?_⟩
    · have he := notEmpty hr
      rw [he] at h
      conv => whnf
      refine ⟨fun hr2 => ?_, fun hr2 => ?_⟩
      · rw [hr2] at h
        conv => whnf
        refine ⟨by omega, ?_⟩
        conv => whnf
        refine optW_in (d := 0) (by simp [posI]) ?_
        refine ⟨⟨⟨by decide, by decide⟩, by simp at hl ⊢; omega⟩, ?_⟩
        conv => whnf
        refine el2 (ws := ws) (by intro e; subst e; simp at h2) (by simp at hl; omega) (fun v hv => hw v (List.mem_cons_of_mem _ hv)) ?_
        simpa using h
      · rw [hr2] at h
        conv => whnf
        have h' : K (.bool false) .cl := by simpa using h
        exact h'
    · have he := notEmpty hr
      rw [he] at h
      conv => whnf
      refine el2 (ws := w :: ws) (by simp) hl hw ?_
      simpa using h
theorem ell_ok {want got : List Nat} {r : Bool} {K : D → Fl → Prop} (h : ellF want got = some r) (hK : K (.bool r) .cl) : fnW p 4 [.str want, .str got] K := by
  show wSs (T0 p) codeEll (startσ [.str want, .str got] 4) (fun f _ => retK K f)
  unfold ellF at h
  rw [codeEll_eq]
  conv => whnf
  refine ⟨fun hr => ?_, fun hr => ?_⟩
  · have he : (occ dots want).isEmpty = true := by simpa using hr
    rw [if_pos he] at h
    cases h
    conv => whnf
    exact hK
  · have he : ¬ (occ dots want).isEmpty = true := by simpa using hr
    rw [if_neg he] at h
    split at h
    · rename_i hc
      cases h
      simp only [Bool.and_eq_true, decide_eq_true_eq] at hc
      obtain ⟨⟨h1, h2⟩, h3⟩ := hc
      have h3' := h3
      unfold wsOk at h3'
      simp only [Bool.and_eq_true, decide_eq_true_eq, List.all_eq_true] at h3'
      have e2 : 2 ≤ (splitL want [46, 46, 46]).length := h3'.1.1
      have e3 : (splitL want [46, 46, 46]).length ≤ 1000000 := h3'.1.2
      conv => whnf
      refine ⟨⟨by omega, by decide⟩, ?_⟩
      conv => whnf
      refine ⟨by simp; omega, ?_⟩
      conv => whnf
      refine ⟨by simp; omega, ?_⟩
      conv => whnf
      refine ⟨cleanS rfl, ?_⟩
      conv => whnf
      refine ⟨by omega, ?_⟩
      conv => whnf
      refine ⟨cleanS rfl, ?_⟩
      conv => whnf
      refine ⟨by simp, ?_⟩
      conv => whnf
      exact el1 h3 h2 hK
    · cases h
end
end Mine

end

section
open PySem PySem.W PyProof.Rows
set_option Elab.async false
set_option linter.unusedVariables false
set_option linter.unusedSimpArgs false
set_option maxRecDepth 8000
namespace Mine
/-- where a text lies, looked for by its suffixes -/
def occG (y : List Nat) (n hi limit : Nat) : Nat → List Nat → Nat → Nat → Nat → List Nat
  | 0, _, _, _, _ => []
  | k + 1, sfx, i, cnt, free =>
    if (Nat.ble (cnt + 1) limit && Nat.ble free i && Nat.ble (i + n) hi && y.isPrefixOf sfx) = true then i :: occG y n hi limit k sfx.tail (i + 1) (cnt + 1) (i + n) else occG y n hi limit k sfx.tail (i + 1) cnt free
theorem prefix_take (y : List Nat) : ∀ s : List Nat, y.isPrefixOf s = (s.take y.length == y) := by
  induction y with
  | nil => intro s; cases s <;> rfl
  | cons a y ih =>
    intro s
    cases s with
    | nil => rfl
    | cons b s =>
      rw [List.isPrefixOf, ih s]
      show _ = (b :: s.take y.length == a :: y)
      rw [List.cons_beq_cons, Bool.beq_comm]
theorem subAt_list (x y : List Nat) (i : Nat) : Builtin.Str.subAt (toS x) (toS y) i = y.isPrefixOf (x.drop i) := by
  unfold Builtin.Str.subAt toS Str.length
  rw [prefix_take]
  simp [List.extract_toArray, List.extract_eq_take_drop]
theorem occ_run (x y : List Nat) (hi limit : Nat) : ∀ (k i : Nat) (acc : Array Nat) (free : Nat),
    (forIn (m := Id) (List.range' i k) (acc, free) (StrLaws.occBody (toS x) (toS y) hi limit)).run.fst.toList = acc.toList ++ occG y y.length hi limit k (x.drop i) i acc.size free
  | 0, i, acc, free => by simp [occG]
  | k + 1, i, acc, free => by
    rw [List.range'_succ, List.forIn_cons]
    unfold StrLaws.occBody occG
    have hl : (toS y).length = y.length := by simp [toS, Str.length]
    dsimp only
    rw [hl, subAt_list]
    by_cases h : ((acc.size < limit ∧ free ≤ i) ∧ i + y.length ≤ hi) ∧ y.isPrefixOf (x.drop i) = true
    · rw [if_pos h, if_pos (by simp only [Bool.and_eq_true, Nat.ble_eq]; exact ⟨⟨⟨h.1.1.1, h.1.1.2⟩, h.1.2⟩, h.2⟩)]
      have := occ_run x y hi limit k (i + 1) (acc.push i) (i + y.length)
      rw [List.tail_drop]
      simp only [Array.toList_push, Array.size_push, List.append_assoc, List.cons_append, List.nil_append] at this
      exact this
    · rw [if_neg h, if_neg (by simp only [Bool.and_eq_true, Nat.ble_eq]; exact fun q => h ⟨⟨⟨q.1.1.1, q.1.1.2⟩, q.1.2⟩, q.2⟩)]
      rw [List.tail_drop]
      exact occ_run x y hi limit k (i + 1) acc free
theorem occ_G (x y : List Nat) (lo hi limit : Nat) : Builtin.Str.occurrences (toS x) (toS y) lo hi limit = occG y y.length hi limit (hi + 1 - lo) (x.drop lo) lo 0 lo := by
  rw [StrLaws.occ_eq, occ_run]; rfl
/-- what lies behind the first place of y -/
def srch (y : List Nat) : List Nat → Option (List Nat)
  | [] => if y.isPrefixOf [] = true then some [] else none
  | a :: t => if y.isPrefixOf (a :: t) = true then some ((a :: t).drop y.length) else srch y t
theorem prefix_len {y s : List Nat} (h : y.isPrefixOf s = true) : y.length ≤ s.length := by
  have := List.isPrefixOf_iff_prefix.mp h
  exact this.length_le
theorem srch_G (y : List Nat) : ∀ (sfx : List Nat) (i free : Nat), free ≤ i →
    (srch y sfx = none ∧ occG y y.length (i + sfx.length) 1 (sfx.length + 1) sfx i 0 free = []) ∨
    ∃ k rest, occG y y.length (i + sfx.length) 1 (sfx.length + 1) sfx i 0 free = k :: rest ∧ i ≤ k ∧ k + y.length ≤ i + sfx.length ∧ srch y sfx = some (sfx.drop (k - i + y.length))
  | [], i, free, hf => by
    by_cases h : y.isPrefixOf [] = true
    · refine .inr ⟨i, [], ?_, Nat.le_refl _, ?_, ?_⟩
      · have := prefix_len h
        simp only [List.length_nil, Nat.le_zero] at this
        unfold occG
        rw [if_pos (by simp only [Bool.and_eq_true, Nat.ble_eq]; exact ⟨⟨⟨by omega, hf⟩, by show i + y.length ≤ i + 0; omega⟩, h⟩)]
        rfl
      · have := prefix_len h
        simp only [List.length_nil, Nat.le_zero] at this
        show i + y.length ≤ i + 0; omega
      · unfold srch; rw [if_pos h]; simp
    · refine .inl ⟨by unfold srch; rw [if_neg h], ?_⟩
      unfold occG
      rw [if_neg (by simp only [Bool.and_eq_true]; exact fun q => h q.2)]
      rfl
  | a :: t, i, free, hf => by
    by_cases h : y.isPrefixOf (a :: t) = true
    · have hl := prefix_len h
      refine .inr ⟨i, occG y y.length (i + (a :: t).length) 1 (a :: t).length (a :: t).tail (i + 1) (0 + 1) (i + y.length), ?_, Nat.le_refl _, by omega, ?_⟩
      · conv => lhs; unfold occG
        rw [if_pos (by simp only [Bool.and_eq_true, Nat.ble_eq]; exact ⟨⟨⟨by omega, hf⟩, by omega⟩, h⟩)]
      · unfold srch; rw [if_pos h]; simp
    · have ih := srch_G y t (i + 1) free (by omega)
      have e : i + (a :: t).length = i + 1 + t.length := by simp; omega
      rw [e]
      have eo : occG y y.length (i + 1 + t.length) 1 ((a :: t).length + 1) (a :: t) i 0 free = occG y y.length (i + 1 + t.length) 1 (t.length + 1) t (i + 1) 0 free := by
        rw [List.length_cons]
        conv => lhs; unfold occG
        rw [if_neg (by simp only [Bool.and_eq_true]; exact fun q => h q.2)]
        rfl
      rw [eo]
      rcases ih with ⟨h1, h2⟩ | ⟨k, rest, h1, h2, h3, h4⟩
      · exact .inl ⟨by unfold srch; rw [if_neg h]; exact h1, h2⟩
      · refine .inr ⟨k, rest, h1, by omega, h3, ?_⟩
        unfold srch
        rw [if_neg h, h4]
        have : k - i + y.length = (k - (i + 1) + y.length) + 1 := by omega
        rw [this, List.drop_succ_cons]
def goG : List (List Nat) → List Nat → Bool
  | [], _ => true
  | w :: ws, sfx => match srch w sfx with
    | none => false
    | some t => goG ws t
theorem ellGo_G (got : List Nat) : ∀ (ws : List (List Nat)) (s : Nat), s ≤ got.length → ellGo got ws (s : Int) (got.length : Int) = goG ws (got.drop s)
  | [], s, hs => rfl
  | w :: ws, s, hs => by
    have f1 : fromIndex got.length (s : Int) = s := by unfold fromIndex; rw [if_neg (by omega)]; omega
    have f2 : fromIndex got.length (got.length : Int) = got.length := by unfold fromIndex; rw [if_neg (by omega)]; omega
    have hL : (toS w).length = w.length := by simp [toS, Str.length]
    have h := srch_G w (got.drop s) s s (Nat.le_refl _)
    have e1 : s + (got.drop s).length = got.length := by rw [List.length_drop]; omega
    have e2 : (got.drop s).length + 1 = got.length + 1 - s := by rw [List.length_drop]; omega
    rw [e1, e2] at h
    have hf : findL got w (s : Int) (got.length : Int) = match occG w w.length got.length 1 (got.length + 1 - s) (got.drop s) s 0 s with | k :: _ => (k : Int) | [] => -1 := by
      unfold findL
      rw [f1, f2, Nat.min_self, occ_G]
      try rfl
    unfold ellGo goG
    rcases h with ⟨h1, h2⟩ | ⟨k, rest, h1, h2, h3, h4⟩
    · rw [hf, h2, h1]
      rfl
    · rw [hf, h1, h4]
      have : ¬ ((k : Int) < 0) := by omega
      simp only [if_neg this]
      rw [List.drop_drop]
      have e : s + (k - s + w.length) = k + w.length := by omega
      rw [e]
      have := ellGo_G got ws (k + w.length) h3
      rw [← this]
      push_cast; rfl
theorem ellS_G {got : List Nat} {m : List (List Nat)} : ellS got ([] :: m ++ [[]]) = goG ([] :: m ++ [[]]) got := by
  have e : ellS got ([] :: m ++ [[]]) = ellTail got ([] :: m ++ [[]]) 0 := rfl
  rw [e]
  unfold ellTail
  have hl : ([] :: m ++ [[]]).getLastD ([] : List Nat) = [] := by rw [List.getLastD_eq_getLast?, List.getLast?_append]; rfl
  rw [hl]
  have : ¬ ((got.length : Int) < 0) := by omega
  simp only [List.isEmpty_nil, Bool.not_true, Bool.false_and, if_true, if_neg this]
  have := ellGo_G got ([] :: m ++ [[]]) 0 (Nat.zero_le _)
  rw [List.drop_zero] at this
  simpa using this
-- split, replace and join over lists
def partsG (x : List Nat) (cuts : List Nat) (w : Nat) : List (List Nat) := ((0 :: cuts.map (· + w)).zip (cuts ++ [x.length])).map fun ij => (x.drop ij.1).take (ij.2 - ij.1)
def kindG (x : List Nat) : Nat := if x.all (fun c => decide (c < 256)) then 1 else if x.all (fun c => decide (c < 65536)) then 2 else 4
def occA (x y : List Nat) : List Nat := occG y y.length x.length (x.length + 1) (x.length + 1) x 0 0 0
def splitG (x y : List Nat) : List (List Nat) := if (decide (x.length < y.length) || decide (kindG x < kindG y)) = true then [x] else if (occA x y).isEmpty = true then [x] else partsG x (occA x y) y.length
def glueG (z : List Nat) (ps : List (List Nat)) : List Nat := (ps.drop 1).foldl (fun acc p => acc ++ z ++ p) (ps.headD [])
def replG (x y z : List Nat) : List Nat := if ((occA x y).isEmpty || (y.length == 0 && z.length == 0)) = true then x else glueG z (partsG x (occA x y) y.length)
theorem toS_len (x : List Nat) : (toS x).length = x.length := by simp [toS, Str.length]
theorem occA_eq (x y : List Nat) : Builtin.Str.occurrences (toS x) (toS y) 0 (toS x).length ((toS x).length + 1) = occA x y := by
  rw [toS_len, occ_G]; rfl
theorem parts_eq (x : List Nat) (cuts : List Nat) (w : Nat) : Builtin.Str.partsBetween (toS x) cuts w = (partsG x cuts w).map toS := by
  unfold Builtin.Str.partsBetween partsG
  rw [toS_len, List.map_map]
  refine List.map_congr_left fun ij _ => ?_
  unfold Builtin.Str.strSub toS
  simp [List.extract_eq_take_drop]
theorem kind_eq (x : List Nat) : Builtin.Str.strKind (toS x) = kindG x := by
  unfold Builtin.Str.strKind kindG toS
  simp
theorem splitL_G (x y : List Nat) : splitL x y = splitG x y := by
  unfold splitL Txt.split splitG
  rw [occA_eq, toS_len, toS_len, kind_eq, kind_eq]
  split
  · simp [toS]
  · split
    · simp [toS]
    · rw [parts_eq, List.map_map]
      exact (List.map_congr_left (fun a _ => by simp [toS])).trans (List.map_id' _)
theorem fold_toS (z : List Nat) : ∀ (ps : List (List Nat)) (acc : Array Nat), ((ps.map toS).foldl (fun acc p => acc ++ (toS z).cps ++ p.cps) acc).toList = ps.foldl (fun acc p => acc ++ z ++ p) acc.toList
  | [], acc => rfl
  | a :: ps, acc => by
    rw [List.map_cons, List.foldl_cons, List.foldl_cons, fold_toS z ps]
    simp [toS]
theorem glue_eq (z : List Nat) (ps : List (List Nat)) : (Builtin.Str.glued (toS z) (ps.map toS)).cps.toList = glueG z ps := by
  unfold Builtin.Str.glued glueG
  rw [← List.map_drop, fold_toS]
  cases ps <;> rfl
theorem replL_G (x y z : List Nat) : replL x y z = replG x y z := by
  unfold replL Txt.replace replG
  have e := occA_eq x y
  unfold toS at e
  rw [e]
  have l1 : (⟨y.toArray⟩ : Str).length = y.length := toS_len y
  have l2 : (⟨z.toArray⟩ : Str).length = z.length := toS_len z
  rw [l1, l2]
  split
  · rfl
  · have := parts_eq x (occA x y) y.length
    unfold toS at this
    rw [this]
    exact glue_eq z _
theorem joinL_G (z : List Nat) (ps : List (List Nat)) : joinL z ps = glueG z ps := by
  unfold joinL Txt.join
  exact glue_eq z ps
end Mine

end

section
open PySem PySem.W PyProof.Rows
set_option Elab.async false
set_option linter.unusedVariables false
set_option linter.unusedSimpArgs false
set_option maxRecDepth 8000
set_option maxHeartbeats 4000000
namespace Mine
/-- the runs' counts -/
def runsCnt (cnt : List Int) (ms : List Nat) : List Int := ms.foldl cntAdd cnt
def leadOf (ms : List Nat) : List Nat := (ms.map fun m => List.replicate m 32 ++ [9]).flatten
theorem runsCnt_len : ∀ (ms : List Nat) (cnt : List Int), cnt.length ≤ 100000 → (∀ m ∈ ms, m < 100000) → (runsCnt cnt ms).length ≤ 100000
  | [], cnt, h, _ => h
  | m :: ms, cnt, h, hm => by
    refine runsCnt_len ms (cntAdd cnt m) ?_ fun k hk => hm k (List.mem_cons_of_mem _ hk)
    rw [cntAdd_len]; have := hm m List.mem_cons_self; omega
section
variable {p : Pg} {x : Addr} {ws : List Nat} {Q : Flw → List Slot → Prop}
theorem chD_append (a b : List Nat) : chD (a ++ b) = chD a ++ chD b := by unfold chD; rw [List.map_append]
theorem ws_blanks {cnt : List Int} {nt : Int} {ds : List D} : ∀ (k : Nat) (b n : Int) (c : Slot), (∀ c, wsFor p ds (wst x ws cnt (b + k) (n + k) nt c) Q) → wsFor p (chD (List.replicate k 32) ++ ds) (wst x ws cnt b n nt c) Q
  | 0, b, n, c, h => by
    have := h c
    simpa [chD] using this
  | k + 1, b, n, c, h => by
    rw [List.replicate_succ]
    show wsFor p (.str [32] :: (chD (List.replicate k 32) ++ ds)) _ Q
    refine ws_blank (ws_blanks k _ _ _ fun c => ?_)
    have := h c
    rw [show b + 1 + (k : Int) = b + ((k + 1 : Nat) : Int) by omega, show n + 1 + (k : Int) = n + ((k + 1 : Nat) : Int) by omega]
    exact this
theorem ws_runs {ds : List D} : ∀ (ms : List Nat) (cnt : List Int) (n nt : Int) (c : Slot), cnt.length ≤ 100000 → (∀ m ∈ ms, m < 100000) → (∀ c, wsFor p ds (wst x ws (runsCnt cnt ms) 0 (n + ((ms.map (· + 1)).sum : Nat)) (nt + (ms.length : Nat)) c) Q) →
    wsFor p (chD (leadOf ms) ++ ds) (wst x ws cnt 0 n nt c) Q
  | [], cnt, n, nt, c, hc, hm, h => by
    have := h c
    simpa [leadOf, chD, runsCnt] using this
  | m :: ms, cnt, n, nt, c, hc, hm, h => by
    have hm0 := hm m List.mem_cons_self
    have e : chD (leadOf (m :: ms)) ++ ds = chD (List.replicate m 32) ++ (.str [9] :: (chD (leadOf ms) ++ ds)) := by
      unfold leadOf
      rw [List.map_cons, List.flatten_cons, chD_append, chD_append, List.append_assoc, List.append_assoc]; rfl
    rw [e]
    refine ws_blanks m 0 n c fun c => ?_
    rw [Int.zero_add]
    refine ws_tab (by omega) hc ?_
    refine ws_runs ms _ _ _ _ (by rw [cntAdd_len]; omega) (fun k hk => hm k (List.mem_cons_of_mem _ hk)) fun c => ?_
    have := h c
    have e1 : n + (m : Int) + 1 + ((ms.map (· + 1)).sum : Nat) = n + (((m :: ms).map (· + 1)).sum : Nat) := by rw [List.map_cons, List.sum_cons]; push_cast; omega
    have e2 : nt + 1 + (ms.length : Nat) = nt + ((m :: ms).length : Nat) := by rw [List.length_cons]; push_cast; omega
    rw [e1, e2]
    exact this
theorem sumSucc_le (ms : List Nat) (B : Nat) (h : ∀ m ∈ ms, m < B) : (ms.map (· + 1)).sum ≤ B * ms.length := by
  induction ms with
  | nil => simp
  | cons m ms ih =>
    have h1 := h m List.mem_cons_self
    have h2 := ih fun k hk => h k (List.mem_cons_of_mem _ hk)
    rw [List.map_cons, List.sum_cons, List.length_cons, Nat.mul_succ]; omega
theorem lead_len (ms : List Nat) : (leadOf ms).length = (ms.map (· + 1)).sum := by
  unfold leadOf
  induction ms with
  | nil => rfl
  | cons m ms ih => rw [List.map_cons, List.flatten_cons, List.length_append, ih, List.map_cons, List.sum_cons]; simp
theorem lead_mem {ms : List Nat} {ch : Nat} (h : ch ∈ leadOf ms) : ch = 32 ∨ ch = 9 := by
  unfold leadOf at h
  obtain ⟨l, hl, hc⟩ := List.mem_flatten.mp h
  obtain ⟨m, _, rfl⟩ := List.mem_map.mp hl
  rcases List.mem_append.mp hc with h | h
  · exact .inl (List.eq_of_mem_replicate h)
  · exact .inr (List.mem_singleton.mp h)
/-- an object of the class, of a lead with blanks behind it -/
def leadObj (p : Pg) (ws : List Nat) (ms : List Nat) (rest : Nat) : D :=
  wsObj p ws (.int (((ms.map (· + 1)).sum : Nat) + (rest : Int))) (.int (ms.length : Nat)) (.tup [.tup ((runsCnt [] ms).map D.int), .int rest]) (.bool (decide (((runsCnt [] ms).length : Int) ≤ 1)))
theorem ws_spec {ms : List Nat} {rest ch : Nat} {tail : List Nat} {K : D → Fl → Prop} (hm : ∀ m ∈ ms, m < 100000) (hl : (ms.map (· + 1)).sum ≤ 1000000) (hr : rest ≤ 1000) (ht : tail.length ≤ 1000) (h1 : ch ≠ 32) (h2 : ch ≠ 9) (hch : ch < 128) (ha : ∀ c ∈ tail, c < 128)
    (hK : K (leadObj p (leadOf ms ++ List.replicate rest 32 ++ ch :: tail) ms rest) .cl) : wsW (T0 p) p (leadOf ms ++ List.replicate rest 32 ++ ch :: tail) K := by
  refine ⟨⟨?_, fun c hc => ?_⟩, fun x => ?_⟩
  · rw [List.length_append, List.length_append, lead_len]; simp; omega
  · rcases List.mem_append.mp hc with h | h
    · rcases List.mem_append.mp h with h | h
      · rcases lead_mem h with h | h <;> omega
      · have := List.eq_of_mem_replicate h; omega
    · rcases List.mem_cons.mp h with h | h
      · omega
      · exact ha c h
  · generalize hws : leadOf ms ++ List.replicate rest 32 ++ ch :: tail = ws at *
    have hcl := runsCnt_len ms [] (by simp) hm
    have e : chD ws = chD (leadOf ms) ++ (chD (List.replicate rest 32) ++ (.str [ch] :: chD tail)) := by
      rw [← hws, chD_append, chD_append, List.append_assoc]; rfl
    conv => whnf
    refine ⟨rfl, ?_⟩
    refine .inl ⟨rfl, ?_⟩
    conv => whnf
    refine ⟨cleanS rfl, ?_⟩
    conv => whnf
    refine ⟨rfl, ?_⟩
    refine .inr ⟨rfl, ?_⟩
    conv => whnf
    refine ⟨cleanS rfl, ?_⟩
    conv => whnf
    refine ⟨by simp, ?_⟩
    conv => whnf
    refine ⟨by simp, ?_⟩
    conv => whnf
    refine ⟨cleanS rfl, ?_⟩
    conv => whnf
    refine ⟨rfl, rfl, ?_⟩
    rw [e]
    refine ws_runs (p := p) (x := x) (ws := ws) ms [] 0 0 .un (by simp) hm fun c => ?_
    refine ws_blanks rest _ _ c fun c => ?_
    refine ws_stop h1 h2 ?_
    refine ⟨rfl, fun i sl hi => ?_, rfl, ?_⟩
    · have hmem := List.mem_of_getElem? hi
      simp only [wst, List.mem_cons, List.not_mem_nil, or_false] at hmem
      rcases hmem with h | h | h | h | h | h | h | h | h <;> subst h <;> rfl
    · have hc2 : ((runsCnt [] ms).map D.int).length ≤ 16777216 := by rw [List.length_map]; omega
      conv => whnf
      refine ⟨cleanS rfl, ?_⟩
      conv => whnf
      refine ⟨cleanS rfl, ?_⟩
      conv => whnf
      refine ⟨hc2, ?_⟩
      conv => whnf
      refine ⟨rfl, ?_⟩
      conv => whnf
      refine ⟨cleanS rfl, ?_⟩
      conv => whnf
      refine ⟨by simp, ?_⟩
      conv => whnf
      refine ⟨rfl, ?_⟩
      conv => whnf
      refine ⟨hc2, ?_⟩
      conv => whnf
      refine ⟨rfl, ?_⟩
      rw [List.length_map]
      have e1 : (0 : Int) + (((ms.map (· + 1)).sum : Nat) : Int) + (rest : Int) = ((ms.map (· + 1)).sum : Nat) + (rest : Int) := by omega
      have e2 : (0 : Int) + (rest : Int) = rest := by omega
      have e3 : (0 : Int) + ((ms.length : Nat) : Int) = (ms.length : Nat) := by omega
      rw [e1, e2, e3]
      exact hK
end
end Mine

end

section
open PySem PySem.W PyProof.Rows
set_option Elab.async false
set_option linter.unusedVariables false
set_option linter.unusedSimpArgs false
set_option maxRecDepth 8000
set_option maxHeartbeats 4000000
namespace Mine
theorem cntAdd_get (l : List Int) (b i : Nat) : (cntAdd l b).getD i 0 = l.getD i 0 + if i = b then 1 else 0 := by
  unfold cntAdd
  have hg : ∀ j, (l ++ List.replicate (b + 1 - l.length) (0 : Int)).getD j 0 = l.getD j 0 := fun j => by
    simp only [List.getD_eq_getElem?_getD]
    by_cases h : j < l.length
    · rw [List.getElem?_append_left h]
    · rw [List.getElem?_append_right (by omega), List.getElem?_replicate, List.getElem?_eq_none (by omega : l.length ≤ j)]
      split <;> rfl
  have hlen : b < (l ++ List.replicate (b + 1 - l.length) (0 : Int)).length := by simp; omega
  dsimp only
  rw [hg b]
  rw [List.getD_eq_getElem?_getD, List.getElem?_set]
  by_cases h : b = i
  · subst h
    rw [if_pos rfl, if_pos hlen, if_pos rfl]; rfl
  · rw [if_neg h, ← List.getD_eq_getElem?_getD, hg i, if_neg (fun e => h e.symm)]; omega
theorem runsCnt_get : ∀ (ms : List Nat) (cnt : List Int) (i : Nat), (runsCnt cnt ms).getD i 0 = cnt.getD i 0 + (ms.count i : Nat)
  | [], cnt, i => by simp [runsCnt]
  | m :: ms, cnt, i => by
    have := runsCnt_get ms (cntAdd cnt m) i
    unfold runsCnt at this ⊢
    rw [List.foldl_cons, this, cntAdd_get, List.count_cons]
    by_cases h : i = m
    · subst h; simp; omega
    · have h' : (m == i) = false := by rw [beq_eq_false_iff_ne]; exact fun e => h e.symm
      simp [h, h']
theorem runsCnt_length : ∀ (ms : List Nat) (cnt : List Int) (M : Nat), M ∈ ms → (∀ m ∈ ms, m ≤ M) → cnt.length ≤ M + 1 → (runsCnt cnt ms).length = M + 1
  | [], cnt, M, h, _, _ => by cases h
  | m :: ms, cnt, M, h, hm, hc => by
    unfold runsCnt
    rw [List.foldl_cons]
    have hm0 := hm m List.mem_cons_self
    have hl := cntAdd_len cnt m
    by_cases hin : M ∈ ms
    · exact runsCnt_length ms (cntAdd cnt m) M hin (fun k hk => hm k (List.mem_cons_of_mem _ hk)) (by omega)
    · have hM : M = m := by rcases List.mem_cons.mp h with h | h; exact h; exact absurd h hin
      have keep : ∀ (l : List Nat) (cnt : List Int), (∀ k ∈ l, k ≤ M) → cnt.length = M + 1 → (l.foldl cntAdd cnt).length = M + 1 := by
        intro l
        induction l with
        | nil => intro cnt _ h; exact h
        | cons k l ih =>
          intro cnt hk h
          rw [List.foldl_cons]
          refine ih _ (fun j hj => hk j (List.mem_cons_of_mem _ hj)) ?_
          rw [cntAdd_len]; have := hk k List.mem_cons_self; omega
      exact keep ms _ (fun k hk => hm k (List.mem_cons_of_mem _ hk)) (by omega)
theorem runsCnt_eq {ms : List Nat} {M : Nat} (h : M ∈ ms) (hm : ∀ m ∈ ms, m ≤ M) : runsCnt [] ms = (List.range (M + 1)).map fun i => ((ms.count i : Nat) : Int) := by
  have hl := runsCnt_length ms [] M h hm (by simp)
  refine List.ext_getElem (by simp [hl]) fun i h1 h2 => ?_
  have := runsCnt_get ms [] i
  rw [List.getD_eq_getElem?_getD, List.getElem?_eq_getElem h1] at this
  simp at this
  rw [this]; simp
def wsumT (t : Nat) (l : List Int) (L : Nat) : Int := ((List.range L).map fun i => ((i / t : Nat) : Int) * l.getD i 0).sum
theorem wsumT_succ (t : Nat) (l : List Int) (L : Nat) : wsumT t l (L + 1) = wsumT t l L + ((L / t : Nat) : Int) * l.getD L 0 := by
  unfold wsumT; rw [List.range_succ, List.map_append, List.sum_append]; simp
theorem wsumT_past (t : Nat) (l : List Int) : ∀ k, wsumT t l (l.length + k) = wsumT t l l.length
  | 0 => rfl
  | k + 1 => by
    rw [← Nat.add_assoc, wsumT_succ, wsumT_past t l k, List.getD_eq_getElem?_getD, List.getElem?_eq_none (by omega)]; simp
theorem wsumT_add (t : Nat) (l : List Int) (b : Nat) : ∀ L, wsumT t (cntAdd l b) L = wsumT t l L + if b < L then ((b / t : Nat) : Int) else 0
  | 0 => by simp [wsumT]
  | L + 1 => by
    rw [wsumT_succ, wsumT_succ, wsumT_add t l b L, cntAdd_get, Int.mul_add]
    by_cases h : L = b
    · subst h; simp [Int.add_assoc]
    · rw [if_neg h, Int.mul_zero]
      by_cases h2 : b < L
      · rw [if_pos h2, if_pos (by omega)]; omega
      · rw [if_neg h2, if_neg (by omega)]; omega
theorem wsumT_runs (t : Nat) : ∀ (ms : List Nat) (cnt : List Int), wsumT t (runsCnt cnt ms) (runsCnt cnt ms).length = wsumT t cnt cnt.length + (((ms.map fun m => m / t).sum : Nat) : Int)
  | [], cnt => by simp [runsCnt]
  | m :: ms, cnt => by
    have := wsumT_runs t ms (cntAdd cnt m)
    unfold runsCnt at this ⊢
    rw [List.foldl_cons, this, wsumT_add, cntAdd_len, if_pos (by omega)]
    have e : wsumT t cnt (max cnt.length (m + 1)) = wsumT t cnt cnt.length := by
      have : max cnt.length (m + 1) = cnt.length + (max cnt.length (m + 1) - cnt.length) := by omega
      rw [this, wsumT_past]
    rw [e, List.map_cons, List.sum_cons]; push_cast; omega
theorem wsumT_low (t : Nat) (l : List Int) : ∀ L, L ≤ t → wsumT t l L = 0
  | 0, _ => by simp [wsumT]
  | L + 1, h => by rw [wsumT_succ, wsumT_low t l L (by omega), Nat.div_eq_of_lt (by omega)]; simp
theorem wsumT_from (t : Nat) (l : List Int) : ∀ k, wsumT t l (t + k) = ((List.range k).map fun j => (((t + j) / t : Nat) : Int) * l.getD (t + j) 0).sum
  | 0 => by rw [Nat.add_zero, wsumT_low t l t (Nat.le_refl _)]; simp
  | k + 1 => by rw [← Nat.add_assoc, wsumT_succ, wsumT_from t l k, List.range_succ, List.map_append, List.sum_append]; simp
section
variable {p : Pg} {Q : Flw → List Slot → Prop}
def indBody : Ss := (.cons (.assign 4 false (.bin .Add (.var 4) (.bin .Mult (.bin .FloorDiv (.var 5) (.var 1)) (.sub (.var 2) (.var 5))))) .nil)
theorem codeInd_eq : codeInd = (.cons (.unpack [2, 3] (.attr (.var 0) "norm")) (.cons (.assign 4 false (.int 0)) (.cons (.forS [5] (.range (.cons (.var 1) (.cons (.call .len (.cons (.var 2) .nil)) .nil))) indBody .nil) (.cons (.ret (.bin .Add (.var 3) (.bin .Mult (.var 1) (.bin .Add (.var 4) (.attr (.var 0) "nt"))))) .nil)))) := rfl
theorem ind_loop {o : D} {t : Nat} {cnt : List Int} {rest : Int} (ht : 0 < t) (ht2 : t ≤ 100000) (hc : cnt.length ≤ 100000) : ∀ (ks : List Nat) (il : Int) (s5 : Slot), (∀ k ∈ ks, t + k < cnt.length) →
    (∀ s5, Q .next [.cl o, .cl (.int t), .cl (.tup (cnt.map D.int)), .cl (.int rest), .cl (.int (il + (ks.map fun j => (((t + j) / t : Nat) : Int) * cnt.getD (t + j) 0).sum)), s5]) →
    forW [5] (fun σ Q => wSs (T0 p) indBody σ Q) (fun σ Q => wSs (T0 p) .nil σ Q) (ks.map fun (k : Nat) => D.int ((t : Int) + (k : Int))) [.cl o, .cl (.int t), .cl (.tup (cnt.map D.int)), .cl (.int rest), .cl (.int il), s5] Q
  | [], il, s5, hk, h => by
    show wSs (T0 p) .nil _ Q
    conv => whnf
    have := h s5
    simpa using this
  | k :: ks, il, s5, hk, h => by
    have hk0 := hk k List.mem_cons_self
    rw [List.map_cons]
    show optW (tgtS [5] (.int ((t : Int) + (k : Int)))) _
    refine optW_in (d := [(5, .cl (.int ((t : Int) + (k : Int))))]) rfl ?_
    conv => whnf
    refine ⟨⟨by omega, by omega, by omega⟩, ?_⟩
    have e : ((t : Int) + (k : Int)).fdiv (t : Int) = (((t + k) / t : Nat) : Int) := by
      rw [Int.fdiv_eq_ediv_of_nonneg _ (by omega), ← Int.natCast_add, Int.natCast_ediv]
    rw [e, ← Int.natCast_add]
    conv => whnf
    refine ⟨⟨by omega, by omega⟩, ?_⟩
    refine optW_in (atI_map hk0) ?_
    conv => whnf
    have hd : (t + k) / t ≤ t + k := Nat.div_le_self _ _
    have hsm : ∀ q : Nat, q ≤ t + k → small (q : Int) := fun q hq => ⟨by omega, by omega⟩
    refine ⟨hsm _ hd, ?_⟩
    conv => whnf
    refine ind_loop ht ht2 hc ks _ _ (fun j hj => hk j (List.mem_cons_of_mem _ hj)) fun s5 => ?_
    have := h s5
    rw [List.map_cons, List.sum_cons, ← Int.add_assoc] at this
    exact this
theorem ind_spec {ms : List Nat} {ws : List Nat} {rest t : Nat} {K : D → Fl → Prop} (hm : ∀ m ∈ ms, m < 100000) (ht : 0 < t) (ht2 : t ≤ 100000)
    (hK : K (.int ((rest : Int) + (t : Int) * (((ms.map fun m => m / t).sum : Nat) + (ms.length : Nat)))) .cl) : indW p (leadObj p ws ms rest) [.int t] K := by
  have hcl := runsCnt_len ms [] (by simp) hm
  show wSs (T0 p) codeInd (startσ [leadObj p ws ms rest, .int t] 4) (fun f _ => retK K f)
  rw [codeInd_eq]
  conv => whnf
  refine ⟨⟨rfl, by decide +kernel⟩, ?_⟩
  refine optW_in (d := .tup [.tup ((runsCnt [] ms).map D.int), .int rest]) (by kernel_rfl) ?_
  refine ⟨rfl, ?_⟩
  conv => whnf
  refine ⟨by rw [List.length_map]; omega, ?_⟩
  conv => whnf
  rw [List.length_map]
  refine ⟨⟨⟨by omega, by omega⟩, ⟨by omega, by omega⟩⟩, ?_⟩
  conv => whnf
  refine ⟨(fun h => nomatch h), ?_⟩
  have e : (((runsCnt [] ms).length : Int) - (t : Int)).toNat = (runsCnt [] ms).length - t := by omega
  have er : rngD (t : Int) ((runsCnt [] ms).length : Int) = (List.range ((runsCnt [] ms).length - t)).map fun (k : Nat) => D.int ((t : Int) + (k : Int)) := by unfold rngD; rw [e]
  rw [er]
  refine ind_loop (p := p) ht ht2 hcl (List.range ((runsCnt [] ms).length - t)) 0 .un (fun k hk => by have := List.mem_range.mp hk; omega) fun s5 => ?_
  have e2 : ((List.range ((runsCnt [] ms).length - t)).map fun j => (((t + j) / t : Nat) : Int) * (runsCnt [] ms).getD (t + j) 0).sum = ((ms.map fun m => m / t).sum : Nat) := by
    rw [← wsumT_from]
    have h1 := wsumT_runs t ms []
    have h2 : wsumT t [] ([] : List Int).length = 0 := rfl
    rw [h2, Int.zero_add] at h1
    rw [← h1]
    by_cases h : t ≤ (runsCnt [] ms).length
    · rw [show t + ((runsCnt [] ms).length - t) = (runsCnt [] ms).length by omega]
    · rw [show t + ((runsCnt [] ms).length - t) = t by omega, wsumT_low _ _ _ (Nat.le_refl _), wsumT_low _ _ _ (by omega)]
  rw [e2, Int.zero_add]
  conv => whnf
  refine ⟨⟨rfl, by decide +kernel⟩, ?_⟩
  refine optW_in (d := .int (ms.length : Nat)) (by kernel_rfl) ?_
  refine ⟨rfl, ?_⟩
  conv => whnf
  refine ⟨⟨by omega, by omega⟩, ?_⟩
  conv => whnf
  exact hK
end
end Mine

end

section
open PySem PySem.W PyProof.Rows
set_option Elab.async false
set_option linter.unusedVariables false
set_option maxRecDepth 8000
namespace Mine
def l3P : List Str := ["script"]
def l3R : List Str := (["heaps", "place", "number", "names", "turns", "heap", "base", "rest", "share", "light", "spots", "ties", "rows", "one", "other", "step", "leap", "spot", "seen", "ways", "red", "green", "blue", "hue", "told", "level", "choice", "texts", "wants", "held", "size", "asked", "deep", "broad"] : List String).map Str.ofString
def l3b8 : Ss := (.cons (.unpack [14, 15] (.comp (.bin .Mod (.bin .Add (.var 35) (.bin .FloorDiv (.sub (.var 1) (.int 0)) (.int 6))) (.int 4)) [false, true, false, false, false, false, false, false, false, false, false, false, false, false, false, false, false, false, false, false, false, false, false, false, false, false, false, false, false, false, false, false, false, false, false] 1 (.x (.sub (.var 5) (.var 2))) .none)) (.cons (.unpackT [(16, false), (17, false)] (.cons (.sub (.tup (.cons (.int 0) (.cons (.int 1) (.cons (.int 6) (.cons (.int 36) .nil))))) (.var 14)) (.cons (.sub (.tup (.cons (.int 0) (.cons (.int 1) (.cons (.int 6) (.cons (.int 36) .nil))))) (.var 15)) .nil))) (.cons (.assign 11 false (.bin .Add (.comp (.bin .Add (.var 35) (.var 16)) [false, false, false, false, false, false, false, false, false, false, false, false, false, false, false, false, true, false, false, false, false, false, false, false, false, false, false, false, false, false, false, false, false, false, false] 1 (.x (.var 11)) .none) (.comp (.bin .Add (.var 35) (.var 17)) [false, false, false, false, false, false, false, false, false, false, false, false, false, false, false, false, false, true, false, false, false, false, false, false, false, false, false, false, false, false, false, false, false, false, false] 1 (.x (.var 11)) .none))) (.cons (.assign 12 false (.bin .Add (.var 12) (.comp (.bin .BitXor (.bin .BitXor (.var 35) (.bin .LShift (.int 1) (.var 14))) (.bin .LShift (.int 1) (.var 15))) [false, false, false, false, false, false, false, false, false, false, false, false, false, false, true, true, false, false, false, false, false, false, false, false, false, false, false, false, false, false, false, false, false, false, false] 1 (.x (.var 12)) .none))) (.cons (.assign 13 false (.bin .Add (.var 13) (.comp (.bin .Add (.var 35) (.lst (.cons (.sub (.var 4) (.bin .Add (.var 7) (.var 2))) .nil))) [false, false, true, false, true, false, false, true, false, false, false, false, false, false, false, false, false, false, false, false, false, false, false, false, false, false, false, false, false, false, false, false, false, false, false] 1 (.x (.var 13)) .none))) .nil)))))
def l3b10 : Ss := (.cons (.unpack [21, 22, 23] (.call (.user 0) (.cons (.bin .Div (.var 18) (.int 256)) (.cons (.var 9) (.cons (.var 10) .nil))))) (.cons (.unpack [24, 25, 26] (.call (.user 1) (.cons (.var 21) (.cons (.var 22) (.cons (.var 23) .nil))))) (.cons (.ife (.cmp .NotEq (.tup (.cons (.var 24) (.cons (.var 25) (.cons (.var 26) .nil)))) (.tup (.cons (.bin .Div (.bin .Mod (.var 18) (.int 256)) (.int 256)) (.cons (.var 9) (.cons (.var 10) .nil))))) (.cons (.ret (.bool false)) .nil) .nil) (.cons (.ife (.cmp .NotIn (.var 24) (.var 19)) (.cons (.ife (.cmp .NotEq (.slice (.call (.user 2) (.cons (.var 21) (.cons (.var 22) (.cons (.var 23) .nil)))) .none (.some (.int 2)) .none) (.tup (.cons (.var 24) (.cons (.bin .Sub (.var 10) (.bin .Div (.bin .Mult (.var 10) (.var 9)) (.int 2))) .nil)))) (.cons (.ret (.bool false)) .nil) .nil) (.cons (.app 19 (.var 24)) (.cons (.app 20 (.int 0)) .nil))) .nil) (.cons (.augSub 20 (.meth (.var 19) "index" (.cons (.var 24) .nil)) .Add (.int 1)) .nil)))))
def l3b15 : Ss := (.cons (.assign 32 false (.comp (.var 36) [false, false, false, false, false, false, false, false, false, false, false, false, false, true, false, false, false, false, false, false, false, false, false, false, false, false, false, true, false, false, false, false, false, false, false] 2 (.x (.var 29)) (.some (.cmp .LtE (.var 35) (.call .len (.cons (.sub (.var 13) (.var 27)) .nil)))))) (.cons (.app 30 (.call .len (.cons (.comp (.var 35) [false, false, false, false, false, false, false, false, false, false, false, false, false, false, false, false, false, false, false, false, false, false, false, false, false, false, false, true, true, false, false, false, false, false, false] 1 (.x (.var 32)) (.some (.cmp .Is (.call (.user 4) (.cons (.var 35) (.cons (.sub (.var 28) (.var 27)) .nil))) (.bool true)))) .nil))) .nil))
def l3b19 : Ss := (.cons (.ife (.cmp .NotEq (.meth (.var 34) "indent_level" (.cons (.var 31) .nil)) (.bin .Add (.var 8) (.bin .Mult (.var 31) (.call .sum (.cons (.comp (.bin .Add (.bin .FloorDiv (.var 35) (.var 31)) (.int 1)) [false, false, false, false, false, false, false, false, false, false, false, false, false, false, false, false, false, false, false, false, false, false, false, false, false, false, false, false, false, false, false, true, false, false, false] 1 (.x (.var 20)) .none) .nil))))) (.cons (.ret (.bool false)) .nil) .nil) .nil)
def l3s0 : S := .assign 1 true (.lst (.cons (.int 11) (.cons (.int 8) (.cons (.int 7) (.cons (.int 87629) .nil)))))
def l3s1 : S := .forS [2, 3] (.enum (.var 0)) (.cons (.augSub 1 (.bin .Mod (.var 2) (.int 4)) .Add (.bin .Mod (.var 3) (.bin .Pow (.int 10) (.int 6)))) .nil) .nil
def l3s2 : S := .assign 4 false (.lst (.cons (.str [79, 80, 84, 73, 77, 73, 90, 69, 68]) (.cons (.str [78, 69, 87, 76, 79, 67, 65, 76, 83]) (.cons (.str [86, 65, 82, 65, 82, 71, 83]) (.cons (.str [86, 65, 82, 75, 69, 89, 87, 79, 82, 68, 83]) (.cons (.str [78, 69, 83, 84, 69, 68]) (.cons (.str [71, 69, 78, 69, 82, 65, 84, 79, 82]) (.cons (.str [78, 79, 70, 82, 69, 69]) (.cons (.str [67, 79, 82, 79, 85, 84, 73, 78, 69]) .nil)))))))))
def l3s3 : S := .assign 5 true (.lst (.cons (.tup (.cons (.int 0) (.cons (.int 1) .nil))) (.cons (.tup (.cons (.bin .Mod (.sub (.var 1) (.int 0)) (.int 2)) (.cons (.int 2) .nil))) (.cons (.tup (.cons (.bin .Mod (.bin .FloorDiv (.sub (.var 1) (.int 0)) (.int 2)) (.int 3)) (.cons (.int 3) .nil))) .nil))))
def l3s4 : S := .forS [6] (.x (.slice (.var 1) (.some (.int 1)) (.some (.int 3)) .none)) (.cons (.app 5 (.tup (.cons (.bin .Mod (.var 6) (.int 4)) (.cons (.bin .Mod (.bin .FloorDiv (.var 6) (.int 4)) (.int 4)) .nil)))) .nil) .nil
def l3s5 : S := .unpackT [(7, false), (8, false)] (.cons (.bin .Mod (.sub (.var 1) (.int 3)) (.int 4)) (.cons (.bin .Mod (.bin .FloorDiv (.sub (.var 1) (.int 3)) (.int 4)) (.int 3)) .nil))
def l3s6 : S := .unpackT [(9, false), (10, false)] (.cons (.bin .Div (.bin .Add (.int 1) (.bin .Mod (.bin .FloorDiv (.sub (.var 1) (.int 3)) (.int 12)) (.int 4))) (.int 4)) (.cons (.bin .Div (.bin .Add (.int 1) (.bin .Mod (.bin .FloorDiv (.sub (.var 1) (.int 3)) (.int 48)) (.int 4))) (.int 4)) .nil))
def l3s7 : S := .unpackT [(11, false), (12, false), (13, false)] (.cons (.lst (.cons (.bin .Mod (.bin .FloorDiv (.sub (.var 1) (.int 3)) (.int 192)) (.int 1024)) .nil)) (.cons (.lst (.cons (.int 0) .nil)) (.cons (.lst (.cons (.lst .nil) .nil)) .nil)))
def l3s8 : S := .forS [2] (.range (.cons (.int 5) .nil)) l3b8 .nil
def l3s9 : S := .unpackT [(19, true), (20, true)] (.cons (.lst .nil) (.cons (.lst .nil) .nil))
def l3s10 : S := .forS [18] (.x (.var 11)) l3b10 .nil
def l3s11 : S := .assign 28 false (.comp (.call (.user 3) (.cons (.bin .LShift (.var 35) (.var 7)) .nil)) [false, false, false, false, false, false, false, true, false, false, false, false, false, false, false, false, false, false, false, false, false, false, false, false, false, false, false, false, false, false, false, false, false, false, false] 1 (.range (.cons (.int 32) .nil)) .none)
def l3s12 : S := .ife (.cmp .NotEq (.var 28) (.bin .Add (.lst (.cons (.str [48, 120, 48]) .nil)) (.comp (.meth (.str [44, 32]) "join" (.cons (.var 35) .nil)) [false, false, false, false, false, false, false, false, false, false, false, false, false, false, false, false, false, false, false, false, false, false, false, false, false, false, false, false, false, false, false, false, false, false, false] 1 (.x (.slice (.var 13) (.some (.int 1)) .none .none)) .none))) (.cons (.ret (.bool false)) .nil) .nil
def l3s13 : S := .assign 29 false (.comp (.tup (.cons (.call .len (.cons (.sub (.var 13) (.var 35)) .nil)) (.cons (.bin .Add (.bin .Add (.str [46, 46, 46]) (.repl (.sub (.var 28) (.var 35)) [44, 32] [46, 46, 46])) (.str [46, 46, 46])) .nil))) [false, false, false, false, false, false, false, false, false, false, false, false, true, true, false, false, false, false, false, false, false, false, false, false, false, false, false, false, true, false, false, false, false, false, false] 1 (.range (.cons (.int 1) (.cons (.int 32) .nil))) (.some (.cmp .Eq (.sub (.var 12) (.var 35)) (.int 0))))
def l3s14 : S := .assign 30 true (.lst .nil)
def l3s15 : S := .forS [27] (.range (.cons (.int 32) .nil)) l3b15 .nil
def l3s16 : S := .assign 33 false (.call (.user 5) (.cons (.bin .Add (.bin .Add (.meth (.str []) "join" (.cons (.comp (.bin .Add (.bin .Mult (.str [32]) (.call .min (.cons (.var 35) (.cons (.int 2) .nil)))) (.str [9])) [false, false, false, false, false, false, false, false, false, false, false, false, false, false, false, false, false, false, false, false, false, false, false, false, false, false, false, false, false, false, false, false, false, false, false] 1 (.x (.var 30)) .none) .nil)) (.bin .Mult (.str [32]) (.var 8))) (.str [48, 9, 32])) .nil))
def l3s17 : S := .assign 34 false (.call (.user 5) (.cons (.bin .Add (.bin .Add (.meth (.str []) "join" (.cons (.comp (.bin .Add (.bin .Mult (.str [32]) (.var 35)) (.str [9])) [false, false, false, false, false, false, false, false, false, false, false, false, false, false, false, false, false, false, false, false, false, false, false, false, false, false, false, false, false, false, false, false, false, false, false] 1 (.x (.var 20)) .none) .nil)) (.bin .Mult (.str [32]) (.var 8))) (.str [48, 32, 9])) .nil))
def l3s18 : S := .ife (.cmp .NotEq (.attr (.var 34) "norm") (.tup (.cons (.call .tuple (.cons (.comp (.meth (.var 20) "count" (.cons (.var 35) .nil)) [false, false, false, false, false, false, false, false, false, false, false, false, false, false, false, false, false, false, false, false, true, false, false, false, false, false, false, false, false, false, false, false, false, false, false] 1 (.range (.cons (.bin .Add (.call .max (.cons (.var 20) .nil)) (.int 1)) .nil)) .none) .nil)) (.cons (.var 8) .nil)))) (.cons (.ret (.bool false)) .nil) .nil
def l3s19 : S := .forS [31] (.range (.cons (.int 1) (.cons (.int 5) .nil))) l3b19 .nil
def l3s20 : S := .ife (.or (.cmp .NotEq (.tup (.cons (.attr (.var 34) "n") (.cons (.attr (.var 34) "nt") .nil))) (.tup (.cons (.bin .Add (.bin .Add (.int 32) (.sub (.sub (.attr (.var 33) "norm") (.int 0)) (.int 0))) (.var 8)) (.cons (.sub (.sub (.attr (.var 33) "norm") (.int 0)) (.int 0)) .nil)))) (.cmp .NotEq (.meth (.var 33) "indent_level" (.cons (.int 1) .nil)) (.attr (.var 33) "n"))) (.cons (.ret (.bool false)) .nil) .nil
def l3s21 : S := .ret (.cmp .Eq (.sub (.sub (.attr (.var 34) "norm") (.int 0)) (.int 1)) (.bin .Sub (.bin .Mult (.int 2) (.bin .Sub (.meth (.var 33) "indent_level" (.cons (.int 2) .nil)) (.attr (.var 33) "n"))) (.attr (.var 33) "nt")))
def l3tC : Ss := (.cons l3s8 (.cons l3s9 .nil))
def l3tB (tl : Ss) : Ss := (.cons l3s2 (.cons l3s3 (.cons l3s4 (.demote 5 (.cons l3s5 (.cons l3s6 (.cons l3s7 tl)))))))
def l3pre : Ss := (.cons l3s0 (.cons l3s1 (.demote 1 (l3tB l3tC))))
def l3pC (tl : Ss) : Ss := (.cons l3s16 (.cons l3s17 tl))
def l3pD : Ss := (.cons l3s18 (.cons l3s19 (.cons l3s20 (.cons l3s21 .nil))))
def l3pB (tl : Ss) : Ss := (.cons l3s13 (.cons l3s14 (.cons l3s15 (.demote 30 tl))))
def l3pA (tl : Ss) : Ss := (.demote 19 (.demote 20 (.cons l3s11 (.cons l3s12 tl))))
def l3post : Ss := l3pA (l3pB (l3pC l3pD))
def l3code : Ss := catS l3pre (.cons l3s10 l3post)
end Mine

end

section
open PySem PySem.W PyProof.Rows
set_option Elab.async false
set_option linter.unusedVariables false
set_option linter.unusedSimpArgs false
set_option maxRecDepth 8000
set_option maxHeartbeats 4000000
namespace Mine
local macro_rules | `(tactic| walk_at "one") => `(tactic| first
  | refine cleanI ?_
  | refine cleanT ?_
  | refine cleanF ?_
  | (refine And.intro (by first | rfl | decide | assumption | (simp only [List.length_map, List.length_cons, List.length_nil, List.length_append]; omega) | (refine And.intro ?_ ?_ <;> first | assumption | omega | decide)) ?_))
local macro_rules | `(tactic| walk_at "go") => `(tactic| ((conv => whnf); (repeat (walk_at "one"; (conv => whnf)))))
section
variable {p : Pg} {Q : Flw → List Slot → Prop}
def σA (l : List D) (h0 h1 h2 h3 : Int) (s2 s3 : Slot) (own : Bool) : List Slot := .rt (.lst l) :: (if own then Slot.ow (.lst [.int h0, .int h1, .int h2, .int h3]) else .rt (.lst [.int h0, .int h1, .int h2, .int h3])) :: s2 :: s3 :: List.replicate 31 .un
def l3b1 : Ss := (.cons (.augSub 1 (.bin .Mod (.var 2) (.int 4)) .Add (.bin .Mod (.var 3) (.bin .Pow (.int 10) (.int 6)))) .nil)
theorem l3_heaps {ls : List D} : ∀ (l : List Int) (n : Nat) (h0 h1 h2 h3 : Int) (s2 s3 : Slot), (∀ h0 h1 h2 h3 s2 s3, Q .next (σA ls h0 h1 h2 h3 s2 s3 true)) →
    forW [2, 3] (fun σ Q => wSs (T1 p) l3b1 σ Q) (fun σ Q => wSs (T1 p) .nil σ Q) (enumD n (l.map D.int)) (σA ls h0 h1 h2 h3 s2 s3 true) Q
  | [], n, h0, h1, h2, h3, s2, s3, h => by
    show wSs (T1 p) .nil _ Q
    conv => whnf
    exact h _ _ _ _ _ _
  | a :: l, n, h0, h1, h2, h3, s2, s3, h => by
    show optW (tgtS [2, 3] (.tup [.int n, .int a])) _
    refine optW_in (d := [(2, .cl (.int n)), (3, .cl (.int a))]) rfl ?_
    have hj : ((n : Int).fmod 4 = 0 ∨ (n : Int).fmod 4 = 1) ∨ ((n : Int).fmod 4 = 2 ∨ (n : Int).fmod 4 = 3) := by
      rw [Int.fmod_eq_emod_of_nonneg _ (by decide)]; omega
    conv => whnf
    refine ⟨by decide, ?_⟩
    conv => whnf
    rcases hj with (hj | hj) | (hj | hj) <;> rw [hj]
    · refine ⟨⟨by decide, by decide⟩, ?_⟩
      refine optW_in (d := .int h0) rfl ?_
      conv => whnf
      refine ⟨⟨by decide, by decide, by decide, by decide⟩, ?_⟩
      conv => whnf
      refine ⟨by decide, ?_⟩
      conv => whnf
      refine ⟨⟨by decide, by decide, by decide⟩, ?_⟩
      conv => whnf
      exact l3_heaps l (n + 1) _ _ _ _ _ _ h
    · refine ⟨⟨by decide, by decide⟩, ?_⟩
      refine optW_in (d := .int h1) rfl ?_
      conv => whnf
      refine ⟨⟨by decide, by decide, by decide, by decide⟩, ?_⟩
      conv => whnf
      refine ⟨by decide, ?_⟩
      conv => whnf
      refine ⟨⟨by decide, by decide, by decide⟩, ?_⟩
      conv => whnf
      exact l3_heaps l (n + 1) _ _ _ _ _ _ h
    · refine ⟨⟨by decide, by decide⟩, ?_⟩
      refine optW_in (d := .int h2) rfl ?_
      conv => whnf
      refine ⟨⟨by decide, by decide, by decide, by decide⟩, ?_⟩
      conv => whnf
      refine ⟨by decide, ?_⟩
      conv => whnf
      refine ⟨⟨by decide, by decide, by decide⟩, ?_⟩
      conv => whnf
      exact l3_heaps l (n + 1) _ _ _ _ _ _ h
    · refine ⟨⟨by decide, by decide⟩, ?_⟩
      refine optW_in (d := .int h3) rfl ?_
      conv => whnf
      refine ⟨⟨by decide, by decide, by decide, by decide⟩, ?_⟩
      conv => whnf
      refine ⟨by decide, ?_⟩
      conv => whnf
      refine ⟨⟨by decide, by decide, by decide⟩, ?_⟩
      conv => whnf
      exact l3_heaps l (n + 1) _ _ _ _ _ _ h
theorem cleanI {fl : Fl} {i : Int} {P : Prop} (h : P) : clean fl (.int i) ∧ P := ⟨cleanS rfl, h⟩
theorem cleanT {fl : Fl} {i : List Nat} {P : Prop} (h : P) : clean fl (.str i) ∧ P := ⟨cleanS rfl, h⟩
theorem l3_A (l : List Int) (hl : l.length ≤ 63) (h : ∀ h0 h1 h2 h3 s2 s3, wSs (T1 p) (l3tB l3tC) (σA (l.map D.int) h0 h1 h2 h3 s2 s3 false) Q) : wSs (T1 p) l3pre (startσ [.lst (l.map D.int)] 34) Q := by
  conv => whnf
  refine cleanI ?_
  conv => whnf
  refine cleanI ?_
  conv => whnf
  refine cleanI ?_
  conv => whnf
  refine cleanI ?_
  conv => whnf
  refine ⟨by simp, ?_⟩
  conv => whnf
  refine ⟨by rw [List.length_map]; omega, ?_⟩
  refine ⟨(fun h => nomatch h), ?_⟩
  refine l3_heaps (p := p) (ls := l.map D.int) l 0 11 8 7 87629 .un .un fun h0 h1 h2 h3 s2 s3 => ?_
  conv => whnf
  refine ⟨rfl, ?_⟩
  exact h h0 h1 h2 h3 s2 s3
def names8 : List (List Nat) := [[79, 80, 84, 73, 77, 73, 90, 69, 68], [78, 69, 87, 76, 79, 67, 65, 76, 83], [86, 65, 82, 65, 82, 71, 83], [86, 65, 82, 75, 69, 89, 87, 79, 82, 68, 83], [78, 69, 83, 84, 69, 68], [71, 69, 78, 69, 82, 65, 84, 79, 82], [78, 79, 70, 82, 69, 69], [67, 79, 82, 79, 85, 84, 73, 78, 69]]
def tupD (t : Int × Int) : D := .tup [.int t.1, .int t.2]
/-- the state ahead of the rounds -/
def σC (ls : List D) (h0 h1 h2 h3 : Int) (tn : List (Int × Int)) (B R : Int) (sh li : D) (sp ti : List Int) (ro : List (List (List Nat))) (s2 s3 s6 s14 s15 s16 s17 : Slot) : List Slot :=
  .rt (.lst ls) :: .rt (.lst [.int h0, .int h1, .int h2, .int h3]) :: s2 :: s3 :: .cl (.lst (names8.map D.str)) :: .rt (.lst (tn.map tupD)) :: s6 :: .cl (.int B) :: .cl (.int R) :: .cl sh :: .cl li :: .cl (.lst (sp.map D.int)) :: .cl (.lst (ti.map D.int)) :: .cl (.lst (ro.map fun r => .lst (r.map D.str))) ::
    s14 :: s15 :: s16 :: s17 :: List.replicate 17 .un
theorem l3_B {tl : Ss} {ls : List D} {h0 h1 h2 h3 : Int} {s2 s3 : Slot} {a b : Int} (ha : a = 1 + ((h3.fdiv 12).fmod 4)) (hb : b = 1 + ((h3.fdiv 48).fmod 4))
    (h : ∀ s6, wSs (T1 p) tl (σC ls h0 h1 h2 h3 [(0, 1), (h0.fmod 2, 2), ((h0.fdiv 2).fmod 3, 3), (h1.fmod 4, (h1.fdiv 4).fmod 4), (h2.fmod 4, (h2.fdiv 4).fmod 4)] (h3.fmod 4) ((h3.fdiv 4).fmod 3) (.flt (fx (1024 * a)) .new) (.flt (fx (1024 * b)) .new) [(h3.fdiv 192).fmod 1024] [0] [[]] s2 s3 s6 .un .un .un .un) Q) :
    wSs (T1 p) (l3tB tl) (σA ls h0 h1 h2 h3 s2 s3 false) Q := by
  have fm : ∀ x : Int, 0 ≤ x.fmod 4 ∧ x.fmod 4 < 4 := fun x => by rw [Int.fmod_eq_emod_of_nonneg _ (by decide)]; omega
  have ha' := fm (h3.fdiv 12)
  have hb' := fm (h3.fdiv 48)
  have s4 : small 4 := ⟨by decide, by decide⟩
  have s2' : small 2 := ⟨by decide, by decide⟩
  have z0 : small 0 := ⟨by decide, by decide⟩
  have z3 : small 3 := ⟨by decide, by decide⟩
  have eA : divII (1 + (h3.fdiv 12).fmod 4) 4 = fx (1024 * a) := by rw [← ha]; exact divII_fx _ (by omega) (by decide) (by omega) (by omega)
  have z12 : small 12 := ⟨by decide, by decide⟩
  have z48 : small 48 := ⟨by decide, by decide⟩
  have z192 : small 192 := ⟨by decide, by decide⟩
  have eB : divII (1 + (h3.fdiv 48).fmod 4) 4 = fx (1024 * b) := by rw [← hb]; exact divII_fx _ (by omega) (by decide) (by omega) (by omega)
  have iA : Float64.isInf (divII (1 + (h3.fdiv 12).fmod 4) 4) = false := by rw [eA]; exact isInf_fx (by omega)
  have iB : Float64.isInf (divII (1 + (h3.fdiv 48).fmod 4) 4) = false := by rw [eB]; exact isInf_fx (by omega)
  walk_at "go"
  rw [show cut [D.int h0, D.int h1, D.int h2, D.int h3] (some 1) (some 3) = [D.int h1, D.int h2] from rfl]
  walk_at "go"
  rw [eA, eB]
  exact h _
end
end Mine

end

section
open PySem PySem.W PyProof.Rows
set_option Elab.async false
set_option linter.unusedVariables false
set_option linter.unusedSimpArgs false
set_option maxRecDepth 8000
set_option maxHeartbeats 4000000
namespace Mine
theorem compT {A B : Prop} (h : A) : (true = true → A) ∧ (true = false → B) := ⟨fun _ => h, fun h => nomatch h⟩
local macro_rules | `(tactic| walk_at "one") => `(tactic| first
  | refine cleanI ?_
  | refine cleanT ?_
  | refine cleanF ?_
  | (with_reducible refine compT ?_)
  | (refine And.intro ?_ ?_; · (first | (exact rfl) | assumption | decide | (simp only [List.length_map, List.length_cons, List.length_nil, List.length_append]; omega) | (refine And.intro ?_ ?_ <;> first | assumption | omega | decide))))
local macro_rules | `(tactic| walk_at "go") => `(tactic| ((conv => whnf); (repeat (walk_at "one"; (conv => whnf)))))
theorem mapW_all {α : Type} {f g : α → D} {step : D → (Option D → Prop) → Prop} {K : List D → Prop} : ∀ (l : List α) (acc : List D), (∀ a ∈ l, ∀ K' : Option D → Prop, K' (some (g a)) → step (f a) K') → K (acc ++ l.map g) → mapW step acc (l.map f) K
  | [], acc, hs, h => by simpa [mapW] using h
  | a :: l, acc, hs, h => by
    rw [List.map_cons]
    unfold mapW
    refine hs a List.mem_cons_self _ ?_
    refine mapW_all l _ (fun b hb => hs b (List.mem_cons_of_mem _ hb)) ?_
    rw [List.map_cons] at h
    simpa using h
def stepOf (o : Int) : Int := if o = 0 then 0 else if o = 1 then 1 else if o = 2 then 6 else 36
theorem atI_steps {o : Int} (h : 0 ≤ o ∧ o < 4) : atI [D.int 0, .int 1, .int 6, .int 36] o = some (.int (stepOf o)) := by
  have : o = 0 ∨ o = 1 ∨ o = 2 ∨ o = 3 := by omega
  rcases this with rfl | rfl | rfl | rfl <;> rfl
theorem atI_mapD {α : Type} {f : α → D} {l : List α} {k : Nat} {a : α} (h : l[k]? = some a) : atI (l.map f) (k : Int) = some (f a) := by
  unfold atI
  rw [if_pos (by omega), Int.toNat_natCast, List.getElem?_map, h]; rfl
section
variable {p : Pg} {Q : Flw → List Slot → Prop}
def rowD (r : List (List Nat)) : D := .lst (r.map D.str)
theorem l3_round {ls : List D} {h0 h1 h2 h3 : Int} {tn : List (Int × Int)} {B : Nat} {R : Int} {sh li : D} {sp ti : List Int} {ro : List (List (List Nat))} {s3 s6 s14 s15 s16 s17 : Slot} {k : Nat} {t0 t1 o q : Int} (hk : k < 5) (hB : B < 4) (htn : tn[k]? = some (t0, t1))
    (ho : (t0 + h0.fdiv 6).fmod 4 = o) (hq : (t1 + h0.fdiv 6).fmod 4 = q) (l1 : sp.length ≤ 1000) (l2 : ti.length ≤ 1000) (l3 : ro.length ≤ 1000) (l4 : ∀ r ∈ ro, r.length ≤ 1000)
    (h : ∀ s14 s15 s16 s17, Q .next (σC ls h0 h1 h2 h3 tn B R sh li (sp.map (· + stepOf o) ++ sp.map (· + stepOf q)) (ti ++ ti.map fun t => Builtin.bitXor (Builtin.bitXor t (1 * 2 ^ o.toNat)) (1 * 2 ^ q.toNat)) (ro ++ ro.map fun r => r ++ [names8.getD (B + k) []]) (.cl (.int k)) s3 s6 s14 s15 s16 s17)) :
    wSs (T1 p) l3b8 (σC ls h0 h1 h2 h3 tn B R sh li sp ti ro (.cl (.int k)) s3 s6 s14 s15 s16 s17) Q := by
  have o0 : 0 ≤ o ∧ o < 4 := by rw [Int.fmod_eq_emod_of_nonneg _ (by decide)] at ho; omega
  have q0 : 0 ≤ q ∧ q < 4 := by rw [Int.fmod_eq_emod_of_nonneg _ (by decide)] at hq; omega
  have sk : small (k : Int) := ⟨by omega, by omega⟩
  have so : small o := ⟨by omega, by omega⟩
  have sq : small q := ⟨by omega, by omega⟩
  have sBk : small ((B : Int) + (k : Int)) := ⟨by omega, by omega⟩
  have so2 : 0 ≤ o ∧ o ≤ 64 ∧ small 1 := ⟨by omega, by omega, by decide, by decide⟩
  have sq2 : 0 ≤ q ∧ q ≤ 64 ∧ small 1 := ⟨by omega, by omega, by decide, by decide⟩
  have hnk : names8[B + k]? = some (names8.getD (B + k) []) := by
    have hlt : B + k < names8.length := by show B + k < 8; omega
    rw [List.getD_eq_getElem?_getD, List.getElem?_eq_getElem hlt]; rfl
  have z0 : small 0 := ⟨by decide, by decide⟩
  have z6 : small 6 := ⟨by decide, by decide⟩
  have z1 : small 1 := ⟨by decide, by decide⟩
  walk_at "go"
  refine optW_in (atI_mapD (f := tupD) htn) ?_
  walk_at "go"
  dsimp only
  rw [ho, hq]
  refine ⟨so, ?_⟩
  refine optW_in (atI_steps o0) ?_
  walk_at "go"
  refine optW_in (atI_steps q0) ?_
  walk_at "go"
  refine mapW_all (f := D.int) (g := fun a => D.int (a + stepOf o)) sp [] (fun a _ K' hk => ?_) ?_
  · walk_at "go"
    exact hk
  rw [List.nil_append]
  walk_at "go"
  refine mapW_all (f := D.int) (g := fun a => D.int (a + stepOf q)) sp [] (fun a _ K' hk => ?_) ?_
  · walk_at "go"
    exact hk
  rw [List.nil_append]
  walk_at "go"
  refine mapW_all (f := D.int) (g := fun t => D.int (Builtin.bitXor (Builtin.bitXor t (1 * 2 ^ o.toNat)) (1 * 2 ^ q.toNat))) ti [] (fun a _ K' hk => ?_) ?_
  · walk_at "go"
    exact hk
  rw [List.nil_append]
  walk_at "go"
  refine mapW_all (f := rowD) (g := fun r => rowD (r ++ [names8.getD (B + k) []])) ro [] (fun r hr K' hk => ?_) ?_
  · have hl4 := l4 r hr
    walk_at "go"
    refine optW_in (d := .str (names8.getD (B + k) [])) (by rw [← Int.natCast_add]; exact atI_mapD hnk) ?_
    walk_at "go"
    have e : List.map D.str r ++ [D.str (names8.getD (B + k) [])] = (r ++ [names8.getD (B + k) []]).map D.str := by simp
    rw [e]
    exact hk
  rw [List.nil_append]
  walk_at "go"
  have e1 : sp.map (fun a => D.int (a + stepOf o)) ++ sp.map (fun a => D.int (a + stepOf q)) = (sp.map (· + stepOf o) ++ sp.map (· + stepOf q)).map D.int := by simp [Function.comp_def]
  have e2 : ti.map D.int ++ ti.map (fun t => D.int (Builtin.bitXor (Builtin.bitXor t (1 * 2 ^ o.toNat)) (1 * 2 ^ q.toNat))) = (ti ++ ti.map fun t => Builtin.bitXor (Builtin.bitXor t (1 * 2 ^ o.toNat)) (1 * 2 ^ q.toNat)).map D.int := by simp [Function.comp_def]
  have e3 : ro.map (fun r => D.lst (r.map D.str)) ++ ro.map (fun r => rowD (r ++ [names8.getD (B + k) []])) = (ro ++ ro.map fun r => r ++ [names8.getD (B + k) []]).map (fun r => D.lst (r.map D.str)) := by
    rw [List.map_append, List.map_map]; rfl
  rw [e1, e2, e3]
  exact h _ _ _ _
end
end Mine

end

section
open PySem PySem.W PyProof.Rows
set_option Elab.async false
set_option linter.unusedVariables false
set_option linter.unusedSimpArgs false
set_option maxRecDepth 8000
set_option maxHeartbeats 4000000
namespace Mine
local macro_rules | `(tactic| walk_at "one") => `(tactic| first
  | refine cleanI ?_
  | refine cleanT ?_
  | refine cleanF ?_
  | (with_reducible refine compT ?_)
  | (refine And.intro ?_ ?_; · (first | (exact rfl) | assumption | decide | (simp only [List.length_map, List.length_cons, List.length_nil, List.length_append]; omega) | (refine And.intro ?_ ?_ <;> first | assumption | omega | decide))))
local macro_rules | `(tactic| walk_at "go") => `(tactic| ((conv => whnf); (repeat (walk_at "one"; (conv => whnf)))))
def spR (sp : List Int) (pr : Int × Int) : List Int := sp.map (· + stepOf pr.1) ++ sp.map (· + stepOf pr.2)
def tiR (ti : List Int) (pr : Int × Int) : List Int := ti ++ ti.map fun t => Builtin.bitXor (Builtin.bitXor t (1 * 2 ^ pr.1.toNat)) (1 * 2 ^ pr.2.toNat)
def roR (B k : Nat) (ro : List (List (List Nat))) : List (List (List Nat)) := ro ++ ro.map fun r => r ++ [names8.getD (B + k) []]
theorem spR_len (sp pr) : (spR sp pr).length = 2 * sp.length := by unfold spR; simp; omega
theorem tiR_len (ti pr) : (tiR ti pr).length = 2 * ti.length := by unfold tiR; simp; omega
theorem roR_len (B k ro) : (roR B k ro).length = 2 * ro.length := by unfold roR; simp; omega
theorem roR_mem {B k n : Nat} {ro : List (List (List Nat))} (h : ∀ r ∈ ro, r.length ≤ n) : ∀ r ∈ roR B k ro, r.length ≤ n + 1 := by
  intro r hr
  rcases List.mem_append.mp hr with hr | hr
  · have := h r hr; omega
  · obtain ⟨r', hr', rfl⟩ := List.mem_map.mp hr
    have := h r' hr'
    simp; omega
def sp5 (s0 : Int) (a b c d e : Int × Int) : List Int := spR (spR (spR (spR (spR [s0] a) b) c) d) e
def ti5 (a b c d e : Int × Int) : List Int := tiR (tiR (tiR (tiR (tiR [0] a) b) c) d) e
def ro5 (B : Nat) : List (List (List Nat)) := roR B 4 (roR B 3 (roR B 2 (roR B 1 (roR B 0 [[]]))))
theorem sp5_len (s0 a b c d e) : (sp5 s0 a b c d e).length = 32 := by unfold sp5; simp [spR_len]
theorem ti5_len (a b c d e) : (ti5 a b c d e).length = 32 := by unfold ti5; simp [tiR_len]
theorem ro5_len (B) : (ro5 B).length = 32 := by unfold ro5; simp [roR_len]
section
variable {p : Pg} {Q : Flw → List Slot → Prop}
/-- the state ahead of the hues -/
def σD (ls : List D) (h0 h1 h2 h3 : Int) (tn : List (Int × Int)) (B R : Int) (sh li : D) (sp ti : List Int) (ro : List (List (List Nat))) (s2 s3 s6 s14 s15 s16 s17 s18 : Slot) (se : List D) (wa : List Int) (s21 s22 s23 s24 s25 s26 : Slot) : List Slot :=
  .rt (.lst ls) :: .rt (.lst [.int h0, .int h1, .int h2, .int h3]) :: s2 :: s3 :: .cl (.lst (names8.map D.str)) :: .rt (.lst (tn.map tupD)) :: s6 :: .cl (.int B) :: .cl (.int R) :: .cl sh :: .cl li :: .cl (.lst (sp.map D.int)) :: .cl (.lst (ti.map D.int)) :: .cl (.lst (ro.map fun r => .lst (r.map D.str))) ::
    s14 :: s15 :: s16 :: s17 :: s18 :: .ow (.lst se) :: .ow (.lst (wa.map D.int)) :: s21 :: s22 :: s23 :: s24 :: s25 :: s26 :: List.replicate 8 .un
theorem l3_C {ls : List D} {h0 h1 h2 h3 : Int} {ta tb tc td te pa pb pc pd pe : Int × Int} {B : Nat} {R s0 : Int} {sh li : D} {s2 s3 s6 : Slot} (hB : B < 4)
    (ha : (ta.1 + h0.fdiv 6).fmod 4 = pa.1 ∧ (ta.2 + h0.fdiv 6).fmod 4 = pa.2) (hb : (tb.1 + h0.fdiv 6).fmod 4 = pb.1 ∧ (tb.2 + h0.fdiv 6).fmod 4 = pb.2) (hc : (tc.1 + h0.fdiv 6).fmod 4 = pc.1 ∧ (tc.2 + h0.fdiv 6).fmod 4 = pc.2)
    (hd : (td.1 + h0.fdiv 6).fmod 4 = pd.1 ∧ (td.2 + h0.fdiv 6).fmod 4 = pd.2) (he : (te.1 + h0.fdiv 6).fmod 4 = pe.1 ∧ (te.2 + h0.fdiv 6).fmod 4 = pe.2)
    (h : ∀ s2 s14 s15 s16 s17, Q .next (σD ls h0 h1 h2 h3 [ta, tb, tc, td, te] B R sh li (sp5 s0 pa pb pc pd pe) (ti5 pa pb pc pd pe) (ro5 B) s2 s3 s6 s14 s15 s16 s17 .un [] [] .un .un .un .un .un .un)) :
    wSs (T1 p) l3tC (σC ls h0 h1 h2 h3 [ta, tb, tc, td, te] B R sh li [s0] [0] [[]] s2 s3 s6 .un .un .un .un) Q := by
  have m0 : ∀ r ∈ ([[]] : List (List (List Nat))), r.length ≤ 0 := by simp
  have m1 := roR_mem (B := B) (k := 0) m0
  have m2 := roR_mem (B := B) (k := 1) m1
  have m3 := roR_mem (B := B) (k := 2) m2
  have m4 := roR_mem (B := B) (k := 3) m3
  have lift : ∀ {n : Nat} {ro : List (List (List Nat))}, (∀ r ∈ ro, r.length ≤ n) → n ≤ 1000 → ∀ r ∈ ro, r.length ≤ 1000 := fun h hn r hr => Nat.le_trans (h r hr) hn
  conv => whnf
  refine ⟨⟨by decide, by decide⟩, ?_⟩
  refine ⟨(fun h => nomatch h), ?_⟩
  refine optW_in (d := [(2, .cl (.int ((0 : Nat) : Int)))]) rfl ?_
  refine l3_round (k := 0) (by decide) hB (tn := [ta, tb, tc, td, te]) rfl ha.1 ha.2 (by simp) (by simp) (by simp) (lift m0 (by decide)) fun s14 s15 s16 s17 => ?_
  refine optW_in (d := [(2, .cl (.int ((1 : Nat) : Int)))]) rfl ?_
  refine l3_round (k := 1) (by decide) hB (tn := [ta, tb, tc, td, te]) rfl hb.1 hb.2 (sp := spR [s0] pa) (ti := tiR [0] pa) (ro := roR B 0 [[]]) (by simp [spR_len]) (by simp [tiR_len]) (by simp [roR_len]) (lift m1 (by decide)) fun s14 s15 s16 s17 => ?_
  refine optW_in (d := [(2, .cl (.int ((2 : Nat) : Int)))]) rfl ?_
  refine l3_round (k := 2) (by decide) hB (tn := [ta, tb, tc, td, te]) rfl hc.1 hc.2 (sp := spR (spR [s0] pa) pb) (ti := tiR (tiR [0] pa) pb) (ro := roR B 1 (roR B 0 [[]])) (by simp [spR_len]) (by simp [tiR_len]) (by simp [roR_len]) (lift m2 (by decide)) fun s14 s15 s16 s17 => ?_
  refine optW_in (d := [(2, .cl (.int ((3 : Nat) : Int)))]) rfl ?_
  refine l3_round (k := 3) (by decide) hB (tn := [ta, tb, tc, td, te]) rfl hd.1 hd.2 (sp := spR (spR (spR [s0] pa) pb) pc) (ti := tiR (tiR (tiR [0] pa) pb) pc) (ro := roR B 2 (roR B 1 (roR B 0 [[]]))) (by simp [spR_len]) (by simp [tiR_len]) (by simp [roR_len]) (lift m3 (by decide)) fun s14 s15 s16 s17 => ?_
  refine optW_in (d := [(2, .cl (.int ((4 : Nat) : Int)))]) rfl ?_
  refine l3_round (k := 4) (by decide) hB (tn := [ta, tb, tc, td, te]) rfl he.1 he.2 (sp := spR (spR (spR (spR [s0] pa) pb) pc) pd) (ti := tiR (tiR (tiR (tiR [0] pa) pb) pc) pd) (ro := roR B 3 (roR B 2 (roR B 1 (roR B 0 [[]])))) (by simp [spR_len]) (by simp [tiR_len]) (by simp [roR_len]) (lift m4 (by decide)) fun s14 s15 s16 s17 => ?_
  walk_at "go"
  exact h _ _ _ _ _
end
end Mine

end

section
open PySem PySem.W PyProof.Rows
set_option Elab.async false
set_option linter.unusedVariables false
set_option linter.unusedSimpArgs false
set_option maxRecDepth 8000
set_option maxHeartbeats 4000000
namespace Mine
local macro_rules | `(tactic| walk_at "one") => `(tactic| first
  | refine cleanI ?_
  | refine cleanT ?_
  | refine cleanF ?_
  | (with_reducible refine compT ?_)
  | (refine And.intro ?_ ?_; · (first | (exact rfl) | assumption | decide | (simp only [List.length_map, List.length_cons, List.length_nil, List.length_append]; omega) | (refine And.intro ?_ ?_ <;> first | assumption | omega | decide))))
local macro_rules | `(tactic| walk_at "go") => `(tactic| ((conv => whnf); (repeat (walk_at "one"; (conv => whnf)))))
abbrev Fnc := Nat → List D → (D → Fl → Prop) → Prop
def PaintedF (fn : Fnc) (H a b : Int) (R G B : UInt64 × Ag) : Prop :=
  (∀ K : D → Fl → Prop, (∀ g, K (.tup [.flt (fx (H.fmod 4096)) .new, .flt (fx (1024 * a)) .new, .flt (fx (1024 * b)) g]) .cl) → fn 1 [fltD R, fltD G, fltD B] K) ∧
  (∀ K : D → Fl → Prop, (∀ s8, K (.tup [.flt (fx (H.fmod 4096)) .new, .flt (fx (1024 * b - 128 * (a * b))) .new, .flt s8 .new]) .cl) → fn 2 [fltD R, fltD G, fltD B] K)
theorem fx_inj {a b : Int} (ha : a.natAbs < 2 ^ 44) (hb : b.natAbs < 2 ^ 44) (h : fx a = fx b) : a = b := by
  have h1 := eqS ha ha
  have h2 := eqS ha hb
  rw [← h, h1] at h2
  simpa using h2.symm
def seenD (g : Ag) (cs : List Int) : List D := cs.map fun c => .flt (fx (16 * c)) g
theorem seen_ok {cs : List Int} {r : Int} (hr : 0 ≤ r ∧ r < 256) (hc : ∀ c ∈ cs, 0 ≤ c ∧ c < 256) : okF (fx (16 * r)) (seenD .old cs) = true ∧ inF (fx (16 * r)) (seenD .old cs) = cs.contains r := by
  have br : (16 * r).natAbs < 2 ^ 44 := by omega
  unfold okF inF seenD
  induction cs with
  | nil => exact ⟨rfl, rfl⟩
  | cons c cs ih =>
    obtain ⟨i1, i2⟩ := ih fun c h => hc c (List.mem_cons_of_mem _ h)
    have h0 := hc c List.mem_cons_self
    have bc : (16 * c).natAbs < 2 ^ 44 := by omega
    rw [List.map_cons, List.all_cons, List.any_cons, i1, i2, List.contains_cons]
    dsimp only
    rw [eqS br br, eqS bc br]
    by_cases h : c = r
    · subst h; simp
    · have h1 : fx (16 * c) ≠ fx (16 * r) := fun e => h (by have := fx_inj bc br e; omega)
      have h2 : ¬ 16 * c = 16 * r := by omega
      have h3 : (r == c) = false := by rw [beq_eq_false_iff_ne]; exact fun e => h e.symm
      simp [h1, h2, h3]
theorem seen_snoc {cs : List Int} {r : Int} (hr : 0 ≤ r ∧ r < 256) (hc : ∀ c ∈ cs, 0 ≤ c ∧ c < 256) : okF (fx (16 * r)) (seenD .old cs ++ [.flt (fx (16 * r)) .new]) = true := by
  have h := (seen_ok hr hc).1
  unfold okF at h ⊢
  rw [List.all_append, h]
  have br : (16 * r).natAbs < 2 ^ 44 := by omega
  simp [eqS br br]
theorem idxF_cons (x : UInt64) (d : D) (l : List D) : idxF x (d :: l) = match inF x [d] with
    | true => some 0
    | false => (idxF x l).map (· + 1) := rfl
theorem idx_seen {r : Int} {tail : List D} (hr : 0 ≤ r ∧ r < 256) : ∀ (cs : List Int), (∀ c ∈ cs, 0 ≤ c ∧ c < 256) → idxF (fx (16 * r)) (seenD .old cs ++ tail) = if cs.contains r then some (cs.idxOf r) else (idxF (fx (16 * r)) tail).map (· + cs.length)
  | [], hc => by simp [seenD]
  | c :: cs, hc => by
    have br : (16 * r).natAbs < 2 ^ 44 := by omega
    have h0 := hc c List.mem_cons_self
    have bc : (16 * c).natAbs < 2 ^ 44 := by omega
    have ih := idx_seen (tail := tail) hr cs fun c h => hc c (List.mem_cons_of_mem _ h)
    unfold seenD at ih ⊢
    rw [List.map_cons, List.cons_append, idxF_cons]
    have e : inF (fx (16 * r)) [D.flt (fx (16 * c)) .old] = decide (c = r) := by
      unfold inF
      simp only [List.any_cons, List.any_nil, Bool.or_false]
      rw [eqS bc br]
      exact decide_eq_decide.mpr (by omega)
    rw [e, ih]
    by_cases h : c = r
    · subst h; simp
    · have h3 : (r == c) = false := by rw [beq_eq_false_iff_ne]; exact fun e => h e.symm
      have h4 : (c == r) = false := by rw [beq_eq_false_iff_ne]; exact h
      simp only [h, decide_false]
      rw [List.contains_cons, h3, Bool.false_or]
      by_cases hin : cs.contains r = true
      · rw [if_pos hin, if_pos hin, List.idxOf_cons, h4]; rfl
      · rw [if_neg hin, if_neg hin, Option.map_map]
        congr 1
section
variable {p : Pg} {fn : Fnc} {ind : D → List D → (D → Fl → Prop) → Prop} {Q : Flw → List Slot → Prop}
theorem l3_hue {ls : List D} {h0 h1 h2 h3 : Int} {tn : List (Int × Int)} {B R : Int} {sp ti : List Int} {ro : List (List (List Nat))} {s2 s3 s6 s14 s15 s16 s17 s21 s22 s23 s24 s25 s26 : Slot} {cs wa : List Int} {s a b : Int} (ha : 1 ≤ a ∧ a ≤ 4) (hb : 1 ≤ b ∧ b ≤ 4)
    (hsv : ∀ (s a b : Int) (x y z : Ag) (K : D → Fl → Prop), 0 ≤ s ∧ s < 10000 → 1 ≤ a ∧ a ≤ 4 → 1 ≤ b ∧ b ≤ 4 → (∀ R G B, PaintedF fn (16 * s) a b R G B → K (.tup [fltD R, fltD G, fltD B]) .cl) → fn 0 [.flt (fx (16 * s)) x, .flt (fx (1024 * a)) y, .flt (fx (1024 * b)) z] K)
    (hs : 0 ≤ s ∧ s < 10000) (hc : ∀ c ∈ cs, 0 ≤ c ∧ c < 256) (hl : wa.length = cs.length) (hn : cs.length ≤ 1000)
    (h1q : cs.contains (s.fmod 256) = true → ∀ s21 s22 s23 s24 s25 s26, Q .next (σD ls h0 h1 h2 h3 tn B R (.flt (fx (1024 * a)) .old) (.flt (fx (1024 * b)) .old) sp ti ro s2 s3 s6 s14 s15 s16 s17 (.cl (.int s)) (seenD .old cs) (wa.set (cs.idxOf (s.fmod 256)) (wa.getD (cs.idxOf (s.fmod 256)) 0 + 1)) s21 s22 s23 s24 s25 s26))
    (h2q : cs.contains (s.fmod 256) = false → ∀ s21 s22 s23 s24 s25 s26, Q .next (σD ls h0 h1 h2 h3 tn B R (.flt (fx (1024 * a)) .old) (.flt (fx (1024 * b)) .old) sp ti ro s2 s3 s6 s14 s15 s16 s17 (.cl (.int s)) (seenD .old cs ++ [.flt (fx (16 * (s.fmod 256))) .new]) (wa ++ [1]) s21 s22 s23 s24 s25 s26)) :
    wSs (tabW p fn ind) l3b10 (σD ls h0 h1 h2 h3 tn B R (.flt (fx (1024 * a)) .old) (.flt (fx (1024 * b)) .old) sp ti ro s2 s3 s6 s14 s15 s16 s17 (.cl (.int s)) (seenD .old cs) wa s21 s22 s23 s24 s25 s26) Q := by
  have e256 : divII s 256 = fx (16 * s) := divII_fx _ (by omega) (by decide) hs.1 (by omega)
  have i256 : Float64.isInf (divII s 256) = false := by rw [e256]; exact isInf_fx (by omega)
  have r0 : 0 ≤ s.fmod 256 ∧ s.fmod 256 < 256 := by rw [Int.fmod_eq_emod_of_nonneg _ (by decide)]; omega
  have eH : (16 * s).fmod 4096 = 16 * s.fmod 256 := by rw [Int.fmod_eq_emod_of_nonneg _ (by decide), Int.fmod_eq_emod_of_nonneg _ (by decide)]; omega
  have e1 : divII (s.fmod 256) 256 = fx (16 * s.fmod 256) := divII_fx _ (by omega) (by decide) r0.1 (by omega)
  have i1 : Float64.isInf (divII (s.fmod 256) 256) = false := by rw [e1]; exact isInf_fx (by omega)
  have q1 : (16 * s.fmod 256).natAbs < 2 ^ 44 := by omega
  have q2 : (1024 * a).natAbs < 2 ^ 44 := by omega
  have q3 : (1024 * b).natAbs < 2 ^ 44 := by omega
  have z2i : Float64.isInf (Float64.ofInt 2) = false := by decide +kernel
  have z2z : Float64.isZero (Float64.ofInt 2) = false := by decide +kernel
  have eL : Float64.sub (fx (1024 * b)) (Float64.div (Float64.mul (fx (1024 * b)) (fx (1024 * a))) (Float64.ofInt 2)) = fx (1024 * b - 128 * (a * b)) := by
    have ab1 : 0 ≤ a * b := Int.mul_nonneg (by omega) (by omega)
    have ab2 : a * b ≤ 4 * b := Int.mul_le_mul_of_nonneg_right ha.2 (by omega)
    have hp : 1024 * b * (1024 * a) = 256 * (a * b) * 4096 := by rw [mmc, Int.mul_comm b a]; omega
    rw [mulS (256 * (a * b)) hp q3 q2 (by omega) (by omega) (by omega), ofIntS (by decide), divS (128 * (a * b)) (by omega) (by decide) (by omega) (by decide) (by omega), subS q3 (by omega)]
  have q4 : (1024 * b - 128 * (a * b)).natAbs < 2 ^ 44 := by
    have ab1 : 0 ≤ a * b := Int.mul_nonneg (by omega) (by omega)
    have ab2 : a * b ≤ 4 * b := Int.mul_le_mul_of_nonneg_right ha.2 (by omega)
    omega
  have n4 : Float64.isNaN (fx (1024 * b - 128 * (a * b))) = false := isNaN_fx (Nat.lt_of_lt_of_le q4 (by decide))
  have n1 : Float64.isNaN (fx (16 * s.fmod 256)) = false := isNaN_fx (by omega)
  have n2 : Float64.isNaN (fx (1024 * a)) = false := isNaN_fx (by omega)
  have n3 : Float64.isNaN (fx (1024 * b)) = false := isNaN_fx (by omega)
  walk_at "go"
  rw [e256]
  refine hsv s a b _ _ _ _ hs ha hb fun RR GG BB hP => ?_
  walk_at "go"
  refine hP.1 _ fun g => ?_
  rw [eH]
  walk_at "go"
  rw [e1]
  refine ⟨⟨by simp [cmpL, cmpb, eqS q1 q1, eqS q2 q2, eqS q3 q3, n1, n2, n3], by simp [depL, dep]⟩, ?_⟩
  have eq : eqdL [.flt (fx (16 * s.fmod 256)) .new, .flt (fx (1024 * a)) .new, .flt (fx (1024 * b)) g] [.flt (fx (16 * s.fmod 256)) .new, .flt (fx (1024 * a)) .old, .flt (fx (1024 * b)) .old] = true := by
    simp [eqdL, eqd, eqS q1 q1, eqS q2 q2, eqS q3 q3]
  rw [eq]
  conv => whnf
  refine ⟨(fun h => absurd h (by decide)), fun _ => ?_⟩
  walk_at "go"
  refine ⟨(seen_ok r0 hc).1, ?_⟩
  rw [(seen_ok r0 hc).2]
  conv => whnf
  refine ⟨fun hin => ?_, fun hin => ?_⟩
  · have hin : cs.contains (s.fmod 256) = false := by simpa using hin
    walk_at "go"
    refine hP.2 _ fun s8 => ?_
    rw [eH]
    walk_at "go"
    rw [eL]
    refine ⟨⟨by simp [cmpL, cmpb, eqS q1 q1, eqS q4 q4, n1, n4], by simp [depL, dep]⟩, ?_⟩
    have eq2 : eqdL [.flt (fx (16 * s.fmod 256)) .new, .flt (fx (1024 * b - 128 * (a * b))) .new] [.flt (fx (16 * s.fmod 256)) .new, .flt (fx (1024 * b - 128 * (a * b))) .new] = true := by simp [eqdL, eqd]
    rw [eq2]
    conv => whnf
    refine ⟨(fun h => absurd h (by decide)), fun _ => ?_⟩
    walk_at "go"
    refine ⟨by simp [seenD]; omega, ?_⟩
    walk_at "go"
    refine ⟨⟨seen_snoc r0 hc, by simp [seenD]; omega⟩, ?_⟩
    refine optW_in (d := cs.length) (by have h1 := (seen_ok r0 (cs := []) (by simp)); rw [idx_seen (tail := [.flt (fx (16 * s.fmod 256)) .new]) r0 cs hc, hin]; simp [idxF, inF, eqS q1 q1]) ?_
    have ew : wa.map D.int ++ [D.int 0] = (wa ++ [0]).map D.int := by simp
    rw [ew]
    walk_at "go"
    refine optW_in (atI_map (l := wa ++ [0]) (b := cs.length) (by simp; omega)) ?_
    walk_at "go"
    refine optW_in (d := cs.length) (by rw [List.length_map]; exact posI_in (by simp; omega)) ?_
    refine ⟨⟨by omega, by omega, by omega⟩, ?_⟩
    have ew2 : ((wa ++ [0]).map D.int).set cs.length (D.int ((wa ++ [0]).getD cs.length 0 + 1)) = (wa ++ [1]).map D.int := by
      rw [← List.map_set, ← hl]
      congr 1
      simp [List.getD_eq_getElem?_getD]
    rw [ew2]
    exact h2q hin _ _ _ _ _ _
  · have hin : cs.contains (s.fmod 256) = true := by simpa using hin
    walk_at "go"
    have hlt : cs.idxOf (s.fmod 256) < cs.length := List.idxOf_lt_length_of_mem (List.contains_iff_mem.mp hin)
    refine ⟨⟨(seen_ok r0 hc).1, by simp [seenD]; omega⟩, ?_⟩
    refine optW_in (d := cs.idxOf (s.fmod 256)) (by have := idx_seen (tail := []) r0 cs hc; rw [List.append_nil] at this; rw [this, hin]; rfl) ?_
    walk_at "go"
    refine optW_in (atI_map (l := wa) (b := cs.idxOf (s.fmod 256)) (by omega)) ?_
    walk_at "go"
    refine optW_in (d := cs.idxOf (s.fmod 256)) (by rw [List.length_map]; exact posI_in (by omega)) ?_
    refine ⟨⟨by omega, by omega, by omega⟩, ?_⟩
    rw [← List.map_set]
    exact h1q hin _ _ _ _ _ _
end
end Mine

end

section
open PySem PySem.W PyProof.Rows
set_option Elab.async false
set_option linter.unusedVariables false
set_option linter.unusedSimpArgs false
set_option maxRecDepth 8000
set_option maxHeartbeats 4000000
namespace Mine
theorem setL_int (g : Ag) (l : List Int) : D.setL g (l.map D.int) = l.map D.int := by
  rw [D.setL_eq, List.map_map]; exact List.map_congr_left fun a _ => by simp [D.setA]
theorem setL_str (g : Ag) (l : List (List Nat)) : D.setL g (l.map D.str) = l.map D.str := by
  rw [D.setL_eq, List.map_map]; exact List.map_congr_left fun a _ => by simp [D.setA]
theorem setL_tup (g : Ag) (l : List (Int × Int)) : D.setL g (l.map tupD) = l.map tupD := by
  rw [D.setL_eq, List.map_map]; exact List.map_congr_left fun a _ => by simp [tupD, D.setA, D.setL]
theorem setL_row (g : Ag) (l : List (List (List Nat))) : D.setL g (l.map fun r => .lst (r.map D.str)) = l.map fun r => .lst (r.map D.str) := by
  rw [D.setL_eq, List.map_map]; exact List.map_congr_left fun a _ => by simp only [Function.comp_apply, D.setA, setL_str]
theorem setL_seen (g g' : Ag) (cs : List Int) : D.setL g (seenD g' cs) = seenD g cs := by
  unfold seenD; rw [D.setL_eq, List.map_map]; exact List.map_congr_left fun a _ => by simp [D.setA]
theorem setL_app (g : Ag) (a b : List D) : D.setL g (a ++ b) = D.setL g a ++ D.setL g b := by rw [D.setL_eq, D.setL_eq, D.setL_eq, List.map_append]
theorem σD_set {g ga gb : Ag} {l : List Int} {h0 h1 h2 h3 : Int} {tn : List (Int × Int)} {B R : Int} {x y : UInt64} {sp ti : List Int} {ro : List (List (List Nat))} {s2 s3 s6 s14 s15 s16 s17 s18 : Slot} {se : List D} {wa : List Int} {s21 s22 s23 s24 s25 s26 : Slot} :
    (σD (l.map D.int) h0 h1 h2 h3 tn B R (.flt x ga) (.flt y gb) sp ti ro s2 s3 s6 s14 s15 s16 s17 s18 se wa s21 s22 s23 s24 s25 s26).map (Slot.setA g) =
    σD (l.map D.int) h0 h1 h2 h3 tn B R (.flt x g) (.flt y g) sp ti ro (s2.setA g) (s3.setA g) (s6.setA g) (s14.setA g) (s15.setA g) (s16.setA g) (s17.setA g) (s18.setA g) (D.setL g se) wa (s21.setA g) (s22.setA g) (s23.setA g) (s24.setA g) (s25.setA g) (s26.setA g) := by
  unfold σD
  simp only [List.map_cons, List.map_replicate, Slot.setA, D.setA, setL_int, setL_str, setL_tup, setL_row, D.setL]
def bump (st : List Int × List Int) (r : Int) : List Int × List Int :=
  if st.1.contains r then (st.1, st.2.set (st.1.idxOf r) (st.2.getD (st.1.idxOf r) 0 + 1)) else (st.1 ++ [r], st.2 ++ [1])
theorem bump_len (st r) (h : st.2.length = st.1.length) : (bump st r).2.length = (bump st r).1.length ∧ (bump st r).1.length ≤ st.1.length + 1 := by
  unfold bump
  split
  · simp [h]
  · simp [h]
section
variable {p : Pg} {fn : Fnc} {ind : D → List D → (D → Fl → Prop) → Prop} {Q : Flw → List Slot → Prop}
abbrev stepA (T : Tab) (σ : List Slot) (Q : Flw → List Slot → Prop) : Prop := wSs T l3b10 (σ.map (Slot.setA .old)) fun f σ' => Q (f.setA .any) (σ'.map (Slot.setA .any))
theorem l3_hues {l : List Int} {h0 h1 h2 h3 : Int} {tn : List (Int × Int)} {B R : Int} {sp ti : List Int} {ro : List (List (List Nat))} {a b : Int} (ha : 1 ≤ a ∧ a ≤ 4) (hb : 1 ≤ b ∧ b ≤ 4)
    (hsv : ∀ (s a b : Int) (x y z : Ag) (K : D → Fl → Prop), 0 ≤ s ∧ s < 10000 → 1 ≤ a ∧ a ≤ 4 → 1 ≤ b ∧ b ≤ 4 → (∀ R G B, PaintedF fn (16 * s) a b R G B → K (.tup [fltD R, fltD G, fltD B]) .cl) → fn 0 [.flt (fx (16 * s)) x, .flt (fx (1024 * a)) y, .flt (fx (1024 * b)) z] K) :
    ∀ (sl : List Int) (cs wa : List Int) (ga gb : Ag) (s2 s3 s6 s14 s15 s16 s17 s18 s21 s22 s23 s24 s25 s26 : Slot) (g : Ag), (∀ s ∈ sl, 0 ≤ s ∧ s < 10000) → (∀ c ∈ cs, 0 ≤ c ∧ c < 256) → wa.length = cs.length → cs.length + sl.length ≤ 1000 →
    (∀ ga gb s2 s3 s6 s14 s15 s16 s17 s18 s21 s22 s23 s24 s25 s26 g, Q .next (σD (l.map D.int) h0 h1 h2 h3 tn B R (.flt (fx (1024 * a)) ga) (.flt (fx (1024 * b)) gb) sp ti ro s2 s3 s6 s14 s15 s16 s17 s18 (seenD g ((sl.map (·.fmod 256)).foldl bump (cs, wa)).1) ((sl.map (·.fmod 256)).foldl bump (cs, wa)).2 s21 s22 s23 s24 s25 s26)) →
    forW [18] (stepA (tabW p fn ind)) (fun σ Q => wSs (tabW p fn ind) .nil σ Q) (sl.map D.int) (σD (l.map D.int) h0 h1 h2 h3 tn B R (.flt (fx (1024 * a)) ga) (.flt (fx (1024 * b)) gb) sp ti ro s2 s3 s6 s14 s15 s16 s17 s18 (seenD g cs) wa s21 s22 s23 s24 s25 s26) Q
  | [], cs, wa, ga, gb, s2, s3, s6, s14, s15, s16, s17, s18, s21, s22, s23, s24, s25, s26, g, hs, hc, hl, hn, h => by
    show wSs (tabW p fn ind) .nil _ Q
    conv => whnf
    exact h _ _ _ _ _ _ _ _ _ _ _ _ _ _ _ _ _
  | s :: sl, cs, wa, ga, gb, s2, s3, s6, s14, s15, s16, s17, s18, s21, s22, s23, s24, s25, s26, g, hs, hc, hl, hn, h => by
    have hs0 := hs s List.mem_cons_self
    have r0 : 0 ≤ s.fmod 256 ∧ s.fmod 256 < 256 := by rw [Int.fmod_eq_emod_of_nonneg _ (by decide)]; omega
    have hlen : cs.length + (sl.length + 1) ≤ 1000 := hn
    rw [List.map_cons]
    show optW (tgtS [18] (.int s)) _
    refine optW_in (d := [(18, .cl (.int s))]) rfl ?_
    have e0 : setAll [(18, Slot.cl (D.int s))] (σD (l.map D.int) h0 h1 h2 h3 tn B R (.flt (fx (1024 * a)) ga) (.flt (fx (1024 * b)) gb) sp ti ro s2 s3 s6 s14 s15 s16 s17 s18 (seenD g cs) wa s21 s22 s23 s24 s25 s26) = σD (l.map D.int) h0 h1 h2 h3 tn B R (.flt (fx (1024 * a)) ga) (.flt (fx (1024 * b)) gb) sp ti ro s2 s3 s6 s14 s15 s16 s17 (.cl (.int s)) (seenD g cs) wa s21 s22 s23 s24 s25 s26 := rfl
    rw [e0]
    unfold stepA
    rw [σD_set, setL_seen]
    have e18 : Slot.setA .old (.cl (.int s)) = .cl (.int s) := by simp [Slot.setA, D.setA]
    rw [e18]
    rw [List.map_cons, List.foldl_cons] at h
    refine l3_hue ha hb hsv hs0 hc hl (by omega) (fun hin s21 s22 s23 s24 s25 s26 => ?_) (fun hin s21 s22 s23 s24 s25 s26 => ?_)
    · rw [σD_set, setL_seen]
      have eb : bump (cs, wa) (s.fmod 256) = (cs, wa.set (cs.idxOf (s.fmod 256)) (wa.getD (cs.idxOf (s.fmod 256)) 0 + 1)) := by unfold bump; rw [if_pos hin]
      rw [eb] at h
      exact l3_hues ha hb hsv sl cs _ _ _ _ _ _ _ _ _ _ _ _ _ _ _ _ _ _ (fun t ht => hs t (List.mem_cons_of_mem _ ht)) hc (by simp [hl]) (by omega) h
    · rw [σD_set, setL_app, setL_seen]
      have e1 : seenD .any cs ++ D.setL .any [D.flt (fx (16 * s.fmod 256)) .new] = seenD .any (cs ++ [s.fmod 256]) := by unfold seenD; simp [D.setL, D.setA]
      rw [e1]
      have eb : bump (cs, wa) (s.fmod 256) = (cs ++ [s.fmod 256], wa ++ [1]) := by unfold bump; rw [if_neg (by rw [hin]; decide)]
      rw [eb] at h
      refine l3_hues ha hb hsv sl _ _ _ _ _ _ _ _ _ _ _ _ _ _ _ _ _ _ _ (fun t ht => hs t (List.mem_cons_of_mem _ ht)) (fun c hc' => ?_) (by simp [hl]) (by simp; omega) h
      rcases List.mem_append.mp hc' with h | h
      · exact hc c h
      · rw [List.mem_singleton] at h; rw [h]; exact r0
end
end Mine

end

section
open PySem PySem.W PyProof.Rows
set_option Elab.async false
set_option linter.unusedVariables false
set_option linter.unusedSimpArgs false
set_option maxRecDepth 8000
set_option maxHeartbeats 4000000
namespace Mine
local macro_rules | `(tactic| walk_at "one") => `(tactic| first
  | refine cleanI ?_
  | refine cleanT ?_
  | refine cleanF ?_
  | (with_reducible refine compT ?_)
  | (refine And.intro ?_ ?_; · (first | (exact rfl) | assumption | decide | (simp only [List.length_map, List.length_cons, List.length_nil, List.length_append]; omega) | (refine And.intro ?_ ?_ <;> first | assumption | omega | decide))))
local macro_rules | `(tactic| walk_at "go") => `(tactic| ((conv => whnf); (repeat (walk_at "one"; (conv => whnf)))))
def σE (j : Nat → Slot) (B R : Int) (ti : List Int) (ro : List (List (List Nat))) (wa : List Int) (s27 s28 s29 s30 s31 s32 s33 s34 : Slot) : List Slot :=
  [j 0, j 1, j 2, j 3, j 4, j 5, j 6, .cl (.int B), .cl (.int R), j 9, j 10, j 11, .cl (.lst (ti.map D.int)), .cl (.lst (ro.map fun r => .lst (r.map D.str))), j 14, j 15, j 16, j 17, j 18, j 19, .rt (.lst (wa.map D.int)), j 21, j 22, j 23, j 24, j 25, j 26, s27, s28, s29, s30, s31, s32, s33, s34]
def text (B c : Nat) : List Nat := if c = 0 then [48, 120, 48] else joinL [44, 32] ((ro5 B).getD c [])
def textsD (B : Nat) : D := .lst ((List.range 32).map fun c => .str (text B c))
theorem cmpL_str : ∀ (a b : List (List Nat)), cmpL (a.map D.str) (b.map D.str) = true
  | [], b => by cases b <;> simp [cmpL]
  | a :: l, [] => by simp [cmpL]
  | a :: l, b :: m => by simp [cmpL, cmpb, cmpL_str l m]
theorem depL_str : ∀ (a : List (List Nat)), depL (a.map D.str) = 0
  | [] => rfl
  | a :: l => by simp [depL, dep, depL_str l]
theorem eqdL_str : ∀ (a : List (List Nat)), eqdL (a.map D.str) (a.map D.str) = true
  | [] => rfl
  | a :: l => by simp [eqdL, eqd, eqdL_str l]
section
variable {p : Pg} {fn : Fnc} {ind : D → List D → (D → Fl → Prop) → Prop} {Q : Flw → List Slot → Prop}
theorem l3_pA {tl : Ss} {ls : List D} {h0 h1 h2 h3 : Int} {tn : List (Int × Int)} {B : Nat} {R : Int} {sh li : D} {sp ti : List Int} {s2 s3 s6 s14 s15 s16 s17 s18 : Slot} {se : List D} {wa : List Int} {s21 s22 s23 s24 s25 s26 : Slot} (hB : B < 4)
    (hfl : ∀ (c : Nat) (K : D → Fl → Prop), c < 32 → K (.str (text B c)) .cl → fn 3 [.int ((c : Int) * 2 ^ B)] K)
    (htx : (List.range 32).map (text B) = [[48, 120, 48]] ++ ((ro5 B).drop 1).map (joinL [44, 32])) (hlen : ∀ r ∈ ro5 B, (r.map (·.length)).sum + r.length * 2 ≤ 1000)
    (h : ∀ j, wSs (tabW p fn ind) tl (σE j B R ti (ro5 B) wa .un (.cl (textsD B)) .un .un .un .un .un .un) Q) :
    wSs (tabW p fn ind) (l3pA tl) (σD ls h0 h1 h2 h3 tn B R sh li sp ti (ro5 B) s2 s3 s6 s14 s15 s16 s17 s18 se wa s21 s22 s23 s24 s25 s26) Q := by
  conv => whnf
  refine ⟨rfl, ?_⟩
  conv => whnf
  refine ⟨rfl, ?_⟩
  conv => whnf
  refine ⟨⟨by decide, by decide⟩, ?_⟩
  refine ⟨by decide, ?_⟩
  rw [show rngD 0 32 = (List.range 32).map fun (k : Nat) => D.int (0 + (k : Int)) from rfl]
  refine mapW_all (f := fun (k : Nat) => D.int (0 + (k : Int))) (g := fun c => D.str (text B c)) (List.range 32) [] (fun c hc K' hk => ?_) ?_
  · have hc := List.mem_range.mp hc
    conv => whnf
    refine compT ?_
    conv => whnf
    refine ⟨⟨by omega, by omega, by omega, by omega⟩, ?_⟩
    conv => whnf
    rw [Int.zero_add, Int.toNat_natCast]
    exact hfl c _ hc ⟨cleanS rfl, hk⟩
  rw [List.nil_append]
  walk_at "go"
  refine ⟨by rw [List.length_map, ro5_len]; decide, ?_⟩
  have ecut : cut ((ro5 B).map fun r => D.lst (r.map D.str)) (some 1) none = ((ro5 B).drop 1).map fun r => D.lst (r.map D.str) := by
    unfold cut clipN
    rw [List.length_map, ro5_len]
    show List.take 31 (List.drop 1 _) = _
    rw [← List.map_drop, List.take_of_length_le (by rw [List.length_map, List.length_drop, ro5_len]; decide)]
  rw [ecut]
  conv => whnf
  refine ⟨by rw [List.length_map, List.length_drop, ro5_len]; decide, ?_⟩
  refine ⟨by rw [List.length_map, List.length_drop, ro5_len]; decide, ?_⟩
  refine mapW_all (f := fun r : List (List Nat) => D.lst (r.map D.str)) (g := fun r => D.str (joinL [44, 32] r)) ((ro5 B).drop 1) [] (fun r hr K' hk => ?_) ?_
  · have hr' := hlen r (List.mem_of_mem_drop hr)
    conv => whnf
    refine compT ?_
    conv => whnf
    refine ⟨r, rfl, by simp; omega, ?_⟩
    exact ⟨cleanS rfl, hk⟩
  rw [List.nil_append]
  conv => whnf
  refine ⟨by simp [ro5_len], ?_⟩
  have e1 : (List.range 32).map (fun c => D.str (text B c)) = ((List.range 32).map (text B)).map D.str := by rw [List.map_map]; rfl
  have e2 : [D.str [48, 120, 48]] ++ ((ro5 B).drop 1).map (fun r => D.str (joinL [44, 32] r)) = ((List.range 32).map (text B)).map D.str := by rw [htx, List.map_append, List.map_map]; rfl
  rw [e2]
  conv => whnf
  rw [e1]
  refine ⟨⟨cmpL_str _ _, by rw [depL_str]; decide⟩, ?_⟩
  rw [eqdL_str]
  conv => whnf
  refine ⟨(fun h => absurd h (by decide)), fun _ => ?_⟩
  conv => whnf
  rw [← e1]
  exact h (fun i => (((((σD ls h0 h1 h2 h3 tn (B : Int) R sh li sp ti (ro5 B) s2 s3 s6 s14 s15 s16 s17 s18 se wa s21 s22 s23 s24 s25 s26).set 19 (.rt (.lst se)))[i]?).getD .un)))
end
end Mine

end

section
open PySem PySem.W PyProof.Rows
set_option Elab.async false
set_option linter.unusedVariables false
set_option linter.unusedSimpArgs false
set_option maxRecDepth 8000
set_option maxHeartbeats 4000000
namespace Mine
local macro_rules | `(tactic| walk_at "one") => `(tactic| first
  | refine cleanI ?_
  | refine cleanT ?_
  | refine cleanF ?_
  | (with_reducible refine compT ?_)
  | (refine And.intro ?_ ?_; · (first | (exact rfl) | assumption | decide | (simp only [List.length_map, List.length_cons, List.length_nil, List.length_append]; omega) | (refine And.intro ?_ ?_ <;> first | assumption | omega | decide))))
local macro_rules | `(tactic| walk_at "go") => `(tactic| ((conv => whnf); (repeat (walk_at "one"; (conv => whnf)))))
theorem mapW_filt {α : Type} {f g : α → D} {pr : α → Bool} {step : D → (Option D → Prop) → Prop} {K : List D → Prop} : ∀ (l : List α) (acc : List D), (∀ a ∈ l, (pr a = true → ∀ K' : Option D → Prop, K' (some (g a)) → step (f a) K') ∧ (pr a = false → ∀ K' : Option D → Prop, K' none → step (f a) K')) → K (acc ++ (l.filter pr).map g) → mapW step acc (l.map f) K
  | [], acc, hs, h => by simpa [mapW] using h
  | a :: l, acc, hs, h => by
    rw [List.map_cons]
    unfold mapW
    have h0 := hs a List.mem_cons_self
    cases hp : pr a with
    | true =>
      refine h0.1 hp _ ?_
      refine mapW_filt l _ (fun b hb => hs b (List.mem_cons_of_mem _ hb)) ?_
      rw [List.filter_cons, if_pos hp, List.map_cons] at h
      simpa using h
    | false =>
      refine h0.2 hp _ ?_
      refine mapW_filt l _ (fun b hb => hs b (List.mem_cons_of_mem _ hb)) ?_
      rw [List.filter_cons, if_neg (by rw [hp]; decide)] at h
      exact h
def sz (B r : Nat) : Nat := ((ro5 B).getD r []).length
def want (B r : Nat) : List Nat := [46, 46, 46] ++ replL (text B r) [44, 32] [46, 46, 46] ++ [46, 46, 46]
def rings (ti : List Int) : List Nat := ((List.range 31).map (1 + ·)).filter fun r => ti.getD r 0 == 0
def wantD (B r : Nat) : D := .tup [.int (sz B r : Nat), .str (want B r)]
def heldN (B : Nat) (ti : List Int) (c : Nat) : Nat := (((rings ti).filter fun r => decide (sz B r ≤ sz B c)).filter fun r => (r &&& c) == r).length
theorem atI_row {B k : Nat} (h : k < 32) : atI ((ro5 B).map fun r => D.lst (r.map D.str)) (k : Int) = some (.lst (((ro5 B).getD k []).map D.str)) := by
  refine atI_mapD (f := fun r : List (List Nat) => D.lst (r.map D.str)) ?_
  rw [List.getD_eq_getElem?_getD, List.getElem?_eq_getElem (by rw [ro5_len]; exact h)]; rfl
theorem atI_text {B k : Nat} (h : k < 32) : atI ((List.range 32).map fun c => D.str (text B c)) (k : Int) = some (.str (text B k)) := by
  refine atI_mapD (f := fun c => D.str (text B c)) ?_
  rw [List.getElem?_range h]
section
variable {p : Pg} {fn : Fnc} {ind : D → List D → (D → Fl → Prop) → Prop} {Q : Flw → List Slot → Prop}
theorem l3_wants {tl : Ss} {j : Nat → Slot} {B : Nat} {R : Int} {ti wa : List Int} {s27 s29 s30 s31 s32 s33 s34 : Slot} (hti : ti.length = 32) (hrow : ∀ r ∈ ro5 B, r.length ≤ 1000) (htl : ∀ c, c < 32 → (text B c).length ≤ 1000) (hrl : ∀ c, c < 32 → (replL (text B c) [44, 32] [46, 46, 46]).length ≤ 10000)
    (h : wSs (tabW p fn ind) tl (σE j B R ti (ro5 B) wa s27 (.cl (textsD B)) (.cl (.lst ((rings ti).map (wantD B)))) s30 s31 s32 s33 s34) Q) :
    wSs (tabW p fn ind) (.cons l3s13 tl) (σE j B R ti (ro5 B) wa s27 (.cl (textsD B)) s29 s30 s31 s32 s33 s34) Q := by
  conv => whnf
  refine ⟨⟨⟨by decide, by decide⟩, ⟨by decide, by decide⟩⟩, ?_⟩
  refine ⟨by decide, ?_⟩
  rw [show rngD 1 32 = ((List.range 31).map (1 + ·)).map fun (k : Nat) => D.int ((k : Int)) from rfl]
  refine mapW_filt (f := fun (k : Nat) => D.int (k : Int)) (g := wantD B) (pr := fun r => ti.getD r 0 == 0) ((List.range 31).map (1 + ·)) [] (fun r hr => ?_) ?_
  · obtain ⟨k, hk, rfl⟩ := List.mem_map.mp hr
    have hk := List.mem_range.mp hk
    have sr : small ((1 + k : Nat) : Int) := ⟨by omega, by omega⟩
    have hr32 : 1 + k < 32 := by omega
    generalize 1 + k = r at *
    refine ⟨fun hp K' hk' => ?_, fun hp K' hk' => ?_⟩
    · have hrowl : ((ro5 B).getD r []).length ≤ 1000 := by
        refine hrow _ ?_
        rw [List.getD_eq_getElem?_getD, List.getElem?_eq_getElem (by rw [ro5_len]; exact hr32)]
        exact List.getElem_mem _
      have ht := htl r hr32
      have hr' := hrl r hr32
      conv => whnf
      refine ⟨sr, ?_⟩
      refine optW_in (atI_map (l := ti) (b := r) (by omega)) ?_
      conv => whnf
      refine ⟨fun _ => ?_, fun h => absurd (hp.symm.trans h) (by decide)⟩
      conv => whnf
      refine ⟨sr, ?_⟩
      refine optW_in (atI_row hr32) ?_
      conv => whnf
      refine ⟨by simp only [List.length_map]; omega, ?_⟩
      conv => whnf
      refine ⟨cleanS rfl, ?_⟩
      conv => whnf
      refine ⟨sr, ?_⟩
      refine optW_in (atI_text hr32) ?_
      conv => whnf
      refine ⟨by simp; omega, ?_⟩
      conv => whnf
      refine ⟨by simp; omega, ?_⟩
      conv => whnf
      refine ⟨by simp; omega, ?_⟩
      conv => whnf
      refine ⟨cleanS rfl, ?_⟩
      conv => whnf
      refine ⟨by simp, ?_⟩
      refine ⟨rfl, ?_⟩
      rw [List.length_map]
      exact hk'
    · conv => whnf
      refine ⟨sr, ?_⟩
      refine optW_in (atI_map (l := ti) (b := r) (by omega)) ?_
      conv => whnf
      refine ⟨fun h => absurd (hp.symm.trans h) (by decide), fun _ => ?_⟩
      exact hk'
  rw [List.nil_append]
  conv => whnf
  exact h
theorem rings_mem {ti : List Int} {r : Nat} (h : r ∈ rings ti) : 1 ≤ r ∧ r < 32 := by
  unfold rings at h
  obtain ⟨k, hk, rfl⟩ := List.mem_map.mp (List.mem_filter.mp h).1
  have := List.mem_range.mp hk
  omega
theorem rings_len (ti : List Int) : (rings ti).length ≤ 31 := by
  unfold rings
  refine Nat.le_trans (List.length_filter_le _ _) ?_
  simp
def natD (n : Nat) : D := .int (n : Int)
theorem l3_held {j : Nat → Slot} {B : Nat} {R : Int} {ti wa : List Int} {s31 s33 s34 : Slot} (hrow : ∀ r ∈ ro5 B, r.length ≤ 1000)
    (hel : ∀ (r c : Nat) (K : D → Fl → Prop), 1 ≤ r ∧ r < 32 → c < 32 → sz B r ≤ sz B c → K (.bool ((r &&& c) == r)) .cl → fn 4 [.str (want B r), .str (text B c)] K) : ∀ (cs hl : List Nat) (s27 s32 : Slot), (∀ c ∈ cs, c < 32) → hl.length + cs.length ≤ 1000 →
    (∀ s27 s32, Q .next (σE j B R ti (ro5 B) wa s27 (.cl (textsD B)) (.cl (.lst ((rings ti).map (wantD B)))) (.ow (.lst ((hl ++ cs.map (heldN B ti)).map natD))) s31 s32 s33 s34)) →
    forW [27] (fun σ Q => wSs (tabW p fn ind) l3b15 σ Q) (fun σ Q => wSs (tabW p fn ind) .nil σ Q) (cs.map fun (k : Nat) => D.int (0 + (k : Int))) (σE j B R ti (ro5 B) wa s27 (.cl (textsD B)) (.cl (.lst ((rings ti).map (wantD B)))) (.ow (.lst (hl.map natD))) s31 s32 s33 s34) Q
  | [], hl, s27, s32, hc, hn, h => by
    show wSs (tabW p fn ind) .nil _ Q
    conv => whnf
    have := h s27 s32
    simpa using this
  | c :: cs, hl, s27, s32, hc, hn, h => by
    have hc0 := hc c List.mem_cons_self
    have hrl := rings_len ti
    have sc : small (c : Int) := ⟨by omega, by omega⟩
    have hnl : hl.length + (cs.length + 1) ≤ 1000 := hn
    have hrowl : ((ro5 B).getD c []).length ≤ 1000 := by
      refine hrow _ ?_
      rw [List.getD_eq_getElem?_getD, List.getElem?_eq_getElem (by rw [ro5_len]; exact hc0)]
      exact List.getElem_mem _
    rw [List.map_cons]
    show optW (tgtS [27] (.int (0 + (c : Int)))) _
    rw [Int.zero_add]
    refine optW_in (d := [(27, .cl (.int (c : Int)))]) rfl ?_
    conv => whnf
    refine ⟨by simp; omega, ?_⟩
    refine ⟨by simp; omega, ?_⟩
    refine mapW_filt (f := wantD B) (g := fun r => D.str (want B r)) (pr := fun r => decide (sz B r ≤ sz B c)) (rings ti) [] (fun r hr => ?_) ?_
    · have e : decide (((sz B r : Nat) : Int) ≤ ((sz B c : Nat) : Int)) = decide (sz B r ≤ sz B c) := decide_eq_decide.mpr (by omega)
      refine ⟨fun hp K' hk => ?_, fun hp K' hk => ?_⟩
      · conv => whnf
        refine ⟨sc, ?_⟩
        refine optW_in (atI_row hc0) ?_
        conv => whnf
        refine ⟨by simp only [List.length_map]; omega, ?_⟩
        conv => whnf
        rw [List.length_map]
        refine ⟨fun _ => ?_, fun h => absurd ((e.trans hp).symm.trans h) (by decide)⟩
        conv => whnf
        exact ⟨cleanS rfl, hk⟩
      · conv => whnf
        refine ⟨sc, ?_⟩
        refine optW_in (atI_row hc0) ?_
        conv => whnf
        refine ⟨by simp only [List.length_map]; omega, ?_⟩
        conv => whnf
        rw [List.length_map]
        refine ⟨fun h => absurd ((e.trans hp).symm.trans h) (by decide), fun _ => ?_⟩
        exact hk
    rw [List.nil_append]
    have hf1 := List.length_filter_le (fun r => decide (sz B r ≤ sz B c)) (rings ti)
    conv => whnf
    refine ⟨by simp only [List.length_map]; omega, ?_⟩
    refine ⟨by simp only [List.length_map]; omega, ?_⟩
    refine mapW_filt (f := fun r => D.str (want B r)) (g := fun r => D.str (want B r)) (pr := fun r => (r &&& c) == r) ((rings ti).filter fun r => decide (sz B r ≤ sz B c)) [] (fun r hr => ?_) ?_
    · have hr32 := rings_mem (List.mem_filter.mp hr).1
      have hsz : sz B r ≤ sz B c := of_decide_eq_true (List.mem_filter.mp hr).2
      refine ⟨fun hp K' hk => ?_, fun hp K' hk => ?_⟩
      · conv => whnf
        refine ⟨sc, ?_⟩
        refine optW_in (atI_text hc0) ?_
        refine hel r c _ hr32 hc0 hsz ?_
        rw [hp]
        conv => whnf
        refine compT ?_
        conv => whnf
        exact ⟨cleanS rfl, hk⟩
      · conv => whnf
        refine ⟨sc, ?_⟩
        refine optW_in (atI_text hc0) ?_
        refine hel r c _ hr32 hc0 hsz ?_
        rw [hp]
        conv => whnf
        refine ⟨fun h => absurd h (by decide), fun _ => ?_⟩
        exact hk
    rw [List.nil_append]
    have hf2 := List.length_filter_le (fun r => (r &&& c) == r) ((rings ti).filter fun r => decide (sz B r ≤ sz B c))
    conv => whnf
    refine ⟨by simp only [List.length_map]; omega, ?_⟩
    refine ⟨cleanS rfl, ?_⟩
    refine ⟨by simp only [List.length_map]; omega, ?_⟩
    rw [List.length_map]
    conv => whnf
    have e : hl.map natD ++ [D.int (((((rings ti).filter fun r => decide (sz B r ≤ sz B c)).filter fun r => (r &&& c) == r).length : Nat) : Int)] = (hl ++ [heldN B ti c]).map natD := by rw [List.map_append]; rfl
    rw [e]
    refine l3_held hrow hel cs (hl ++ [heldN B ti c]) (.cl (.int (c : Int))) (.cl (.lst (((rings ti).filter fun r => decide (sz B r ≤ sz B c)).map fun r => D.str (want B r)))) (fun d hd => hc d (List.mem_cons_of_mem _ hd)) (by simp; omega) fun s27 s32 => ?_
    have := h s27 s32
    rw [List.map_cons] at this
    simpa using this
end
end Mine

end

section
open PySem PySem.W PyProof.Rows
set_option Elab.async false
set_option linter.unusedVariables false
set_option linter.unusedSimpArgs false
set_option maxRecDepth 8000
set_option maxHeartbeats 4000000
namespace Mine
local macro_rules | `(tactic| walk_at "one") => `(tactic| first
  | refine cleanI ?_
  | refine cleanT ?_
  | refine cleanF ?_
  | (with_reducible refine compT ?_)
  | (refine And.intro ?_ ?_; · (first | (exact rfl) | assumption | decide | (simp only [List.length_map, List.length_cons, List.length_nil, List.length_append]; omega) | (refine And.intro ?_ ?_ <;> first | assumption | omega | decide))))
local macro_rules | `(tactic| walk_at "go") => `(tactic| ((conv => whnf); (repeat (walk_at "one"; (conv => whnf)))))
theorem fold_nil : ∀ (l : List (List Nat)) (acc : Array Nat), ((l.map toS).foldl (fun acc p => acc ++ (toS []).cps ++ p.cps) acc).toList = acc.toList ++ l.flatten
  | [], acc => by simp
  | a :: l, acc => by
    rw [List.map_cons, List.foldl_cons, fold_nil l]
    simp [toS]
theorem joinL_nil (ls : List (List Nat)) : joinL [] ls = ls.flatten := by
  unfold joinL Txt.join Builtin.Str.glued
  cases ls with
  | nil => rfl
  | cons a l =>
    show ((l.map toS).foldl (fun acc p => acc ++ (toS []).cps ++ p.cps) (toS a).cps).toList = _
    rw [fold_nil]; simp [toS]
theorem repL_one (a n : Nat) : rep [a] n = List.replicate n a := by
  unfold rep
  induction n with
  | zero => rfl
  | succ n ih => rw [List.replicate_succ, List.flatten_cons, ih, List.replicate_succ]; rfl
section
variable {p : Pg} {fn : Fnc} {ind : D → List D → (D → Fl → Prop) → Prop} {Q : Flw → List Slot → Prop}
theorem l3_pB {tl : Ss} {j : Nat → Slot} {B : Nat} {R : Int} {ti wa : List Int} {s27 s29 s30 s31 s32 s33 s34 : Slot} (hti : ti.length = 32) (hrow : ∀ r ∈ ro5 B, r.length ≤ 1000) (htl : ∀ c, c < 32 → (text B c).length ≤ 1000) (hrl : ∀ c, c < 32 → (replL (text B c) [44, 32] [46, 46, 46]).length ≤ 10000)
    (hel : ∀ (r c : Nat) (K : D → Fl → Prop), 1 ≤ r ∧ r < 32 → c < 32 → sz B r ≤ sz B c → K (.bool ((r &&& c) == r)) .cl → fn 4 [.str (want B r), .str (text B c)] K)
    (h : ∀ s27 s29 s32, wSs (tabW p fn ind) tl (σE j B R ti (ro5 B) wa s27 (.cl (textsD B)) s29 (.rt (.lst (((List.range 32).map (heldN B ti)).map natD))) s31 s32 s33 s34) Q) :
    wSs (tabW p fn ind) (l3pB tl) (σE j B R ti (ro5 B) wa s27 (.cl (textsD B)) s29 s30 s31 s32 s33 s34) Q := by
  refine l3_wants hti hrow htl hrl ?_
  conv => whnf
  refine ⟨by simp, ?_⟩
  conv => whnf
  refine ⟨⟨by decide, by decide⟩, ?_⟩
  refine ⟨(fun h => nomatch h), ?_⟩
  rw [show rngD 0 32 = (List.range 32).map fun (k : Nat) => D.int (0 + (k : Int)) from rfl]
  refine l3_held (j := j) (R := R) (ti := ti) (wa := wa) (s31 := s31) (s33 := s33) (s34 := s34) hrow hel (List.range 32) [] s27 s32 (fun c hc => List.mem_range.mp hc) (by simp) fun s27 s32 => ?_
  conv => whnf
  refine ⟨rfl, ?_⟩
  exact h _ _ _
theorem l3_pC {tl : Ss} {j : Nat → Slot} {B rest : Nat} {ti : List Int} {wN held : List Nat} {s27 s28 s29 s31 s32 s33 s34 : Slot} (hr : rest < 3) (hh : held.length = 32) (hw : ∀ m ∈ wN, m ≤ 32) (hwl : wN.length ≤ 32)
    (hws : ∀ (ms : List Nat) (ch : Nat) (tail : List Nat) (K : D → Fl → Prop), (∀ m ∈ ms, m < 100000) → (ms.map (· + 1)).sum ≤ 1000000 → tail.length ≤ 1000 → ch = 48 → (∀ c ∈ tail, c < 128) → K (leadObj p (leadOf ms ++ List.replicate rest 32 ++ ch :: tail) ms rest) .cl → fn 5 [.str (leadOf ms ++ List.replicate rest 32 ++ ch :: tail)] K)
    (h : ∀ w1 w2, wSs (tabW p fn ind) tl (σE j B rest ti (ro5 B) (wN.map fun (n : Nat) => (n : Int)) s27 s28 s29 (.rt (.lst (held.map natD))) s31 s32 (.cl (leadObj p w1 (held.map (min · 2)) rest)) (.cl (leadObj p w2 wN rest))) Q) :
    wSs (tabW p fn ind) (l3pC tl) (σE j B rest ti (ro5 B) (wN.map fun (n : Nat) => (n : Int)) s27 s28 s29 (.rt (.lst (held.map natD))) s31 s32 s33 s34) Q := by
  have hm1 : ∀ m ∈ held.map (min · 2), m < 3 := fun m hm => by
    obtain ⟨k, _, rfl⟩ := List.mem_map.mp hm
    show min k 2 < 3; omega
  have hs1 := sumSucc_le (held.map (min · 2)) 3 hm1
  have hs2 := sumSucc_le wN 33 (fun m hm => by have := hw m hm; omega)
  conv => whnf
  refine ⟨by simp; omega, ?_⟩
  refine ⟨by simp; omega, ?_⟩
  refine mapW_all (f := natD) (g := fun m => D.str (List.replicate (min m 2) 32 ++ [9])) held [] (fun m hm K' hk => ?_) ?_
  · have e : (if (2 : Int) < (m : Int) then (2 : Int) else (m : Int)) = ((min m 2 : Nat) : Int) := by split <;> omega
    have hmm : min m 2 ≤ 2 := by omega
    conv => whnf
    refine compT ?_
    conv => whnf
    rw [e]
    refine ⟨⟨by omega, by omega, by simp; omega⟩, ?_⟩
    conv => whnf
    rw [repL_one, Int.toNat_natCast]
    refine ⟨by simp; omega, ?_⟩
    exact ⟨cleanS rfl, hk⟩
  rw [List.nil_append]
  have q1 : (held.map fun m => List.replicate (min m 2) 32 ++ [9]).flatten = leadOf (held.map (min · 2)) := by unfold leadOf; rw [List.map_map]; rfl
  have q2 : ((held.map fun m => List.replicate (min m 2) 32 ++ [9]).map (·.length)).sum ≤ 1000 := by
    rw [← List.length_flatten, q1, lead_len]; rw [List.length_map, hh] at hs1; omega
  have q3 : ((wN.map fun m => List.replicate m 32 ++ [9]).map (·.length)).sum ≤ 10000 := by
    have : (wN.map fun m => List.replicate m 32 ++ [9]).flatten = leadOf wN := rfl
    rw [← List.length_flatten, this, lead_len]; omega
  have ll1 : (leadOf (held.map (min · 2))).length ≤ 1000 := by rw [← q1, List.length_flatten]; exact q2
  have ll2 : (leadOf wN).length ≤ 10000 := by unfold leadOf; rw [List.length_flatten]; exact q3
  conv => whnf
  refine ⟨held.map fun m => List.replicate (min m 2) 32 ++ [9], by rw [List.map_map]; rfl, by simp only [List.length_nil, Nat.mul_zero, Nat.add_zero]; omega, ?_⟩
  rw [joinL_nil, q1]
  conv => whnf
  refine ⟨⟨by omega, by omega, by simp; omega⟩, ?_⟩
  conv => whnf
  rw [repL_one, Int.toNat_natCast]
  refine ⟨by simp; omega, ?_⟩
  conv => whnf
  refine ⟨by simp; omega, ?_⟩
  conv => whnf
  refine hws (held.map (min · 2)) 48 [9, 32] _ (fun m hm => by have := hm1 m hm; omega) (by rw [List.length_map, hh] at hs1; omega) (by simp) rfl (by simp) ?_
  conv => whnf
  refine ⟨by simp; omega, ?_⟩
  refine ⟨by simp; omega, ?_⟩
  rw [show (wN.map fun (n : Nat) => (n : Int)).map D.int = wN.map natD by rw [List.map_map]; rfl]
  refine mapW_all (f := natD) (g := fun m => D.str (List.replicate m 32 ++ [9])) wN [] (fun m hm K' hk => ?_) ?_
  · have hmm := hw m hm
    conv => whnf
    refine compT ?_
    conv => whnf
    refine ⟨⟨by omega, by omega, by simp; omega⟩, ?_⟩
    conv => whnf
    rw [repL_one, Int.toNat_natCast]
    refine ⟨by simp; omega, ?_⟩
    exact ⟨cleanS rfl, hk⟩
  rw [List.nil_append]
  conv => whnf
  refine ⟨wN.map fun m => List.replicate m 32 ++ [9], by rw [List.map_map]; rfl, by simp only [List.length_nil, Nat.mul_zero, Nat.add_zero]; omega, ?_⟩
  rw [joinL_nil, show (wN.map fun m => List.replicate m 32 ++ [9]).flatten = leadOf wN from rfl]
  conv => whnf
  refine ⟨⟨by omega, by omega, by simp; omega⟩, ?_⟩
  conv => whnf
  rw [repL_one, Int.toNat_natCast]
  refine ⟨by simp; omega, ?_⟩
  conv => whnf
  refine ⟨by simp; omega, ?_⟩
  conv => whnf
  refine hws wN 48 [32, 9] _ (fun m hm => by have := hw m hm; omega) (by omega) (by simp) rfl (by simp) ?_
  conv => whnf
  have h' := h (leadOf (held.map (min · 2)) ++ List.replicate rest 32 ++ 48 :: [9, 32]) (leadOf wN ++ List.replicate rest 32 ++ 48 :: [32, 9])
  exact h'
end
end Mine

end

section
open PySem PySem.W PyProof.Rows
set_option Elab.async false
set_option linter.unusedVariables false
set_option linter.unusedSimpArgs false
set_option maxRecDepth 8000
set_option maxHeartbeats 4000000
namespace Mine
local macro_rules | `(tactic| walk_at "one") => `(tactic| first
  | refine cleanI ?_
  | refine cleanT ?_
  | refine cleanF ?_
  | (with_reducible refine compT ?_)
  | (refine And.intro ?_ ?_; · (first | (exact rfl) | assumption | decide | (simp only [List.length_map, List.length_cons, List.length_nil, List.length_append]; omega) | (refine And.intro ?_ ?_ <;> first | assumption | omega | decide))))
local macro_rules | `(tactic| walk_at "go") => `(tactic| ((conv => whnf); (repeat (walk_at "one"; (conv => whnf)))))
theorem cmpL_int : ∀ (a b : List Int), cmpL (a.map D.int) (b.map D.int) = true
  | [], b => by cases b <;> simp [cmpL]
  | a :: l, [] => by simp [cmpL]
  | a :: l, b :: m => by simp [cmpL, cmpb, cmpL_int l m]
theorem depL_int : ∀ (a : List Int), depL (a.map D.int) = 0
  | [] => rfl
  | a :: l => by simp [depL, dep, depL_int l]
theorem eqdL_int : ∀ (a : List Int), eqdL (a.map D.int) (a.map D.int) = true
  | [] => rfl
  | a :: l => by simp [eqdL, eqd, eqdL_int l]
theorem count_cast (l : List Nat) (k : Nat) : (l.map fun (n : Nat) => (n : Int)).count (k : Int) = l.count k := by
  induction l with
  | nil => rfl
  | cons a l ih =>
    rw [List.map_cons, List.count_cons, List.count_cons, ih]
    congr 1
    by_cases h : a = k
    · subst h; simp
    · have : ¬ (a : Int) = (k : Int) := by omega
      simp [h, this]
theorem sum_step (l : List Nat) (t : Nat) : (l.map fun m => ((m / t : Nat) : Int) + 1).sum = (((l.map fun m => m / t).sum : Nat) : Int) + (l.length : Nat) := by
  induction l with
  | nil => rfl
  | cons a l ih => rw [List.map_cons, List.sum_cons, ih, List.map_cons, List.sum_cons, List.length_cons]; push_cast; omega
abbrev castL (l : List Nat) : List Int := l.map fun (n : Nat) => (n : Int)
theorem castL_D (l : List Nat) : (castL l).map D.int = l.map natD := by rw [List.map_map]; rfl
section
variable {p : Pg} {fn : Fnc} {ind : D → List D → (D → Fl → Prop) → Prop} {Q : Flw → List Slot → Prop}
theorem l3_norm {tl : Ss} {j : Nat → Slot} {B rest M : Nat} {ti : List Int} {wN : List Nat} {w2 : List Nat} {s27 s28 s29 s30 s31 s32 s33 : Slot} (hM : M ∈ wN) (hle : ∀ m ∈ wN, m ≤ M) (hM2 : M ≤ 32) (hr : rest < 3)
    (h : wSs (tabW p fn ind) tl (σE j B rest ti (ro5 B) (castL wN) s27 s28 s29 s30 s31 s32 s33 (.cl (leadObj p w2 wN rest))) Q) :
    wSs (tabW p fn ind) (.cons l3s18 tl) (σE j B rest ti (ro5 B) (castL wN) s27 s28 s29 s30 s31 s32 s33 (.cl (leadObj p w2 wN rest))) Q := by
  have hcnt := runsCnt_eq hM hle
  conv => whnf
  refine ⟨⟨rfl, by decide +kernel⟩, ?_⟩
  refine optW_in (d := .tup [.tup ((runsCnt [] wN).map D.int), .int rest]) (by kernel_rfl) ?_
  refine ⟨rfl, ?_⟩
  conv => whnf
  refine ⟨castL wN, (M : Int), rfl, List.mem_map_of_mem (f := fun (n : Nat) => (n : Int)) hM, fun a ha => ?_, ?_⟩
  · obtain ⟨m, hm, rfl⟩ := List.mem_map.mp ha
    have := hle m hm
    show (m : Int) ≤ (M : Int); omega
  conv => whnf
  refine ⟨⟨by omega, by omega⟩, ?_⟩
  have er : rngD 0 ((M : Int) + 1) = (List.range (M + 1)).map fun (k : Nat) => D.int (0 + (k : Int)) := by
    unfold rngD
    rw [show ((M : Int) + 1 - 0).toNat = M + 1 by omega]
  rw [er]
  refine ⟨by simp; omega, ?_⟩
  refine mapW_all (f := fun (k : Nat) => D.int (0 + (k : Int))) (g := fun k => D.int ((wN.count k : Nat) : Int)) (List.range (M + 1)) [] (fun k hk K' hk' => ?_) ?_
  · conv => whnf
    refine compT ?_
    conv => whnf
    refine ⟨castL wN, rfl, ?_⟩
    rw [Int.zero_add, count_cast]
    exact ⟨cleanS rfl, hk'⟩
  rw [List.nil_append]
  have eD : (List.range (M + 1)).map (fun k => D.int ((wN.count k : Nat) : Int)) = ((List.range (M + 1)).map fun k => ((wN.count k : Nat) : Int)).map D.int := by rw [List.map_map]; rfl
  rw [eD, ← hcnt]
  have hl : ((runsCnt [] wN).map D.int).length ≤ 1000 := by rw [hcnt]; simp; omega
  conv => whnf
  refine ⟨by omega, ?_⟩
  conv => whnf
  refine ⟨rfl, ?_⟩
  conv => whnf
  refine ⟨rfl, ?_⟩
  conv => whnf
  refine ⟨by simp, ?_⟩
  conv => whnf
  refine ⟨⟨by simp [cmpL, cmpb, cmpL_int], by simp [depL, dep, depL_int]⟩, ?_⟩
  have eq : eqdL [.tup ((runsCnt [] wN).map D.int), .int (rest : Int)] [.tup ((runsCnt [] wN).map D.int), .int (rest : Int)] = true := by simp [eqdL, eqd, eqdL_int]
  rw [eq]
  conv => whnf
  refine ⟨fun h => absurd h (by decide), fun _ => ?_⟩
  exact h
theorem l3_size {j : Nat → Slot} {B rest t : Nat} {ti : List Int} {wN : List Nat} {w2 : List Nat} {s27 s28 s29 s30 s32 s33 : Slot} (ht : 0 < t ∧ t ≤ 4) (hle : ∀ m ∈ wN, m ≤ 32) (hl : wN.length ≤ 32)
    (hin : ∀ (ws ms : List Nat) (rest t : Nat) (K : D → Fl → Prop), (∀ m ∈ ms, m < 100000) → 0 < t → t ≤ 100000 → K (.int ((rest : Int) + (t : Int) * (((ms.map fun m => m / t).sum : Nat) + (ms.length : Nat)))) .cl → ind (leadObj p ws ms rest) [.int t] K)
    (h : Q .next (σE j B rest ti (ro5 B) (castL wN) s27 s28 s29 s30 (.cl (.int t)) s32 s33 (.cl (leadObj p w2 wN rest)))) :
    wSs (tabW p fn ind) l3b19 (σE j B rest ti (ro5 B) (castL wN) s27 s28 s29 s30 (.cl (.int t)) s32 s33 (.cl (leadObj p w2 wN rest))) Q := by
  conv => whnf
  refine optW_in (d := .ref p.ind) (by simp only [mvW, leadObj, wsObj]; exact if_pos ⟨rfl, by kernel_rfl⟩) ?_
  conv => whnf
  refine hin w2 wN rest t _ (fun m hm => by have := hle m hm; omega) ht.1 (by omega) ?_
  conv => whnf
  rw [castL_D]
  refine ⟨by simp; omega, ?_⟩
  refine ⟨by simp; omega, ?_⟩
  refine mapW_all (f := natD) (g := fun m => D.int (((m / t : Nat) : Int) + 1)) wN [] (fun m hm K' hk => ?_) ?_
  · have hmm := hle m hm
    have e : (m : Int).fdiv (t : Int) = ((m / t : Nat) : Int) := by rw [Int.fdiv_eq_ediv_of_nonneg _ (by omega), Int.natCast_ediv]
    conv => whnf
    refine compT ?_
    conv => whnf
    refine ⟨⟨by omega, by omega, by omega⟩, ?_⟩
    rw [e]
    exact ⟨cleanS rfl, hk⟩
  rw [List.nil_append]
  conv => whnf
  refine ⟨wN.map fun m => ((m / t : Nat) : Int) + 1, by rw [List.map_map]; rfl, fun a ha => ?_, by simp; omega, ?_⟩
  · obtain ⟨m, hm, rfl⟩ := List.mem_map.mp ha
    have hmm := hle m hm
    have := Nat.div_le_self m t
    show 0 ≤ ((m / t : Nat) : Int) + 1 ∧ ((m / t : Nat) : Int) + 1 ≤ 1099511627776
    generalize m / t = q at *
    omega
  rw [sum_step]
  conv => whnf
  refine ⟨⟨by omega, by omega⟩, ?_⟩
  conv => whnf
  refine ⟨fun h => absurd h (by simp), fun _ => ?_⟩
  exact h
theorem l3_sizes {tl : Ss} {j : Nat → Slot} {B rest : Nat} {ti : List Int} {wN : List Nat} {w2 : List Nat} {s27 s28 s29 s30 s31 s32 s33 : Slot} (hle : ∀ m ∈ wN, m ≤ 32) (hl : wN.length ≤ 32)
    (hin : ∀ (ws ms : List Nat) (rest t : Nat) (K : D → Fl → Prop), (∀ m ∈ ms, m < 100000) → 0 < t → t ≤ 100000 → K (.int ((rest : Int) + (t : Int) * (((ms.map fun m => m / t).sum : Nat) + (ms.length : Nat)))) .cl → ind (leadObj p ws ms rest) [.int t] K)
    (h : ∀ s31, wSs (tabW p fn ind) tl (σE j B rest ti (ro5 B) (castL wN) s27 s28 s29 s30 s31 s32 s33 (.cl (leadObj p w2 wN rest))) Q) :
    wSs (tabW p fn ind) (.cons l3s19 tl) (σE j B rest ti (ro5 B) (castL wN) s27 s28 s29 s30 s31 s32 s33 (.cl (leadObj p w2 wN rest))) Q := by
  conv => whnf
  refine ⟨⟨⟨by decide, by decide⟩, ⟨by decide, by decide⟩⟩, ?_⟩
  refine ⟨(fun h => nomatch h), ?_⟩
  refine optW_in (d := [(31, .cl (.int ((1 : Nat) : Int)))]) rfl ?_
  refine l3_size (t := 1) (by decide) hle hl hin ?_
  refine optW_in (d := [(31, .cl (.int ((2 : Nat) : Int)))]) rfl ?_
  refine l3_size (t := 2) (by decide) hle hl hin ?_
  refine optW_in (d := [(31, .cl (.int ((3 : Nat) : Int)))]) rfl ?_
  refine l3_size (t := 3) (by decide) hle hl hin ?_
  refine optW_in (d := [(31, .cl (.int ((4 : Nat) : Int)))]) rfl ?_
  refine l3_size (t := 4) (by decide) hle hl hin ?_
  conv => whnf
  exact h _
theorem l3_pD {j : Nat → Slot} {B rest M : Nat} {ti : List Int} {wN md : List Nat} {w1 w2 : List Nat} {s27 s28 s29 s30 s31 s32 : Slot} (hM : M ∈ wN) (hle : ∀ m ∈ wN, m ≤ M) (hM1 : 1 ≤ M) (hM2 : M ≤ 32) (hl : wN.length ≤ 32) (hr : rest < 3)
    (hin : ∀ (ws ms : List Nat) (rest t : Nat) (K : D → Fl → Prop), (∀ m ∈ ms, m < 100000) → 0 < t → t ≤ 100000 → K (.int ((rest : Int) + (t : Int) * (((ms.map fun m => m / t).sum : Nat) + (ms.length : Nat)))) .cl → ind (leadObj p ws ms rest) [.int t] K)
    (hmd : ∀ m ∈ md, m ≤ 2) (hmd0 : 0 ∈ md) (hc1 : wN.length = md.count 0) (hc2 : (wN.map (· + 1)).sum = 32 + md.count 0) (hc0 : (md.map (· + 1)).sum = (md.map fun m => m / 1).sum + md.length)
    (hc3 : ((wN.count 1 : Nat) : Int) = 2 * (((rest : Int) + 2 * (((md.map fun m => m / 2).sum : Nat) + (md.length : Nat))) - (((md.map (· + 1)).sum : Nat) + (rest : Int))) - (md.length : Nat))
    (hQ : ∀ σ, Q (.ret (.bool true) .fr) σ) :
    wSs (tabW p fn ind) l3pD (σE j B rest ti (ro5 B) (castL wN) s27 s28 s29 s30 s31 s32 (.cl (leadObj p w1 md rest)) (.cl (leadObj p w2 wN rest))) Q := by
  refine l3_norm hM hle hM2 hr ?_
  refine l3_sizes (fun m hm => Nat.le_trans (hle m hm) hM2) hl hin fun s31 => ?_
  have hmd' : ∀ m ∈ md, m < 100000 := fun m hm => by have := hmd m hm; omega
  have hcnt := runsCnt_eq hM hle
  have g1 : (runsCnt [] wN).length = M + 1 := by rw [hcnt]; simp
  have h0 := runsCnt_get md [] 0
  have h1 := runsCnt_get wN [] 1
  have gz : ∃ Mz, Mz ∈ md ∧ ∀ m ∈ md, m ≤ Mz := by
    have : ∃ Mz, (Mz = 2 ∨ Mz = 1 ∨ Mz = 0) ∧ Mz ∈ md ∧ ∀ m ∈ md, m ≤ Mz := by
      by_cases h2 : 2 ∈ md
      · exact ⟨2, .inl rfl, h2, hmd⟩
      · by_cases h3 : 1 ∈ md
        · exact ⟨1, .inr (.inl rfl), h3, fun m hm => by have := hmd m hm; have : m ≠ 2 := fun e => h2 (e ▸ hm); omega⟩
        · exact ⟨0, .inr (.inr rfl), hmd0, fun m hm => by have := hmd m hm; have : m ≠ 2 := fun e => h2 (e ▸ hm); have : m ≠ 1 := fun e => h3 (e ▸ hm); omega⟩
    obtain ⟨Mz, _, a, b⟩ := this
    exact ⟨Mz, a, b⟩
  obtain ⟨Mz, hz1, hz2⟩ := gz
  have g0 : (runsCnt [] md).length = Mz + 1 := by rw [runsCnt_eq hz1 hz2]; simp
  have gz0 : (runsCnt [] md).getD 0 0 = ((md.count 0 : Nat) : Int) := by rw [h0]; simp
  have gw1 : (runsCnt [] wN).getD 1 0 = ((wN.count 1 : Nat) : Int) := by rw [h1]; simp
  conv => whnf
  refine ⟨⟨rfl, by decide +kernel⟩, ?_⟩
  refine optW_in (d := .int (((wN.map (· + 1)).sum : Nat) + (rest : Int))) (by kernel_rfl) ?_
  refine ⟨rfl, ?_⟩
  conv => whnf
  refine ⟨rfl, ?_⟩
  conv => whnf
  refine ⟨⟨rfl, by decide +kernel⟩, ?_⟩
  refine optW_in (d := .int (wN.length : Nat)) (by kernel_rfl) ?_
  refine ⟨rfl, ?_⟩
  conv => whnf
  refine ⟨rfl, ?_⟩
  conv => whnf
  refine ⟨by simp, ?_⟩
  conv => whnf
  refine ⟨⟨rfl, by decide +kernel⟩, ?_⟩
  refine optW_in (d := .tup [.tup ((runsCnt [] md).map D.int), .int rest]) (by kernel_rfl) ?_
  refine ⟨rfl, ?_⟩
  conv => whnf
  refine ⟨⟨by decide, by decide⟩, ?_⟩
  conv => whnf
  refine ⟨⟨by decide, by decide⟩, ?_⟩
  refine optW_in (atI_map (l := runsCnt [] md) (b := 0) (by omega)) ?_
  conv => whnf
  refine ⟨rfl, ?_⟩
  conv => whnf
  refine ⟨⟨rfl, by decide +kernel⟩, ?_⟩
  refine optW_in (d := .tup [.tup ((runsCnt [] md).map D.int), .int rest]) (by kernel_rfl) ?_
  refine ⟨rfl, ?_⟩
  conv => whnf
  refine ⟨⟨by decide, by decide⟩, ?_⟩
  conv => whnf
  refine ⟨⟨by decide, by decide⟩, ?_⟩
  refine optW_in (atI_map (l := runsCnt [] md) (b := 0) (by omega)) ?_
  conv => whnf
  refine ⟨rfl, ?_⟩
  conv => whnf
  refine ⟨by simp, ?_⟩
  conv => whnf
  rw [gz0]
  have q1 : (((wN.map (· + 1)).sum : Nat) : Int) + (rest : Int) = 32 + ((md.count 0 : Nat) : Int) + (rest : Int) := by rw [hc2]; push_cast; omega
  have q2 : ((wN.length : Nat) : Int) = ((md.count 0 : Nat) : Int) := by rw [hc1]
  rw [q1, q2]
  refine ⟨⟨by simp [cmpL, cmpb], by simp [depL, dep]⟩, ?_⟩
  have eq : eqdL [.int (32 + ((md.count 0 : Nat) : Int) + (rest : Int)), .int ((md.count 0 : Nat) : Int)] [.int (32 + ((md.count 0 : Nat) : Int) + (rest : Int)), .int ((md.count 0 : Nat) : Int)] = true := by simp [eqdL, eqd]
  rw [eq]
  refine ⟨fun _ => ?_, fun h => absurd h (by decide)⟩
  conv => whnf
  refine optW_in (d := .ref p.ind) (by simp only [mvW, leadObj, wsObj]; exact if_pos ⟨rfl, by kernel_rfl⟩) ?_
  conv => whnf
  refine hin w1 md rest 1 _ hmd' (by decide) (by decide) ?_
  conv => whnf
  refine ⟨⟨rfl, by decide +kernel⟩, ?_⟩
  refine optW_in (d := .int (((md.map (· + 1)).sum : Nat) + (rest : Int))) (by kernel_rfl) ?_
  refine ⟨rfl, ?_⟩
  conv => whnf
  refine ⟨fun h => ?_, fun _ => ?_⟩
  · exfalso
    have hne : ((rest : Int) + ((1 : Nat) : Int) * (((md.map fun m => m / 1).sum : Nat) + (md.length : Nat))) ≠ (((md.map (· + 1)).sum : Nat) : Int) + (rest : Int) := by simpa using h
    apply hne
    rw [hc0]; push_cast; omega
  conv => whnf
  refine ⟨⟨rfl, by decide +kernel⟩, ?_⟩
  refine optW_in (d := .tup [.tup ((runsCnt [] wN).map D.int), .int rest]) (by kernel_rfl) ?_
  refine ⟨rfl, ?_⟩
  conv => whnf
  refine ⟨⟨by decide, by decide⟩, ?_⟩
  conv => whnf
  refine ⟨⟨by decide, by decide⟩, ?_⟩
  refine optW_in (atI_map (l := runsCnt [] wN) (b := 1) (by omega)) ?_
  conv => whnf
  refine optW_in (d := .ref p.ind) (by simp only [mvW, leadObj, wsObj]; exact if_pos ⟨rfl, by kernel_rfl⟩) ?_
  conv => whnf
  refine hin w1 md rest 2 _ hmd' (by decide) (by decide) ?_
  conv => whnf
  refine ⟨⟨rfl, by decide +kernel⟩, ?_⟩
  refine optW_in (d := .int (((md.map (· + 1)).sum : Nat) + (rest : Int))) (by kernel_rfl) ?_
  refine ⟨rfl, ?_⟩
  conv => whnf
  refine ⟨⟨by decide, by decide⟩, ?_⟩
  conv => whnf
  refine ⟨⟨rfl, by decide +kernel⟩, ?_⟩
  refine optW_in (d := .int (md.length : Nat)) (by kernel_rfl) ?_
  refine ⟨rfl, ?_⟩
  conv => whnf
  rw [gw1]
  have e : (((wN.count 1 : Nat) : Int) == 2 * ((rest : Int) + ((2 : Nat) : Int) * (((md.map fun m => m / 2).sum : Nat) + (md.length : Nat)) - ((((md.map (· + 1)).sum : Nat) : Int) + (rest : Int))) - ((md.length : Nat) : Int)) = true := by
    rw [beq_iff_eq]; exact hc3
  rw [e]
  exact hQ _
end
end Mine

end

section
open PySem PySem.W PyProof.Rows
set_option Elab.async false
set_option linter.unusedVariables false
set_option maxRecDepth 100000
set_option maxHeartbeats 4000000
namespace Mine
def wd0 : List Nat := [79, 80, 84, 73, 77, 73, 90, 69, 68]
def wd1 : List Nat := [78, 69, 87, 76, 79, 67, 65, 76, 83]
def wd2 : List Nat := [86, 65, 82, 65, 82, 71, 83]
def wd3 : List Nat := [86, 65, 82, 75, 69, 89, 87, 79, 82, 68, 83]
def wd4 : List Nat := [78, 69, 83, 84, 69, 68]
def wd5 : List Nat := [71, 69, 78, 69, 82, 65, 84, 79, 82]
def wd6 : List Nat := [78, 79, 70, 82, 69, 69]
def wd7 : List Nat := [67, 79, 82, 79, 85, 84, 73, 78, 69]
def roT0 : List (List (List Nat)) := [[], [wd0], [wd1], [wd0, wd1], [wd2], [wd0, wd2], [wd1, wd2], [wd0, wd1, wd2], [wd3], [wd0, wd3], [wd1, wd3], [wd0, wd1, wd3], [wd2, wd3], [wd0, wd2, wd3], [wd1, wd2, wd3], [wd0, wd1, wd2, wd3], [wd4], [wd0, wd4], [wd1, wd4], [wd0, wd1, wd4], [wd2, wd4], [wd0, wd2, wd4], [wd1, wd2, wd4], [wd0, wd1, wd2, wd4], [wd3, wd4], [wd0, wd3, wd4], [wd1, wd3, wd4], [wd0, wd1, wd3, wd4], [wd2, wd3, wd4], [wd0, wd2, wd3, wd4], [wd1, wd2, wd3, wd4], [wd0, wd1, wd2, wd3, wd4]]
def ttT0 : List (List Nat) := [[48, 120, 48], [79, 80, 84, 73, 77, 73, 90, 69, 68], [78, 69, 87, 76, 79, 67, 65, 76, 83], [79, 80, 84, 73, 77, 73, 90, 69, 68, 44, 32, 78, 69, 87, 76, 79, 67, 65, 76, 83], [86, 65, 82, 65, 82, 71, 83], [79, 80, 84, 73, 77, 73, 90, 69, 68, 44, 32, 86, 65, 82, 65, 82, 71, 83], [78, 69, 87, 76, 79, 67, 65, 76, 83, 44, 32, 86, 65, 82, 65, 82, 71, 83], [79, 80, 84, 73, 77, 73, 90, 69, 68, 44, 32, 78, 69, 87, 76, 79, 67, 65, 76, 83, 44, 32, 86, 65, 82, 65, 82, 71, 83], [86, 65, 82, 75, 69, 89, 87, 79, 82, 68, 83], [79, 80, 84, 73, 77, 73, 90, 69, 68, 44, 32, 86, 65, 82, 75, 69, 89, 87, 79, 82, 68, 83], [78, 69, 87, 76, 79, 67, 65, 76, 83, 44, 32, 86, 65, 82, 75, 69, 89, 87, 79, 82, 68, 83], [79, 80, 84, 73, 77, 73, 90, 69, 68, 44, 32, 78, 69, 87, 76, 79, 67, 65, 76, 83, 44, 32, 86, 65, 82, 75, 69, 89, 87, 79, 82, 68, 83], [86, 65, 82, 65, 82, 71, 83, 44, 32, 86, 65, 82, 75, 69, 89, 87, 79, 82, 68, 83], [79, 80, 84, 73, 77, 73, 90, 69, 68, 44, 32, 86, 65, 82, 65, 82, 71, 83, 44, 32, 86, 65, 82, 75, 69, 89, 87, 79, 82, 68, 83], [78, 69, 87, 76, 79, 67, 65, 76, 83, 44, 32, 86, 65, 82, 65, 82, 71, 83, 44, 32, 86, 65, 82, 75, 69, 89, 87, 79, 82, 68, 83], [79, 80, 84, 73, 77, 73, 90, 69, 68, 44, 32, 78, 69, 87, 76, 79, 67, 65, 76, 83, 44, 32, 86, 65, 82, 65, 82, 71, 83, 44, 32, 86, 65, 82, 75, 69, 89, 87, 79, 82, 68, 83], [78, 69, 83, 84, 69, 68], [79, 80, 84, 73, 77, 73, 90, 69, 68, 44, 32, 78, 69, 83, 84, 69, 68], [78, 69, 87, 76, 79, 67, 65, 76, 83, 44, 32, 78, 69, 83, 84, 69, 68], [79, 80, 84, 73, 77, 73, 90, 69, 68, 44, 32, 78, 69, 87, 76, 79, 67, 65, 76, 83, 44, 32, 78, 69, 83, 84, 69, 68], [86, 65, 82, 65, 82, 71, 83, 44, 32, 78, 69, 83, 84, 69, 68], [79, 80, 84, 73, 77, 73, 90, 69, 68, 44, 32, 86, 65, 82, 65, 82, 71, 83, 44, 32, 78, 69, 83, 84, 69, 68], [78, 69, 87, 76, 79, 67, 65, 76, 83, 44, 32, 86, 65, 82, 65, 82, 71, 83, 44, 32, 78, 69, 83, 84, 69, 68], [79, 80, 84, 73, 77, 73, 90, 69, 68, 44, 32, 78, 69, 87, 76, 79, 67, 65, 76, 83, 44, 32, 86, 65, 82, 65, 82, 71, 83, 44, 32, 78, 69, 83, 84, 69, 68], [86, 65, 82, 75, 69, 89, 87, 79, 82, 68, 83, 44, 32, 78, 69, 83, 84, 69, 68], [79, 80, 84, 73, 77, 73, 90, 69, 68, 44, 32, 86, 65, 82, 75, 69, 89, 87, 79, 82, 68, 83, 44, 32, 78, 69, 83, 84, 69, 68], [78, 69, 87, 76, 79, 67, 65, 76, 83, 44, 32, 86, 65, 82, 75, 69, 89, 87, 79, 82, 68, 83, 44, 32, 78, 69, 83, 84, 69, 68], [79, 80, 84, 73, 77, 73, 90, 69, 68, 44, 32, 78, 69, 87, 76, 79, 67, 65, 76, 83, 44, 32, 86, 65, 82, 75, 69, 89, 87, 79, 82, 68, 83, 44, 32, 78, 69, 83, 84, 69, 68], [86, 65, 82, 65, 82, 71, 83, 44, 32, 86, 65, 82, 75, 69, 89, 87, 79, 82, 68, 83, 44, 32, 78, 69, 83, 84, 69, 68], [79, 80, 84, 73, 77, 73, 90, 69, 68, 44, 32, 86, 65, 82, 65, 82, 71, 83, 44, 32, 86, 65, 82, 75, 69, 89, 87, 79, 82, 68, 83, 44, 32, 78, 69, 83, 84, 69, 68], [78, 69, 87, 76, 79, 67, 65, 76, 83, 44, 32, 86, 65, 82, 65, 82, 71, 83, 44, 32, 86, 65, 82, 75, 69, 89, 87, 79, 82, 68, 83, 44, 32, 78, 69, 83, 84, 69, 68], [79, 80, 84, 73, 77, 73, 90, 69, 68, 44, 32, 78, 69, 87, 76, 79, 67, 65, 76, 83, 44, 32, 86, 65, 82, 65, 82, 71, 83, 44, 32, 86, 65, 82, 75, 69, 89, 87, 79, 82, 68, 83, 44, 32, 78, 69, 83, 84, 69, 68]]
def roT1 : List (List (List Nat)) := [[], [wd1], [wd2], [wd1, wd2], [wd3], [wd1, wd3], [wd2, wd3], [wd1, wd2, wd3], [wd4], [wd1, wd4], [wd2, wd4], [wd1, wd2, wd4], [wd3, wd4], [wd1, wd3, wd4], [wd2, wd3, wd4], [wd1, wd2, wd3, wd4], [wd5], [wd1, wd5], [wd2, wd5], [wd1, wd2, wd5], [wd3, wd5], [wd1, wd3, wd5], [wd2, wd3, wd5], [wd1, wd2, wd3, wd5], [wd4, wd5], [wd1, wd4, wd5], [wd2, wd4, wd5], [wd1, wd2, wd4, wd5], [wd3, wd4, wd5], [wd1, wd3, wd4, wd5], [wd2, wd3, wd4, wd5], [wd1, wd2, wd3, wd4, wd5]]
def ttT1 : List (List Nat) := [[48, 120, 48], [78, 69, 87, 76, 79, 67, 65, 76, 83], [86, 65, 82, 65, 82, 71, 83], [78, 69, 87, 76, 79, 67, 65, 76, 83, 44, 32, 86, 65, 82, 65, 82, 71, 83], [86, 65, 82, 75, 69, 89, 87, 79, 82, 68, 83], [78, 69, 87, 76, 79, 67, 65, 76, 83, 44, 32, 86, 65, 82, 75, 69, 89, 87, 79, 82, 68, 83], [86, 65, 82, 65, 82, 71, 83, 44, 32, 86, 65, 82, 75, 69, 89, 87, 79, 82, 68, 83], [78, 69, 87, 76, 79, 67, 65, 76, 83, 44, 32, 86, 65, 82, 65, 82, 71, 83, 44, 32, 86, 65, 82, 75, 69, 89, 87, 79, 82, 68, 83], [78, 69, 83, 84, 69, 68], [78, 69, 87, 76, 79, 67, 65, 76, 83, 44, 32, 78, 69, 83, 84, 69, 68], [86, 65, 82, 65, 82, 71, 83, 44, 32, 78, 69, 83, 84, 69, 68], [78, 69, 87, 76, 79, 67, 65, 76, 83, 44, 32, 86, 65, 82, 65, 82, 71, 83, 44, 32, 78, 69, 83, 84, 69, 68], [86, 65, 82, 75, 69, 89, 87, 79, 82, 68, 83, 44, 32, 78, 69, 83, 84, 69, 68], [78, 69, 87, 76, 79, 67, 65, 76, 83, 44, 32, 86, 65, 82, 75, 69, 89, 87, 79, 82, 68, 83, 44, 32, 78, 69, 83, 84, 69, 68], [86, 65, 82, 65, 82, 71, 83, 44, 32, 86, 65, 82, 75, 69, 89, 87, 79, 82, 68, 83, 44, 32, 78, 69, 83, 84, 69, 68], [78, 69, 87, 76, 79, 67, 65, 76, 83, 44, 32, 86, 65, 82, 65, 82, 71, 83, 44, 32, 86, 65, 82, 75, 69, 89, 87, 79, 82, 68, 83, 44, 32, 78, 69, 83, 84, 69, 68], [71, 69, 78, 69, 82, 65, 84, 79, 82], [78, 69, 87, 76, 79, 67, 65, 76, 83, 44, 32, 71, 69, 78, 69, 82, 65, 84, 79, 82], [86, 65, 82, 65, 82, 71, 83, 44, 32, 71, 69, 78, 69, 82, 65, 84, 79, 82], [78, 69, 87, 76, 79, 67, 65, 76, 83, 44, 32, 86, 65, 82, 65, 82, 71, 83, 44, 32, 71, 69, 78, 69, 82, 65, 84, 79, 82], [86, 65, 82, 75, 69, 89, 87, 79, 82, 68, 83, 44, 32, 71, 69, 78, 69, 82, 65, 84, 79, 82], [78, 69, 87, 76, 79, 67, 65, 76, 83, 44, 32, 86, 65, 82, 75, 69, 89, 87, 79, 82, 68, 83, 44, 32, 71, 69, 78, 69, 82, 65, 84, 79, 82], [86, 65, 82, 65, 82, 71, 83, 44, 32, 86, 65, 82, 75, 69, 89, 87, 79, 82, 68, 83, 44, 32, 71, 69, 78, 69, 82, 65, 84, 79, 82], [78, 69, 87, 76, 79, 67, 65, 76, 83, 44, 32, 86, 65, 82, 65, 82, 71, 83, 44, 32, 86, 65, 82, 75, 69, 89, 87, 79, 82, 68, 83, 44, 32, 71, 69, 78, 69, 82, 65, 84, 79, 82], [78, 69, 83, 84, 69, 68, 44, 32, 71, 69, 78, 69, 82, 65, 84, 79, 82], [78, 69, 87, 76, 79, 67, 65, 76, 83, 44, 32, 78, 69, 83, 84, 69, 68, 44, 32, 71, 69, 78, 69, 82, 65, 84, 79, 82], [86, 65, 82, 65, 82, 71, 83, 44, 32, 78, 69, 83, 84, 69, 68, 44, 32, 71, 69, 78, 69, 82, 65, 84, 79, 82], [78, 69, 87, 76, 79, 67, 65, 76, 83, 44, 32, 86, 65, 82, 65, 82, 71, 83, 44, 32, 78, 69, 83, 84, 69, 68, 44, 32, 71, 69, 78, 69, 82, 65, 84, 79, 82], [86, 65, 82, 75, 69, 89, 87, 79, 82, 68, 83, 44, 32, 78, 69, 83, 84, 69, 68, 44, 32, 71, 69, 78, 69, 82, 65, 84, 79, 82], [78, 69, 87, 76, 79, 67, 65, 76, 83, 44, 32, 86, 65, 82, 75, 69, 89, 87, 79, 82, 68, 83, 44, 32, 78, 69, 83, 84, 69, 68, 44, 32, 71, 69, 78, 69, 82, 65, 84, 79, 82], [86, 65, 82, 65, 82, 71, 83, 44, 32, 86, 65, 82, 75, 69, 89, 87, 79, 82, 68, 83, 44, 32, 78, 69, 83, 84, 69, 68, 44, 32, 71, 69, 78, 69, 82, 65, 84, 79, 82], [78, 69, 87, 76, 79, 67, 65, 76, 83, 44, 32, 86, 65, 82, 65, 82, 71, 83, 44, 32, 86, 65, 82, 75, 69, 89, 87, 79, 82, 68, 83, 44, 32, 78, 69, 83, 84, 69, 68, 44, 32, 71, 69, 78, 69, 82, 65, 84, 79, 82]]
def roT2 : List (List (List Nat)) := [[], [wd2], [wd3], [wd2, wd3], [wd4], [wd2, wd4], [wd3, wd4], [wd2, wd3, wd4], [wd5], [wd2, wd5], [wd3, wd5], [wd2, wd3, wd5], [wd4, wd5], [wd2, wd4, wd5], [wd3, wd4, wd5], [wd2, wd3, wd4, wd5], [wd6], [wd2, wd6], [wd3, wd6], [wd2, wd3, wd6], [wd4, wd6], [wd2, wd4, wd6], [wd3, wd4, wd6], [wd2, wd3, wd4, wd6], [wd5, wd6], [wd2, wd5, wd6], [wd3, wd5, wd6], [wd2, wd3, wd5, wd6], [wd4, wd5, wd6], [wd2, wd4, wd5, wd6], [wd3, wd4, wd5, wd6], [wd2, wd3, wd4, wd5, wd6]]
def ttT2 : List (List Nat) := [[48, 120, 48], [86, 65, 82, 65, 82, 71, 83], [86, 65, 82, 75, 69, 89, 87, 79, 82, 68, 83], [86, 65, 82, 65, 82, 71, 83, 44, 32, 86, 65, 82, 75, 69, 89, 87, 79, 82, 68, 83], [78, 69, 83, 84, 69, 68], [86, 65, 82, 65, 82, 71, 83, 44, 32, 78, 69, 83, 84, 69, 68], [86, 65, 82, 75, 69, 89, 87, 79, 82, 68, 83, 44, 32, 78, 69, 83, 84, 69, 68], [86, 65, 82, 65, 82, 71, 83, 44, 32, 86, 65, 82, 75, 69, 89, 87, 79, 82, 68, 83, 44, 32, 78, 69, 83, 84, 69, 68], [71, 69, 78, 69, 82, 65, 84, 79, 82], [86, 65, 82, 65, 82, 71, 83, 44, 32, 71, 69, 78, 69, 82, 65, 84, 79, 82], [86, 65, 82, 75, 69, 89, 87, 79, 82, 68, 83, 44, 32, 71, 69, 78, 69, 82, 65, 84, 79, 82], [86, 65, 82, 65, 82, 71, 83, 44, 32, 86, 65, 82, 75, 69, 89, 87, 79, 82, 68, 83, 44, 32, 71, 69, 78, 69, 82, 65, 84, 79, 82], [78, 69, 83, 84, 69, 68, 44, 32, 71, 69, 78, 69, 82, 65, 84, 79, 82], [86, 65, 82, 65, 82, 71, 83, 44, 32, 78, 69, 83, 84, 69, 68, 44, 32, 71, 69, 78, 69, 82, 65, 84, 79, 82], [86, 65, 82, 75, 69, 89, 87, 79, 82, 68, 83, 44, 32, 78, 69, 83, 84, 69, 68, 44, 32, 71, 69, 78, 69, 82, 65, 84, 79, 82], [86, 65, 82, 65, 82, 71, 83, 44, 32, 86, 65, 82, 75, 69, 89, 87, 79, 82, 68, 83, 44, 32, 78, 69, 83, 84, 69, 68, 44, 32, 71, 69, 78, 69, 82, 65, 84, 79, 82], [78, 79, 70, 82, 69, 69], [86, 65, 82, 65, 82, 71, 83, 44, 32, 78, 79, 70, 82, 69, 69], [86, 65, 82, 75, 69, 89, 87, 79, 82, 68, 83, 44, 32, 78, 79, 70, 82, 69, 69], [86, 65, 82, 65, 82, 71, 83, 44, 32, 86, 65, 82, 75, 69, 89, 87, 79, 82, 68, 83, 44, 32, 78, 79, 70, 82, 69, 69], [78, 69, 83, 84, 69, 68, 44, 32, 78, 79, 70, 82, 69, 69], [86, 65, 82, 65, 82, 71, 83, 44, 32, 78, 69, 83, 84, 69, 68, 44, 32, 78, 79, 70, 82, 69, 69], [86, 65, 82, 75, 69, 89, 87, 79, 82, 68, 83, 44, 32, 78, 69, 83, 84, 69, 68, 44, 32, 78, 79, 70, 82, 69, 69], [86, 65, 82, 65, 82, 71, 83, 44, 32, 86, 65, 82, 75, 69, 89, 87, 79, 82, 68, 83, 44, 32, 78, 69, 83, 84, 69, 68, 44, 32, 78, 79, 70, 82, 69, 69], [71, 69, 78, 69, 82, 65, 84, 79, 82, 44, 32, 78, 79, 70, 82, 69, 69], [86, 65, 82, 65, 82, 71, 83, 44, 32, 71, 69, 78, 69, 82, 65, 84, 79, 82, 44, 32, 78, 79, 70, 82, 69, 69], [86, 65, 82, 75, 69, 89, 87, 79, 82, 68, 83, 44, 32, 71, 69, 78, 69, 82, 65, 84, 79, 82, 44, 32, 78, 79, 70, 82, 69, 69], [86, 65, 82, 65, 82, 71, 83, 44, 32, 86, 65, 82, 75, 69, 89, 87, 79, 82, 68, 83, 44, 32, 71, 69, 78, 69, 82, 65, 84, 79, 82, 44, 32, 78, 79, 70, 82, 69, 69], [78, 69, 83, 84, 69, 68, 44, 32, 71, 69, 78, 69, 82, 65, 84, 79, 82, 44, 32, 78, 79, 70, 82, 69, 69], [86, 65, 82, 65, 82, 71, 83, 44, 32, 78, 69, 83, 84, 69, 68, 44, 32, 71, 69, 78, 69, 82, 65, 84, 79, 82, 44, 32, 78, 79, 70, 82, 69, 69], [86, 65, 82, 75, 69, 89, 87, 79, 82, 68, 83, 44, 32, 78, 69, 83, 84, 69, 68, 44, 32, 71, 69, 78, 69, 82, 65, 84, 79, 82, 44, 32, 78, 79, 70, 82, 69, 69], [86, 65, 82, 65, 82, 71, 83, 44, 32, 86, 65, 82, 75, 69, 89, 87, 79, 82, 68, 83, 44, 32, 78, 69, 83, 84, 69, 68, 44, 32, 71, 69, 78, 69, 82, 65, 84, 79, 82, 44, 32, 78, 79, 70, 82, 69, 69]]
def roT3 : List (List (List Nat)) := [[], [wd3], [wd4], [wd3, wd4], [wd5], [wd3, wd5], [wd4, wd5], [wd3, wd4, wd5], [wd6], [wd3, wd6], [wd4, wd6], [wd3, wd4, wd6], [wd5, wd6], [wd3, wd5, wd6], [wd4, wd5, wd6], [wd3, wd4, wd5, wd6], [wd7], [wd3, wd7], [wd4, wd7], [wd3, wd4, wd7], [wd5, wd7], [wd3, wd5, wd7], [wd4, wd5, wd7], [wd3, wd4, wd5, wd7], [wd6, wd7], [wd3, wd6, wd7], [wd4, wd6, wd7], [wd3, wd4, wd6, wd7], [wd5, wd6, wd7], [wd3, wd5, wd6, wd7], [wd4, wd5, wd6, wd7], [wd3, wd4, wd5, wd6, wd7]]
def ttT3 : List (List Nat) := [[48, 120, 48], [86, 65, 82, 75, 69, 89, 87, 79, 82, 68, 83], [78, 69, 83, 84, 69, 68], [86, 65, 82, 75, 69, 89, 87, 79, 82, 68, 83, 44, 32, 78, 69, 83, 84, 69, 68], [71, 69, 78, 69, 82, 65, 84, 79, 82], [86, 65, 82, 75, 69, 89, 87, 79, 82, 68, 83, 44, 32, 71, 69, 78, 69, 82, 65, 84, 79, 82], [78, 69, 83, 84, 69, 68, 44, 32, 71, 69, 78, 69, 82, 65, 84, 79, 82], [86, 65, 82, 75, 69, 89, 87, 79, 82, 68, 83, 44, 32, 78, 69, 83, 84, 69, 68, 44, 32, 71, 69, 78, 69, 82, 65, 84, 79, 82], [78, 79, 70, 82, 69, 69], [86, 65, 82, 75, 69, 89, 87, 79, 82, 68, 83, 44, 32, 78, 79, 70, 82, 69, 69], [78, 69, 83, 84, 69, 68, 44, 32, 78, 79, 70, 82, 69, 69], [86, 65, 82, 75, 69, 89, 87, 79, 82, 68, 83, 44, 32, 78, 69, 83, 84, 69, 68, 44, 32, 78, 79, 70, 82, 69, 69], [71, 69, 78, 69, 82, 65, 84, 79, 82, 44, 32, 78, 79, 70, 82, 69, 69], [86, 65, 82, 75, 69, 89, 87, 79, 82, 68, 83, 44, 32, 71, 69, 78, 69, 82, 65, 84, 79, 82, 44, 32, 78, 79, 70, 82, 69, 69], [78, 69, 83, 84, 69, 68, 44, 32, 71, 69, 78, 69, 82, 65, 84, 79, 82, 44, 32, 78, 79, 70, 82, 69, 69], [86, 65, 82, 75, 69, 89, 87, 79, 82, 68, 83, 44, 32, 78, 69, 83, 84, 69, 68, 44, 32, 71, 69, 78, 69, 82, 65, 84, 79, 82, 44, 32, 78, 79, 70, 82, 69, 69], [67, 79, 82, 79, 85, 84, 73, 78, 69], [86, 65, 82, 75, 69, 89, 87, 79, 82, 68, 83, 44, 32, 67, 79, 82, 79, 85, 84, 73, 78, 69], [78, 69, 83, 84, 69, 68, 44, 32, 67, 79, 82, 79, 85, 84, 73, 78, 69], [86, 65, 82, 75, 69, 89, 87, 79, 82, 68, 83, 44, 32, 78, 69, 83, 84, 69, 68, 44, 32, 67, 79, 82, 79, 85, 84, 73, 78, 69], [71, 69, 78, 69, 82, 65, 84, 79, 82, 44, 32, 67, 79, 82, 79, 85, 84, 73, 78, 69], [86, 65, 82, 75, 69, 89, 87, 79, 82, 68, 83, 44, 32, 71, 69, 78, 69, 82, 65, 84, 79, 82, 44, 32, 67, 79, 82, 79, 85, 84, 73, 78, 69], [78, 69, 83, 84, 69, 68, 44, 32, 71, 69, 78, 69, 82, 65, 84, 79, 82, 44, 32, 67, 79, 82, 79, 85, 84, 73, 78, 69], [86, 65, 82, 75, 69, 89, 87, 79, 82, 68, 83, 44, 32, 78, 69, 83, 84, 69, 68, 44, 32, 71, 69, 78, 69, 82, 65, 84, 79, 82, 44, 32, 67, 79, 82, 79, 85, 84, 73, 78, 69], [78, 79, 70, 82, 69, 69, 44, 32, 67, 79, 82, 79, 85, 84, 73, 78, 69], [86, 65, 82, 75, 69, 89, 87, 79, 82, 68, 83, 44, 32, 78, 79, 70, 82, 69, 69, 44, 32, 67, 79, 82, 79, 85, 84, 73, 78, 69], [78, 69, 83, 84, 69, 68, 44, 32, 78, 79, 70, 82, 69, 69, 44, 32, 67, 79, 82, 79, 85, 84, 73, 78, 69], [86, 65, 82, 75, 69, 89, 87, 79, 82, 68, 83, 44, 32, 78, 69, 83, 84, 69, 68, 44, 32, 78, 79, 70, 82, 69, 69, 44, 32, 67, 79, 82, 79, 85, 84, 73, 78, 69], [71, 69, 78, 69, 82, 65, 84, 79, 82, 44, 32, 78, 79, 70, 82, 69, 69, 44, 32, 67, 79, 82, 79, 85, 84, 73, 78, 69], [86, 65, 82, 75, 69, 89, 87, 79, 82, 68, 83, 44, 32, 71, 69, 78, 69, 82, 65, 84, 79, 82, 44, 32, 78, 79, 70, 82, 69, 69, 44, 32, 67, 79, 82, 79, 85, 84, 73, 78, 69], [78, 69, 83, 84, 69, 68, 44, 32, 71, 69, 78, 69, 82, 65, 84, 79, 82, 44, 32, 78, 79, 70, 82, 69, 69, 44, 32, 67, 79, 82, 79, 85, 84, 73, 78, 69], [86, 65, 82, 75, 69, 89, 87, 79, 82, 68, 83, 44, 32, 78, 69, 83, 84, 69, 68, 44, 32, 71, 69, 78, 69, 82, 65, 84, 79, 82, 44, 32, 78, 79, 70, 82, 69, 69, 44, 32, 67, 79, 82, 79, 85, 84, 73, 78, 69]]
def elC (ro : List (List (List Nat))) (tt : List (List Nat)) (r : Nat) : Bool :=
  (List.range 32).all fun c => Nat.blt (ro.getD c []).length (ro.getD r []).length || (goG ([] :: ro.getD r [] ++ [[]]) (tt.getD c []) == ((r &&& c) == r))
def wantG (t : List Nat) : List Nat := [46, 46, 46] ++ replG t [44, 32] [46, 46, 46] ++ [46, 46, 46]
def spC (ro : List (List (List Nat))) (tt : List (List Nat)) (r : Nat) : Bool :=
  Nat.ble (wantG (tt.getD r [])).length 10000 && (srch dots (wantG (tt.getD r []))).isSome && (splitG (wantG (tt.getD r [])) dots == [] :: ro.getD r [] ++ [[]])
def txC (ro : List (List (List Nat))) (tt : List (List Nat)) : Bool :=
  (List.range 32).map (fun c => if c = 0 then [48, 120, 48] else glueG [44, 32] (ro.getD c [])) == tt && tt.all (fun t => Nat.ble t.length 1000) && ro.all (fun r => Nat.ble ((r.map (·.length)).sum + r.length * 2) 1000 && Nat.ble r.length 1000)
theorem t_ro0 : ro5 0 = roT0 := by decide +kernel
theorem t_tx0 : txC roT0 ttT0 = true := by decide +kernel
theorem t_sp00 : ((List.range' 1 7).all (spC roT0 ttT0)) = true := by decide +kernel
theorem t_el00 : ((List.range' 1 7).all (elC roT0 ttT0)) = true := by decide +kernel
theorem t_sp01 : ((List.range' 8 8).all (spC roT0 ttT0)) = true := by decide +kernel
theorem t_el01 : ((List.range' 8 8).all (elC roT0 ttT0)) = true := by decide +kernel
theorem t_sp02 : ((List.range' 16 8).all (spC roT0 ttT0)) = true := by decide +kernel
theorem t_el02 : ((List.range' 16 8).all (elC roT0 ttT0)) = true := by decide +kernel
theorem t_sp03 : ((List.range' 24 8).all (spC roT0 ttT0)) = true := by decide +kernel
theorem t_el03 : ((List.range' 24 8).all (elC roT0 ttT0)) = true := by decide +kernel
theorem t_ro1 : ro5 1 = roT1 := by decide +kernel
theorem t_tx1 : txC roT1 ttT1 = true := by decide +kernel
theorem t_sp10 : ((List.range' 1 7).all (spC roT1 ttT1)) = true := by decide +kernel
theorem t_el10 : ((List.range' 1 7).all (elC roT1 ttT1)) = true := by decide +kernel
theorem t_sp11 : ((List.range' 8 8).all (spC roT1 ttT1)) = true := by decide +kernel
theorem t_el11 : ((List.range' 8 8).all (elC roT1 ttT1)) = true := by decide +kernel
theorem t_sp12 : ((List.range' 16 8).all (spC roT1 ttT1)) = true := by decide +kernel
theorem t_el12 : ((List.range' 16 8).all (elC roT1 ttT1)) = true := by decide +kernel
theorem t_sp13 : ((List.range' 24 8).all (spC roT1 ttT1)) = true := by decide +kernel
theorem t_el13 : ((List.range' 24 8).all (elC roT1 ttT1)) = true := by decide +kernel
theorem t_ro2 : ro5 2 = roT2 := by decide +kernel
theorem t_tx2 : txC roT2 ttT2 = true := by decide +kernel
theorem t_sp20 : ((List.range' 1 7).all (spC roT2 ttT2)) = true := by decide +kernel
theorem t_el20 : ((List.range' 1 7).all (elC roT2 ttT2)) = true := by decide +kernel
theorem t_sp21 : ((List.range' 8 8).all (spC roT2 ttT2)) = true := by decide +kernel
theorem t_el21 : ((List.range' 8 8).all (elC roT2 ttT2)) = true := by decide +kernel
theorem t_sp22 : ((List.range' 16 8).all (spC roT2 ttT2)) = true := by decide +kernel
theorem t_el22 : ((List.range' 16 8).all (elC roT2 ttT2)) = true := by decide +kernel
theorem t_sp23 : ((List.range' 24 8).all (spC roT2 ttT2)) = true := by decide +kernel
theorem t_el23 : ((List.range' 24 8).all (elC roT2 ttT2)) = true := by decide +kernel
theorem t_ro3 : ro5 3 = roT3 := by decide +kernel
theorem t_tx3 : txC roT3 ttT3 = true := by decide +kernel
theorem t_sp30 : ((List.range' 1 7).all (spC roT3 ttT3)) = true := by decide +kernel
theorem t_el30 : ((List.range' 1 7).all (elC roT3 ttT3)) = true := by decide +kernel
theorem t_sp31 : ((List.range' 8 8).all (spC roT3 ttT3)) = true := by decide +kernel
theorem t_el31 : ((List.range' 8 8).all (elC roT3 ttT3)) = true := by decide +kernel
theorem t_sp32 : ((List.range' 16 8).all (spC roT3 ttT3)) = true := by decide +kernel
theorem t_el32 : ((List.range' 16 8).all (elC roT3 ttT3)) = true := by decide +kernel
theorem t_sp33 : ((List.range' 24 8).all (spC roT3 ttT3)) = true := by decide +kernel
theorem t_el33 : ((List.range' 24 8).all (elC roT3 ttT3)) = true := by decide +kernel
end Mine

end

section
open PySem PySem.W PyProof.Rows
set_option Elab.async false
set_option maxRecDepth 100000
set_option maxHeartbeats 8000000
open_top hd3 for PySem.Challenge.rw_ut0019_03

end

section
open PySem PySem.W PyProof.Rows
set_option Elab.async false
set_option linter.unusedVariables false
set_option maxRecDepth 100000
namespace Mine
noncomputable abbrev KK (S : Params) : Frag := hd3.heap_39 S
def tbl : List (Int × List Nat) := [(1, [79, 80, 84, 73, 77, 73, 90, 69, 68]), (2, [78, 69, 87, 76, 79, 67, 65, 76, 83]), (4, [86, 65, 82, 65, 82, 71, 83]), (8, [86, 65, 82, 75, 69, 89, 87, 79, 82, 68, 83]), (16, [78, 69, 83, 84, 69, 68]), (32, [71, 69, 78, 69, 82, 65, 84, 79, 82]), (64, [78, 79, 70, 82, 69, 69]), (128, [67, 79, 82, 79, 85, 84, 73, 78, 69]), (256, [73, 84, 69, 82, 65, 66, 76, 69, 95, 67, 79, 82, 79, 85, 84, 73, 78, 69]), (512, [65, 83, 89, 78, 67, 95, 71, 69, 78, 69, 82, 65, 84, 79, 82])]
def pg : Pg := { dic := 109, ws := 83, ind := 52, tb := tbl }
section
variable (S : Params)
theorem kf_hsv_hd : fnHd (KK S) 108 codeHsvP codeHsvR = true := by kernel_rfl
theorem kf_hsv_rd : mSs (ctAt (KK S) 108 codeHsvP codeHsvR [] glNames) codeHsv (bdAt (KK S) 108) = true := by kernel_rfl
theorem kf_hsv_hb : ∀ vals : List Value, vals.length = codeHsvP.length → (fdAt (KK S) 108).map (fun x => bindArgs x.1 ⟨vals, []⟩) = some (pure (codeHsvP.zip vals))
  | [v0, v1, v2], _ => by kernel_rfl
  | [], h => by cases h
  | [v0], h => by cases h
  | [v0, v1], h => by cases h
  | v0 :: v1 :: v2 :: v3 :: _, h => by cases h
theorem kf_rgbv_hd : fnHd (KK S) 101 codeRgbvP codeRgbvR = true := by kernel_rfl
theorem kf_rgbv_rd : mSs (ctAt (KK S) 101 codeRgbvP codeRgbvR [] glNames) codeRgbv (bdAt (KK S) 101) = true := by kernel_rfl
theorem kf_rgbv_hb : ∀ vals : List Value, vals.length = codeRgbvP.length → (fdAt (KK S) 101).map (fun x => bindArgs x.1 ⟨vals, []⟩) = some (pure (codeRgbvP.zip vals))
  | [v0, v1, v2], _ => by kernel_rfl
  | [], h => by cases h
  | [v0], h => by cases h
  | [v0, v1], h => by cases h
  | v0 :: v1 :: v2 :: v3 :: _, h => by cases h
theorem kf_rgbl_hd : fnHd (KK S) 94 codeRgblP codeRgblR = true := by kernel_rfl
theorem kf_rgbl_rd : mSs (ctAt (KK S) 94 codeRgblP codeRgblR [] glNames) codeRgbl (bdAt (KK S) 94) = true := by kernel_rfl
theorem kf_rgbl_hb : ∀ vals : List Value, vals.length = codeRgblP.length → (fdAt (KK S) 94).map (fun x => bindArgs x.1 ⟨vals, []⟩) = some (pure (codeRgblP.zip vals))
  | [v0, v1, v2], _ => by kernel_rfl
  | [], h => by cases h
  | [v0], h => by cases h
  | [v0, v1], h => by cases h
  | v0 :: v1 :: v2 :: v3 :: _, h => by cases h
theorem kf_flags_hd : fnHd (KK S) 116 codeFlagsP codeFlagsR = true := by kernel_rfl
theorem kf_flags_rd : mSs (ctAt (KK S) 116 codeFlagsP codeFlagsR [] glNames) codeFlags (bdAt (KK S) 116) = true := by kernel_rfl
theorem kf_flags_hb : ∀ vals : List Value, vals.length = codeFlagsP.length → (fdAt (KK S) 116).map (fun x => bindArgs x.1 ⟨vals, []⟩) = some (pure (codeFlagsP.zip vals))
  | [v0], _ => by kernel_rfl
  | [], h => by cases h
  | v0 :: v1 :: _, h => by cases h
theorem kf_ell_hd : fnHd (KK S) 123 codeEllP codeEllR = true := by kernel_rfl
theorem kf_ell_rd : mSs (ctAt (KK S) 123 codeEllP codeEllR [] glNames) codeEll (bdAt (KK S) 123) = true := by kernel_rfl
theorem kf_ell_hb : ∀ vals : List Value, vals.length = codeEllP.length → (fdAt (KK S) 123).map (fun x => bindArgs x.1 ⟨vals, []⟩) = some (pure (codeEllP.zip vals))
  | [v0, v1], _ => by kernel_rfl
  | [], h => by cases h
  | [v0], h => by cases h
  | v0 :: v1 :: v2 :: _, h => by cases h
theorem kf_ind_hd : fnHd (KK S) 52 codeIndP codeIndR = true := by kernel_rfl
theorem kf_ind_rd : mSs (ctAt (KK S) 52 codeIndP codeIndR [] glNames) codeInd (bdAt (KK S) 52) = true := by kernel_rfl
theorem kf_ind_hb : ∀ vals : List Value, vals.length = codeIndP.length → (fdAt (KK S) 52).map (fun x => bindArgs x.1 ⟨vals, []⟩) = some (pure (codeIndP.zip vals))
  | [v0, v1], _ => by kernel_rfl
  | [], h => by cases h
  | [v0], h => by cases h
  | v0 :: v1 :: v2 :: _, h => by cases h
theorem kf_init_hd : fnHd (KK S) 38 wsParams wsRest = true := by kernel_rfl
theorem kf_init_hb : ∀ vals : List Value, vals.length = wsParams.length → (fdAt (KK S) 38).map (fun x => bindArgs x.1 ⟨vals, []⟩) = some (pure (wsParams.zip vals))
  | [v0, v1], _ => by kernel_rfl
  | [], h => by cases h
  | [v0], h => by cases h
  | v0 :: v1 :: v2 :: _, h => by cases h
theorem kf_pg : PgOk (KK S) pg where
  blt := by kernel_rfl
  gl0 := ⟨390, by kernel_rfl⟩
  gl1 := by kernel_rfl
  gl2 := by kernel_rfl
  tab := by kernel_rfl
  sysm := by kernel_rfl
  get := by kernel_rfl
  dict := by kernel_rfl
  attr := by kernel_rfl
  ind := by kernel_rfl
  indF := by kernel_rfl
  indK := by kernel_rfl
  mc := by kernel_rfl
  clsS := ⟨209, by kernel_rfl⟩
  clsT := ⟨210, by kernel_rfl⟩
theorem kf_init : InitOk (KK S) pg 38 where
  make := by kernel_rfl
  init := by kernel_rfl
  fn := by kernel_rfl
  set := ⟨by kernel_rfl, by kernel_rfl, by kernel_rfl⟩
  tk := by kernel_rfl
  hd := ⟨kf_init_hd S, kf_init_hb S⟩
  rd := by kernel_rfl
theorem kf_fns : FnsOk (KK S) pg 38 108 101 94 116 123 where
  n0 := by kernel_rfl
  n1 := by kernel_rfl
  n2 := by kernel_rfl
  n3 := by kernel_rfl
  n4 := by kernel_rfl
  f0 := ⟨⟨kf_hsv_hd S, kf_hsv_hb S⟩, kf_hsv_rd S⟩
  f1 := ⟨⟨kf_rgbv_hd S, kf_rgbv_hb S⟩, kf_rgbv_rd S⟩
  f2 := ⟨⟨kf_rgbl_hd S, kf_rgbl_hb S⟩, kf_rgbl_rd S⟩
  f3 := ⟨⟨kf_flags_hd S, kf_flags_hb S⟩, kf_flags_rd S⟩
  f4 := ⟨⟨kf_ell_hd S, kf_ell_hb S⟩, kf_ell_rd S⟩
  ind := ⟨⟨kf_ind_hd S, kf_ind_hb S⟩, kf_ind_rd S⟩
  pg := kf_pg S
  init := kf_init S
  keepW := by kernel_rfl
theorem kf_law_hd : fnHd (KK S) 128 l3P l3R = true := by kernel_rfl
theorem kf_law_hb : ∀ vals : List Value, vals.length = l3P.length → (fdAt (KK S) 128).map (fun x => bindArgs x.1 ⟨vals, []⟩) = some (pure (l3P.zip vals))
  | [v0], _ => by kernel_rfl
  | [], h => by cases h
  | v0 :: v1 :: _, h => by cases h
theorem kf_law_rd : mSs (ctAt (KK S) 128 l3P l3R unNames glNames) l3code (bdAt (KK S) 128) = true := by kernel_rfl
end
end Mine

end

section
open PySem PySem.W PyProof.Rows
set_option Elab.async false
set_option linter.unusedVariables false
set_option linter.unusedSimpArgs false
set_option maxRecDepth 100000
set_option maxHeartbeats 4000000
namespace Mine
theorem le_sum_mem {n : Nat} : ∀ {l : List Nat}, n ∈ l → n ≤ l.sum
  | a :: l, h => by
    rw [List.sum_cons]
    rcases List.mem_cons.mp h with rfl | h
    · omega
    · have := le_sum_mem h; omega
def roT : Nat → List (List (List Nat)) | 0 => roT0 | 1 => roT1 | 2 => roT2 | _ => roT3
def ttT : Nat → List (List Nat) | 0 => ttT0 | 1 => ttT1 | 2 => ttT2 | _ => ttT3
theorem ro_T {B : Nat} (h : B < 4) : ro5 B = roT B := by
  match B, h with
  | 0, _ => exact t_ro0
  | 1, _ => exact t_ro1
  | 2, _ => exact t_ro2
  | 3, _ => exact t_ro3
theorem tx_T {B : Nat} (h : B < 4) : txC (roT B) (ttT B) = true := by
  match B, h with
  | 0, _ => exact t_tx0
  | 1, _ => exact t_tx1
  | 2, _ => exact t_tx2
  | 3, _ => exact t_tx3
theorem all_quart {f : Nat → Bool} (h0 : (List.range' 1 7).all f = true) (h1 : (List.range' 8 8).all f = true) (h2 : (List.range' 16 8).all f = true) (h3 : (List.range' 24 8).all f = true) {r : Nat} (h : 1 ≤ r ∧ r < 32) : f r = true := by
  rw [List.all_eq_true] at h0 h1 h2 h3
  by_cases a : r < 8
  · exact h0 r (by rw [List.mem_range'_1]; omega)
  by_cases b : r < 16
  · exact h1 r (by rw [List.mem_range'_1]; omega)
  by_cases c : r < 24
  · exact h2 r (by rw [List.mem_range'_1]; omega)
  · exact h3 r (by rw [List.mem_range'_1]; omega)
theorem sp_T {B r : Nat} (h : B < 4) (hr : 1 ≤ r ∧ r < 32) : spC (roT B) (ttT B) r = true := by
  match B, h with
  | 0, _ => exact all_quart t_sp00 t_sp01 t_sp02 t_sp03 hr
  | 1, _ => exact all_quart t_sp10 t_sp11 t_sp12 t_sp13 hr
  | 2, _ => exact all_quart t_sp20 t_sp21 t_sp22 t_sp23 hr
  | 3, _ => exact all_quart t_sp30 t_sp31 t_sp32 t_sp33 hr
theorem el_T {B r : Nat} (h : B < 4) (hr : 1 ≤ r ∧ r < 32) : elC (roT B) (ttT B) r = true := by
  match B, h with
  | 0, _ => exact all_quart t_el00 t_el01 t_el02 t_el03 hr
  | 1, _ => exact all_quart t_el10 t_el11 t_el12 t_el13 hr
  | 2, _ => exact all_quart t_el20 t_el21 t_el22 t_el23 hr
  | 3, _ => exact all_quart t_el30 t_el31 t_el32 t_el33 hr
theorem text_T {B c : Nat} (h : B < 4) (hc : c < 32) : text B c = (ttT B).getD c [] := by
  have t := tx_T h
  unfold txC at t
  simp only [Bool.and_eq_true, beq_iff_eq] at t
  rw [← t.1.1, List.getD_eq_getElem?_getD, List.getElem?_map, List.getElem?_range hc]
  show text B c = if c = 0 then [48, 120, 48] else glueG [44, 32] ((roT B).getD c [])
  unfold text
  rw [ro_T h, joinL_G]
theorem texts_T {B : Nat} (h : B < 4) : (List.range 32).map (text B) = ttT B := by
  have t := tx_T h
  unfold txC at t
  simp only [Bool.and_eq_true, beq_iff_eq] at t
  rw [← t.1.1]
  refine List.map_congr_left fun c _ => ?_
  unfold text
  rw [ro_T h, joinL_G]
theorem htx_T {B : Nat} (h : B < 4) : (List.range 32).map (text B) = [[48, 120, 48]] ++ ((ro5 B).drop 1).map (joinL [44, 32]) := by
  have e : ∀ (ro : List (List (List Nat))), ro.length = 32 → (ro.drop 1).map (joinL [44, 32]) = (List.range 31).map fun k => joinL [44, 32] (ro.getD (k + 1) []) := by
    intro ro hl
    refine List.ext_getElem (by simp [hl]) fun i h1 h2 => ?_
    simp only [List.length_map, List.length_drop, hl] at h1
    simp only [List.getElem_map, List.getElem_drop, List.getElem_range]
    rw [List.getD_eq_getElem?_getD, List.getElem?_eq_getElem (by omega)]
    simp [Nat.add_comm]
  rw [e _ (ro5_len B), show List.range 32 = 0 :: (List.range 31).map (· + 1) from rfl, List.map_cons, List.map_map]
  show [48, 120, 48] :: _ = [48, 120, 48] :: _
  congr 1
theorem lens_T {B : Nat} (h : B < 4) : (∀ r ∈ ro5 B, (r.map (·.length)).sum + r.length * 2 ≤ 1000) ∧ (∀ r ∈ ro5 B, r.length ≤ 1000) ∧ (∀ c, c < 32 → (text B c).length ≤ 1000) := by
  have t := tx_T h
  unfold txC at t
  simp only [Bool.and_eq_true, List.all_eq_true, Nat.ble_eq] at t
  rw [ro_T h]
  refine ⟨fun r hr => (t.2 r hr).1, fun r hr => (t.2 r hr).2, fun c hc => ?_⟩
  have hm : text B c ∈ ttT B := by rw [← texts_T h]; exact List.mem_map_of_mem (List.mem_range.mpr hc)
  exact t.1.2 _ hm
theorem want_T {B r : Nat} (h : B < 4) (hr : r < 32) : want B r = wantG ((ttT B).getD r []) := by
  unfold want wantG
  rw [text_T h hr, replL_G]
theorem hrl_T {B : Nat} (h : B < 4) {c : Nat} (hc : c < 32) : (replL (text B c) [44, 32] [46, 46, 46]).length ≤ 10000 := by
  by_cases h0 : 1 ≤ c
  · have s := sp_T h ⟨h0, hc⟩
    unfold spC at s
    simp only [Bool.and_eq_true, Nat.ble_eq] at s
    have := s.1.1
    rw [← want_T h hc] at this
    unfold want at this
    simp only [List.length_append] at this
    omega
  · have : c = 0 := by omega
    subst this
    have : text B 0 = [48, 120, 48] := rfl
    rw [this, replL_G]
    decide +kernel
theorem hel_T {B r c : Nat} (h : B < 4) (hr : 1 ≤ r ∧ r < 32) (hc : c < 32) (hs : sz B r ≤ sz B c) : ellF (want B r) (text B c) = some ((r &&& c) == r) := by
  have s := sp_T h hr
  have e := el_T h hr
  unfold spC at s
  unfold elC at e
  simp only [Bool.and_eq_true, Nat.ble_eq, beq_iff_eq] at s
  rw [List.all_eq_true] at e
  have e := e c (List.mem_range.mpr hc)
  rw [Bool.or_eq_true, beq_iff_eq] at e
  rw [← want_T h hr.2] at s
  unfold sz at hs
  rw [ro_T h] at hs
  have e : goG ([] :: (roT B).getD r [] ++ [[]]) ((ttT B).getD c []) = ((r &&& c) == r) := by
    rcases e with e | e
    · have := Nat.le_of_ble_eq_true e; omega
    · exact e
  rw [← text_T h hc] at e
  obtain ⟨⟨s1, s2⟩, s3⟩ := s
  have tl := (lens_T h).2.2 c hc
  rw [← splitL_G] at s3
  have ho : ¬ (occ dots (want B r)).isEmpty = true := by
    have : occ dots (want B r) = occG dots dots.length (0 + (want B r).length) 1 ((want B r).length + 1) (want B r) 0 0 0 := by
      show Builtin.Str.occurrences (toS (want B r)) (toS dots) 0 (want B r).length 1 = _
      rw [occ_G, Nat.zero_add]; rfl
    rw [this]
    rcases srch_G dots (want B r) 0 0 (Nat.le_refl _) with ⟨a, _⟩ | ⟨k, rest, a, _⟩
    · rw [a] at s2; cases s2
    · rw [a]; simp
  have hrow := (lens_T h).2.1
  unfold ellF
  rw [if_neg ho, s3]
  have hw : wsOk ([] :: (roT B).getD r [] ++ [[]]) = true := by
    have hm : (roT B).getD r [] ∈ roT B := by
      have hl : (roT B).length = 32 := by rw [← ro_T h, ro5_len]
      rw [List.getD_eq_getElem?_getD, List.getElem?_eq_getElem (by omega)]
      exact List.getElem_mem _
    have t := tx_T h
    unfold txC at t
    simp only [Bool.and_eq_true, List.all_eq_true, Nat.ble_eq] at t
    have t := t.2 _ hm
    generalize (roT B).getD r [] = m at t
    unfold wsOk
    simp only [Bool.and_eq_true, decide_eq_true_eq, List.all_eq_true, List.cons_append, List.length_cons, List.length_append, List.length_nil]
    refine ⟨⟨by omega, by omega⟩, fun w hw => ?_⟩
    rcases List.mem_cons.mp hw with rfl | hw
    · simp
    · rcases List.mem_append.mp hw with hw | hw
      · have : w.length ≤ (m.map (·.length)).sum := le_sum_mem (List.mem_map_of_mem (f := List.length) hw)
        omega
      · have : w = [] := by simpa using hw
        subst this; simp
  rw [if_pos (by rw [hw]; simp; omega), ellS_G, e]
-- the words of a number
def flC (B : Nat) (tt : List (List Nat)) : Bool := (List.range 32).all fun c => match flagsGo tbl (List.range 32) ((c : Int) * 2 ^ B) [] with
  | some ls => Nat.ble ((ls.map (·.length)).sum + ls.length * 2) 16777216 && (glueG [44, 32] ls == tt.getD c [])
  | none => false
theorem t_fl0 : flC 0 ttT0 = true := by decide +kernel
theorem t_fl1 : flC 1 ttT1 = true := by decide +kernel
theorem t_fl2 : flC 2 ttT2 = true := by decide +kernel
theorem t_fl3 : flC 3 ttT3 = true := by decide +kernel
theorem hfl_T {B c : Nat} (h : B < 4) (hc : c < 32) : flagsF tbl ((c : Int) * 2 ^ B) = some (text B c) := by
  have f : flC B (ttT B) = true := by
    match B, h with
    | 0, _ => exact t_fl0
    | 1, _ => exact t_fl1
    | 2, _ => exact t_fl2
    | 3, _ => exact t_fl3
  unfold flC at f
  rw [List.all_eq_true] at f
  have f := f c (List.mem_range.mpr hc)
  rw [← text_T h hc] at f
  unfold flagsF
  generalize flagsGo tbl (List.range 32) ((c : Int) * 2 ^ B) [] = o at f ⊢
  cases o with
  | none => cases f
  | some ls =>
    simp only [Bool.and_eq_true, Nat.ble_eq, beq_iff_eq] at f
    show (if _ then _ else _) = _
    rw [if_pos f.1, joinL_G, f.2]
end Mine

end

section
open PySem PySem.W PyProof.Rows
set_option Elab.async false
set_option linter.unusedVariables false
set_option linter.unusedSimpArgs false
set_option maxRecDepth 8000
namespace Mine
-- numbers that hold a list, a byte an entry
def enc : List Nat → Nat
  | [] => 0
  | x :: l => x + 256 * enc l
theorem and_cons {x y : Nat} (a b : Nat) (hx : x < 256) (hy : y < 256) : (x + 256 * a) &&& (y + 256 * b) = (x &&& y) + 256 * (a &&& b) := by
  have h1 : ((x + 256 * a) &&& (y + 256 * b)) % 2 ^ 8 = x &&& y := by
    rw [Nat.and_mod_two_pow, show (x + 256 * a) % 2 ^ 8 = x by omega, show (y + 256 * b) % 2 ^ 8 = y by omega]
  have h2 : ((x + 256 * a) &&& (y + 256 * b)) / 2 ^ 8 = a &&& b := by
    rw [Nat.and_div_two_pow, show (x + 256 * a) / 2 ^ 8 = a by omega, show (y + 256 * b) / 2 ^ 8 = b by omega]
  omega
theorem and128 {y : Nat} (h : y < 256) : y &&& 128 = if 128 ≤ y then 128 else 0 := by
  have : ∀ z : Fin 256, z.val &&& 128 = if 128 ≤ z.val then 128 else 0 := by decide +kernel
  exact this ⟨y, h⟩
theorem enc_map_add {α : Type} (f g : α → Nat) : ∀ l : List α, enc (l.map fun a => f a + g a) = enc (l.map f) + enc (l.map g)
  | [] => rfl
  | a :: l => by
    have := enc_map_add f g l
    simp only [List.map_cons, enc, this]
    omega
theorem enc_map_zero {α : Type} {f : α → Nat} : ∀ {l : List α}, (∀ a ∈ l, f a = 0) → enc (l.map f) = 0
  | [], _ => rfl
  | a :: l, h => by
    rw [List.map_cons, enc, h a List.mem_cons_self, enc_map_zero fun b hb => h b (List.mem_cons_of_mem _ hb)]
theorem ge_and (k : Nat) (hk : k ≤ 128) : ∀ l : List Nat, (∀ x ∈ l, x < 128) → ((enc l + enc (l.map fun _ => 128 - k)) &&& enc (l.map fun _ => 128)) = 128 * enc (l.map fun x => if k ≤ x then 1 else 0)
  | [], _ => by simp only [List.map_nil, enc]; decide
  | x :: l, h => by
    have ih := ge_and k hk l fun y hy => h y (List.mem_cons_of_mem _ hy)
    have hx := h x List.mem_cons_self
    simp only [List.map_cons, enc]
    rw [show x + 256 * enc l + (128 - k + 256 * enc (l.map fun _ => 128 - k)) = (x + (128 - k)) + 256 * (enc l + enc (l.map fun _ => 128 - k)) by omega]
    rw [and_cons _ _ (by omega) (by decide), ih, and128 (by omega)]
    by_cases q : k ≤ x
    · rw [if_pos q, if_pos (by omega)]; omega
    · rw [if_neg q, if_neg (by omega)]; omega
theorem enc_mod : ∀ l : List Nat, enc l % 255 = l.sum % 255
  | [] => rfl
  | x :: l => by
    have := enc_mod l
    simp only [enc, List.sum_cons]
    omega
theorem sum_ind (k : Nat) : ∀ l : List Nat, (l.map fun x => if k ≤ x then 1 else 0).sum = l.countP (fun x => decide (k ≤ x))
  | [] => rfl
  | x :: l => by
    rw [List.map_cons, List.sum_cons, sum_ind k l, List.countP_cons]
    by_cases h : k ≤ x
    · simp [h]; omega
    · simp [h]
def geN (M K n : Nat) : Nat := Nat.mod (Nat.div (Nat.land (Nat.add n M) K) 128) 255
theorem ge_val (k : Nat) (hk : k ≤ 128) (l : List Nat) (h : ∀ x ∈ l, x < 128) (hl : l.length < 255) : geN (enc (List.replicate l.length (128 - k))) (enc (List.replicate l.length 128)) (enc l) = l.countP (fun x => decide (k ≤ x)) := by
  unfold geN
  show ((enc l + enc (List.replicate l.length (128 - k))) &&& enc (List.replicate l.length 128)) / 128 % 255 = _
  rw [← List.map_const', ← List.map_const', ge_and k hk l h, Nat.mul_div_cancel_left _ (by decide), enc_mod, sum_ind]
  have := List.countP_le_length (p := fun x => decide (k ≤ x)) (l := l)
  omega
-- how often each number stands in a list
def cnts (sp : List Nat) : List Nat := (List.range 181).map fun d => sp.count d
theorem enc_one : ∀ (N s a : Nat), a < N → enc ((List.range' s N).map fun d => if (s + a == d) = true then 1 else 0) = 256 ^ a
  | N + 1, s, 0, _ => by
    rw [List.range'_succ, List.map_cons, enc, enc_map_zero (l := List.range' (s + 1) N) (fun d hd => ?_)]
    · simp
    · rw [List.mem_range'_1] at hd
      have : (s + 0 == d) = false := by rw [beq_eq_false_iff_ne]; omega
      rw [this]; rfl
  | N + 1, s, a + 1, h => by
    have ih := enc_one N (s + 1) a (by omega)
    rw [List.range'_succ, List.map_cons, enc]
    have e0 : (s + (a + 1) == s) = false := by rw [beq_eq_false_iff_ne]; omega
    rw [e0, show s + (a + 1) = s + 1 + a by omega, ih, Nat.pow_succ]
    simp; omega
theorem enc_cnts : ∀ sp : List Nat, (∀ s ∈ sp, s < 181) → enc (cnts sp) = (sp.map (256 ^ ·)).sum
  | [], _ => enc_map_zero fun _ _ => rfl
  | a :: l, h => by
    have ih := enc_cnts l fun s hs => h s (List.mem_cons_of_mem _ hs)
    have e : cnts (a :: l) = (List.range 181).map fun d => l.count d + if (a == d) = true then 1 else 0 := by
      unfold cnts
      refine List.map_congr_left fun d _ => ?_
      rw [List.count_cons]
    have o := enc_one 181 0 a (h a List.mem_cons_self)
    rw [Nat.zero_add, ← List.range_eq_range'] at o
    rw [e, enc_map_add, o, List.map_cons, List.sum_cons]
    show enc (cnts l) + _ = _
    rw [ih]; omega
-- spots, as natural numbers
def stepN : Nat → Nat | 0 => 0 | 1 => 1 | 2 => 6 | _ => 36
def facN (p : Nat × Nat) : Nat := Nat.add (Nat.pow 256 (stepN p.1)) (Nat.pow 256 (stepN p.2))
def spNR (sp : List Nat) (p : Nat × Nat) : List Nat := sp.map (· + stepN p.1) ++ sp.map (· + stepN p.2)
theorem stepN_le (o : Nat) : stepN o ≤ 36 := by unfold stepN; split <;> decide
theorem psum_add (s : Nat) : ∀ sp : List Nat, ((sp.map (· + s)).map (256 ^ ·)).sum = (sp.map (256 ^ ·)).sum * 256 ^ s
  | [] => by simp
  | a :: l => by
    simp only [List.map_cons, List.sum_cons]
    rw [psum_add s l, Nat.add_mul, Nat.pow_add]
theorem psum_R (sp : List Nat) (p : Nat × Nat) : ((spNR sp p).map (256 ^ ·)).sum = (sp.map (256 ^ ·)).sum * facN p := by
  unfold spNR
  rw [List.map_append, List.sum_append, psum_add, psum_add]
  show _ = _ * (256 ^ stepN p.1 + 256 ^ stepN p.2)
  rw [Nat.mul_add]
theorem spNR_le {n : Nat} {sp : List Nat} (p : Nat × Nat) (h : ∀ s ∈ sp, s ≤ n) : ∀ s ∈ spNR sp p, s ≤ n + 36 := by
  intro s hs
  unfold spNR at hs
  have h1 := stepN_le p.1
  have h2 := stepN_le p.2
  rcases List.mem_append.mp hs with hs | hs
  · obtain ⟨a, ha, rfl⟩ := List.mem_map.mp hs
    have := h a ha; omega
  · obtain ⟨a, ha, rfl⟩ := List.mem_map.mp hs
    have := h a ha; omega
theorem spNR_len (sp p) : (spNR sp p).length = 2 * sp.length := by unfold spNR; simp; omega
def sp5N (a b c d e : Nat × Nat) : List Nat := spNR (spNR (spNR (spNR (spNR [0] a) b) c) d) e
theorem sp5N_le (a b c d e) : ∀ s ∈ sp5N a b c d e, s < 181 := by
  intro s hs
  have := spNR_le e (spNR_le d (spNR_le c (spNR_le b (spNR_le a (n := 0) (sp := [0]) (by simp))))) s hs
  omega
theorem sp5N_len (a b c d e) : (sp5N a b c d e).length = 32 := by unfold sp5N; simp [spNR_len]
theorem enc_sp5 (a b c d e) : enc (cnts (sp5N a b c d e)) = Nat.mul (Nat.mul (Nat.mul (Nat.mul (facN a) (facN b)) (facN c)) (facN d)) (facN e) := by
  rw [enc_cnts _ (sp5N_le a b c d e)]
  unfold sp5N
  rw [psum_R, psum_R, psum_R, psum_R, psum_R]
  show (256 ^ 0 + 0) * facN a * facN b * facN c * facN d * facN e = facN a * facN b * facN c * facN d * facN e
  rw [show (256 ^ 0 + 0) * facN a = facN a by simp]
-- the ways of the hues
def bumpN (st : List Int × List Nat) (r : Int) : List Int × List Nat :=
  if st.1.contains r then (st.1, st.2.set (st.1.idxOf r) (st.2.getD (st.1.idxOf r) 0 + 1)) else (st.1 ++ [r], st.2 ++ [1])
theorem getD_cast (w : List Nat) (i : Nat) : (castL w).getD i 0 = ((w.getD i 0 : Nat) : Int) := by
  rw [List.getD_eq_getElem?_getD, List.getD_eq_getElem?_getD, List.getElem?_map]
  cases w[i]? <;> rfl
theorem bump_cast (cs : List Int) (w : List Nat) (r : Int) : bump (cs, castL w) r = ((bumpN (cs, w) r).1, castL (bumpN (cs, w) r).2) := by
  unfold bump bumpN
  dsimp only
  split
  · rw [getD_cast]
    unfold castL
    rw [List.map_set]; push_cast; rfl
  · unfold castL; rw [List.map_append]; rfl
theorem bumps_cast : ∀ (l cs : List Int) (w : List Nat), l.foldl bump (cs, castL w) = ((l.foldl bumpN (cs, w)).1, castL (l.foldl bumpN (cs, w)).2)
  | [], cs, w => rfl
  | r :: l, cs, w => by
    rw [List.foldl_cons, List.foldl_cons, bump_cast, bumps_cast l]
theorem sum_set : ∀ (l : List Nat) (i : Nat), i < l.length → (l.set i (l.getD i 0 + 1)).sum = l.sum + 1
  | a :: l, 0, _ => by simp; omega
  | a :: l, i + 1, h => by
    have := sum_set l i (by simpa using h)
    rw [List.set_cons_succ, List.sum_cons, List.getD_cons_succ, this, List.sum_cons]; omega
structure BInv (f : Nat → Int) (done : List Nat) (cs : List Int) (w : List Nat) : Prop where
  len : w.length = cs.length
  pos : ∀ x ∈ w, 1 ≤ x
  sum : w.sum = done.length
  cnt : ∀ k, 1 ≤ k → w.countP (fun x => decide (k ≤ x)) = (cnts done).countP (fun x => decide (k ≤ x))
  val : ∀ d, d < 181 → (cs.contains (f d) = true → w.getD (cs.idxOf (f d)) 0 = done.count d) ∧ (cs.contains (f d) = false → done.count d = 0)
theorem cnts_snoc (done : List Nat) {d : Nat} (hd : d < 181) : cnts (done ++ [d]) = (cnts done).set d (done.count d + 1) := by
  unfold cnts
  refine List.ext_getElem (by simp) fun i h1 h2 => ?_
  rw [List.getElem_set]
  simp only [List.getElem_map, List.getElem_range, List.count_append]
  by_cases h : d = i
  · subst h; simp
  · rw [if_neg h, List.count_cons, List.count_nil]
    have : (d == i) = false := by rw [beq_eq_false_iff_ne]; exact h
    rw [this]; rfl
theorem cnts_len (done) : (cnts done).length = 181 := by unfold cnts; simp
theorem cnts_get (done : List Nat) {d : Nat} (h : d < (cnts done).length) : (cnts done)[d] = done.count d := by
  simp only [cnts, List.getElem_map, List.getElem_range]
theorem count_snoc_ne (done : List Nat) {d e : Nat} (h : d ≠ e) : (done ++ [d]).count e = done.count e := by
  rw [List.count_append, List.count_cons, List.count_nil]
  have : (d == e) = false := by rw [beq_eq_false_iff_ne]; exact h
  rw [this]; simp
theorem count_snoc_eq (done : List Nat) (d : Nat) : (done ++ [d]).count d = done.count d + 1 := by
  rw [List.count_append, List.count_cons, List.count_nil]; simp
theorem bump_step {f : Nat → Int} (hf : ∀ a b, a < 181 → b < 181 → f a = f b → a = b) {done : List Nat} {cs : List Int} {w : List Nat} (I : BInv f done cs w) {d : Nat} (hd : d < 181) : BInv f (done ++ [d]) (bumpN (cs, w) (f d)).1 (bumpN (cs, w) (f d)).2 := by
  have hcl := cnts_len done
  have hdl : d < (cnts done).length := by omega
  unfold bumpN
  dsimp only
  cases hc : cs.contains (f d) with
  | true =>
    rw [if_pos rfl]
    have hv := (I.val d hd).1 hc
    have hmem : f d ∈ cs := List.contains_iff_mem.mp hc
    have hi : cs.idxOf (f d) < cs.length := List.idxOf_lt_length_of_mem hmem
    have hiw : cs.idxOf (f d) < w.length := by rw [I.len]; exact hi
    have hget : w[cs.idxOf (f d)] = done.count d := by
      rw [← hv, List.getD_eq_getElem?_getD, List.getElem?_eq_getElem hiw]; rfl
    refine ⟨by simp [I.len], fun x hx => ?_, ?_, fun k hk => ?_, fun e he => ⟨fun hce => ?_, fun hce => ?_⟩⟩
    · rcases List.mem_or_eq_of_mem_set hx with h | h
      · exact I.pos x h
      · omega
    · rw [sum_set _ _ hiw, I.sum]; simp
    · rw [cnts_snoc done hd, List.countP_set hdl, List.countP_set hiw, I.cnt k hk, cnts_get, hget, hv]
    · by_cases hde : d = e
      · subst hde
        rw [List.getD_eq_getElem?_getD, List.getElem?_set_self hiw, count_snoc_eq, hv]; rfl
      · have hce' : cs.contains (f e) = true := hce
        have q : cs.idxOf (f d) ≠ cs.idxOf (f e) := by
          intro q
          have m1 : cs[cs.idxOf (f d)] = f d := List.getElem_idxOf hi
          have hie : cs.idxOf (f e) < cs.length := List.idxOf_lt_length_of_mem (List.contains_iff_mem.mp hce')
          have m2 : cs[cs.idxOf (f e)] = f e := List.getElem_idxOf hie
          have : f d = f e := by rw [← m1, ← m2]; congr 1
          exact hde (hf d e hd he this)
        rw [count_snoc_ne done hde, ← (I.val e he).1 hce']
        show (w.set _ _).getD (cs.idxOf (f e)) 0 = _
        rw [List.getD_eq_getElem?_getD, List.getElem?_set_ne q, ← List.getD_eq_getElem?_getD]
    · by_cases hde : d = e
      · subst hde; rw [hc] at hce; cases hce
      · rw [count_snoc_ne done hde]; exact (I.val e he).2 hce
  | false =>
    rw [if_neg (by decide)]
    have hv := (I.val d hd).2 hc
    have hn : f d ∉ cs := fun h => by rw [List.contains_iff_mem.mpr h] at hc; cases hc
    refine ⟨by simp [I.len], fun x hx => ?_, ?_, fun k hk => ?_, fun e he => ⟨fun hce => ?_, fun hce => ?_⟩⟩
    · rcases List.mem_append.mp hx with h | h
      · exact I.pos x h
      · have : x = 1 := by simpa using h
        omega
    · rw [List.sum_append, I.sum]; simp
    · rw [cnts_snoc done hd, List.countP_set hdl, List.countP_append, I.cnt k hk, cnts_get, hv, List.countP_cons, List.countP_nil]
      have : decide (k ≤ 0) = false := decide_eq_false (by omega)
      rw [this]; simp
    · by_cases hde : d = e
      · subst hde
        have e1 : (cs ++ [f d]).idxOf (f d) = cs.length := by
          rw [List.idxOf_append, if_neg hn]; simp
        rw [e1, count_snoc_eq, hv, List.getD_eq_getElem?_getD, List.getElem?_append_right (by rw [I.len]; exact Nat.le_refl _), I.len]; simp
      · have hce' : cs.contains (f e) = true := by
          rw [List.contains_iff_mem] at hce ⊢
          rcases List.mem_append.mp hce with h | h
          · exact h
          · exact absurd (hf e d he hd (by simpa using h)).symm hde
        have hm : f e ∈ cs := List.contains_iff_mem.mp hce'
        have hie : cs.idxOf (f e) < w.length := by rw [I.len]; exact List.idxOf_lt_length_of_mem hm
        rw [count_snoc_ne done hde, ← (I.val e he).1 hce', List.idxOf_append, if_pos hm, List.getD_eq_getElem?_getD, List.getD_eq_getElem?_getD, List.getElem?_append_left hie]
    · by_cases hde : d = e
      · subst hde
        have : (cs ++ [f d]).contains (f d) = true := by rw [List.contains_iff_mem]; simp
        rw [this] at hce; cases hce
      · rw [count_snoc_ne done hde]
        refine (I.val e he).2 ?_
        cases q : cs.contains (f e) with
        | false => rfl
        | true =>
          have : (cs ++ [f d]).contains (f e) = true := by rw [List.contains_iff_mem] at q ⊢; exact List.mem_append_left _ q
          rw [this] at hce; cases hce
theorem bumps_inv {f : Nat → Int} (hf : ∀ a b, a < 181 → b < 181 → f a = f b → a = b) : ∀ (l done : List Nat) (cs : List Int) (w : List Nat), (∀ d ∈ l, d < 181) → BInv f done cs w → BInv f (done ++ l) ((l.map f).foldl bumpN (cs, w)).1 ((l.map f).foldl bumpN (cs, w)).2
  | [], done, cs, w, _, I => by simpa using I
  | d :: l, done, cs, w, h, I => by
    have := bumps_inv hf l (done ++ [d]) _ _ (fun e he => h e (List.mem_cons_of_mem _ he)) (bump_step hf I (h d List.mem_cons_self))
    rw [List.append_assoc] at this
    exact this
theorem binv_nil (f : Nat → Int) : BInv f [] [] [] := by
  refine ⟨rfl, by simp, rfl, fun k hk => ?_, fun d hd => ⟨fun h => by simp at h, fun _ => rfl⟩⟩
  rw [List.countP_nil]
  symm
  rw [List.countP_eq_zero]
  intro x hx
  obtain ⟨d, _, rfl⟩ := List.mem_map.mp hx
  simp; omega
end Mine

end

section
open PySem PySem.W PyProof.Rows
set_option Elab.async false
set_option linter.unusedVariables false
set_option linter.unusedSimpArgs false
set_option maxRecDepth 20000
set_option maxHeartbeats 4000000
namespace Mine
def usT : List Nat := [454086624460063511464984254936031011189294057512315937409637584344757371137, 452319750434927077568233343438225443052370734331334163334113702693610455296, 454079695753768440535410655530276459851710871006105517098402562333003022336, 452312848688578680066401275547668380241392929873786040378175315008750092288, 454086624354338230441950772344886556443511854368035731377531925355001020416, 452319750329613178961631897744322795523498189565047265496685497629884284928, 454079695648044772727523167316088398356378730913279364199733467507901595648, 452312848583266388397844088844041361786898658030348316090006878140166569984, 454086624460063511440368169699220498391272461213152298379608456575714328576, 452319750434927077543713040634242986724380350469132250525991303048182366208, 454079695753768440510794945899386828548307551735128996240383597206860464128, 452312848688578680041881346888105167736835537915147949562405450914226765824, 454086624354338230417334687113807422614080926897431882030847536457442131968, 452319750329613178937111594946049417078617576987325143190260581062666092544, 454079695648044772702907457690930058568997781789677522937785131288812847104, 452312848583266388373324160190187140053165105595943369152034994591191007232, 454086624460063511464984254936031011187959616857724021866643958433260240896, 452319750434927077568233343438225443051041486052830154077279585054142496768, 454079695753768440535410655530276459850376450713151372462156926009462489088, 452312848688578680066401275547668380240063701877691639495378105285690261504, 454086624354338230441950772344886556442177413713754514510992486084774985728, 452319750329613178961631897744322795522168941286852745972039207928803098624, 454079695648044772727523167316088398355044310620635913499128790882277392384, 452312848583266388397844088844041361785569430034563400217031013485848297472, 454086624460063511440368169699220498389938020558560382836687170837055275008, 452319750434927077543713040634242986723051102190628241269229244102280740864, 454079695753768440510794945899386828546973131442174851604210299952351412224, 452312848688578680041881346888105167735506309919053548679680298785221640192, 454086624354338230417334687113807422612746486243150665164380437360037330944, 452319750329613178937111594946049417077288328709130623665686350055134461952, 454079695648044772702907457690930058567663361497034072237252793732203282432, 452312848583266388373324160190187140051835877600158453279131187530910662656]
def K32 : Nat := 58123087930888129467517984631811969432229639361576439988433610796128943505536
def A32 : Nat := 57669001306428065956053000376875938421040345304064124051023973211784186134399
def B32 : Nat := 57214914681968002444588016121939907409851051246551808113614335627439428763262
def K181 : Nat := 3909340607342577430328325291705410857262710360232144300130999581863771050670337628097116825429397850254381054288307005177193625217296130331191217763432042005755794283674194028654737616367675265147463570984028689554553428134299073138041985678865205794955826951392817610675125632318722721376682119051411941645215095214363284750693707214248950370663528805763161976151331977101277011108093536274659923305206666260276214219963489208208752768
def A181 : Nat := 3878798883847713544153885250363962334940345435542830672786226147630460339336975615377608100230730679549268702301679606699246800020286004312978786374655229177585827140832989387805872478739802802138499011835715965417408479476999861629151032665749071374682734553335061223091726213316232700115926789996322785851111852283001071588578912626637630445892719986968137273212649696030173284458811555522514142654384739180117806296370024448769621887
def B181 : Nat := 3848257160352849657979445209022513812617980510853517045441452713397149628003613602658099375032063508844156350315052208221299974823275878294766354985878416349415859997991784746957007341111930339129534452687403241280263530819700650120260079652632936954409642155277304835508326794313742678855171460941233630057008609351638858426464118039026310521121911168173112570273967414959069557809529574770368362003562812099959398372776559689330491006
theorem eK32 : enc (List.replicate 32 128) = K32 := by decide +kernel
theorem eA32 : enc (List.replicate 32 (128 - 1)) = A32 := by decide +kernel
theorem eB32 : enc (List.replicate 32 (128 - 2)) = B32 := by decide +kernel
theorem eK181 : enc (List.replicate 181 128) = K181 := by decide +kernel
theorem eA181 : enc (List.replicate 181 (128 - 1)) = A181 := by decide +kernel
theorem eB181 : enc (List.replicate 181 (128 - 2)) = B181 := by decide +kernel
def vecN (p : Nat × Nat) : Nat := Nat.xor (Nat.pow 2 p.1) (Nat.pow 2 p.2)
def tiNR (ti : List Nat) (v : Nat) : List Nat := ti ++ ti.map fun t => Nat.xor t v
def ti5N (a b c d e : Nat × Nat) : List Nat := tiNR (tiNR (tiNR (tiNR (tiNR [0] (vecN a)) (vecN b)) (vecN c)) (vecN d)) (vecN e)
def castP (p : Nat × Nat) : Int × Int := ((p.1 : Int), (p.2 : Int))
def lowP (p : Nat × Nat) : Prop := p.1 < 4 ∧ p.2 < 4
theorem xor_fin : ∀ (t : Fin 16) (a b : Fin 4), Builtin.bitXor (Builtin.bitXor ((t.val : Nat) : Int) (1 * 2 ^ ((a.val : Nat) : Int).toNat)) (1 * 2 ^ ((b.val : Nat) : Int).toNat) = ((Nat.xor t.val (vecN (a.val, b.val)) : Nat) : Int) ∧ Nat.xor t.val (vecN (a.val, b.val)) < 16 := by decide +kernel
theorem step_fin : ∀ a : Fin 4, stepOf ((a.val : Nat) : Int) = ((stepN a.val : Nat) : Int) := by decide +kernel
theorem tiR_cast {ti : List Nat} {p : Nat × Nat} (hp : lowP p) (ht : ∀ t ∈ ti, t < 16) : tiR (castL ti) (castP p) = castL (tiNR ti (vecN p)) ∧ ∀ t ∈ tiNR ti (vecN p), t < 16 := by
  refine ⟨?_, fun t h => ?_⟩
  · unfold tiR tiNR castL
    rw [List.map_append, List.map_map, List.map_map]
    congr 1
    refine List.map_congr_left fun t h => ?_
    exact (xor_fin ⟨t, ht t h⟩ ⟨p.1, hp.1⟩ ⟨p.2, hp.2⟩).1
  · unfold tiNR at h
    rcases List.mem_append.mp h with h | h
    · exact ht t h
    · obtain ⟨u, hu, rfl⟩ := List.mem_map.mp h
      exact (xor_fin ⟨u, ht u hu⟩ ⟨p.1, hp.1⟩ ⟨p.2, hp.2⟩).2
theorem ti5_cast {a b c d e : Nat × Nat} (ha : lowP a) (hb : lowP b) (hc : lowP c) (hd : lowP d) (he : lowP e) : ti5 (castP a) (castP b) (castP c) (castP d) (castP e) = castL (ti5N a b c d e) := by
  have h0 : ([0] : List Int) = castL [0] := rfl
  have r1 := tiR_cast (ti := [0]) ha (by simp)
  have r2 := tiR_cast hb r1.2
  have r3 := tiR_cast hc r2.2
  have r4 := tiR_cast hd r3.2
  have r5 := tiR_cast he r4.2
  unfold ti5 ti5N
  rw [h0, r1.1, r2.1, r3.1, r4.1, r5.1]
theorem spR_cast {s0 : Int} {sp : List Nat} {p : Nat × Nat} (hp : lowP p) : spR (sp.map fun d : Nat => s0 + (d : Int)) (castP p) = (spNR sp p).map fun d : Nat => s0 + (d : Int) := by
  unfold spR spNR castP
  have e1 := step_fin ⟨p.1, hp.1⟩
  have e2 := step_fin ⟨p.2, hp.2⟩
  dsimp only at e1 e2 ⊢
  rw [List.map_append, List.map_map, List.map_map, List.map_map, List.map_map, e1, e2]
  congr 1
  · refine List.map_congr_left fun d _ => ?_
    simp only [Function.comp_apply]; push_cast; omega
  · refine List.map_congr_left fun d _ => ?_
    simp only [Function.comp_apply]; push_cast; omega
theorem sp5_cast {s0 : Int} {a b c d e : Nat × Nat} (ha : lowP a) (hb : lowP b) (hc : lowP c) (hd : lowP d) (he : lowP e) : sp5 s0 (castP a) (castP b) (castP c) (castP d) (castP e) = (sp5N a b c d e).map fun d : Nat => s0 + (d : Int) := by
  unfold sp5 sp5N
  have h0 : [s0] = ([0] : List Nat).map fun d : Nat => s0 + (d : Int) := by simp
  rw [h0, spR_cast ha, spR_cast hb, spR_cast hc, spR_cast hd, spR_cast he]
-- the rings
def upN (r : Nat) : Nat := enc ((List.range 32).map fun c => if ((r &&& c) == r) = true then 1 else 0)
theorem us_eq : usT.tail = (List.range' 1 31).map upN := by decide +kernel
theorem enc_held : ∀ rs : List Nat, enc ((List.range 32).map fun c => (rs.filter fun r => (r &&& c) == r).length) = (rs.map upN).sum
  | [] => enc_map_zero fun _ _ => rfl
  | r :: rs => by
    have e : ((List.range 32).map fun c => ((r :: rs).filter fun r => (r &&& c) == r).length) = (List.range 32).map fun c => (if ((r &&& c) == r) = true then 1 else 0) + (rs.filter fun r => (r &&& c) == r).length := by
      refine List.map_congr_left fun c _ => ?_
      rw [List.filter_cons]
      split
      · rw [List.length_cons]; omega
      · omega
    rw [e, enc_map_add, enc_held rs, List.map_cons, List.sum_cons]; rfl
def ringSum : List Nat → List Nat → Nat
  | t :: ts, u :: us => Nat.add (bif Nat.beq t 0 then u else 0) (ringSum ts us)
  | _, _ => 0
theorem ringSum_eq : ∀ (ts : List Nat) (s : Nat), ringSum ts ((List.range' s ts.length).map upN) = (((List.range' s ts.length).filter fun r => ts.getD (r - s) 0 == 0).map upN).sum
  | [], s => rfl
  | t :: ts, s => by
    have ih := ringSum_eq ts (s + 1)
    rw [List.length_cons, List.range'_succ, List.map_cons, ringSum, ih, List.filter_cons]
    have e : ((List.range' (s + 1) ts.length).filter fun r => (t :: ts).getD (r - s) 0 == 0) = (List.range' (s + 1) ts.length).filter fun r => ts.getD (r - (s + 1)) 0 == 0 := by
      refine List.filter_congr fun r hr => ?_
      rw [List.mem_range'_1] at hr
      have : r - s = (r - (s + 1)) + 1 := by omega
      rw [this, List.getD_cons_succ]
    rw [e, Nat.sub_self, List.getD_cons_zero]
    have hb : Nat.beq t 0 = (t == 0) := by cases t <;> rfl
    rw [hb]
    cases t == 0 with
    | true => simp only [cond_true, if_true, List.map_cons, List.sum_cons]; rfl
    | false => simp only [cond_false]; rw [if_neg (by decide)]; exact Nat.zero_add _
theorem rings_cast {tn : List Nat} (hl : tn.length = 32) : ((rings (castL tn)).map upN).sum = ringSum tn.tail usT.tail := by
  have hl' : tn.tail.length = 31 := by rw [List.length_tail]; omega
  have h := ringSum_eq tn.tail 1
  rw [hl'] at h
  rw [us_eq, h]
  unfold rings
  rw [show (List.range 31).map (1 + ·) = List.range' 1 31 from rfl]
  congr 2
  refine List.filter_congr fun r hr => ?_
  rw [List.mem_range'_1] at hr
  rw [getD_cast]
  have e : tn.tail.getD (r - 1) 0 = tn.getD r 0 := by
    cases tn with
    | nil => simp at hl
    | cons t ts =>
      have : r = (r - 1) + 1 := by omega
      rw [List.tail_cons]
      conv => rhs; rw [this, List.getD_cons_succ]
  rw [e]
  generalize tn.getD r 0 = x
  cases hx : x == 0 with
  | true => have := beq_iff_eq.mp hx; subst this; rfl
  | false =>
    have := beq_eq_false_iff_ne.mp hx
    rw [beq_eq_false_iff_ne]; omega
def lenT : List Nat := [0, 1, 1, 2, 1, 2, 2, 3, 1, 2, 2, 3, 2, 3, 3, 4, 1, 2, 2, 3, 2, 3, 3, 4, 2, 3, 3, 4, 3, 4, 4, 5]
theorem len_T {B : Nat} (h : B < 4) : (roT B).map (·.length) = lenT := by
  match B, h with
  | 0, _ => decide +kernel
  | 1, _ => decide +kernel
  | 2, _ => decide +kernel
  | 3, _ => decide +kernel
theorem len_sub : ((List.range 32).all fun r => (List.range 32).all fun c => !((r &&& c) == r) || Nat.ble (lenT.getD r 0) (lenT.getD c 0)) = true := by decide +kernel
theorem sz_T {B r : Nat} (h : B < 4) : sz B r = lenT.getD r 0 := by
  unfold sz
  rw [ro_T h, ← len_T h, List.getD_eq_getElem?_getD, List.getD_eq_getElem?_getD, List.getElem?_map]
  cases (roT B)[r]? <;> rfl
theorem sz_sub {B r c : Nat} (h : B < 4) (hr : r < 32) (hc : c < 32) (hs : ((r &&& c) == r) = true) : sz B r ≤ sz B c := by
  have := len_sub
  rw [List.all_eq_true] at this
  have := this r (List.mem_range.mpr hr)
  rw [List.all_eq_true] at this
  have := this c (List.mem_range.mpr hc)
  rw [hs] at this
  rw [sz_T h, sz_T h]
  simpa using this
theorem heldN_eq {B c : Nat} {ti : List Int} (h : B < 4) (hc : c < 32) : heldN B ti c = ((rings ti).filter fun r => (r &&& c) == r).length := by
  unfold heldN
  rw [List.filter_filter]
  congr 1
  refine List.filter_congr fun r hr => ?_
  have hr := rings_mem hr
  cases hs : (r &&& c) == r with
  | true => rw [Bool.true_and]; exact decide_eq_true (sz_sub h hr.2 hc hs)
  | false => rfl
def heldL (B : Nat) (ti : List Int) : List Nat := (List.range 32).map (heldN B ti)
theorem heldL_enc {B : Nat} {tn : List Nat} (h : B < 4) (hl : tn.length = 32) : enc (heldL B (castL tn)) = ringSum tn.tail usT.tail := by
  unfold heldL
  rw [← rings_cast hl, ← enc_held]
  congr 1
  exact List.map_congr_left fun c hc => heldN_eq h (List.mem_range.mp hc)
theorem heldL_le {B : Nat} {ti : List Int} : ∀ x ∈ heldL B ti, x < 128 := by
  intro x hx
  obtain ⟨c, _, rfl⟩ := List.mem_map.mp hx
  unfold heldN
  have h1 := List.length_filter_le (fun r => (r &&& c) == r) ((rings ti).filter fun r => decide (sz B r ≤ sz B c))
  have h2 := List.length_filter_le (fun r => decide (sz B r ≤ sz B c)) (rings ti)
  have h3 := rings_len ti
  omega
theorem md_facts : ∀ h : List Nat, (h.map (min · 2)).count 0 + h.countP (fun x => decide (1 ≤ x)) = h.length ∧ (h.map (min · 2)).sum = h.countP (fun x => decide (1 ≤ x)) + h.countP (fun x => decide (2 ≤ x)) ∧ ((h.map (min · 2)).map fun m => m / 2).sum = h.countP (fun x => decide (2 ≤ x))
  | [] => by simp
  | x :: h => by
    have ih := md_facts h
    simp only [List.map_cons, List.count_cons, List.countP_cons, List.sum_cons, List.length_cons, decide_eq_true_eq, beq_iff_eq]
    generalize ((h.map (min · 2)).map fun m => m / 2).sum = z3 at ih ⊢
    generalize (h.map (min · 2)).sum = z2 at ih ⊢
    generalize (h.map (min · 2)).count 0 = z1 at ih ⊢
    generalize h.countP (fun x => decide (1 ≤ x)) = z4 at ih ⊢
    generalize h.countP (fun x => decide (2 ≤ x)) = z5 at ih ⊢
    obtain ⟨i1, i2, i3⟩ := ih
    rcases Nat.lt_or_ge x 1 with a | a
    · have e : min x 2 = 0 := by omega
      rw [e, if_pos rfl, if_neg (show ¬ 1 ≤ x by omega), if_neg (show ¬ 2 ≤ x by omega)]
      refine ⟨?_, ?_, ?_⟩ <;> omega
    · rcases Nat.lt_or_ge x 2 with b | b
      · have e : min x 2 = 1 := by omega
        rw [e, if_neg (show ¬ 1 = 0 by decide), if_pos (show 1 ≤ x by omega), if_neg (show ¬ 2 ≤ x by omega)]
        refine ⟨?_, ?_, ?_⟩ <;> omega
      · have e : min x 2 = 2 := by omega
        rw [e, if_neg (show ¬ 2 = 0 by decide), if_pos (show 1 ≤ x by omega), if_pos (show 2 ≤ x by omega)]
        refine ⟨?_, ?_, ?_⟩ <;> omega
theorem sum_succ : ∀ l : List Nat, (l.map (· + 1)).sum = l.sum + l.length
  | [] => rfl
  | a :: l => by rw [List.map_cons, List.sum_cons, sum_succ l, List.sum_cons, List.length_cons]; omega
theorem count_one : ∀ l : List Nat, l.count 1 + l.countP (fun x => decide (2 ≤ x)) = l.countP (fun x => decide (1 ≤ x))
  | [] => rfl
  | a :: l => by
    have := count_one l
    simp only [List.count_cons, List.countP_cons, decide_eq_true_eq, beq_iff_eq]
    rcases Nat.lt_or_ge a 1 with h | h
    · rw [if_neg (by omega), if_neg (by omega), if_neg (by omega)]; omega
    · rcases Nat.lt_or_ge a 2 with q | q
      · rw [if_pos (by omega), if_neg (by omega), if_pos (by omega)]; omega
      · rw [if_neg (by omega), if_pos (by omega), if_pos (by omega)]; omega
theorem count_all : ∀ l : List Nat, (∀ x ∈ l, 1 ≤ x) → l.countP (fun x => decide (1 ≤ x)) = l.length := fun l h => List.countP_eq_length.mpr fun x hx => decide_eq_true (h x hx)
theorem has_max : ∀ l : List Nat, l ≠ [] → ∃ M, M ∈ l ∧ ∀ m ∈ l, m ≤ M
  | [a], _ => ⟨a, by simp, by simp⟩
  | a :: b :: l, _ => by
    obtain ⟨M, hM, hle⟩ := has_max (b :: l) (by simp)
    by_cases h : a ≤ M
    · refine ⟨M, List.mem_cons_of_mem _ hM, fun m hm => ?_⟩
      rcases List.mem_cons.mp hm with rfl | hm
      · exact h
      · exact hle m hm
    · refine ⟨a, List.mem_cons_self, fun m hm => ?_⟩
      rcases List.mem_cons.mp hm with rfl | hm
      · exact Nat.le_refl _
      · have := hle m hm; omega
def fin2 (D T E S : Nat) : Bool := Nat.beq (Nat.add D E) 32 && Nat.beq E (Nat.add (Nat.mul 2 S) T)
def fin1 (P H : Nat) : Bool := fin2 (geN A181 K181 P) (geN B181 K181 P) (geN A32 K32 H) (geN B32 K32 H)
def chk2 (a b c d e : Nat × Nat) : Bool :=
  fin1 (Nat.mul (Nat.mul (Nat.mul (Nat.mul (facN a) (facN b)) (facN c)) (facN d)) (facN e)) (ringSum (ti5N a b c d e).tail usT.tail)
theorem tiNR_len (ti v) : (tiNR ti v).length = 2 * ti.length := by unfold tiNR; simp; omega
theorem ti5N_len (a b c d e) : (ti5N a b c d e).length = 32 := by unfold ti5N; simp [tiNR_len]
theorem fin_ok {a b c d e : Nat × Nat} (ha : lowP a) (hb : lowP b) (hc : lowP c) (hd : lowP d) (he : lowP e) (hck : chk2 a b c d e = true) {B : Nat} (hB : B < 4) (s0 : Int) {md : List Nat}
    (hmd : md = ((List.range 32).map (heldN B (ti5 (castP a) (castP b) (castP c) (castP d) (castP e)))).map (min · 2)) :
    ∃ (wN : List Nat) (M : Nat), (((sp5 s0 (castP a) (castP b) (castP c) (castP d) (castP e)).map (·.fmod 256)).foldl bump ([], [])).2 = castL wN ∧ M ∈ wN ∧ (∀ m ∈ wN, m ≤ M) ∧ 1 ≤ M ∧ M ≤ 32 ∧ wN.length ≤ 32 ∧
      0 ∈ md ∧ wN.length = md.count 0 ∧ (wN.map (· + 1)).sum = 32 + md.count 0 ∧
      (∀ rest : Nat, ((wN.count 1 : Nat) : Int) = 2 * (((rest : Int) + 2 * (((md.map fun m => m / 2).sum : Nat) + (md.length : Nat))) - (((md.map (· + 1)).sum : Nat) + (rest : Int))) - (md.length : Nat)) := by
  have hf : ∀ x y : Nat, x < 181 → y < 181 → (fun d : Nat => (s0 + (d : Int)).fmod 256) x = (fun d : Nat => (s0 + (d : Int)).fmod 256) y → x = y := by
    intro x y hx hy h
    dsimp only at h
    rw [Int.fmod_eq_emod_of_nonneg _ (by decide), Int.fmod_eq_emod_of_nonneg _ (by decide)] at h
    omega
  have I := bumps_inv hf (sp5N a b c d e) [] [] [] (sp5N_le a b c d e) (binv_nil _)
  rw [List.nil_append] at I
  have hfold : (((sp5 s0 (castP a) (castP b) (castP c) (castP d) (castP e)).map (·.fmod 256)).foldl bump ([], [])).2 = castL (((sp5N a b c d e).map fun d : Nat => (s0 + (d : Int)).fmod 256).foldl bumpN ([], [])).2 := by
    have e1 : (sp5 s0 (castP a) (castP b) (castP c) (castP d) (castP e)).map (·.fmod 256) = (sp5N a b c d e).map fun d : Nat => (s0 + (d : Int)).fmod 256 := by
      rw [sp5_cast ha hb hc hd he, List.map_map]
      exact List.map_congr_left fun x _ => rfl
    rw [e1]
    generalize (sp5N a b c d e).map (fun d : Nat => (s0 + (d : Int)).fmod 256) = L
    have := bumps_cast L [] []
    rw [show castL ([] : List Nat) = [] from rfl] at this
    rw [this]
  generalize (((sp5N a b c d e).map fun d : Nat => (s0 + (d : Int)).fmod 256).foldl bumpN ([], [])).2 = wN at I hfold
  have hsum : wN.sum = 32 := by rw [I.sum, sp5N_len]
  have hne : wN ≠ [] := by intro h; rw [h] at hsum; simp at hsum
  obtain ⟨M, hM, hle⟩ := has_max wN hne
  have hM1 := I.pos M hM
  have hM2 : M ≤ 32 := by have := le_sum_mem hM; omega
  have hlen : wN.length = wN.countP (fun x => decide (1 ≤ x)) := (count_all wN I.pos).symm
  have c1 := I.cnt 1 (by decide)
  have c2 := I.cnt 2 (by decide)
  have h1 := count_one wN
  have hc128 : ∀ x ∈ cnts (sp5N a b c d e), x < 128 := by
    intro x hx
    obtain ⟨q, _, rfl⟩ := List.mem_map.mp hx
    have := List.count_le_length (a := q) (l := sp5N a b c d e)
    rw [sp5N_len] at this; omega
  have v1 := ge_val 1 (by decide) (cnts (sp5N a b c d e)) hc128 (by rw [cnts_len]; decide)
  have v2 := ge_val 2 (by decide) (cnts (sp5N a b c d e)) hc128 (by rw [cnts_len]; decide)
  rw [cnts_len, eK181, eA181, enc_sp5] at v1
  rw [cnts_len, eK181, eB181, enc_sp5] at v2
  have hlh : (heldL B (castL (ti5N a b c d e))).length = 32 := by unfold heldL; simp
  have v3 := ge_val 1 (by decide) (heldL B (castL (ti5N a b c d e))) heldL_le (by rw [hlh]; decide)
  have v4 := ge_val 2 (by decide) (heldL B (castL (ti5N a b c d e))) heldL_le (by rw [hlh]; decide)
  rw [hlh, eK32, eA32, heldL_enc hB (ti5N_len a b c d e)] at v3
  rw [hlh, eK32, eB32, heldL_enc hB (ti5N_len a b c d e)] at v4
  unfold chk2 fin1 at hck
  rw [v1, v2, v3, v4] at hck
  unfold fin2 at hck
  rw [Bool.and_eq_true, Nat.beq_eq, Nat.beq_eq] at hck
  obtain ⟨k1, k2⟩ := hck
  have k1 : (cnts (sp5N a b c d e)).countP (fun x => decide (1 ≤ x)) + (heldL B (castL (ti5N a b c d e))).countP (fun x => decide (1 ≤ x)) = 32 := k1
  have k2 : (heldL B (castL (ti5N a b c d e))).countP (fun x => decide (1 ≤ x)) = 2 * (heldL B (castL (ti5N a b c d e))).countP (fun x => decide (2 ≤ x)) + (cnts (sp5N a b c d e)).countP (fun x => decide (2 ≤ x)) := k2
  rw [ti5_cast ha hb hc hd he] at hmd
  have hmd : md = (heldL B (castL (ti5N a b c d e))).map (min · 2) := hmd
  have m := md_facts (heldL B (castL (ti5N a b c d e)))
  rw [← hmd, hlh] at m
  obtain ⟨m1, m2, m3⟩ := m
  have m4 : md.length = 32 := by rw [hmd, List.length_map, hlh]
  have hss := sum_succ wN
  have hsm := sum_succ md
  have hpos : 1 ≤ wN.length := List.length_pos_iff.mpr hne
  refine ⟨wN, M, hfold, hM, hle, hM1, hM2, ?_, ?_, ?_, ?_, fun rest => ?_⟩
  · omega
  · refine List.count_pos_iff.mp ?_; omega
  · omega
  · omega
  · rw [m3, m4, hsm, m2]; omega
def prN (q a b : Nat) : Nat × Nat := ((a + q) % 4, (b + q) % 4)
def case2 (k0 k1 k2 : Nat) : Bool := chk2 (prN (k0 / 6) 0 1) (prN (k0 / 6) (k0 % 2) 2) (prN (k0 / 6) (k0 / 2 % 3) 3) (prN (k0 / 6) (k1 % 4) (k1 / 4)) (prN (k0 / 6) (k2 % 4) (k2 / 4))
end Mine


end

section
open PySem PySem.W PyProof.Rows
set_option Elab.async false
set_option linter.unusedVariables false
set_option maxRecDepth 20000
set_option maxHeartbeats 4000000
namespace Mine
theorem chk_0 : ((List.range 16).all fun k1 => (List.range 16).all fun k2 => case2 0 k1 k2) = true := by decide +kernel
theorem chk_1 : ((List.range 16).all fun k1 => (List.range 16).all fun k2 => case2 1 k1 k2) = true := by decide +kernel
theorem chk_2 : ((List.range 16).all fun k1 => (List.range 16).all fun k2 => case2 2 k1 k2) = true := by decide +kernel
theorem chk_3 : ((List.range 16).all fun k1 => (List.range 16).all fun k2 => case2 3 k1 k2) = true := by decide +kernel
theorem chk_4 : ((List.range 16).all fun k1 => (List.range 16).all fun k2 => case2 4 k1 k2) = true := by decide +kernel
theorem chk_5 : ((List.range 16).all fun k1 => (List.range 16).all fun k2 => case2 5 k1 k2) = true := by decide +kernel
theorem chk_6 : ((List.range 16).all fun k1 => (List.range 16).all fun k2 => case2 6 k1 k2) = true := by decide +kernel
theorem chk_7 : ((List.range 16).all fun k1 => (List.range 16).all fun k2 => case2 7 k1 k2) = true := by decide +kernel
theorem chk_8 : ((List.range 16).all fun k1 => (List.range 16).all fun k2 => case2 8 k1 k2) = true := by decide +kernel
theorem chk_9 : ((List.range 16).all fun k1 => (List.range 16).all fun k2 => case2 9 k1 k2) = true := by decide +kernel
theorem chk_10 : ((List.range 16).all fun k1 => (List.range 16).all fun k2 => case2 10 k1 k2) = true := by decide +kernel
theorem chk_11 : ((List.range 16).all fun k1 => (List.range 16).all fun k2 => case2 11 k1 k2) = true := by decide +kernel
theorem chk_12 : ((List.range 16).all fun k1 => (List.range 16).all fun k2 => case2 12 k1 k2) = true := by decide +kernel
theorem chk_13 : ((List.range 16).all fun k1 => (List.range 16).all fun k2 => case2 13 k1 k2) = true := by decide +kernel
theorem chk_14 : ((List.range 16).all fun k1 => (List.range 16).all fun k2 => case2 14 k1 k2) = true := by decide +kernel
theorem chk_15 : ((List.range 16).all fun k1 => (List.range 16).all fun k2 => case2 15 k1 k2) = true := by decide +kernel
theorem chk_16 : ((List.range 16).all fun k1 => (List.range 16).all fun k2 => case2 16 k1 k2) = true := by decide +kernel
theorem chk_17 : ((List.range 16).all fun k1 => (List.range 16).all fun k2 => case2 17 k1 k2) = true := by decide +kernel
theorem chk_18 : ((List.range 16).all fun k1 => (List.range 16).all fun k2 => case2 18 k1 k2) = true := by decide +kernel
theorem chk_19 : ((List.range 16).all fun k1 => (List.range 16).all fun k2 => case2 19 k1 k2) = true := by decide +kernel
theorem chk_20 : ((List.range 16).all fun k1 => (List.range 16).all fun k2 => case2 20 k1 k2) = true := by decide +kernel
theorem chk_21 : ((List.range 16).all fun k1 => (List.range 16).all fun k2 => case2 21 k1 k2) = true := by decide +kernel
theorem chk_22 : ((List.range 16).all fun k1 => (List.range 16).all fun k2 => case2 22 k1 k2) = true := by decide +kernel
theorem chk_23 : ((List.range 16).all fun k1 => (List.range 16).all fun k2 => case2 23 k1 k2) = true := by decide +kernel
theorem case_ok {k0 k1 k2 : Nat} (h0 : k0 < 24) (h1 : k1 < 16) (h2 : k2 < 16) : case2 k0 k1 k2 = true := by
  have : ((List.range 16).all fun k1 => (List.range 16).all fun k2 => case2 k0 k1 k2) = true := by
    have h : k0 = 0 ∨ k0 = 1 ∨ k0 = 2 ∨ k0 = 3 ∨ k0 = 4 ∨ k0 = 5 ∨ k0 = 6 ∨ k0 = 7 ∨ k0 = 8 ∨ k0 = 9 ∨ k0 = 10 ∨ k0 = 11 ∨ k0 = 12 ∨ k0 = 13 ∨ k0 = 14 ∨ k0 = 15 ∨ k0 = 16 ∨ k0 = 17 ∨ k0 = 18 ∨ k0 = 19 ∨ k0 = 20 ∨ k0 = 21 ∨ k0 = 22 ∨ k0 = 23 := by omega
    rcases h with rfl | rfl | rfl | rfl | rfl | rfl | rfl | rfl | rfl | rfl | rfl | rfl | rfl | rfl | rfl | rfl | rfl | rfl | rfl | rfl | rfl | rfl | rfl | rfl
    · exact chk_0
    · exact chk_1
    · exact chk_2
    · exact chk_3
    · exact chk_4
    · exact chk_5
    · exact chk_6
    · exact chk_7
    · exact chk_8
    · exact chk_9
    · exact chk_10
    · exact chk_11
    · exact chk_12
    · exact chk_13
    · exact chk_14
    · exact chk_15
    · exact chk_16
    · exact chk_17
    · exact chk_18
    · exact chk_19
    · exact chk_20
    · exact chk_21
    · exact chk_22
    · exact chk_23
  rw [List.all_eq_true] at this
  have := this k1 (List.mem_range.mpr h1)
  rw [List.all_eq_true] at this
  exact this k2 (List.mem_range.mpr h2)
end Mine

end

section
open PySem PySem.W PyProof.Rows
set_option Elab.async false
set_option linter.unusedVariables false
set_option linter.unusedSimpArgs false
set_option maxRecDepth 8000
set_option maxHeartbeats 4000000
namespace Mine
abbrev Qt : Flw → List Slot → Prop := fun f _ => ∃ fl, f = .ret (.bool true) fl
theorem l3_post_ok {ls : List D} {h0 h1 h2 h3 : Int} {tn : List (Int × Int)} {B rest : Nat} {sh li : D} {sp : List Int} {s2 s3 s6 s14 s15 s16 s17 s18 : Slot} {se : List D} {s21 s22 s23 s24 s25 s26 : Slot} {pa pb pc pd pe : Nat × Nat} (ha : lowP pa) (hb : lowP pb) (hc : lowP pc) (hd : lowP pd) (he : lowP pe)
    (hck : chk2 pa pb pc pd pe = true) (hB : B < 4) (hr : rest < 3) (s0 : Int) :
    wSs (T1 pg) l3post (σD ls h0 h1 h2 h3 tn B rest sh li sp (ti5 (castP pa) (castP pb) (castP pc) (castP pd) (castP pe)) (ro5 B) s2 s3 s6 s14 s15 s16 s17 s18 se (((sp5 s0 (castP pa) (castP pb) (castP pc) (castP pd) (castP pe)).map (·.fmod 256)).foldl bump ([], [])).2 s21 s22 s23 s24 s25 s26) Qt := by
  obtain ⟨wN, M, e, hM, hle, hM1, hM2, hl, hmd0, hc1, hc2, hc3⟩ := fin_ok ha hb hc hd he hck hB s0 rfl
  rw [e]
  show wSs (tabW pg (fnW pg) (indW pg)) (l3pA (l3pB (l3pC l3pD))) _ _
  refine l3_pA hB (fun c K hc h => flags_ok (p := pg) (hfl_T hB hc) h) (htx_T hB) (lens_T hB).1 fun j => ?_
  refine l3_pB (ti5_len _ _ _ _ _) (lens_T hB).2.1 (lens_T hB).2.2 (fun c hc => hrl_T hB hc) (fun r c K hr hc hs h => ell_ok (p := pg) (hel_T hB hr hc hs) h) fun s27 s29 s32 => ?_
  refine l3_pC (wN := wN) hr (by simp) (fun m hm => Nat.le_trans (hle m hm) hM2) hl (fun ms ch tail K hm hs ht hch ha h => ?_) fun w1 w2 => ?_
  · subst hch
    exact ws_spec hm hs (by omega) ht (by decide) (by decide) (by decide) ha h
  refine l3_pD hM hle hM1 hM2 hl hr (fun ws ms rest t K hm ht ht2 h => ind_spec hm ht ht2 h) (fun m hm => ?_) hmd0 hc1 hc2 ?_ (hc3 rest) fun σ => ⟨_, rfl⟩
  · obtain ⟨q, _, rfl⟩ := List.mem_map.mp hm
    show min q 2 ≤ 2; omega
  · rw [sum_succ]
    have : (fun m : Nat => m / 1) = id := by funext m; simp
    rw [this, List.map_id]
theorem prN_low (q a b : Nat) : lowP (prN q a b) := ⟨Nat.mod_lt _ (by decide), Nat.mod_lt _ (by decide)⟩
section
variable {c : Cx} {A : Around}
theorem law3_ex {ct : Ct} {env : Env} {l : List Stmt} (Sg : ∀ n, c.lo ≤ n → Sd (c.at n) A (T1 pg) ct.un ct.gl) (ef : EnvF ct env) (hm : mSs ct l3code l = true) (L : List Int) (hL : L.length ≤ 63) :
    ExW c A ct env (startσ [.lst (L.map D.int)] 34) (execs l env) Qt := by
  refine sSs_cat l3pre (.cons l3s10 l3post) ct (Sg _ (Nat.le_refl _)) env ef _ _ l hm ?_
  refine l3_A L hL fun h0 h1 h2 h3 s2 s3 => ?_
  have fm4 : ∀ x : Int, 0 ≤ x.fmod 4 ∧ x.fmod 4 < 4 := fun x => by rw [Int.fmod_eq_emod_of_nonneg _ (by decide)]; omega
  have ha' := fm4 (h3.fdiv 12)
  have hb' := fm4 (h3.fdiv 48)
  refine l3_B (a := 1 + (h3.fdiv 12).fmod 4) (b := 1 + (h3.fdiv 48).fmod 4) rfl rfl fun s6 => ?_
  obtain ⟨B, hB4, hBe⟩ : ∃ B : Nat, B < 4 ∧ h3.fmod 4 = (B : Int) := ⟨(h3.fmod 4).toNat, by have := fm4 h3; omega, by have := fm4 h3; omega⟩
  have fm3 : ∀ x : Int, 0 ≤ x.fmod 3 ∧ x.fmod 3 < 3 := fun x => by rw [Int.fmod_eq_emod_of_nonneg _ (by decide)]; omega
  obtain ⟨rest, hr3, hre⟩ : ∃ r : Nat, r < 3 ∧ (h3.fdiv 4).fmod 3 = (r : Int) := ⟨((h3.fdiv 4).fmod 3).toNat, by have := fm3 (h3.fdiv 4); omega, by have := fm3 (h3.fdiv 4); omega⟩
  have hs0 : 0 ≤ (h3.fdiv 192).fmod 1024 ∧ (h3.fdiv 192).fmod 1024 < 1024 := by rw [Int.fmod_eq_emod_of_nonneg _ (by decide)]; omega
  rw [hBe, hre]
  generalize (h3.fdiv 192).fmod 1024 = s0 at hs0 ⊢
  have ha1 : 1 ≤ 1 + (h3.fdiv 12).fmod 4 ∧ 1 + (h3.fdiv 12).fmod 4 ≤ 4 := by omega
  have hb1 : 1 ≤ 1 + (h3.fdiv 48).fmod 4 ∧ 1 + (h3.fdiv 48).fmod 4 ≤ 4 := by omega
  generalize 1 + (h3.fdiv 12).fmod 4 = a at ha1 ⊢
  generalize 1 + (h3.fdiv 48).fmod 4 = b at hb1 ⊢
  -- the turns
  obtain ⟨k0, hk0, q0, q1, q2⟩ : ∃ k : Nat, k < 24 ∧ (h0.fmod 2 = ((k % 2 : Nat) : Int)) ∧ ((h0.fdiv 2).fmod 3 = ((k / 2 % 3 : Nat) : Int)) ∧ (h0.fdiv 6) % 4 = ((k / 6 : Nat) : Int) := by
    refine ⟨(h0 % 24).toNat, by omega, ?_, ?_, ?_⟩
    · rw [Int.fmod_eq_emod_of_nonneg _ (by decide)]; omega
    · rw [Int.fmod_eq_emod_of_nonneg _ (by decide), Int.fdiv_eq_ediv_of_nonneg _ (by decide)]; omega
    · rw [Int.fdiv_eq_ediv_of_nonneg _ (by decide)]; omega
  have four : ∀ h : Int, ∃ k : Nat, k < 16 ∧ h.fmod 4 = ((k % 4 : Nat) : Int) ∧ (h.fdiv 4).fmod 4 = ((k / 4 : Nat) : Int) := by
    intro h
    refine ⟨(h % 16).toNat, by omega, ?_, ?_⟩
    · rw [Int.fmod_eq_emod_of_nonneg _ (by decide)]; omega
    · rw [Int.fmod_eq_emod_of_nonneg _ (by decide), Int.fdiv_eq_ediv_of_nonneg _ (by decide)]; omega
  obtain ⟨k1, hk1, r1, r2⟩ := four h1
  obtain ⟨k2, hk2, t1, t2⟩ := four h2
  have turn : ∀ (x y : Int) (u v : Nat), x = (u : Int) → y = (v : Int) → (x + h0.fdiv 6).fmod 4 = (castP (prN (k0 / 6) u v)).1 ∧ (y + h0.fdiv 6).fmod 4 = (castP (prN (k0 / 6) u v)).2 := by
    intro x y u v hx hy
    rw [Int.fmod_eq_emod_of_nonneg _ (by decide), Int.fmod_eq_emod_of_nonneg _ (by decide)]
    show _ = (((u + k0 / 6) % 4 : Nat) : Int) ∧ _ = (((v + k0 / 6) % 4 : Nat) : Int)
    refine ⟨?_, ?_⟩ <;> omega
  refine l3_C hB4 (turn 0 1 0 1 rfl rfl) (turn _ 2 _ 2 q0 rfl) (turn _ 3 _ 3 q1 rfl) (turn _ _ _ _ r1 r2) (turn _ _ _ _ t1 t2) fun s2 s14 s15 s16 s17 => ?_
  have hck : chk2 (prN (k0 / 6) 0 1) (prN (k0 / 6) (k0 % 2) 2) (prN (k0 / 6) (k0 / 2 % 3) 3) (prN (k0 / 6) (k1 % 4) (k1 / 4)) (prN (k0 / 6) (k2 % 4) (k2 / 4)) = true := case_ok hk0 hk1 hk2
  have pa := prN_low (k0 / 6) 0 1
  have pb := prN_low (k0 / 6) (k0 % 2) 2
  have pc := prN_low (k0 / 6) (k0 / 2 % 3) 3
  have pd := prN_low (k0 / 6) (k1 % 4) (k1 / 4)
  have pe := prN_low (k0 / 6) (k2 % 4) (k2 / 4)
  generalize prN (k0 / 6) 0 1 = na at *
  generalize prN (k0 / 6) (k0 % 2) 2 = nb at *
  generalize prN (k0 / 6) (k0 / 2 % 3) 3 = nc at *
  generalize prN (k0 / 6) (k1 % 4) (k1 / 4) = nd at *
  generalize prN (k0 / 6) (k2 % 4) (k2 / 4) = ne at *
  have hsp : ∀ s ∈ sp5 s0 (castP na) (castP nb) (castP nc) (castP nd) (castP ne), 0 ≤ s ∧ s < 10000 := by
    rw [sp5_cast pa pb pc pd pe]
    intro s hs
    obtain ⟨d, hd, rfl⟩ := List.mem_map.mp hs
    have := sp5N_le na nb nc nd ne d hd
    omega
  intro l' hm'
  refine sSs_aged Sg ef hm' ?_
  refine ⟨by rw [List.length_map, sp5_len]; decide, ?_⟩
  refine ⟨(fun h => nomatch h), ?_⟩
  refine l3_hues (p := pg) (fn := fnW pg) (ind := indW pg) (B := (B : Int)) (R := (rest : Int)) ha1 hb1 (fun s a b x y z K hs ha hb h => ?_) (sp5 s0 (castP na) (castP nb) (castP nc) (castP nd) (castP ne)) [] [] .new .new _ _ _ _ _ _ _ _ _ _ _ _ _ _ .any hsp (by simp) rfl (by rw [sp5_len]; decide) ?_
  · have e : 16 * s = 8 * (2 * s) := by omega
    rw [e] at h ⊢
    exact paint (p := pg) (by omega) ha hb h
  · intro ga gb s2 s3 s6 s14 s15 s16 s17 s18 s21 s22 s23 s24 s25 s26 g l'' hm''
    exact sSs l3post ct (Sg _ (Nat.le_refl _)) env ef _ _ _ hm'' (l3_post_ok pa pb pc pd pe hck hB4 hr3 s0)
end
end Mine

end

open PySem PySem.W PyProof.Rows
set_option Elab.async false
set_option linter.unusedVariables false
set_option maxRecDepth 100000
set_option maxHeartbeats 4000000
namespace Mine
def noBook (K : Frag) : Bool := match K.lookup cStatics with
  | some o => (match o.data with
    | .dict es _ => (nsFind es sharingNotToldKey).isNone
    | _ => false)
  | none => false
theorem none_booked_of {K : Frag} {h : Heap} (X : K.In h) (N : ∃ mc, h.Ns cStatics mc ∧ mc "sys.int_max_str_digits" = none) (e : noBook K = true) : NoneBooked h := by
  obtain ⟨mc, hn, _⟩ := N
  refine ⟨mc, hn, ?_⟩
  obtain ⟨o, es, ep, ho, hd, _, hf⟩ := hn
  unfold noBook at e
  split at e
  · rename_i o' hl
    have := X _ _ hl
    rw [ho] at this
    cases this
    rw [hd] at e
    rw [← hf]
    exact Option.isNone_iff_eq_none.mp e
  · cases e
theorem kf_nobook (S : Params) : noBook (KK S) = true := by kernel_rfl
theorem list_exact {P : Params} {h : Heap} {a : Addr} {vs : List Value} {xs : List WData} (W : Well P h (.ref a) (.list xs)) (hL : h.IsList a vs.toArray) : ∃ n, h.get? a = some (seqO "list" vs n) := by
  obtain ⟨o, ho, hc, n, hd⟩ := hL
  cases W with
  | list hg hw =>
    rw [ho] at hg
    cases hg
    dsimp only at hd
    cases hd
    exact ⟨_, ho⟩
end Mine
open Mine
theorem PySem.Challenge.cw_ut0019_03_holds : PySem.Challenge.rw_ut0019_03.Holds := by
  refine hd3 ?_
  intro w s₀ s₁ mg mb G Y fa o pm cd doc dV kV ho hd hcd hD hmg hg args vals as hpre hlay hrd hwl hlo
  have KX := kIn_of Y
  refine Ground.open G ?_
  intro T B D TE TW
  wrow_args hpre hlay hrd hwl hlo
  rename_i L _ _ _ _ _ _ _ a vs _ hL _ W _ hI _ hlen _
  obtain ⟨n, hget⟩ := list_exact W hL
  have hfa : (128 : Addr) = fa := by
    have := mg_of KX T.g (n := "law") (v := .ref 128) (by kernel_rfl)
    have h2 : mg "law" = some (.ref fa) := hmg
    rw [this] at h2
    cases h2; rfl
  subst hfa
  let c : Cx := { prog := PySem.Challenge.rw_ut0019_03.row.prog, w := w, K := KK w.params, h₀ := s₁.heap, mg := mg, mb := mb, p := _, loose := _, X := KX, T := topRead_of T, lo := s₁.toks, nb := none_booked_of KX T.nodigits (kf_nobook _) }
  have lim : c.h₀.NoLimit := T.nolimit
  have key : ∀ E : Value → Shared → Prop, wpAny (model PySem.Challenge.rw_ut0019_03.row.prog w) callerA (call (.ref 128) [.ref a]) (fun v s' => v = Value.bool true ∧ Kp s₁ s') E s₁ := by
    intro E
    refine law_call (c := c) (un := unNames) (gl := glNames) (k := 34) (x := "script") ⟨kf_law_hd _, kf_law_hb _⟩ lim rfl (by kernel_rfl) (by decide +kernel) (fun _ _ e => e) hget hI (fun m hm env ef => ?_) fun s' hk => ⟨rfl, hk⟩
    refine law3_ex (c := c.at m) (fun n hn => ?_) ef (kf_law_rd _) L (by omega)
    exact sd1 (c := (c.at m).at n) (A := callerA.deeper env) (kf_fns _) (show 1 ≤ n from Nat.le_trans hm hn) lim rfl (by rw [Around.deeper_units]; decide) (by show callerA.depth + 1 < 800; decide +kernel)
  refine mono (key _) fun v s' h => ?_
  obtain ⟨rfl, ⟨h', tk, rfl, hk⟩, _⟩ := h
  refine GoodW.toG ⟨.inl ⟨_, .bool true, [], rfl, fun _ => rfl, .bool true, by wrow_post, fun _ => ⟨List.nodup_nil, fun _ h => nomatch h⟩⟩, hk, rfl, hg⟩
