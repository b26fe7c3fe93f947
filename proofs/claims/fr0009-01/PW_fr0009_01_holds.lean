import PyProof.Rows.All
import Wide.All
import OpenK.AllK
import Wide.FinOn
import PySem.Challenge.RW_fr0009_01
set_option maxRecDepth 100000
namespace Mine
open PySem PySem.W PyProof.Rows

/-! data -/
inductive Key where
  | s (x : Str)
  | b (x : List UInt8)
  deriving DecidableEq

inductive D where
  | none
  | bool (b : Bool)
  | int (i : Int)
  | str (x : Str)
  | bytes (x : List UInt8)
  | list (xs : List D)
  | tup (xs : List D)
  | dict (kvs : List (Key × D))

def Key.d : Key → D
  | .s x => .str x
  | .b x => .bytes x

section
variable {prog : Program} {w : World} {A : Around} {E : Value → Shared → Prop} {s : Shared}

theorem str_eq_bytes (x : Str) (t : Tok) (c : Array UInt8) (u : Tok) : Gives (Builtin.«str.__eq__» ⟨[.str x t, .bytes c u], []⟩) (.val .notImplemented) :=
  .of_wp fun M A E s Q h => by obtain ⟨hp, g, d, tk, os⟩ := s; wp_walk; exact ⟨_, rfl, h⟩
theorem bytes_eq_str (x : Str) (t : Tok) (c : Array UInt8) (u : Tok) : Gives (Builtin.«bytes.__eq__» ⟨[.bytes c u, .str x t], []⟩) (.val .notImplemented) := by
  refine .of_wp fun M A E s Q hq => ?_
  show wpAny M A (isInstance (.str x t) (.type "bytes") >>= fun r => _) _ E s
  refine wpAny_bind (wpAny_isInstance (typeIs_str s x t) F.sub_str_bytes ?_)
  refine wpAny_bind (wpAny_isInstance (typeIs_str s x t) F.sub_str_bytes ?_)
  exact wpAny_bind (wpAny_rule (wpAny_pure ⟨_, rfl, hq⟩))

theorem eqBool_str_bytes {x : Str} {t u : Tok} {c : Array UInt8} {Q : Bool → Shared → Prop} (h : Q false s) :
    wpAny (model prog w) A (eqBool (.str x t) (.bytes c u)) Q E s := by
  unfold eqBool
  refine wpAny_holding ?_
  refine wpAny_ite_split (fun hab => absurd (eq_of_beq hab) nofun) (fun _ => ?_)
  refine wpAny_bind (EqNone.wpAny_richCompare_eq_decline (k := false) (fun s' => typeIs_str s' x t) (fun s' => typeIs_bytes s' c u) (by decide) F.sub_bytes_str F.slot_str_eq FB.slot_bytes_eq rfl
    (call_gives F.slot_str_eq (typeIs_str s x t) F.entry_str_eq (F.args_str_eq_2 _ _) (str_eq_bytes x t c u)
      ⟨rfl, call_gives FB.slot_bytes_eq (typeIs_bytes s c u) FB.entry_bytes_eq (FB.args_bytes_eq_2 _ _) (bytes_eq_str x t c u) ⟨rfl, wpAny_truthy_bool h⟩⟩))
theorem eqBool_bytes_str {x : Str} {t u : Tok} {c : Array UInt8} {Q : Bool → Shared → Prop} (h : Q false s) :
    wpAny (model prog w) A (eqBool (.bytes c u) (.str x t)) Q E s := by
  unfold eqBool
  refine wpAny_holding ?_
  refine wpAny_ite_split (fun hab => absurd (eq_of_beq hab) nofun) (fun _ => ?_)
  refine wpAny_bind (EqNone.wpAny_richCompare_eq_decline (k := false) (fun s' => typeIs_bytes s' c u) (fun s' => typeIs_str s' x t) (by decide) F.sub_str_bytes FB.slot_bytes_eq F.slot_str_eq_refl rfl
    (call_gives FB.slot_bytes_eq (typeIs_bytes s c u) FB.entry_bytes_eq (FB.args_bytes_eq_2 _ _) (bytes_eq_str x t c u)
      ⟨rfl, call_gives F.slot_str_eq_refl (typeIs_str s x t) F.entry_str_eq (F.args_str_eq_2 _ _) (str_eq_bytes x t c u) ⟨rfl, wpAny_truthy_bool h⟩⟩))
end

def isKey : Key → Value → Bool
  | .s x, v => Value.isStrOf x v
  | .b x, v => isBytes x v

theorem isKey_shape {k : Key} {v : Value} (h : isKey k v = true) : (∃ x t, k = .s x ∧ v = .str x t) ∨ ∃ x t, k = .b x ∧ v = .bytes x.toArray t := by
  cases k with
  | s x => obtain ⟨t, rfl⟩ := Value.isStrOf_shape h; exact .inl ⟨x, t, rfl, rfl⟩
  | b x => obtain ⟨t, rfl⟩ := isBytes_shape h; exact .inr ⟨x, t, rfl, rfl⟩
theorem isKey_str (x : Str) (t : Tok) : isKey (.s x) (.str x t) = true := by simp [isKey, Value.isStrOf]
theorem isKey_bytes (x : List UInt8) (t : Tok) : isKey (.b x) (.bytes x.toArray t) = true := by simp [isKey, isBytes]

def hashKey (w : World) : Key → Int
  | .s x => hashStr w x
  | .b x => hashW w.params (.bytes x)

def keyKind (prog : Program) (w : World) : KeyKind prog w Key where
  is := isKey
  hash := hashKey w
  inj := fun v a b ha hb => by
    rcases isKey_shape ha with ⟨x, t, rfl, rfl⟩ | ⟨x, t, rfl, rfl⟩ <;> rcases isKey_shape hb with ⟨y, u, rfl, e⟩ | ⟨y, u, rfl, e⟩
    · injection e with e1; subst e1; rfl
    · cases e
    · cases e
    · injection e with e1; have := congrArg Array.toList e1; simp at this; subst this; rfl
  byValue := fun k v h => by rcases isKey_shape h with ⟨x, t, rfl, rfl⟩ | ⟨x, t, rfl, rfl⟩ <;> rfl
  pyHash := fun {A E s k v Q} hv h => by
    cases k with
    | s x => exact (strKind prog w).pyHash (k := x) hv h
    | b x => exact (bytesKind prog w).pyHash (k := x) hv h
  eqBool := fun {A E s a b u v Q} hu hv h => by
    cases a with
    | s x =>
      cases b with
      | s y => exact (strKind prog w).eqBool (a := x) (b := y) hu hv (by simpa using h)
      | b y =>
        rcases isKey_shape hu with ⟨x', t, e, rfl⟩ | ⟨x', t, e, rfl⟩ <;> cases e
        rcases isKey_shape hv with ⟨y', t', e, rfl⟩ | ⟨y', t', e, rfl⟩ <;> cases e
        exact eqBool_str_bytes (by simpa using h)
    | b x =>
      cases b with
      | s y =>
        rcases isKey_shape hu with ⟨x', t, e, rfl⟩ | ⟨x', t, e, rfl⟩ <;> cases e
        rcases isKey_shape hv with ⟨y', t', e, rfl⟩ | ⟨y', t', e, rfl⟩ <;> cases e
        exact eqBool_bytes_str (by simpa using h)
      | b y => exact (bytesKind prog w).eqBool (a := x) (b := y) hu hv (by simpa using h)
  «strs» k x t v h := by
    cases k with
    | s y => exact (strKind prog w).strs y x t v h
    | b y => cases h

end Mine

set_option maxRecDepth 100000
set_option autoImplicit false
set_option linter.unusedVariables false
namespace Mine
open PySem PySem.W PyProof.Rows

/-- the program, the world and the heap that stands ahead of the call -/
structure Cx where
  prog : Program
  w : World
  h : Heap
  mg : Str → Option Value
  mb : Str → Option Value
  ns : h.Ns mainGlobals mg
  bs : h.Ns builtinsNs mb
  bo : ∀ x : Str, x ≠ "__name__" → mb x = bootBuiltins x
  nolimit : h.NoLimit
  mods : ∃ o, h.get? sysModules = some o

abbrev Gm := Addr → Option Obj
def Gle (G G' : Gm) : Prop := ∀ b o, G b = some o → G' b = some o
theorem Gle.refl (G : Gm) : Gle G G := fun _ _ e => e
theorem Gle.trans {G G' G'' : Gm} (x : Gle G G') (y : Gle G' G'') : Gle G G'' := fun b o e => y b o (x b o e)
def Gadd (G : Gm) (a : Addr) (o : Obj) : Gm := fun b => if b = a then some o else G b
theorem Gle.add {G : Gm} {a : Addr} {o : Obj} (h : G a = none) : Gle G (Gadd G a o) := fun b o' e => by
  unfold Gadd
  split
  · rename_i q; subst q; rw [h] at e; cases e
  · exact e
theorem Gadd_self (G : Gm) (a : Addr) (o : Obj) : Gadd G a o a = some o := by simp [Gadd]

/-- heap to heap: everything that stood stands -/
def Hle (h h' : Heap) : Prop := ∀ b o, h.get? b = some o → h'.get? b = some o
theorem Hle.refl (h : Heap) : Hle h h := fun _ _ e => e
theorem Hle.trans {h h' h'' : Heap} (x : Hle h h') (y : Hle h' h'') : Hle h h'' := fun b o e => y b o (x b o e)
theorem Hle.push (h : Heap) (o : Obj) : Hle h (h.push o) := fun _ _ e => Heap.get?_push_of_some _ e

/-- the value tells the data over the frozen objects -/
inductive Rep (C : Cx) (G : Gm) : Value → D → Prop where
  | none : Rep C G .none .none
  | bool (b : Bool) : Rep C G (.bool b) (.bool b)
  | int (i : Int) (t : Tok) : Rep C G (.int i t) (.int i)
  | str (x : Str) (t : Tok) : Rep C G (.str x t) (.str x)
  | bytes (x : List UInt8) (t : Tok) : Rep C G (.bytes x.toArray t) (.bytes x)
  | list {a : Addr} {o : Obj} {vs : Array Value} {n : Nat} {ds : List D} : G a = some o → o.cls = .type "list" → o.data = .seq vs n → vs.size = ds.length →
      (∀ (i : Nat) (v : Value) (d : D), vs[i]? = some v → ds[i]? = some d → Rep C G v d) → Rep C G (.ref a) (.list ds)
  | tup {a : Addr} {o : Obj} {vs : Array Value} {n : Nat} {ds : List D} : G a = some o → o.cls = .type "tuple" → o.data = .seq vs n → vs.size = ds.length →
      (∀ (i : Nat) (v : Value) (d : D), vs[i]? = some v → ds[i]? = some d → Rep C G v d) → Rep C G (.ref a) (.tup ds)
  | dict {a : Addr} {o : Obj} {kvv : List (Key × Value)} {kvs : List (Key × D)} : G a = some o → (a == sysModules) = false → o.IsDictOf (keyKind C.prog C.w) kvv → kvv.map (·.1) = kvs.map (·.1) →
      (∀ (i : Nat) (p : Key × Value) (q : Key × D), kvv[i]? = some p → kvs[i]? = some q → Rep C G p.2 q.2) → Rep C G (.ref a) (.dict kvs)

theorem Rep.mono {C : Cx} {G G' : Gm} (le : Gle G G') {v : Value} {d : D} (h : Rep C G v d) : Rep C G' v d := by
  induction h with
  | none => exact .none
  | bool b => exact .bool b
  | int i t => exact .int i t
  | str x t => exact .str x t
  | bytes x t => exact .bytes x t
  | list h1 h2 h3 h4 _ ih => exact .list (le _ _ h1) h2 h3 h4 ih
  | tup h1 h2 h3 h4 _ ih => exact .tup (le _ _ h1) h2 h3 h4 ih
  | dict h1 h2 h3 h4 _ ih => exact .dict (le _ _ h1) h2 h3 h4 ih

/-- a list of values tells a list of data -/
inductive Reps (C : Cx) (G : Gm) : List Value → List D → Prop where
  | nil : Reps C G [] []
  | cons {v : Value} {d : D} {vs : List Value} {ds : List D} : Rep C G v d → Reps C G vs ds → Reps C G (v :: vs) (d :: ds)
theorem Reps.mono {C : Cx} {G G' : Gm} (le : Gle G G') {vs : List Value} {ds : List D} (h : Reps C G vs ds) : Reps C G' vs ds := by
  induction h with
  | nil => exact .nil
  | cons h _ ih => exact .cons (h.mono le) ih
theorem Reps.length {C : Cx} {G : Gm} {vs : List Value} {ds : List D} (h : Reps C G vs ds) : vs.length = ds.length := by
  induction h with
  | nil => rfl
  | cons _ _ ih => simp [ih]
theorem Reps.append {C : Cx} {G : Gm} {vs us : List Value} {ds es : List D} (h : Reps C G vs ds) (h' : Reps C G us es) : Reps C G (vs ++ us) (ds ++ es) := by
  induction h with
  | nil => exact h'
  | cons h _ ih => exact .cons h ih
theorem Reps.snoc {C : Cx} {G : Gm} {vs : List Value} {ds : List D} {v : Value} {d : D} (h : Reps C G vs ds) (h' : Rep C G v d) : Reps C G (vs ++ [v]) (ds ++ [d]) := h.append (.cons h' .nil)
theorem Reps.get {C : Cx} {G : Gm} {vs : List Value} {ds : List D} (h : Reps C G vs ds) : ∀ {i : Nat} {v : Value} {d : D}, vs[i]? = some v → ds[i]? = some d → Rep C G v d := by
  induction h with
  | nil => intro i v d e; simp at e
  | cons h _ ih =>
    intro i v d e e'
    cases i with
    | zero => simp at e e'; subst e e'; exact h
    | succ i => exact ih (by simpa using e) (by simpa using e')
theorem Reps.at {C : Cx} {G : Gm} {vs : List Value} {ds : List D} (h : Reps C G vs ds) {i : Nat} {d : D} (e : ds[i]? = some d) : ∃ v, vs[i]? = some v ∧ Rep C G v d := by
  have hl := h.length
  obtain ⟨hi, _⟩ := List.getElem?_eq_some_iff.mp e
  have : i < vs.length := by omega
  exact ⟨vs[i], List.getElem?_eq_getElem this, h.get (List.getElem?_eq_getElem this) e⟩
theorem Reps.of_all {C : Cx} {G : Gm} : ∀ {vs : List Value} {ds : List D}, vs.length = ds.length → (∀ (i : Nat) (v : Value) (d : D), vs[i]? = some v → ds[i]? = some d → Rep C G v d) → Reps C G vs ds
  | [], [], _, _ => .nil
  | [], _ :: _, h, _ => by simp at h
  | _ :: _, [], h, _ => by simp at h
  | v :: vs, d :: ds, h, k => .cons (k 0 v d rfl rfl) (Reps.of_all (by simpa using h) fun i u e hu he => k (i + 1) u e (by simpa using hu) (by simpa using he))
theorem Reps.take {C : Cx} {G : Gm} {vs : List Value} {ds : List D} (h : Reps C G vs ds) (n : Nat) : Reps C G (vs.take n) (ds.take n) := by
  induction h generalizing n with
  | nil => simp; exact .nil
  | cons h _ ih => cases n with
    | zero => exact .nil
    | succ n => exact .cons h (ih n)
theorem Reps.drop {C : Cx} {G : Gm} {vs : List Value} {ds : List D} (h : Reps C G vs ds) (n : Nat) : Reps C G (vs.drop n) (ds.drop n) := by
  induction h generalizing n with
  | nil => simp; exact .nil
  | cons h h' ih => cases n with
    | zero => exact .cons h h'
    | succ n => exact ih n

theorem Rep.list_inv {C : Cx} {G : Gm} {v : Value} {ds : List D} (h : Rep C G v (.list ds)) : ∃ a o vs n, v = .ref a ∧ G a = some o ∧ o.cls = .type "list" ∧ o.data = .seq vs n ∧ Reps C G vs.toList ds := by
  cases h with
  | list h1 h2 h3 h4 h5 => exact ⟨_, _, _, _, rfl, h1, h2, h3, Reps.of_all (by simpa using h4) fun i v d e e' => h5 i v d (by simpa using e) e'⟩
theorem Rep.tup_inv {C : Cx} {G : Gm} {v : Value} {ds : List D} (h : Rep C G v (.tup ds)) : ∃ a o vs n, v = .ref a ∧ G a = some o ∧ o.cls = .type "tuple" ∧ o.data = .seq vs n ∧ Reps C G vs.toList ds := by
  cases h with
  | tup h1 h2 h3 h4 h5 => exact ⟨_, _, _, _, rfl, h1, h2, h3, Reps.of_all (by simpa using h4) fun i v d e e' => h5 i v d (by simpa using e) e'⟩
theorem Rep.list' {C : Cx} {G : Gm} {a : Addr} {o : Obj} {vs : Array Value} {n : Nat} {ds : List D} (h1 : G a = some o) (h2 : o.cls = .type "list") (h3 : o.data = .seq vs n) (h : Reps C G vs.toList ds) : Rep C G (.ref a) (.list ds) :=
  .list h1 h2 h3 (by have := h.length; simpa using this) fun i v d e e' => h.get (by simpa using e) e'
theorem Rep.tup' {C : Cx} {G : Gm} {a : Addr} {o : Obj} {vs : Array Value} {n : Nat} {ds : List D} (h1 : G a = some o) (h2 : o.cls = .type "tuple") (h3 : o.data = .seq vs n) (h : Reps C G vs.toList ds) : Rep C G (.ref a) (.tup ds) :=
  .tup h1 h2 h3 (by have := h.length; simpa using this) fun i v d e e' => h.get (by simpa using e) e'

/-- rows of a dict -/
inductive RepKV (C : Cx) (G : Gm) : List (Key × Value) → List (Key × D) → Prop where
  | nil : RepKV C G [] []
  | cons {k : Key} {v : Value} {d : D} {vs : List (Key × Value)} {ds : List (Key × D)} : Rep C G v d → RepKV C G vs ds → RepKV C G ((k, v) :: vs) ((k, d) :: ds)
theorem RepKV.mono {C : Cx} {G G' : Gm} (le : Gle G G') {vs : List (Key × Value)} {ds : List (Key × D)} (h : RepKV C G vs ds) : RepKV C G' vs ds := by
  induction h with
  | nil => exact .nil
  | cons h _ ih => exact .cons (h.mono le) ih
theorem RepKV.keys {C : Cx} {G : Gm} {vs : List (Key × Value)} {ds : List (Key × D)} (h : RepKV C G vs ds) : vs.map (·.1) = ds.map (·.1) := by
  induction h with
  | nil => rfl
  | cons _ _ ih => simp [ih]
theorem RepKV.length {C : Cx} {G : Gm} {vs : List (Key × Value)} {ds : List (Key × D)} (h : RepKV C G vs ds) : vs.length = ds.length := by
  have := congrArg List.length h.keys; simpa using this
theorem RepKV.get {C : Cx} {G : Gm} {vs : List (Key × Value)} {ds : List (Key × D)} (h : RepKV C G vs ds) : ∀ {i : Nat} {p : Key × Value} {q : Key × D}, vs[i]? = some p → ds[i]? = some q → p.1 = q.1 ∧ Rep C G p.2 q.2 := by
  induction h with
  | nil => intro i v d e; simp at e
  | cons h _ ih =>
    intro i v d e e'
    cases i with
    | zero => simp at e e'; subst e e'; exact ⟨rfl, h⟩
    | succ i => exact ih (by simpa using e) (by simpa using e')
theorem RepKV.of_all {C : Cx} {G : Gm} : ∀ {vs : List (Key × Value)} {ds : List (Key × D)}, vs.map (·.1) = ds.map (·.1) → (∀ (i : Nat) (p : Key × Value) (q : Key × D), vs[i]? = some p → ds[i]? = some q → Rep C G p.2 q.2) → RepKV C G vs ds
  | [], [], _, _ => .nil
  | [], _ :: _, h, _ => by simp at h
  | _ :: _, [], h, _ => by simp at h
  | (k, v) :: vs, (k', d) :: ds, h, q => by
    simp only [List.map_cons, List.cons.injEq] at h
    obtain ⟨rfl, h⟩ := h
    exact .cons (q 0 (k, v) (k, d) rfl rfl) (RepKV.of_all h fun i u e hu he => q (i + 1) u e (by simpa using hu) (by simpa using he))
theorem RepKV.append {C : Cx} {G : Gm} {vs us : List (Key × Value)} {ds es : List (Key × D)} (h : RepKV C G vs ds) (h' : RepKV C G us es) : RepKV C G (vs ++ us) (ds ++ es) := by
  induction h with
  | nil => exact h'
  | cons h _ ih => exact .cons h ih
theorem Rep.dict_inv {C : Cx} {G : Gm} {v : Value} {kvs : List (Key × D)} (h : Rep C G v (.dict kvs)) : ∃ a o kvv, v = .ref a ∧ G a = some o ∧ (a == sysModules) = false ∧ o.IsDictOf (keyKind C.prog C.w) kvv ∧ RepKV C G kvv kvs := by
  cases h with
  | dict h1 h2 h3 h4 h5 => exact ⟨_, _, _, rfl, h1, h2, h3, RepKV.of_all h4 h5⟩
theorem Rep.dict' {C : Cx} {G : Gm} {a : Addr} {o : Obj} {kvv : List (Key × Value)} {kvs : List (Key × D)} (h1 : G a = some o) (h2 : (a == sysModules) = false) (h3 : o.IsDictOf (keyKind C.prog C.w) kvv) (h : RepKV C G kvv kvs) : Rep C G (.ref a) (.dict kvs) :=
  .dict h1 h2 h3 h.keys fun i p q e e' => (h.get e e').2

/-- what a name or an expression holds: data, or things of its own -/
structure Res where
  P : Gm → Value → List (Addr × Obj) → Prop
  mono : ∀ {G G' : Gm} {v : Value} {ow : List (Addr × Obj)}, Gle G G' → P G v ow → P G' v ow

def dat (C : Cx) (d : D) : Res := ⟨fun G v ow => ow = [] ∧ Rep C G v d, fun le h => ⟨h.1, h.2.mono le⟩⟩
def listObj (vs : List Value) (n : Nat) : Obj := { cls := .type "list", data := .seq vs.toArray n }
def lst (C : Cx) (ds : List D) : Res := ⟨fun G v ow => ∃ a vs n, v = .ref a ∧ ow = [(a, listObj vs n)] ∧ Reps C G vs ds, fun le ⟨a, vs, n, h1, h2, h3⟩ => ⟨a, vs, n, h1, h2, h3.mono le⟩⟩
def dct (C : Cx) (kvs : List (Key × D)) : Res :=
  ⟨fun G v ow => ∃ a o kvv, v = .ref a ∧ ow = [(a, o)] ∧ (a == sysModules) = false ∧ o.IsDictOf (keyKind C.prog C.w) kvv ∧ RepKV C G kvv kvs, fun le ⟨a, o, kvv, h1, h2, h3, h4, h5⟩ => ⟨a, o, kvv, h1, h2, h3, h4, h5.mono le⟩⟩

abbrev Ctx := List (Str × Res)

/-- the frame's names -/
inductive Loc (G : Gm) (m : Str → Option Value) : Ctx → List (Addr × Obj) → Prop where
  | nil : Loc G m [] []
  | cons {x : Str} {r : Res} {v : Value} {ow : List (Addr × Obj)} {ρ : Ctx} {own : List (Addr × Obj)} : m x = some v → r.P G v ow → Loc G m ρ own → Loc G m ((x, r) :: ρ) (ow ++ own)
theorem Loc.mono {G G' : Gm} {m : Str → Option Value} (le : Gle G G') {ρ : Ctx} {own : List (Addr × Obj)} (h : Loc G m ρ own) : Loc G' m ρ own := by
  induction h with
  | nil => exact .nil
  | cons h1 h2 _ ih => exact .cons h1 (Res.mono _ le h2) ih

/-- things that are held: at their places, apart, outside the frozen ones; the frozen ones lie in the heap -/
structure Own (G : Gm) (X : List (Addr × Obj)) (h : Heap) : Prop where
  at_ : ∀ p ∈ X, h.get? p.1 = some p.2
  off : ∀ p ∈ X, G p.1 = none
  nd : (X.map (·.1)).Nodup
  sub : ∀ b o, G b = some o → h.get? b = some o
theorem get?_size (h : Heap) : h.get? h.objs.size = none := by
  cases e : h.get? h.objs.size with
  | none => rfl
  | some ob => exact absurd (Heap.lt_size e) (Nat.lt_irrefl _)
theorem Own.none_of {G : Gm} {X : List (Addr × Obj)} {h : Heap} (o : Own G X h) {b : Addr} (hb : h.get? b = none) : G b = none := by
  cases e : G b with
  | none => rfl
  | some ob => have := o.sub b ob e; rw [hb] at this; cases this
theorem Own.nil {G : Gm} {h : Heap} (sub : ∀ b o, G b = some o → h.get? b = some o) : Own G [] h := ⟨fun _ hp => (nomatch hp), fun _ hp => (nomatch hp), List.nodup_nil, sub⟩
theorem Own.le {G : Gm} {X Y : List (Addr × Obj)} {h : Heap} (o : Own G X h) (hs : Y.Sublist X) : Own G Y h :=
  ⟨fun p hp => o.at_ p (hs.subset hp), fun p hp => o.off p (hs.subset hp), (hs.map _).nodup o.nd, o.sub⟩
theorem Own.perm {G : Gm} {X Y : List (Addr × Obj)} {h : Heap} (o : Own G X h) (hs : Y.Perm X) : Own G Y h :=
  ⟨fun p hp => o.at_ p (hs.mem_iff.mp hp), fun p hp => o.off p (hs.mem_iff.mp hp), (hs.map _).nodup_iff.mpr o.nd, o.sub⟩

/-- a step that leaves all that stood: the frozen map and the heap grow -/
structure Grow (G : Gm) (h : Heap) (G' : Gm) (h' : Heap) : Prop where
  low : ∀ b o, h.get? b = some o → G' b = G b
  keep : Hle h h'
theorem Grow.refl (G : Gm) (h : Heap) : Grow G h G h := ⟨fun _ _ _ => rfl, Hle.refl h⟩
theorem Grow.trans {G G' G'' : Gm} {h h' h'' : Heap} (x : Grow G h G' h') (y : Grow G' h' G'' h'') : Grow G h G'' h'' :=
  ⟨fun b o hb => (y.low b o (x.keep b o hb)).trans (x.low b o hb), x.keep.trans y.keep⟩
theorem Grow.gle {G G' : Gm} {h h' : Heap} {X : List (Addr × Obj)} (x : Grow G h G' h') (o : Own G X h) : Gle G G' := fun b ob e => (x.low b ob (o.sub b ob e)).trans e
theorem Own.grow {G G' : Gm} {h h' : Heap} {X Y : List (Addr × Obj)} (o : Own G X h) (x : Grow G h G' h') (o' : Own G' Y h') (hy : ∀ p ∈ Y, h.get? p.1 = none) : Own G' (Y ++ X) h' := by
  refine ⟨fun p hp => ?_, fun p hp => ?_, ?_, o'.sub⟩
  · rcases List.mem_append.mp hp with hp | hp
    · exact o'.at_ p hp
    · exact x.keep _ _ (o.at_ p hp)
  · rcases List.mem_append.mp hp with hp | hp
    · exact o'.off p hp
    · rw [x.low _ _ (o.at_ p hp)]; exact o.off p hp
  · rw [List.map_append, List.nodup_append]
    refine ⟨o'.nd, o.nd, fun a ha b hb e => ?_⟩
    obtain ⟨p, hp, rfl⟩ := List.mem_map.mp ha
    obtain ⟨q, hq, rfl⟩ := List.mem_map.mp hb
    have h1 := hy p hp
    rw [show p.1 = q.1 from e, o.at_ q hq] at h1
    cases h1

/-- the frame: its names, what it holds, what is held beside, the frozen things; H: the heap at its start -/
structure Fm (H : Heap) (G₀ G : Gm) (L : Addr) (m : Str → Option Value) (ρ : Ctx) (X : List (Addr × Obj)) (h : Heap) : Prop where
  ex : ∃ own, h.Ns L m ∧ Loc G m ρ own ∧ Own G (own ++ X) h ∧ ∀ p ∈ own ++ X, p.1 ≠ L ∧ H.get? p.1 = none
  LG : G L = none
  LH : H.get? L = none
  keep : Hle H h
  ext : ∀ b o, H.get? b = some o → G b = G₀ b
theorem Fm.sub {H : Heap} {G₀ G : Gm} {L : Addr} {m : Str → Option Value} {ρ : Ctx} {X : List (Addr × Obj)} {h : Heap} (F : Fm H G₀ G L m ρ X h) : ∀ b o, G b = some o → h.get? b = some o :=
  let ⟨_, _, _, o, _⟩ := F.ex; o.sub
theorem Fm.ownX {H : Heap} {G₀ G : Gm} {L : Addr} {m : Str → Option Value} {ρ : Ctx} {X : List (Addr × Obj)} {h : Heap} (F : Fm H G₀ G L m ρ X h) : Own G X h :=
  let ⟨own, _, _, o, _⟩ := F.ex; o.le (List.sublist_append_right own X)
theorem Fm.atL {H : Heap} {G₀ G : Gm} {L : Addr} {m : Str → Option Value} {ρ : Ctx} {X : List (Addr × Obj)} {h : Heap} (F : Fm H G₀ G L m ρ X h) : ∃ o, h.get? L = some o :=
  let ⟨_, ⟨o, _, _, e, _⟩, _⟩ := F.ex; ⟨o, e⟩
theorem none_back {h h' : Heap} (k : Hle h h') {b : Addr} (e : h'.get? b = none) : h.get? b = none := by
  cases q : h.get? b with
  | none => rfl
  | some o => rw [k b o q] at e; cases e

/-- the frame over a step that leaves all that stood; what is new and held goes beside -/
theorem Fm.grow {H : Heap} {G₀ G G' : Gm} {L : Addr} {m : Str → Option Value} {ρ : Ctx} {X Y : List (Addr × Obj)} {h h' : Heap} (F : Fm H G₀ G L m ρ X h) (x : Grow G h G' h') (o' : Own G' Y h') (hy : ∀ p ∈ Y, h.get? p.1 = none) :
    Fm H G₀ G' L m ρ (Y ++ X) h' := by
  obtain ⟨oL, hL⟩ := F.atL
  obtain ⟨own, n, l, o, off⟩ := F.ex
  have q := o.grow x o' hy
  have le := x.gle o
  refine ⟨⟨own, n.keeps x.keep, l.mono le, q.perm ?_, fun p hp => ?_⟩, (x.low _ _ hL).trans F.LG, F.LH, F.keep.trans x.keep, fun b ob hb => (x.low b ob (F.keep b ob hb)).trans (F.ext b ob hb)⟩
  · rw [← List.append_assoc, ← List.append_assoc]
    exact List.Perm.append_right X List.perm_append_comm
  · rcases List.mem_append.mp hp with hp | hp
    · exact off p (List.mem_append_left _ hp)
    · rcases List.mem_append.mp hp with hp | hp
      · have h1 := hy p hp
        exact ⟨fun e => by (have h2 := h1; rw [e, hL] at h2; cases h2), none_back F.keep h1⟩
      · exact off p (List.mem_append_right _ hp)
theorem Fm.grow0 {H : Heap} {G₀ G G' : Gm} {L : Addr} {m : Str → Option Value} {ρ : Ctx} {X : List (Addr × Obj)} {h h' : Heap} (F : Fm H G₀ G L m ρ X h) (x : Grow G h G' h') (sub : ∀ b o, G' b = some o → h'.get? b = some o) : Fm H G₀ G' L m ρ X h' :=
  F.grow x (Own.nil sub) (fun _ hp => (nomatch hp))

/-- a new thing, frozen -/
theorem grow_frozen {G : Gm} {X : List (Addr × Obj)} {h : Heap} (o : Own G X h) (ob : Obj) (hf : ob.isFreed = false) :
    Grow G h (Gadd G h.objs.size ob) (h.push ob) ∧ ∀ b o', Gadd G h.objs.size ob b = some o' → (h.push ob).get? b = some o' := by
  refine ⟨⟨fun b o' hb => ?_, Hle.push h ob⟩, fun b o' e => ?_⟩
  · unfold Gadd; rw [if_neg (Nat.ne_of_lt (Heap.lt_size hb))]
  · unfold Gadd at e
    split at e
    · rename_i q; subst q; cases e; exact Heap.get?_push_size _ hf
    · exact Heap.get?_push_of_some _ (o.sub _ _ e)
/-- a new thing, held -/
theorem grow_held {G : Gm} {X : List (Addr × Obj)} {h : Heap} (o : Own G X h) (ob : Obj) (hf : ob.isFreed = false) :
    Grow G h G (h.push ob) ∧ Own G [(h.objs.size, ob)] (h.push ob) := by
  refine ⟨⟨fun _ _ _ => rfl, Hle.push h ob⟩, ⟨fun p hp => ?_, fun p hp => ?_, by simp, fun b o' e => Heap.get?_push_of_some _ (o.sub _ _ e)⟩⟩
  · rw [List.mem_singleton.mp hp]; exact Heap.get?_push_size _ hf
  · rw [List.mem_singleton.mp hp]; exact o.none_of (get?_size h)

end Mine

set_option maxRecDepth 100000
set_option autoImplicit false
set_option linter.unusedVariables false
namespace Mine
open PySem PySem.W PyProof.Rows

def Room (k : Nat) (A : Around) : Prop := A.handled = none ∧ A.depth + k < recursionLimit ∧ A.units + 8 * k < cLine
theorem Room.le {j k : Nat} {A : Around} (h : Room k A) (hj : j ≤ k) : Room j A := ⟨h.1, by have := h.2.1; omega, by have := h.2.2; omega⟩
theorem Room.deeper {k : Nat} {A : Around} (h : Room (k + 1) A) (env : Env) : Room k (A.deeper env) :=
  ⟨h.1, by have := h.2.1; show A.depth + 1 + k < _; omega, by have := h.2.2; show A.units + 3 + 8 * k < _; omega⟩
theorem Room.in1 {k : Nat} {A : Around} (h : Room (k + 1) A) : Room k A.in1 := ⟨h.1, by have := h.2.1; show A.depth + k < _; omega, by have := h.2.2; show A.units + 1 + 8 * k < _; omega⟩
theorem Room.room {k : Nat} {A : Around} (h : Room k A) : A.depth < recursionLimit := by have := h.2.1; omega
theorem Room.units {k : Nat} {A : Around} (h : Room k A) : A.units < cLine := by have := h.2.2; omega

structure EnvOk (sc : Scope) (env : Env) : Prop where
  isSc : env.scope = sc
  kind : sc.kind = .function
  gl : env.globals = mainGlobals
  bu : env.builtins = builtinsNs
  cells : env.cells = []
theorem EnvOk.plain {sc : Scope} {env : Env} (h : EnvOk sc env) : (env.scope.kind == .class || (env.scope.kind == .module && env.locals != env.globals)) = false := by rw [h.isSc, h.kind]; rfl
theorem EnvOk.kindOf {sc : Scope} {env : Env} (h : EnvOk sc env) (x : Str) : env.kindOf x = sc.names.lookup x := by unfold Env.kindOf; rw [h.isSc]

/-- what stood ahead stands, and is frozen -/
structure Base (C : Cx) (H : Heap) (G₀ : Gm) : Prop where
  le : Hle C.h H
  frz : Gle (fun b => C.h.get? b) G₀
structure Here (C : Cx) (k : Nat) (sc : Scope) (A : Around) (env : Env) (H : Heap) (G₀ : Gm) : Prop where
  room : Room k A
  env : EnvOk sc env
  base : Base C H G₀
theorem Here.le {C : Cx} {j k : Nat} {sc : Scope} {A : Around} {env : Env} {H : Heap} {G₀ : Gm} (h : Here C k sc A env H G₀) (hj : j ≤ k) : Here C j sc A env H G₀ := ⟨h.room.le hj, h.env, h.base⟩
theorem Fm.gbase {C : Cx} {H : Heap} {G₀ G : Gm} {L : Addr} {m : Str → Option Value} {ρ : Ctx} {X : List (Addr × Obj)} {h : Heap} (F : Fm H G₀ G L m ρ X h) (b : Base C H G₀) : Gle (fun b => C.h.get? b) G :=
  fun a o e => (F.ext a o (b.le a o e)).trans (b.frz a o e)

/-- an expression gives what r says -/
def Ev (C : Cx) (k : Nat) (sc : Scope) (ρ : Ctx) (e : Expr) (r : Res) (ρ' : Ctx) : Prop :=
  ∀ (A : Around) (env : Env) (H : Heap) (G₀ G : Gm) (m : Str → Option Value) (X : List (Addr × Obj)) (s : Shared) (Q : Value → Shared → Prop) (E : Value → Shared → Prop),
    Here C k sc A env H G₀ → Fm H G₀ G env.locals m ρ X s.heap →
    (∀ v ow h' tk G', Gle G G' → r.P G' v ow → Fm H G₀ G' env.locals m ρ' (ow ++ X) h' → Q v { s with heap := h', toks := tk }) →
    wpAny (model C.prog C.w) A (eval e env) Q E s

/-- a test comes out b -/
def T (C : Cx) (k : Nat) (sc : Scope) (ρ : Ctx) (e : Expr) (b : Bool) : Prop :=
  ∀ (A : Around) (env : Env) (H : Heap) (G₀ G : Gm) (m : Str → Option Value) (X : List (Addr × Obj)) (s : Shared) (Q : Bool → Shared → Prop) (E : Value → Shared → Prop),
    Here C k sc A env H G₀ → Fm H G₀ G env.locals m ρ X s.heap →
    (∀ h' tk G', Gle G G' → Fm H G₀ G' env.locals m ρ X h' → Q b { s with heap := h', toks := tk }) →
    wpAny (model C.prog C.w) A (PySem.isTrue e env (eval e env)) Q E s

/-- several things one after the other -/
inductive RL (G : Gm) : List Res → List Value → List (Addr × Obj) → Prop where
  | nil : RL G [] [] []
  | cons {r : Res} {v : Value} {ow : List (Addr × Obj)} {rs : List Res} {vs : List Value} {ows : List (Addr × Obj)} : r.P G v ow → RL G rs vs ows → RL G (r :: rs) (v :: vs) (ow ++ ows)
theorem RL.dats {C : Cx} {G : Gm} : ∀ {ds : List D} {vs : List Value} {ows : List (Addr × Obj)}, RL G (ds.map (dat C)) vs ows → ows = [] ∧ Reps C G vs ds
  | [], _, _, h => by cases h; exact ⟨rfl, .nil⟩
  | d :: ds, _, _, h => by
    cases h with
    | cons h1 h2 =>
      obtain ⟨rfl, hr⟩ := h1
      obtain ⟨rfl, hs⟩ := RL.dats h2
      exact ⟨rfl, .cons hr hs⟩

/-- trees one after the other (items of a display, arguments) -/
def Evs (C : Cx) (k : Nat) (sc : Scope) (ρ : Ctx) (es : List Expr) (rs : List Res) (ρ' : Ctx) : Prop :=
  ∀ (A : Around) (env : Env) (H : Heap) (G₀ G : Gm) (m : Str → Option Value) (X : List (Addr × Obj)) (s : Shared) (Q : List Value → Shared → Prop) (E : Value → Shared → Prop),
    Here C k sc A env H G₀ → Fm H G₀ G env.locals m ρ X s.heap →
    (∀ vs ows h' tk G', Gle G G' → RL G' rs vs ows → Fm H G₀ G' env.locals m ρ' (ows ++ X) h' → Q vs { s with heap := h', toks := tk }) →
    wpAny (model C.prog C.w) A (spliced (es.map fun e => (false, eval e env))) Q E s
/-- the same for keyword arguments -/
def EvsA (C : Cx) (k : Nat) (sc : Scope) (ρ : Ctx) (pos : Pos) (es : List Expr) (rs : List Res) (ρ' : Ctx) : Prop :=
  ∀ (A : Around) (env : Env) (H : Heap) (G₀ G : Gm) (m : Str → Option Value) (X : List (Addr × Obj)) (s : Shared) (Q : List Value → Shared → Prop) (E : Value → Shared → Prop),
    Here C k sc A env H G₀ → Fm H G₀ G env.locals m ρ X s.heap →
    (∀ vs ows h' tk G', Gle G G' → RL G' rs vs ows → Fm H G₀ G' env.locals m ρ' (ows ++ X) h' → Q vs { s with heap := h', toks := tk }) →
    wpAny (model C.prog C.w) A (evalAll (es.map fun e => (do let v ← eval e env; standAt pos; pure v : Sem Value))) Q E s

structure Post where
  next : Ctx → Prop
  cont : Ctx → Prop
  ret : Res → Prop

/-- statements -/
def Ex (C : Cx) (k : Nat) (sc : Scope) (ρ : Ctx) (ss : List Stmt) (P : Post) : Prop :=
  ∀ (A : Around) (env : Env) (H : Heap) (G₀ G : Gm) (m : Str → Option Value) (X : List (Addr × Obj)) (s : Shared) (Q : Flow → Shared → Prop) (E : Value → Shared → Prop),
    Here C k sc A env H G₀ → Fm H G₀ G env.locals m ρ X s.heap →
    (∀ m' ρ' h' tk G', P.next ρ' → Gle G G' → Fm H G₀ G' env.locals m' ρ' X h' → Q .next { s with heap := h', toks := tk }) →
    (∀ m' ρ' h' tk G', P.cont ρ' → Gle G G' → Fm H G₀ G' env.locals m' ρ' X h' → Q .cont { s with heap := h', toks := tk }) →
    (∀ m' r v ow h' tk G', P.ret r → Gle G G' → r.P G' v ow → Fm H G₀ G' env.locals m' [] (ow ++ X) h' → Q (.ret v) { s with heap := h', toks := tk }) →
    wpAny (model C.prog C.w) A (execs ss env) Q E s
/-- one statement that comes to its end -/
def Es (C : Cx) (k : Nat) (sc : Scope) (ρ : Ctx) (st : Stmt) (ρ' : Ctx) : Prop :=
  ∀ (A : Around) (env : Env) (H : Heap) (G₀ G : Gm) (m : Str → Option Value) (X : List (Addr × Obj)) (s : Shared) (Q : Flow → Shared → Prop) (E : Value → Shared → Prop),
    Here C k sc A env H G₀ → Fm H G₀ G env.locals m ρ X s.heap →
    (∀ m' h' tk G', Gle G G' → Fm H G₀ G' env.locals m' ρ' X h' → Q .next { s with heap := h', toks := tk }) →
    wpAny (model C.prog C.w) A (exec st env) Q E s

structure RepK (C : Cx) (G : Gm) (kvs : List (Str × Value)) (kw : List (Str × D)) : Prop where
  names : kvs.map (·.1) = kw.map (·.1)
  reps : Reps C G (kvs.map (·.2)) (kw.map (·.2))

/-- a call on data gives what r says -/
def Fn (C : Cx) (k : Nat) (f : Value) (ds : List D) (kw : List (Str × D)) (r : Res) : Prop :=
  ∀ (A : Around) (G : Gm) (s : Shared) (vs : List Value) (kvs : List (Str × Value)) (Q : Value → Shared → Prop) (E : Value → Shared → Prop),
    Room k A → Base C s.heap G → (∀ b o, G b = some o → s.heap.get? b = some o) → Reps C G vs ds → RepK C G kvs kw →
    (∀ v ow h' tk G', Grow G s.heap G' h' → r.P G' v ow → Own G' ow h' → (∀ p ∈ ow, s.heap.get? p.1 = none) → Q v { s with heap := h', toks := tk }) →
    wpAny (model C.prog C.w) A (call f vs kvs) Q E s

/-! weakening of what the names hold -/
inductive Pick (p : Str × Res) : Ctx → Ctx → Prop where
  | here {ρ : Ctx} : Pick p (p :: ρ) ρ
  | there {q : Str × Res} {ρ ρ' : Ctx} : Pick p ρ ρ' → Pick p (q :: ρ) (q :: ρ')
theorem Loc.pick {G : Gm} {m : Str → Option Value} {x : Str} {r : Res} {ρ ρ' : Ctx} (hp : Pick (x, r) ρ ρ') : ∀ {own : List (Addr × Obj)}, Loc G m ρ own → ∃ v ow own', m x = some v ∧ r.P G v ow ∧ Loc G m ρ' own' ∧ own.Perm (ow ++ own') := by
  induction hp with
  | here => intro own h; cases h with | cons h1 h2 h3 => exact ⟨_, _, _, h1, h2, h3, List.Perm.refl _⟩
  | there _ ih =>
    intro own h
    cases h with
    | @cons y r' v' ow' _ own₁ h1 h2 h3 =>
      obtain ⟨v, ow, own', a, b, c, d⟩ := ih h3
      refine ⟨v, ow, ow' ++ own', a, b, .cons h1 h2 c, ?_⟩
      refine (d.append_left ow').trans ?_
      rw [← List.append_assoc, ← List.append_assoc]
      exact List.Perm.append_right _ List.perm_append_comm

def Gadds (G : Gm) (fz : List (Addr × Obj)) : Gm := fun b => match fz.lookup b with | some o => some o | none => G b
theorem lookup_mem {b : Addr} {o : Obj} : ∀ {fz : List (Addr × Obj)}, fz.lookup b = some o → (b, o) ∈ fz
  | [], h => by simp at h
  | (c, o') :: fz, h => by
    rw [List.lookup_cons] at h
    split at h
    · rename_i q; cases h; rw [beq_iff_eq.mp q]; exact .head _
    · exact .tail _ (lookup_mem h)
theorem lookup_of_mem {b : Addr} {o : Obj} : ∀ {fz : List (Addr × Obj)}, (fz.map (·.1)).Nodup → (b, o) ∈ fz → fz.lookup b = some o
  | [], _, h => nomatch h
  | (c, o') :: fz, hn, h => by
    rw [List.lookup_cons]
    rw [List.map_cons, List.nodup_cons] at hn
    split
    · rename_i q
      cases h with
      | head => rfl
      | tail _ h => exact absurd (List.mem_map_of_mem (f := (·.1)) h) (by have e : b = c := beq_iff_eq.mp q; subst e; exact hn.1)
    · rename_i q
      cases h with
      | head => simp at q
      | tail _ h => exact lookup_of_mem hn.2 h
theorem Gle.adds {G : Gm} {fz : List (Addr × Obj)} (off : ∀ p ∈ fz, G p.1 = none) : Gle G (Gadds G fz) := fun b o e => by
  unfold Gadds
  split
  · rename_i o' h; have := off _ (lookup_mem h); rw [e] at this; cases this
  · exact e
theorem Gadds_mem {G : Gm} {fz : List (Addr × Obj)} (hn : (fz.map (·.1)).Nodup) {b : Addr} {o : Obj} (h : (b, o) ∈ fz) : Gadds G fz b = some o := by
  unfold Gadds; rw [lookup_of_mem hn h]
theorem Gadds_off {G : Gm} {fz : List (Addr × Obj)} {b : Addr} (h : ∀ p ∈ fz, p.1 ≠ b) : Gadds G fz b = G b := by
  unfold Gadds
  split
  · rename_i o' q; exact absurd rfl (h _ (lookup_mem q))
  · rfl

/-- names may be forgotten, put in another order, what they hold frozen -/
def Wk (ρ ρ' : Ctx) : Prop := ∀ (G : Gm) (m : Str → Option Value) (own : List (Addr × Obj)), Loc G m ρ own → (own.map (·.1)).Nodup → (∀ p ∈ own, G p.1 = none) →
  ∃ fz own' rest, own.Perm (fz ++ (own' ++ rest)) ∧ Loc (Gadds G fz) m ρ' own'
theorem Gadds_nil (G : Gm) : Gadds G [] = G := rfl
theorem Wk.refl (ρ : Ctx) : Wk ρ ρ := fun G m own l _ _ => ⟨[], own, [], by simp, l⟩
theorem Wk.nil (ρ : Ctx) : Wk ρ [] := fun G m own l _ _ => ⟨[], [], own, by simp, .nil⟩
theorem Wk.pick {x : Str} {r : Res} {ρ ρ₁ ρ' : Ctx} (hp : Pick (x, r) ρ ρ₁) (w : Wk ρ₁ ρ') : Wk ρ ((x, r) :: ρ') := fun G m own l nd off => by
  obtain ⟨v, ow, own₁, h1, h2, h3, pm⟩ := l.pick hp
  have nd' := ((pm.map (·.1)).nodup_iff.mp nd)
  rw [List.map_append, List.nodup_append] at nd'
  have off' : ∀ p ∈ ow ++ own₁, G p.1 = none := fun p hp => off p (pm.mem_iff.mpr hp)
  obtain ⟨fz, own', rest, pm', l'⟩ := w G m own₁ h3 nd'.2.1 fun p hp => off' p (List.mem_append_right _ hp)
  have offz : ∀ p ∈ fz, G p.1 = none := fun p hp => off' p (List.mem_append_right _ (pm'.mem_iff.mpr (List.mem_append_left _ hp)))
  refine ⟨fz, ow ++ own', rest, ?_, .cons h1 (Res.mono _ (Gle.adds offz) h2) l'⟩
  refine pm.trans ((pm'.append_left ow).trans ?_)
  rw [← List.append_assoc, ← List.append_assoc fz, ← List.append_assoc fz, ← List.append_assoc]
  exact List.Perm.append_right _ (List.Perm.append_right _ List.perm_append_comm)
/-- what is held frozen: r tells what r' tells once its things are frozen -/
def Frz (r r' : Res) : Prop := ∀ (G G' : Gm) v ow, Gle G G' → (∀ p ∈ ow, G' p.1 = some p.2) → r.P G v ow → r'.P G' v []
theorem Frz.lst (C : Cx) (ds : List D) : Frz (lst C ds) (dat C (.list ds)) := by
  rintro G G' v ow le h ⟨a, vs, n, rfl, rfl, hr⟩
  exact ⟨rfl, .list' (h _ (.head _)) rfl rfl (by simpa [listObj] using hr.mono le)⟩
theorem Frz.dct (C : Cx) (kvs : List (Key × D)) : Frz (dct C kvs) (dat C (.dict kvs)) := by
  rintro G G' v ow le h ⟨a, o, kvv, rfl, rfl, ha, ho, hr⟩
  exact ⟨rfl, .dict' (h _ (.head _)) ha ho (hr.mono le)⟩
theorem Wk.frz {x : Str} {r r' : Res} {ρ ρ₁ ρ' : Ctx} (hp : Pick (x, r) ρ ρ₁) (fr : Frz r r') (w : Wk ρ₁ ρ') : Wk ρ ((x, r') :: ρ') := fun G m own l nd off => by
  obtain ⟨v, ow, own₁, h1, h2, h3, pm⟩ := l.pick hp
  have nd' := ((pm.map (·.1)).nodup_iff.mp nd)
  rw [List.map_append, List.nodup_append] at nd'
  have off' : ∀ p ∈ ow ++ own₁, G p.1 = none := fun p hp => off p (pm.mem_iff.mpr hp)
  obtain ⟨fz, own', rest, pm', l'⟩ := w G m own₁ h3 nd'.2.1 fun p hp => off' p (List.mem_append_right _ hp)
  have offz : ∀ p ∈ fz, G p.1 = none := fun p hp => off' p (List.mem_append_right _ (pm'.mem_iff.mpr (List.mem_append_left _ hp)))
  have pm2 : own.Perm ((ow ++ fz) ++ (own' ++ rest)) := by
    refine pm.trans ((pm'.append_left ow).trans ?_)
    rw [List.append_assoc]
  have ndz : ((ow ++ fz).map (·.1)).Nodup := by
    have q := (pm2.map (·.1)).nodup_iff.mp nd
    rw [List.map_append, List.nodup_append] at q
    exact q.1
  have offow : ∀ p ∈ ow ++ fz, G p.1 = none := fun p hp => (List.mem_append.mp hp).elim (fun h => off' p (List.mem_append_left _ h)) (offz p)
  have le2 : Gle (Gadds G fz) (Gadds G (ow ++ fz)) := fun b o e => by
    unfold Gadds at e
    split at e
    · rename_i o' q; cases e; exact Gadds_mem ndz (List.mem_append_right _ (lookup_mem q))
    · exact Gle.adds offow _ _ e
  refine ⟨ow ++ fz, own', rest, pm2, ?_⟩
  have := Loc.cons (x := x) (r := r') (ow := []) h1 (fr G _ v ow (Gle.adds offow) (fun p hp => Gadds_mem ndz (List.mem_append_left _ hp)) h2) (l'.mono le2)
  simpa using this

theorem Fm.wk {H : Heap} {G₀ G : Gm} {L : Addr} {m : Str → Option Value} {ρ ρ' : Ctx} {X : List (Addr × Obj)} {h : Heap} (F : Fm H G₀ G L m ρ X h) (w : Wk ρ ρ') : ∃ G', Gle G G' ∧ Fm H G₀ G' L m ρ' X h := by
  obtain ⟨own, n, l, o, off⟩ := F.ex
  have nd := o.nd
  rw [List.map_append, List.nodup_append] at nd
  obtain ⟨fz, own', rest, pm, l'⟩ := w G m own l nd.1 fun p hp => o.off p (List.mem_append_left _ hp)
  have pmX : (own ++ X).Perm (fz ++ (own' ++ rest) ++ X) := pm.append_right X
  have o' := o.perm pmX.symm
  have ndz : (fz.map (·.1)).Nodup := by
    have q := o'.nd
    rw [List.append_assoc, List.map_append, List.nodup_append] at q
    exact q.1
  have inz : ∀ p ∈ fz, p ∈ own ++ X := fun p hp => pmX.mem_iff.mpr (List.mem_append_left _ (List.mem_append_left _ hp))
  have apart : ∀ p ∈ (own' ++ rest) ++ X, ∀ q ∈ fz, q.1 ≠ p.1 := fun p hp q hq e => by
    have z := o'.nd
    rw [List.append_assoc, List.map_append, List.nodup_append] at z
    exact z.2.2 _ (List.mem_map_of_mem hq) _ (List.mem_map_of_mem hp) e
  refine ⟨Gadds G fz, Gle.adds fun p hp => o.off p (inz p hp), ⟨own', n, l', ⟨fun p hp => ?_, fun p hp => ?_, ?_, fun b ob e => ?_⟩, fun p hp => off p ?_⟩, ?_, F.LH, F.keep, fun b ob hb => ?_⟩
  · exact o.at_ p (pmX.mem_iff.mpr (by
      rcases List.mem_append.mp hp with h | h
      · exact List.mem_append_left _ (List.mem_append_right _ (List.mem_append_left _ h))
      · exact List.mem_append_right _ h))
  · have hp' : p ∈ (own' ++ rest) ++ X := by
      rcases List.mem_append.mp hp with h | h
      · exact List.mem_append_left _ (List.mem_append_left _ h)
      · exact List.mem_append_right _ h
    rw [Gadds_off (apart p hp')]
    exact o.off p (pmX.mem_iff.mpr (by rw [List.append_assoc]; exact List.mem_append_right _ hp'))
  · have z := o'.nd
    rw [List.append_assoc, List.map_append, List.nodup_append] at z
    refine List.Sublist.nodup ?_ z.2.1
    refine List.Sublist.map _ ?_
    rw [List.append_assoc]
    exact List.Sublist.append (List.Sublist.refl _) (List.sublist_append_right _ _)
  · unfold Gadds at e
    split at e
    · rename_i o' q; cases e; exact o.at_ _ (inz _ (lookup_mem q))
    · exact o.sub _ _ e
  · exact (pmX.mem_iff.mpr (by
      rcases List.mem_append.mp hp with h | h
      · exact List.mem_append_left _ (List.mem_append_right _ (List.mem_append_left _ h))
      · exact List.mem_append_right _ h))
  · rw [Gadds_off fun p hp e => (off p (inz p hp)).1 e]; exact F.LG
  · rw [Gadds_off fun p hp e => by have := (off p (inz p hp)).2; rw [e, hb] at this; cases this]; exact F.ext b ob hb

theorem Fm.permX {H : Heap} {G₀ G : Gm} {L : Addr} {m : Str → Option Value} {ρ : Ctx} {X Y : List (Addr × Obj)} {h : Heap} (F : Fm H G₀ G L m ρ X h) (pm : Y.Perm X) : Fm H G₀ G L m ρ Y h := by
  obtain ⟨own, n, l, o, off⟩ := F.ex
  exact ⟨⟨own, n, l, o.perm (pm.append_left own), fun p hp => off p ((pm.append_left own).mem_iff.mp hp)⟩, F.LG, F.LH, F.keep, F.ext⟩
theorem Fm.dropX {H : Heap} {G₀ G : Gm} {L : Addr} {m : Str → Option Value} {ρ : Ctx} {X Y : List (Addr × Obj)} {h : Heap} (F : Fm H G₀ G L m ρ X h) (sl : Y.Sublist X) : Fm H G₀ G L m ρ Y h := by
  obtain ⟨own, n, l, o, off⟩ := F.ex
  have q := List.Sublist.append (List.Sublist.refl own) sl
  exact ⟨⟨own, n, l, o.le q, fun p hp => off p (q.subset hp)⟩, F.LG, F.LH, F.keep, F.ext⟩
/-- what is held beside, frozen -/
theorem Fm.frzX {H : Heap} {G₀ G : Gm} {L : Addr} {m : Str → Option Value} {ρ : Ctx} {X : List (Addr × Obj)} {h : Heap} {r r' : Res} {v : Value} {ow : List (Addr × Obj)} (F : Fm H G₀ G L m ρ (ow ++ X) h) (fr : Frz r r') (hr : r.P G v ow) :
    ∃ G', Gle G G' ∧ r'.P G' v [] ∧ Fm H G₀ G' L m ρ X h := by
  obtain ⟨own, n, l, o, off⟩ := F.ex
  have pmX : (own ++ (ow ++ X)).Perm (ow ++ (own ++ X)) := by
    rw [← List.append_assoc, ← List.append_assoc]; exact List.Perm.append_right _ List.perm_append_comm
  have o' := o.perm pmX.symm
  have nd := o'.nd
  rw [List.map_append, List.nodup_append] at nd
  have inz : ∀ p ∈ ow, p ∈ own ++ (ow ++ X) := fun p hp => List.mem_append_right _ (List.mem_append_left _ hp)
  have le : Gle G (Gadds G ow) := Gle.adds fun p hp => o.off p (inz p hp)
  have inr : ∀ p ∈ own ++ X, p ∈ own ++ (ow ++ X) := fun p hp => pmX.mem_iff.mpr (List.mem_append_right _ hp)
  refine ⟨Gadds G ow, le, fr G _ v ow le (fun p hp => Gadds_mem nd.1 hp) hr, ⟨own, n, l.mono le, ⟨fun p hp => o.at_ p (inr p hp), fun p hp => ?_, nd.2.1, fun b ob e => ?_⟩, fun p hp => off p (inr p hp)⟩, ?_, F.LH, F.keep, fun b ob hb => ?_⟩
  · rw [Gadds_off fun q hq e => nd.2.2 _ (List.mem_map_of_mem hq) _ (List.mem_map_of_mem hp) e]; exact o.off p (inr p hp)
  · unfold Gadds at e
    split at e
    · rename_i o' q; cases e; exact o.at_ _ (inz _ (lookup_mem q))
    · exact o.sub _ _ e
  · rw [Gadds_off fun p hp e => (off p (inz p hp)).1 e]; exact F.LG
  · rw [Gadds_off fun p hp e => by have := (off p (inz p hp)).2; rw [e, hb] at this; cases this]; exact F.ext b ob hb

/-- a name put aside: what it holds goes beside -/
theorem Fm.aside {H : Heap} {G₀ G : Gm} {L : Addr} {m : Str → Option Value} {p : Str × Res} {ρ : Ctx} {X : List (Addr × Obj)} {h : Heap} (F : Fm H G₀ G L m (p :: ρ) X h) :
    ∃ v ow, m p.1 = some v ∧ p.2.P G v ow ∧ Fm H G₀ G L m ρ (ow ++ X) h := by
  obtain ⟨own, n, l, o, off⟩ := F.ex
  cases l with
  | @cons x r v ow _ own₁ h1 h2 h3 =>
    have pm : (own₁ ++ (ow ++ X)).Perm ((ow ++ own₁) ++ X) := by
      rw [← List.append_assoc]; exact List.Perm.append_right _ List.perm_append_comm
    exact ⟨v, ow, h1, h2, ⟨own₁, n, h3, o.perm pm, fun p hp => off p (pm.mem_iff.mp hp)⟩, F.LG, F.LH, F.keep, F.ext⟩
theorem Fm.back {H : Heap} {G₀ G : Gm} {L : Addr} {m : Str → Option Value} {p : Str × Res} {ρ : Ctx} {X : List (Addr × Obj)} {h : Heap} {v : Value} {ow : List (Addr × Obj)} (F : Fm H G₀ G L m ρ (ow ++ X) h) (hm : m p.1 = some v) (hr : p.2.P G v ow) :
    Fm H G₀ G L m (p :: ρ) X h := by
  obtain ⟨own, n, l, o, off⟩ := F.ex
  have pm : ((ow ++ own) ++ X).Perm (own ++ (ow ++ X)) := by
    rw [← List.append_assoc]; exact List.Perm.append_right _ List.perm_append_comm
  exact ⟨⟨ow ++ own, n, .cons hm hr l, o.perm pm, fun p hp => off p (pm.mem_iff.mp hp)⟩, F.LG, F.LH, F.keep, F.ext⟩
theorem perm3 {α : Type} (a b c : List α) : (a ++ (b ++ c)).Perm (b ++ (a ++ c)) := by
  rw [← List.append_assoc, ← List.append_assoc]; exact List.Perm.append_right _ List.perm_append_comm

section
variable {C : Cx} {k : Nat} {sc : Scope} {ρ ρ₁ ρ₂ ρ' : Ctx}

theorem Ev.wk {e : Expr} {r : Res} (w : Wk ρ ρ₁) (h : Ev C k sc ρ₁ e r ρ') : Ev C k sc ρ e r ρ' := fun A env H G₀ G m X s Q E hh F hQ => by
  obtain ⟨G', le, F'⟩ := F.wk w
  exact h A env H G₀ G' m X s Q E hh F' fun v ow h' tk G'' le' => hQ v ow h' tk G'' (le.trans le')
theorem Ev.frz {e : Expr} {r r' : Res} (h : Ev C k sc ρ e r ρ') (fr : Frz r r') : Ev C k sc ρ e r' ρ' := fun A env H G₀ G m X s Q E hh F hQ =>
  h A env H G₀ G m X s Q E hh F fun v ow h' tk G' le hr F' => by
    obtain ⟨G'', le', hr', F''⟩ := F'.frzX fr hr
    exact hQ v [] h' tk G'' (le.trans le') hr' F''
theorem Ev.le {j : Nat} {e : Expr} {r : Res} (h : Ev C j sc ρ e r ρ') (hj : j ≤ k) : Ev C k sc ρ e r ρ' := fun A env H G₀ G m X s Q E hh F hQ => h A env H G₀ G m X s Q E (hh.le hj) F hQ
theorem Ev.frame {e : Expr} {r : Res} (p : Str × Res) (h : Ev C k sc ρ e r ρ') : Ev C k sc (p :: ρ) e r (p :: ρ') := fun A env H G₀ G m X s Q E hh F hQ => by
  obtain ⟨v, ow, hm, hr, F₁⟩ := F.aside
  refine h A env H G₀ G m (ow ++ X) s Q E hh F₁ fun u ow' h' tk G' le hu F₂ => hQ u ow' h' tk G' le hu ?_
  exact (F₂.permX (perm3 ow ow' X)).back hm (Res.mono _ le hr)
theorem T.frame {e : Expr} {b : Bool} (p : Str × Res) (h : T C k sc ρ e b) : T C k sc (p :: ρ) e b := fun A env H G₀ G m X s Q E hh F hQ => by
  obtain ⟨v, ow, hm, hr, F₁⟩ := F.aside
  refine h A env H G₀ G m (ow ++ X) s Q E hh F₁ fun h' tk G' le F₂ => hQ h' tk G' le ?_
  exact F₂.back hm (Res.mono _ le hr)
theorem Ex.wk {ss : List Stmt} {P : Post} (w : Wk ρ ρ₁) (h : Ex C k sc ρ₁ ss P) : Ex C k sc ρ ss P := fun A env H G₀ G m X s Q E hh F hn hc hr => by
  obtain ⟨G', le, F'⟩ := F.wk w
  exact h A env H G₀ G' m X s Q E hh F' (fun m' ρ' h' tk G'' p le' => hn m' ρ' h' tk G'' p (le.trans le')) (fun m' ρ' h' tk G'' p le' => hc m' ρ' h' tk G'' p (le.trans le')) fun m' r v ow h' tk G'' p le' => hr m' r v ow h' tk G'' p (le.trans le')
end

end Mine

set_option maxRecDepth 100000
set_option autoImplicit false
set_option linter.unusedVariables false
namespace Mine
open PySem PySem.W PyProof.Rows

/-- the very value -/
def val (v : Value) : Res := ⟨fun G u ow => ow = [] ∧ u = v, fun _ h => h⟩

section
variable {C : Cx} {k : Nat} {sc : Scope} {ρ ρ₁ ρ₂ ρ' : Ctx}

theorem Ev_take {x : Str} {pos : Pos} {r : Res} (hp : Pick (x, r) ρ ρ') (hx : sc.names.lookup x = some .local) (hd : (x == ("__debug__" : Str)) = false) : Ev C k sc ρ (.Name x pos) r ρ' := by
  intro A env H G₀ G m X s Q E hh F hQ
  obtain ⟨own, n, l, o, off⟩ := F.ex
  obtain ⟨v, ow, own', h1, h2, h3, pm⟩ := l.pick hp
  refine wpAny_Name (wpAny_loadName_local (by rw [hh.env.isSc]; exact hh.env.kind) (by rw [hh.env.kindOf]; exact hx) n h1 ?_) hd
  refine hQ v ow s.heap s.toks G (Gle.refl G) h2 ⟨⟨own', n, h3, o.perm ?_, fun p hp => off p ?_⟩, F.LG, F.LH, F.keep, F.ext⟩
  · refine List.Perm.trans ?_ (pm.append_right X).symm
    rw [← List.append_assoc]
    exact List.Perm.append_right X List.perm_append_comm
  · have q : (own' ++ (ow ++ X)).Perm (own ++ X) := by
      refine List.Perm.trans ?_ (pm.append_right X).symm
      rw [← List.append_assoc]
      exact List.Perm.append_right X List.perm_append_comm
    exact q.mem_iff.mp hp

theorem Ev_name {x : Str} {pos : Pos} {d : D} (hp : Pick (x, dat C d) ρ ρ') (hx : sc.names.lookup x = some .local) (hd : (x == ("__debug__" : Str)) = false) : Ev C k sc ρ (.Name x pos) (dat C d) ρ := by
  intro A env H G₀ G m X s Q E hh F hQ
  obtain ⟨own, n, l, o, off⟩ := F.ex
  obtain ⟨v, ow, own', h1, h2, h3, pm⟩ := l.pick hp
  obtain ⟨rfl, h2⟩ := h2
  refine wpAny_Name (wpAny_loadName_local (by rw [hh.env.isSc]; exact hh.env.kind) (by rw [hh.env.kindOf]; exact hx) n h1 ?_) hd
  exact hQ v [] s.heap s.toks G (Gle.refl G) ⟨rfl, h2⟩ F

theorem loadName_gl {M : Model} {A : Around} {E : Value → Shared → Prop} {s : Shared} {env : Env} {x : Str} {Q : Value → Shared → Prop} (he : EnvOk sc env) (hx : sc.names.lookup x = some .globalImplicit)
    (h : wpAny M A (loadGlobal env x) Q E s) : wpAny M A (loadName env x) Q E s := by
  have hk : env.scope.kind = .function := by rw [he.isSc]; exact he.kind
  have hb : env.blockKind = .function := by unfold Env.blockKind; rw [hk]; rfl
  have hg : env.kindOf x = some .globalImplicit := by rw [he.kindOf]; exact hx
  unfold loadName
  rw [hb, hg, hk]
  exact h

theorem Ev_global {x : Str} {pos : Pos} {v : Value} (hv : C.mg x = some v) (hx : sc.names.lookup x = some .globalImplicit) (hd : (x == ("__debug__" : Str)) = false) : Ev C k sc ρ (.Name x pos) (val v) ρ := by
  intro A env H G₀ G m X s Q E hh F hQ
  have hg : s.heap.Ns env.globals C.mg := by rw [hh.env.gl]; exact (C.ns.keeps hh.base.le).keeps F.keep
  refine wpAny_Name (loadName_gl hh.env hx (Calls.loadGlobal_global hg hv ?_)) hd
  exact hQ v [] s.heap s.toks G (Gle.refl G) ⟨rfl, rfl⟩ F
theorem Ev_builtin {x : Str} {pos : Pos} {v : Value} (hn : C.mg x = none) (hv : bootBuiltins x = some v) (hx : sc.names.lookup x = some .globalImplicit) (hd : (x == ("__debug__" : Str)) = false) (hb : x ≠ "__name__") : Ev C k sc ρ (.Name x pos) (val v) ρ := by
  intro A env H G₀ G m X s Q E hh F hQ
  have hg : s.heap.Ns env.globals C.mg := by rw [hh.env.gl]; exact (C.ns.keeps hh.base.le).keeps F.keep
  have hm : s.heap.Ns env.builtins C.mb := by rw [hh.env.bu]; exact (C.bs.keeps hh.base.le).keeps F.keep
  refine wpAny_Name (loadName_gl hh.env hx (Calls.loadGlobal_builtin hg hn hm ((C.bo x hb).trans hv) ?_)) hd
  exact hQ v [] s.heap s.toks G (Gle.refl G) ⟨rfl, rfl⟩ F

theorem Ev_str {x : Str} {j : Nat} {pos : Pos} : Ev C k sc ρ (.Constant (.str x) j pos) (dat C (.str x)) ρ := fun A env H G₀ G m X s Q E hh F hQ =>
  wpAny_Constant_str (hQ _ [] s.heap _ G (Gle.refl G) ⟨rfl, .str x _⟩ F)
theorem Ev_int {x : Int} {j : Nat} {pos : Pos} : Ev C k sc ρ (.Constant (.int x) j pos) (dat C (.int x)) ρ := fun A env H G₀ G m X s Q E hh F hQ =>
  wpAny_Constant_int (hQ _ [] s.heap _ G (Gle.refl G) ⟨rfl, .int x _⟩ F)
theorem Ev_bool {x : Bool} {j : Nat} {pos : Pos} : Ev C k sc ρ (.Constant (.bool x) j pos) (dat C (.bool x)) ρ := fun A env H G₀ G m X s Q E hh F hQ =>
  wpAny_Constant_bool (hQ _ [] s.heap s.toks G (Gle.refl G) ⟨rfl, .bool x⟩ F)
theorem Ev_none {j : Nat} {pos : Pos} : Ev C k sc ρ (.Constant .none j pos) (dat C .none) ρ := fun A env H G₀ G m X s Q E hh F hQ =>
  wpAny_Constant_none (hQ _ [] s.heap s.toks G (Gle.refl G) ⟨rfl, .none⟩ F)
theorem Ev_bytes {x : List UInt8} {j : Nat} {pos : Pos} : Ev C k sc ρ (.Constant (.bytes x) j pos) (dat C (.bytes x)) ρ := fun A env H G₀ G m X s Q E hh F hQ =>
  Constant_bytes (hQ _ [] s.heap _ G (Gle.refl G) ⟨rfl, .bytes x _⟩ F)

theorem Ev_ifexp {t a b : Expr} {pos : Pos} {c : Bool} {r : Res} (ht : T C k sc ρ t c) (h : Ev C k sc ρ (if c then a else b) r ρ') : Ev C k sc ρ (.IfExp t a b pos) r ρ' := fun A env H G₀ G m X s Q E hh F hQ => by
  refine wpAny_IfExp (ht A env H G₀ G m X s _ E hh F fun h' tk G' le F' => ?_)
  cases c with
  | true => exact h A env H G₀ G' m X _ Q E hh F' fun v ow h'' tk' G'' le' => hQ v ow h'' tk' G'' (le.trans le')
  | false => exact h A env H G₀ G' m X _ Q E hh F' fun v ow h'' tk' G'' le' => hQ v ow h'' tk' G'' (le.trans le')

theorem Evs_nil : Evs C k sc ρ [] [] ρ := fun A env H G₀ G m X s Q E hh F hQ => Calls.spliced_nil (hQ [] [] s.heap s.toks G (Gle.refl G) .nil F)
theorem Evs_cons {e : Expr} {es : List Expr} {r : Res} {rs : List Res} (h : Ev C k sc ρ e r ρ₁) (hs : Evs C k sc ρ₁ es rs ρ₂) : Evs C k sc ρ (e :: es) (r :: rs) ρ₂ := fun A env H G₀ G m X s Q E hh F hQ => by
  refine Calls.spliced_cons (h A env H G₀ G m X s _ E hh F fun v ow h' tk G' le hr F' => ?_)
  refine hs A env H G₀ G' m (ow ++ X) _ _ E hh F' fun vs ows h'' tk' G'' le' hrs F'' => ?_
  refine hQ (v :: vs) (ow ++ ows) h'' tk' G'' (le.trans le') (.cons (Res.mono _ le' hr) hrs) (F''.permX ?_)
  rw [List.append_assoc, ← List.append_assoc, ← List.append_assoc]
  exact List.Perm.append_right X List.perm_append_comm

theorem EvsA_nil {pos : Pos} : EvsA C k sc ρ pos [] [] ρ := fun A env H G₀ G m X s Q E hh F hQ => wpAny_evalAll_nil (hQ [] [] s.heap s.toks G (Gle.refl G) .nil F)
theorem EvsA_cons {pos : Pos} {e : Expr} {es : List Expr} {r : Res} {rs : List Res} (h : Ev C k sc ρ e r ρ₁) (hs : EvsA C k sc ρ₁ pos es rs ρ₂) : EvsA C k sc ρ pos (e :: es) (r :: rs) ρ₂ := fun A env H G₀ G m X s Q E hh F hQ => by
  refine wpAny_evalAll_cons (wpAny_bind (h A env H G₀ G m X s _ E hh F fun v ow h' tk G' le hr F' => wpAny_bind (wpAny_standAt (wpAny_pure ?_))))
  refine hs A env H G₀ G' m (ow ++ X) _ _ E hh F' fun vs ows h'' tk' G'' le' hrs F'' => ?_
  refine hQ (v :: vs) (ow ++ ows) h'' tk' G'' (le.trans le') (.cons (Res.mono _ le' hr) hrs) (F''.permX ?_)
  rw [List.append_assoc, ← List.append_assoc, ← List.append_assoc]
  exact List.Perm.append_right X List.perm_append_comm

/-! displays -/
theorem Ev_List {es : List Expr} {pos : Pos} {ds : List D} (hs : Evs C k sc ρ es (ds.map (dat C)) ρ') (hst : ∀ env, backTo pos (starEach es env) = es.map fun e => (false, eval e env)) (hz : ds.length ≤ 1000) :
    Ev C k sc ρ (.List es pos) (lst C ds) ρ' := fun A env H G₀ G m X s Q E hh F hQ => by
  refine wpAny_List ?_
  rw [hst]
  refine hs A env H G₀ G m X s _ E hh F fun vs ows h' tk G' le hr F' => ?_
  obtain ⟨rfl, hr2⟩ := hr.dats
  have hl := hr2.length
  refine ⟨by rw [sizeLine_eq]; omega, ?_⟩
  obtain ⟨gr, ow⟩ := grow_held F'.ownX { cls := .type "list", data := .seq vs.toArray } rfl
  exact hQ _ [(h'.objs.size, { cls := .type "list", data := .seq vs.toArray })] _ tk G' le ⟨_, vs, 0, rfl, rfl, hr2⟩ (F'.grow gr ow fun p hp => by rw [List.mem_singleton.mp hp]; exact get?_size h')
theorem Ev_Tuple {es : List Expr} {j : Nat} {pos : Pos} {ds : List D} (hs : Evs C k sc ρ es (ds.map (dat C)) ρ') (hst : ∀ env, backTo pos (starEach es env) = es.map fun e => (false, eval e env)) (hz : ds.length ≤ 1000) :
    Ev C k sc ρ (.Tuple es j pos) (dat C (.tup ds)) ρ' := fun A env H G₀ G m X s Q E hh F hQ => by
  refine wpAny_Tuple ?_
  rw [hst]
  refine hs A env H G₀ G m X s _ E hh F fun vs ows h' tk G' le hr F' => ?_
  obtain ⟨rfl, hr2⟩ := hr.dats
  have hl := hr2.length
  refine ⟨by rw [sizeLine_eq]; omega, ?_⟩
  obtain ⟨gr, sub⟩ := grow_frozen F'.ownX { cls := .type "tuple", data := .seq vs.toArray } rfl
  have le2 := gr.gle F'.ownX
  exact hQ _ [] _ tk _ (le.trans le2) ⟨rfl, .tup' (Gadd_self ..) rfl rfl (by simpa using hr2.mono le2)⟩ (F'.grow0 gr sub)

/-! calls of defs -/
theorem looks_keeper {M : Model} {h : Heap} {a : Addr} {o : Obj} {fd : FuncData} (ho : h.get? a = some o) (hd : o.data = .func fd) : Looks M h (keeperOf (.ref a)) .frame := by
  intro A Q E s hk q
  unfold keeperOf
  refine wpAny_bind (wpAny_load (hk _ _ ho) ?_)
  rw [hd]
  exact wpAny_pure q


/-- a def that stands in the heap ahead -/
structure Def (C : Cx) (f : Addr) (fd : FuncData) (body : List Stmt) (sc : Scope) : Prop where
  at_ : ∃ o, C.h.get? f = some o ∧ o.data = .func fd
  body_ : fd.body = .stmts body
  scope : fd.scope = sc
  globals : fd.globals = mainGlobals
  closure : fd.closure = []
  builtins : fd.builtins = builtinsNs
  code : C.h.CodeRec fd.code fd.qualname
  kind : sc.kind = .function
  co : sc.isCoroutine = false
  gen : sc.isGenerator = false
  cell : ∀ x ∈ sc.names, x.2 ≠ .cell

/-- the arguments bound -/
def Binds (C : Cx) (fd : FuncData) (sc : Scope) (ds : List D) (kw : List (Str × D)) (ρ : Ctx) : Prop :=
  ∀ (A : Around) (G : Gm) (s : Shared) (vs : List Value) (kvs : List (Str × Value)) (Q : List (Str × Value) → Shared → Prop) (E : Value → Shared → Prop),
    Hle C.h s.heap → (∀ b o, G b = some o → s.heap.get? b = some o) → Reps C G vs ds → RepK C G kvs kw →
    (∀ binds h' tk G', Grow G s.heap G' h' → (∀ b o, G' b = some o → h'.get? b = some o) → Loc G' (fun x => binds.reverse.lookup x) ρ [] → (∀ x ∈ binds, sc.names.lookup x.1 = some .local) → Q binds { s with heap := h', toks := tk }) →
    wpAny (model C.prog C.w) A (bindArgs fd ⟨vs, kvs⟩) Q E s

theorem Fn_of {f : Addr} {fd : FuncData} {body : List Stmt} {ds : List D} {kw : List (Str × D)} {r : Res} (hd : Def C f fd body sc) (hb : Binds C fd sc ds kw ρ)
    (hx : Ex C k sc ρ body ⟨fun _ => r = dat C .none, fun _ => False, fun r' => r' = r⟩) : Fn C (k + 1) (.ref f) ds kw r := by
  intro A G s vs kvs Q E hroom hle sub hvs hkw hQ
  obtain ⟨o, ho, hdat⟩ := hd.at_
  have hsc := hd.scope
  subst hsc
  refine wpAny_call (codeAny_call_function hroom.room (hle.le _ _ ho) hdat hd.co hd.gen hd.body_ (hd.code.keeps hle.le) ?_)
  refine hb A.in1 G s vs kvs _ _ hle.le sub hvs hkw fun binds h₁ tk₁ G₁ gr₁ sub₁ loc₁ hloc => ?_
  rw [hd.closure, hd.globals, hd.builtins]
  refine wpAny_newFunctionEnv hd.cell hloc (fun h₂ hns hsb => ?_) hd.kind
  dsimp only at hns hsb ⊢
  have k₂ : Hle h₁ h₂ := fun b ob e => hsb.extBut b ob (Nat.ne_of_lt (Heap.lt_size e)) (Heap.get?_push_of_some _ e)
  refine ⟨(((C.nolimit.keeps hle.le).keeps gr₁.keep).keeps k₂), codeAny_func ?_⟩
  have hz : h₂.objs.size = h₁.objs.size + 1 := by rw [hsb.1, Heap.size_push]
  have o₁ : Own G₁ [] h₁ := .nil sub₁
  have F : Fm s.heap G G₁ h₁.objs.size (fun x => binds.reverse.lookup x) ρ [] h₂ := by
    exact ⟨⟨[], hns, loc₁, .nil fun b ob e => k₂ _ _ (sub₁ _ _ e), fun _ hp => (nomatch hp)⟩, o₁.none_of (get?_size h₁), none_back gr₁.keep (get?_size h₁), gr₁.keep.trans k₂, gr₁.low⟩
  have hh : Here C k fd.scope (A.deeper (newEnv fd.scope h₁.objs.size mainGlobals [] (fd.qualname ++ Str.ofString ".<locals>.") (some f) fd.code none builtinsNs)) (newEnv fd.scope h₁.objs.size mainGlobals [] (fd.qualname ++ Str.ofString ".<locals>.") (some f) fd.code none builtinsNs) s.heap G :=
    ⟨hroom.deeper _, ⟨rfl, hd.kind, rfl, rfl, rfl⟩, hle⟩
  have fin : ∀ (v : Value) (ow : List (Addr × Obj)) (h' : Heap) (tk : Nat) (G' : Gm) (m' : Str → Option Value) (ρ' : Ctx), r.P G' v ow → Fm s.heap G G' h₁.objs.size m' ρ' (ow ++ []) h' → Q v { s with heap := h', toks := tk } := by
    intro v ow h' tk G' m' ρ' hr F'
    rw [List.append_nil] at F'
    obtain ⟨_, _, _, _, off⟩ := F'.ex
    exact hQ v ow h' tk G' ⟨F'.ext, F'.keep⟩ hr F'.ownX fun p hp => (off p (List.mem_append_right _ hp)).2
  refine hx _ _ s.heap G G₁ _ [] _ _ _ hh F ?_ ?_ ?_
  · intro m' ρ' h' tk G' hr le F'
    subst hr
    exact fin .none [] h' tk G' m' ρ' ⟨rfl, .none⟩ F'
  · intro _ _ _ _ _ hf; exact hf.elim
  · intro m' r' v ow h' tk G' hr le hv F'
    subst hr
    exact fin v ow h' tk G' m' [] hv F'

theorem Fn.le {j : Nat} {f : Value} {ds : List D} {kw : List (Str × D)} {r : Res} (h : Fn C j f ds kw r) (hj : j ≤ k) : Fn C k f ds kw r := fun A G s vs kvs Q E hr => h A G s vs kvs Q E (hr.le hj)
theorem Fn.frz {f : Value} {ds : List D} {kw : List (Str × D)} {r r' : Res} (h : Fn C k f ds kw r) (fr : Frz r r') : Fn C k f ds kw r' := by
  intro A G s vs kvs Q E hroom hle sub hvs hkw hQ
  refine h A G s vs kvs Q E hroom hle sub hvs hkw fun v ow h' tk G' gr hr o new => ?_
  have le : Gle G' (Gadds G' ow) := Gle.adds o.off
  refine hQ v [] h' tk (Gadds G' ow) ⟨fun b ob hb => ?_, gr.keep⟩ (fr G' _ v ow le (fun p hp => Gadds_mem o.nd hp) hr) (.nil fun b ob e => ?_) fun _ hp => (nomatch hp)
  · rw [Gadds_off fun p hp e => by have := new p hp; rw [e, hb] at this; cases this]; exact gr.low b ob hb
  · unfold Gadds at e
    split at e
    · rename_i o' q; cases e; exact o.at_ _ (lookup_mem q)
    · exact o.sub _ _ e

/-- a call of a def of the text -/
theorem Ev_call {fx : Str} {fp pos : Pos} {f : Addr} {fd : FuncData} {fo : Obj} {e₁ : Expr} {es : List Expr} {kws : List Keyword} {ke : List (Str × Expr)} {ds : List D} {kw : List (Str × D)} {r : Res} {j : Nat}
    (hf : C.mg fx = some (.ref f)) (hfo : C.h.get? f = some fo) (hfd : fo.data = .func fd) (hx : sc.names.lookup fx = some .globalImplicit) (hd : (fx == ("__debug__" : Str)) = false)
    (hs : Evs C k sc ρ (e₁ :: es) (ds.map (dat C)) ρ₁) (hst : ∀ env, backTo pos (starEach (e₁ :: es) env) = (e₁ :: es).map fun e => (false, eval e env))
    (hk : ∀ env, backToKw pos (keywordEach kws env) = ke.map fun p => (some p.1, do let v ← eval p.2 env; standAt pos; pure v))
    (hks : EvsA C k sc ρ₁ pos (ke.map (·.2)) ((kw.map (·.2)).map (dat C)) ρ₂) (hnm : ke.map (·.1) = kw.map (·.1))
    (hfn : Fn C j (.ref f) ds kw r) (hj : j ≤ k) : Ev C k sc ρ (.Call (.Name fx fp) (e₁ :: es) kws pos) r ρ₂ := by
  intro A env H G₀ G m X s Q E hh F hQ
  show wpAny _ A (eval (.Name fx fp) env >>= fun g => callWith pos g [] (backTo pos (starEach (e₁ :: es) env)) (backToKw pos (keywordEach kws env))) Q E s
  refine wpAny_bind (Ev_global hf hx hd A env H G₀ G m X s _ E hh F fun v ow h₁ tk₁ G₁ le₁ hv F₁ => ?_)
  obtain ⟨rfl, rfl⟩ := hv
  rw [hst, hk]
  refine callWith_of (P := fun h => Hle C.h h) ?_ (fun h P => ⟨.frame, .inl rfl, looks_keeper (P _ _ hfo) hfd⟩) ?_
  · rw [Bool.or_eq_false_iff]
    constructor
    · rw [List.any_eq_false]; intro x hx; obtain ⟨e, _, rfl⟩ := List.mem_map.mp hx; simp
    · rw [List.any_eq_false]; intro x hx; obtain ⟨e, _, rfl⟩ := List.mem_map.mp hx; simp
  · refine evalArgs_kw (by rw [List.all_eq_true]; intro x hx; obtain ⟨e, _, rfl⟩ := List.mem_map.mp hx; rfl) ?_
    refine hs A env H G₀ G₁ m _ _ _ E hh F₁ fun vs ows h₂ tk₂ G₂ le₂ hr₂ F₂ => ?_
    obtain ⟨rfl, hq₂⟩ := hr₂.dats
    have em : List.map (fun x : Option Str × Sem Value => x.snd) (ke.map fun p => ((some p.1 : Option Str), (do let v ← eval p.2 env; standAt pos; pure v : Sem Value))) = (ke.map (·.2)).map fun e => (do let v ← eval e env; standAt pos; pure v : Sem Value) := by
      rw [List.map_map, List.map_map]; rfl
    rw [em]
    refine hks A env H G₀ G₂ m _ _ _ E hh F₂ fun ks ows' h₃ tk₃ G₃ le₃ hr₃ F₃ => ?_
    obtain ⟨rfl, hq₃⟩ := hr₃.dats
    have en : List.filterMap (fun x : Option Str × Sem Value => x.fst) (ke.map fun p => ((some p.1 : Option Str), (do let v ← eval p.2 env; standAt pos; pure v : Sem Value))) = kw.map (·.1) := by
      rw [List.filterMap_map, ← hnm, ← List.filterMap_eq_map]; rfl
    rw [en]
    have hlen : ks.length = (kw.map (·.1)).length := by have := hq₃.length; simpa using this
    refine ⟨hh.base.le.trans F₃.keep, hfn A G₃ _ vs _ Q E (hh.room.le hj) ⟨hh.base.le.trans F₃.keep, F₃.gbase hh.base⟩ F₃.sub (hq₂.mono le₃) ⟨?_, ?_⟩ fun v ow h₄ tk₄ G₄ gr hv ho new => ?_⟩
    · rw [List.map_fst_zip (by omega)]
    · rw [List.map_snd_zip (by omega)]; exact hq₃
    · exact hQ v ow h₄ tk₄ G₄ (((le₁.trans le₂).trans le₃).trans (gr.gle F₃.ownX)) hv (F₃.grow gr ho new)
end
end Mine

set_option maxRecDepth 100000
set_option autoImplicit false
set_option linter.unusedVariables false
namespace Mine
open PySem PySem.W PyProof.Rows

def D.isNone : D → Bool
  | .none => true
  | _ => false

/-- the names left when x is stored anew (more may be forgotten) -/
inductive Del (x : Str) : Ctx → Ctx → Prop where
  | nil : Del x [] []
  | hit {p : Str × Res} {ρ ρ' : Ctx} : Del x ρ ρ' → Del x (p :: ρ) ρ'
  | skip {p : Str × Res} {ρ ρ' : Ctx} : p.1 ≠ x → Del x ρ ρ' → Del x (p :: ρ) (p :: ρ')
abbrev updM (m : Str → Option Value) (x : Str) (v : Value) : Str → Option Value := fun y => if y = x then some v else m y
theorem Loc.del {G : Gm} {m : Str → Option Value} {x : Str} {v : Value} {ρ ρ' : Ctx} (hd : Del x ρ ρ') : ∀ {own : List (Addr × Obj)}, Loc G m ρ own → ∃ own', own'.Sublist own ∧ Loc G (updM m x v) ρ' own' := by
  induction hd with
  | nil => intro own h; cases h; exact ⟨[], List.Sublist.refl _, .nil⟩
  | hit _ ih =>
    intro own h
    cases h with
    | cons h1 h2 h3 =>
      obtain ⟨own', sl, l⟩ := ih h3
      exact ⟨own', sl.trans (List.sublist_append_right _ _), l⟩
  | skip ne _ ih =>
    intro own h
    cases h with
    | @cons y r u ow _ own₁ h1 h2 h3 =>
      obtain ⟨own', sl, l⟩ := ih h3
      exact ⟨ow ++ own', List.Sublist.append (List.Sublist.refl _) sl, .cons (by show (if y = x then some v else m y) = _; rw [if_neg ne]; exact h1) h2 l⟩

theorem Own.sameBut {G : Gm} {X : List (Addr × Obj)} {h h' : Heap} {L : Addr} (o : Own G X h) (hs : Heap.SameBut L h h') (hG : G L = none) (hX : ∀ p ∈ X, p.1 ≠ L) : Own G X h' :=
  ⟨fun p hp => (hs.2 _ (hX p hp)).trans (o.at_ p hp), o.off, o.nd, fun b ob e => (hs.2 _ (by rintro rfl; rw [hG] at e; cases e)).trans (o.sub b ob e)⟩

theorem Fm.store {H : Heap} {G₀ G : Gm} {L : Addr} {m : Str → Option Value} {ρ ρ' : Ctx} {X : List (Addr × Obj)} {h h' : Heap} {x : Str} {r : Res} {v : Value} {ow : List (Addr × Obj)} (F : Fm H G₀ G L m ρ (ow ++ X) h) (hr : r.P G v ow) (hd : Del x ρ ρ')
    (hn : h'.Ns L (updM m x v)) (hs : Heap.SameBut L h h') : Fm H G₀ G L (updM m x v) ((x, r) :: ρ') X h' := by
  obtain ⟨own, n, l, o, off⟩ := F.ex
  obtain ⟨own', sl, l'⟩ := l.del (v := v) hd
  have sl2 : (own' ++ (ow ++ X)).Sublist (own ++ (ow ++ X)) := List.Sublist.append sl (List.Sublist.refl _)
  have pm : ((ow ++ own') ++ X).Perm (own' ++ (ow ++ X)) := by rw [List.append_assoc]; exact perm3 ow own' X
  refine ⟨⟨ow ++ own', hn, .cons (by simp [updM]) hr l', ((o.le sl2).perm pm).sameBut hs F.LG fun p hp => (off p (sl2.subset (pm.mem_iff.mp hp))).1, fun p hp => off p (sl2.subset (pm.mem_iff.mp hp))⟩, F.LG, F.LH, fun b ob e => ?_, F.ext⟩
  exact (hs.2 _ (fun q => by rw [q, F.LH] at e; cases e)).trans (F.keep b ob e)

section
variable {C : Cx} {k : Nat} {sc : Scope} {ρ ρ₁ ρ₂ ρ' : Ctx} {P : Post}

/-- storing a name -/
theorem wp_store {M : Model} {A : Around} {E : Value → Shared → Prop} {s : Shared} {env : Env} {H : Heap} {G₀ G : Gm} {m : Str → Option Value} {X : List (Addr × Obj)} {x : Str} {r : Res} {v : Value} {ow : List (Addr × Obj)} {Q : Unit → Shared → Prop}
    (he : EnvOk sc env) (hx : sc.names.lookup x = some .local) (F : Fm H G₀ G env.locals m ρ (ow ++ X) s.heap) (hr : r.P G v ow) (hd : Del x ρ ρ')
    (hQ : ∀ h' tk, Fm H G₀ G env.locals (updM m x v) ((x, r) :: ρ') X h' → Q () { s with heap := h', toks := tk }) : wpAny M A (storeName env x v) Q E s := by
  obtain ⟨own, n, l, o, off⟩ := F.ex
  exact wpAny_storeName_local (by rw [he.kindOf]; exact hx) n (fun h' hn hs => hQ h' _ (F.store hr hd hn hs)) he.plain

theorem Es_assign {x : Str} {e : Expr} {r : Res} {pos pos' : Pos} (h : Ev C k sc ρ e r ρ₁) (hd : Del x ρ₁ ρ₂) (hx : sc.names.lookup x = some .local) (hs : ∀ env, swapsWith e (some (.Name x pos')) pos.line env = pure false) :
    Es C k sc ρ (.Assign [.Name x pos'] e pos) ((x, r) :: ρ₂) := fun A env H G₀ G m X s Q E hh F hQ => by
  refine wpAny_Assign_Name (h A env H G₀ G m X s _ E hh F fun v ow h' tk G' le hr F' => ?_) (hs env)
  exact wp_store hh.env hx F' hr hd fun h'' tk' F'' => hQ _ h'' tk' G' le F''

theorem Ex_nil (h : P.next ρ) : Ex C k sc ρ [] P := fun A env H G₀ G m X s Q E hh F hn hc hr => wpAny_execs_nil (hn m ρ s.heap s.toks G h (Gle.refl G) F)
theorem Ex_step {st : Stmt} {ss : List Stmt} (h : Es C k sc ρ st ρ₁) (hs : Ex C k sc ρ₁ ss P) : Ex C k sc ρ (st :: ss) P := fun A env H G₀ G m X s Q E hh F hn hc hr => by
  refine wpAny_execs_cons (h A env H G₀ G m X s _ E hh F fun m₁ h' tk G' le F' => ?_)
  exact hs A env H G₀ G' m₁ X _ Q E hh F' (fun m' ρ' h' tk G'' p le' => hn m' ρ' h' tk G'' p (le.trans le')) (fun m' ρ' h' tk G'' p le' => hc m' ρ' h' tk G'' p (le.trans le')) fun m' r v ow h' tk G'' p le' => hr m' r v ow h' tk G'' p (le.trans le')
theorem Ex_ret {e : Expr} {r : Res} {pos : Pos} {ss : List Stmt} (h : Ev C k sc ρ e r ρ') (hp : P.ret r) : Ex C k sc ρ (.Return (some e) pos :: ss) P := fun A env H G₀ G m X s Q E hh F hn hc hr => by
  refine wpAny_execs_cons (wpAny_Return_some (h A env H G₀ G m X s _ E hh F fun v ow h' tk G' le hv F' => ?_))
  obtain ⟨own, n, l, o, off⟩ := F'.ex
  have sl := List.sublist_append_right own (ow ++ X)
  exact hr m r v ow h' tk G' hp le hv ⟨⟨[], n, .nil, o.le (by simpa using sl), fun p hp => off p (by simpa using sl.subset hp)⟩, F'.LG, F'.LH, F'.keep, F'.ext⟩
theorem Ex_if {t : Expr} {a b : List Stmt} {pos : Pos} {ss : List Stmt} {c : Bool} (ht : T C k sc ρ t c) (h : Ex C k sc ρ (if c then a else b) ⟨fun ρ' => Ex C k sc ρ' ss P, P.cont, P.ret⟩) : Ex C k sc ρ (.If t a b pos :: ss) P := fun A env H G₀ G m X s Q E hh F hn hc hr => by
  refine wpAny_execs_cons (wpAny_If (ht A env H G₀ G m X s _ E hh F fun h' tk G' le F' => ?_))
  have key : wpAny (model C.prog C.w) A (execs (if c then a else b) env) (fun f s' => match f with | .next => wpAny (model C.prog C.w) A (execs ss env) Q E s' | f => Q f s') E { s with heap := h', toks := tk } := by
    refine h A env H G₀ G' m X _ _ E hh F' ?_ ?_ ?_
    · intro m₁ ρ₁ h₁ tk₁ G₁ p le₁ F₁
      exact p A env H G₀ G₁ m₁ X _ Q E hh F₁ (fun m' ρ' h' tk G'' p le' => hn m' ρ' h' tk G'' p ((le.trans le₁).trans le')) (fun m' ρ' h' tk G'' p le' => hc m' ρ' h' tk G'' p ((le.trans le₁).trans le')) fun m' r v ow h' tk G'' p le' => hr m' r v ow h' tk G'' p ((le.trans le₁).trans le')
    · intro m₁ ρ₁ h₁ tk₁ G₁ p le₁ F₁
      exact hc m₁ ρ₁ h₁ tk₁ G₁ p (le.trans le₁) F₁
    · intro m₁ r v ow h₁ tk₁ G₁ p le₁ hv F₁
      exact hr m₁ r v ow h₁ tk₁ G₁ p (le.trans le₁) hv F₁
  cases c with
  | true => exact key
  | false => exact key
theorem Ex_continue {pos : Pos} {ss : List Stmt} (h : P.cont ρ) : Ex C k sc ρ (.Continue pos :: ss) P := fun A env H G₀ G m X s Q E hh F hn hc hr =>
  wpAny_execs_cons (wpAny_Continue (hc m ρ s.heap s.toks G h (Gle.refl G) F))

/-! tests -/
def isComplexTest : Expr → Bool
  | .UnaryOp .Not _ _ => true
  | .BoolOp .. => true
  | .IfExp .. => true
  | .Compare .. => true
  | _ => false
theorem T_not {x : Expr} {pos : Pos} {b : Bool} (h : T C k sc ρ x b) : T C k sc ρ (.UnaryOp .Not x pos) (!b) := fun A env H G₀ G m X s Q E hh F hQ => wpAny_isTrue_Not (h A env H G₀ G m X s _ E hh F hQ)
theorem T_or1 {x : Expr} {es : List Expr} {pos : Pos} (h : T C k sc ρ x true) : T C k sc ρ (.BoolOp .Or (x :: es) pos) true := fun A env H G₀ G m X s Q E hh F hQ =>
  wpAny_isTrue_BoolOp (wpAny_allTrue_Or_cons (h A env H G₀ G m X s _ E hh F fun h' tk G' le F' => by exact hQ h' tk G' le F'))
theorem T_or2 {x y : Expr} {pos : Pos} {b : Bool} (h : T C k sc ρ x false) (h2 : T C k sc ρ y b) : T C k sc ρ (.BoolOp .Or [x, y] pos) b := fun A env H G₀ G m X s Q E hh F hQ => by
  refine wpAny_isTrue_BoolOp (wpAny_allTrue_Or_cons (h A env H G₀ G m X s _ E hh F fun h' tk G' le F' => ?_))
  simp only [Bool.false_eq_true, if_false]
  refine wpAny_allTrue_Or_cons (h2 A env H G₀ G' m X _ _ E hh F' fun h'' tk' G'' le' F'' => ?_)
  cases b with
  | true => exact hQ h'' tk' G'' (le.trans le') F''
  | false =>
    simp only [Bool.false_eq_true, if_false]
    first | exact wpAny_allTrue_Or_nil (hQ h'' tk' G'' (le.trans le') F'') | exact wpAny_pure (hQ h'' tk' G'' (le.trans le') F'')
theorem T_and0 {x : Expr} {es : List Expr} {pos : Pos} (h : T C k sc ρ x false) : T C k sc ρ (.BoolOp .And (x :: es) pos) false := fun A env H G₀ G m X s Q E hh F hQ =>
  wpAny_isTrue_BoolOp (wpAny_allTrue_And_cons (h A env H G₀ G m X s _ E hh F fun h' tk G' le F' => by simp only [Bool.false_eq_true, if_false]; exact hQ h' tk G' le F'))
theorem T_and2 {x y : Expr} {pos : Pos} {b : Bool} (h : T C k sc ρ x true) (h2 : T C k sc ρ y b) : T C k sc ρ (.BoolOp .And [x, y] pos) b := fun A env H G₀ G m X s Q E hh F hQ => by
  refine wpAny_isTrue_BoolOp (wpAny_allTrue_And_cons (h A env H G₀ G m X s _ E hh F fun h' tk G' le F' => ?_))
  simp only [if_true]
  refine wpAny_allTrue_And_cons (h2 A env H G₀ G' m X _ _ E hh F' fun h'' tk' G'' le' F'' => ?_)
  cases b with
  | false => simp only [Bool.false_eq_true, if_false]; exact hQ h'' tk' G'' (le.trans le') F''
  | true =>
    simp only [if_true]
    first | exact wpAny_allTrue_And_nil (hQ h'' tk' G'' (le.trans le') F'') | exact wpAny_pure (hQ h'' tk' G'' (le.trans le') F'')

/-- a comparison that gives a bool -/
theorem T_cmp {l r : Expr} {op : CmpOp} {pos : Pos} {d e : D} {b : Bool} (h1 : Ev C k sc ρ l (dat C d) ρ) (h2 : Ev C k sc ρ r (dat C e) ρ) (hb : behindInMarks op r = false)
    (hc : ∀ (A : Around) (s : Shared) (G : Gm) (u v : Value) (Q : Value → Shared → Prop) (E : Value → Shared → Prop), Room k A → (∀ b o, G b = some o → s.heap.get? b = some o) → Rep C G u d → Rep C G v e →
      (∀ tk, Q (.bool b) { s with toks := tk }) → wpAny (model C.prog C.w) A (compareOp op u v) Q E s) : T C k sc ρ (.Compare l [op] [r] pos) b := fun A env H G₀ G m X s Q E hh F hQ => by
  refine wpAny_isTrue_Compare1 (h1 A env H G₀ G m X s _ E hh F fun u ow h' tk G' le hu F' => ?_) hb
  obtain ⟨rfl, hu⟩ := hu
  refine h2 A env H G₀ G' m _ _ _ E hh F' fun v ow' h'' tk' G'' le' hv F'' => ?_
  obtain ⟨rfl, hv⟩ := hv
  refine hc A _ G'' u v _ E hh.room F''.sub (hu.mono le') hv fun tk'' => wpAny_truthy_bool ?_
  exact hQ h'' tk'' G'' (le.trans le') F''

theorem T_is_none {l : Expr} {j : Nat} {p pos : Pos} {d : D} (h1 : Ev C k sc ρ l (dat C d) ρ) : T C k sc ρ (.Compare l [.Is] [.Constant .none j p] pos) d.isNone := by
  refine T_cmp h1 Ev_none rfl fun A s G u v Q E hr sub hu hv hQ => ?_
  cases hv
  refine is_none ?_
  have e : (u == Value.none) = d.isNone := by cases hu <;> rfl
  rw [e]; exact hQ s.toks
theorem T_isnot_none {l : Expr} {j : Nat} {p pos : Pos} {d : D} (h1 : Ev C k sc ρ l (dat C d) ρ) : T C k sc ρ (.Compare l [.IsNot] [.Constant .none j p] pos) (!d.isNone) := by
  refine T_cmp h1 Ev_none rfl fun A s G u v Q E hr sub hu hv hQ => ?_
  cases hv
  refine isNot_none ?_
  have e : (u == Value.none) = d.isNone := by cases hu <;> rfl
  rw [e]; exact hQ s.toks

end
end Mine

set_option maxRecDepth 100000
set_option autoImplicit false
set_option linter.unusedVariables false
namespace Mine
open PySem PySem.W PyProof.Rows

/-- a step that may change what was handed over (ows) and leaves all else; it gives ow -/
structure Step (G : Gm) (ows : List (Addr × Obj)) (h : Heap) (G' : Gm) (ow : List (Addr × Obj)) (h' : Heap) : Prop where
  keep : ∀ b o, b ∉ ows.map (·.1) → h.get? b = some o → h'.get? b = some o
  low : ∀ b o, b ∉ ows.map (·.1) → h.get? b = some o → G' b = G b
  own : Own G' ow h'
  from_ : ∀ p ∈ ow, p.1 ∈ ows.map (·.1) ∨ h.get? p.1 = none

theorem Step.gle {G G' : Gm} {ows ow X : List (Addr × Obj)} {h h' : Heap} (st : Step G ows h G' ow h') (o : Own G (ows ++ X) h) : Gle G G' := fun b ob e => by
  refine (st.low b ob (fun hm => ?_) (o.sub b ob e)).trans e
  obtain ⟨p, hp, q⟩ := List.mem_map.mp hm
  have := o.off p (List.mem_append_left _ hp)
  rw [show p.1 = b from q, e] at this; cases this

theorem Fm.step {H : Heap} {G₀ G G' : Gm} {L : Addr} {m : Str → Option Value} {ρ : Ctx} {X ows ow : List (Addr × Obj)} {h h' : Heap} (F : Fm H G₀ G L m ρ (ows ++ X) h) (st : Step G ows h G' ow h') : Fm H G₀ G' L m ρ (ow ++ X) h' := by
  obtain ⟨oL, hL⟩ := F.atL
  obtain ⟨own, n, l, o, off⟩ := F.ex
  have pm : (own ++ (ows ++ X)).Perm (ows ++ (own ++ X)) := perm3 own ows X
  have o' := o.perm pm.symm
  have nd := o'.nd
  rw [List.map_append, List.nodup_append] at nd
  have off' : ∀ p ∈ ows ++ (own ++ X), p.1 ≠ L ∧ H.get? p.1 = none := fun p hp => off p (pm.mem_iff.mpr hp)
  have notL : L ∉ ows.map (·.1) := fun hm => by
    obtain ⟨p, hp, e⟩ := List.mem_map.mp hm
    exact (off' p (List.mem_append_left _ hp)).1 e
  have notR : ∀ p ∈ own ++ X, p.1 ∉ ows.map (·.1) := fun p hp hm => nd.2.2 _ hm _ (List.mem_map_of_mem hp) rfl
  have notH : ∀ b ob, H.get? b = some ob → b ∉ ows.map (·.1) := fun b ob e hm => by
    obtain ⟨p, hp, e'⟩ := List.mem_map.mp hm
    have := (off' p (List.mem_append_left _ hp)).2
    rw [show p.1 = b from e', e] at this; cases this
  have le : Gle G G' := st.gle o'
  have hk : ∀ p ∈ own ++ X, h'.get? p.1 = some p.2 := fun p hp => st.keep _ _ (notR p hp) (o'.at_ p (List.mem_append_right _ hp))
  have n' : h'.Ns L m := n.at' fun ob e => st.keep _ _ notL e
  refine ⟨⟨own, n', l.mono le, Own.perm ⟨fun p hp => ?_, fun p hp => ?_, ?_, st.own.sub⟩ (perm3 own ow X), fun p hp => ?_⟩, (st.low _ _ notL hL).trans F.LG, F.LH, fun b ob e => ?_, fun b ob hb => (st.low b ob (notH b ob hb) (F.keep b ob hb)).trans (F.ext b ob hb)⟩
  · rcases List.mem_append.mp hp with hp | hp
    · exact st.own.at_ p hp
    · exact hk p hp
  · rcases List.mem_append.mp hp with hp | hp
    · exact st.own.off p hp
    · rw [st.low _ _ (notR p hp) (o'.at_ p (List.mem_append_right _ hp))]; exact o'.off p (List.mem_append_right _ hp)
  · rw [List.map_append, List.nodup_append]
    refine ⟨st.own.nd, nd.2.1, fun a ha b hb e => ?_⟩
    subst e
    obtain ⟨p, hp, rfl⟩ := List.mem_map.mp ha
    obtain ⟨q, hq, e⟩ := List.mem_map.mp hb
    rcases st.from_ p hp with h1 | h1
    · exact notR q hq (by rw [show q.1 = p.1 from e]; exact h1)
    · have := o'.at_ q (List.mem_append_right _ hq); rw [show q.1 = p.1 from e, h1] at this; cases this
  · have hp' : p ∈ ow ++ (own ++ X) := (perm3 own ow X).mem_iff.mp hp
    rcases List.mem_append.mp hp' with hp | hp
    · rcases st.from_ p hp with h1 | h1
      · obtain ⟨q, hq, e⟩ := List.mem_map.mp h1
        have := off' q (List.mem_append_left _ hq)
        rw [show q.1 = p.1 from e] at this
        exact this
      · exact ⟨fun e => by (have h2 := h1; rw [e, hL] at h2; cases h2), none_back F.keep h1⟩
    · exact off' p (List.mem_append_right _ hp)
  · exact st.keep _ _ (notH b ob e) (F.keep b ob e)

theorem Step.of_grow {G G' : Gm} {h h' : Heap} {ow : List (Addr × Obj)} (g : Grow G h G' h') (o : Own G' ow h') (new : ∀ p ∈ ow, h.get? p.1 = none) : Step G [] h G' ow h' :=
  ⟨fun b ob _ e => g.keep b ob e, fun b ob _ e => g.low b ob e, o, fun p hp => .inr (new p hp)⟩
theorem Step.id {G : Gm} {h : Heap} {ow : List (Addr × Obj)} (o : Own G ow h) : Step G ow h G ow h := ⟨fun _ _ _ e => e, fun _ _ _ _ => rfl, o, fun p hp => .inl (List.mem_map_of_mem hp)⟩
theorem Step.trans {G G' G'' : Gm} {a b c : List (Addr × Obj)} {h h' h'' : Heap} (x : Step G a h G' b h') (y : Step G' b h' G'' c h'') : Step G a h G'' c h'' := by
  have nb : ∀ b' o, b' ∉ a.map (·.1) → h.get? b' = some o → b' ∉ b.map (·.1) := fun b' o n e hm => by
    obtain ⟨q, hq, eq⟩ := List.mem_map.mp hm
    rcases x.from_ q hq with h1 | h1
    · exact n (by rw [← eq]; exact h1)
    · rw [show q.1 = b' from eq, e] at h1; cases h1
  refine ⟨fun b' o n e => y.keep _ _ (nb b' o n e) (x.keep _ _ n e), fun b' o n e => (y.low b' o (nb b' o n e) (x.keep _ _ n e)).trans (x.low b' o n e), y.own, fun p hp => ?_⟩
  rcases y.from_ p hp with h1 | h1
  · obtain ⟨q, hq, eq⟩ := List.mem_map.mp h1
    rcases x.from_ q hq with h2 | h2
    · exact .inl (by rw [← eq]; exact h2)
    · exact .inr (by rw [← eq]; exact h2)
  · by_cases hm : p.1 ∈ a.map (·.1)
    · exact .inl hm
    · refine .inr ?_
      cases q : h.get? p.1 with
      | none => rfl
      | some o => rw [x.keep _ _ hm q] at h1; cases h1
/-- what is handed over may be more -/
theorem Step.frame {G G' : Gm} {a b X : List (Addr × Obj)} {h h' : Heap} (x : Step G a h G' b h') (o : Own G (a ++ X) h) : Step G (a ++ X) h G' (b ++ X) h' := by
  have nd := o.nd
  rw [List.map_append, List.nodup_append] at nd
  have notX : ∀ p ∈ X, p.1 ∉ a.map (·.1) := fun p hp hm => nd.2.2 _ hm _ (List.mem_map_of_mem hp) rfl
  have sub : ∀ b', b' ∉ (a ++ X).map (·.1) → b' ∉ a.map (·.1) := fun b' n hm => n (by rw [List.map_append]; exact List.mem_append_left _ hm)
  refine ⟨fun b' ob n e => x.keep b' ob (sub b' n) e, fun b' ob n e => x.low b' ob (sub b' n) e, ⟨fun p hp => ?_, fun p hp => ?_, ?_, x.own.sub⟩, fun p hp => ?_⟩
  · rcases List.mem_append.mp hp with hp | hp
    · exact x.own.at_ p hp
    · exact x.keep _ _ (notX p hp) (o.at_ p (List.mem_append_right _ hp))
  · rcases List.mem_append.mp hp with hp | hp
    · exact x.own.off p hp
    · rw [x.low _ _ (notX p hp) (o.at_ p (List.mem_append_right _ hp))]; exact o.off p (List.mem_append_right _ hp)
  · rw [List.map_append, List.nodup_append]
    refine ⟨x.own.nd, nd.2.1, fun c hc d hd e => ?_⟩
    subst e
    obtain ⟨p, hp, rfl⟩ := List.mem_map.mp hc
    obtain ⟨q, hq, e⟩ := List.mem_map.mp hd
    rcases x.from_ p hp with h1 | h1
    · exact notX q hq (by rw [show q.1 = p.1 from e]; exact h1)
    · have := o.at_ q (List.mem_append_right _ hq); rw [show q.1 = p.1 from e, h1] at this; cases this
  · rw [List.map_append]
    rcases List.mem_append.mp hp with hp | hp
    · exact (x.from_ p hp).imp (fun h => List.mem_append_left _ h) fun h => h
    · exact .inl (List.mem_append_right _ (List.mem_map_of_mem hp))
theorem Step.permL {G G' : Gm} {a a' b : List (Addr × Obj)} {h h' : Heap} (x : Step G a h G' b h') (pm : a'.Perm a) : Step G a' h G' b h' := by
  have e : ∀ c, c ∈ a'.map (·.1) ↔ c ∈ a.map (·.1) := fun c => (pm.map (·.1)).mem_iff
  exact ⟨fun b' o n e' => x.keep b' o (fun hm => n ((e _).mpr hm)) e', fun b' o n e' => x.low b' o (fun hm => n ((e _).mpr hm)) e', x.own, fun p hp => (x.from_ p hp).imp (fun h => (e _).mpr h) fun h => h⟩
theorem Step.permR {G G' : Gm} {a b b' : List (Addr × Obj)} {h h' : Heap} (x : Step G a h G' b h') (pm : b'.Perm b) : Step G a h G' b' h' :=
  ⟨x.keep, x.low, x.own.perm pm, fun p hp => x.from_ p (pm.mem_iff.mp hp)⟩
theorem Step.drop {G G' : Gm} {a b b' : List (Addr × Obj)} {h h' : Heap} (x : Step G a h G' b h') (sl : b'.Sublist b) : Step G a h G' b' h' :=
  ⟨x.keep, x.low, x.own.le sl, fun p hp => x.from_ p (sl.subset hp)⟩

/-- one thing changed -/
theorem Step.one {G : Gm} {a : Addr} {o o' : Obj} {h h' : Heap} (w : Own G [(a, o)] h) (hs : Heap.ExtBut a h h') (ho : h'.get? a = some o') : Step G [(a, o)] h G [(a, o')] h' := by
  refine ⟨fun b ob n e => hs b ob (by simpa using n) e, fun _ _ _ _ => rfl, ⟨fun p hp => ?_, fun p hp => ?_, by simp, fun b ob e => ?_⟩, fun p hp => ?_⟩
  · rw [List.mem_singleton.mp hp]; exact ho
  · rw [List.mem_singleton.mp hp]; exact w.off (a, o) (.head _)
  · exact hs b ob (fun q => by have := w.off (a, o) (.head _); rw [show (a, o).1 = b from q.symm, e] at this; cases this) (w.sub b ob e)
  · rw [List.mem_singleton.mp hp]; exact .inl (by simp)
/-- one thing let go -/
theorem Step.lose {G : Gm} {a : Addr} {o : Obj} {h h' : Heap} (w : Own G [(a, o)] h) (hs : Heap.ExtBut a h h') : Step G [(a, o)] h G [] h' := by
  refine ⟨fun b ob n e => hs b ob (by simpa using n) e, fun _ _ _ _ => rfl, .nil fun b ob e => ?_, fun _ hp => (nomatch hp)⟩
  exact hs b ob (fun q => by have := w.off (a, o) (.head _); rw [show (a, o).1 = b from q.symm, e] at this; cases this) (w.sub b ob e)
/-- a new thing frozen -/
theorem Step.newFrozen {G G' : Gm} {a b : List (Addr × Obj)} {h h' : Heap} (x : Step G a h G' b h') {t : Addr} {ot : Obj} (ht : h'.get? t = some ot) (hn : h.get? t = none) (hb : t ∉ b.map (·.1)) (ha : t ∉ a.map (·.1)) (hG : G' t = none) :
    Step G a h (Gadd G' t ot) b h' := by
  refine ⟨x.keep, fun b' ob n e => ?_, ⟨x.own.at_, fun p hp => ?_, x.own.nd, fun b' ob e => ?_⟩, x.from_⟩
  · unfold Gadd; rw [if_neg (fun q => by rw [q, hn] at e; cases e)]; exact x.low b' ob n e
  · unfold Gadd; rw [if_neg (fun q => hb (by rw [← q]; exact List.mem_map_of_mem hp))]; exact x.own.off p hp
  · unfold Gadd at e
    split at e
    · rename_i q; subst q; cases e; exact ht
    · exact x.own.sub _ _ e

/-- what a call of a built-in thing may lean on -/
structure Pre (C : Cx) (G : Gm) (ow : List (Addr × Obj)) (h : Heap) : Prop where
  base : Base C h G
  own : Own G ow h
  off : ∀ p ∈ ow, C.h.get? p.1 = none
theorem Pre.le {C : Cx} {G : Gm} {ow : List (Addr × Obj)} {h : Heap} (p : Pre C G ow h) : Hle C.h h := p.base.le
theorem Pre.step {C : Cx} {G G' : Gm} {a b : List (Addr × Obj)} {h h' : Heap} (p : Pre C G a h) (st : Step G a h G' b h') : Pre C G' b h' := by
  have nb : ∀ b' o, C.h.get? b' = some o → b' ∉ a.map (·.1) := fun b' o e hm => by
    obtain ⟨q, hq, eq⟩ := List.mem_map.mp hm
    have := p.off q hq; rw [show q.1 = b' from eq, e] at this; cases this
  refine ⟨⟨fun b' o e => st.keep _ _ (nb b' o e) (p.le _ _ e), fun b' o e => (st.low _ _ (nb b' o e) (p.le _ _ e)).trans (p.base.frz _ _ e)⟩, st.own, fun q hq => ?_⟩
  rcases st.from_ q hq with h1 | h1
  · obtain ⟨r, hr, eq⟩ := List.mem_map.mp h1
    rw [← show r.1 = q.1 from eq]; exact p.off r hr
  · exact none_back p.le h1
theorem Pre.perm {C : Cx} {G : Gm} {a b : List (Addr × Obj)} {h : Heap} (p : Pre C G a h) (pm : b.Perm a) : Pre C G b h := ⟨p.base, p.own.perm pm, fun q hq => p.off q (pm.mem_iff.mp hq)⟩
theorem Pre.sub {C : Cx} {G : Gm} {a b : List (Addr × Obj)} {h : Heap} (p : Pre C G a h) (sl : b.Sublist a) : Pre C G b h := ⟨p.base, p.own.le sl, fun q hq => p.off q (sl.subset hq)⟩
theorem Fm.pre {C : Cx} {H : Heap} {G₀ G : Gm} {L : Addr} {m : Str → Option Value} {ρ : Ctx} {X ows : List (Addr × Obj)} {h : Heap} (hb : Base C H G₀) (F : Fm H G₀ G L m ρ (ows ++ X) h) : Pre C G ows h := by
  obtain ⟨own, n, l, o, off⟩ := F.ex
  exact ⟨⟨hb.le.trans F.keep, F.gbase hb⟩, F.ownX.le (List.sublist_append_left _ _), fun p hp => none_back hb.le (off p (List.mem_append_right _ (List.mem_append_left _ hp))).2⟩

/-- a call of a built-in thing on what was handed over -/
def Bf (C : Cx) (k : Nat) (f : Value) (rs : List Res) (r : Res) : Prop :=
  ∀ (A : Around) (G : Gm) (s : Shared) (vs : List Value) (ows : List (Addr × Obj)) (Q : Value → Shared → Prop) (E : Value → Shared → Prop),
    Room k A → Pre C G ows s.heap → RL G rs vs ows →
    (∀ v ow h' tk G', Step G ows s.heap G' ow h' → r.P G' v ow → Q v { s with heap := h', toks := tk }) →
    wpAny (model C.prog C.w) A (call f vs []) Q E s

def notRef : Value → Bool
  | .ref _ => false
  | _ => true
theorem keeper_notRef {f : Value} (h : notRef f = true) : keeperOf f = pure .machine := by
  cases f <;> first | rfl | cases h

section
variable {C : Cx} {k : Nat} {sc : Scope} {ρ ρ₁ ρ₂ ρ' : Ctx} {P : Post}

theorem evalArgs_any {M : Model} {A : Around} {E : Value → Shared → Prop} {s : Shared} {f : Value} {es : List Expr} {env : Env} {Q : Args → Shared → Prop}
    (h : wpAny M A (spliced (es.map fun e => (false, eval e env))) (fun vs s' => Q ⟨vs, []⟩ s') E s) : wpAny M A (evalArgs f true (es.map fun e => (false, eval e env)) []) Q E s := by
  cases es with
  | nil => exact h
  | cons e es => exact Calls.evalArgs_plain h

theorem wp_callWith {M : Model} {A : Around} {E : Value → Shared → Prop} {s : Shared} {pos : Pos} {f : Value} {first : List Value} {es : List Expr} {env : Env} {Q : Value → Shared → Prop} (hf : notRef f = true)
    (h : wpAny M A (spliced (es.map fun e => (false, eval e env))) (fun vs s₁ => wpAny M A (call f (first ++ vs) []) Q E s₁) E s) :
    wpAny M A (callWith pos f first (es.map fun e => (false, eval e env)) []) Q E s := by
  refine callWith_of (P := fun _ => True) ?_ (fun h _ => ⟨.machine, .inr (.inl rfl), Looks.of_pure (keeper_notRef hf)⟩) (evalArgs_any (wpAny_mono h (fun vs s₁ h₁ => ⟨trivial, h₁⟩) fun _ _ e => e))
  rw [Bool.or_eq_false_iff]
  refine ⟨?_, rfl⟩
  rw [List.any_eq_false]; intro x hx; obtain ⟨e, _, rfl⟩ := List.mem_map.mp hx; simp

theorem Ev_bcall {fx : Str} {fp pos : Pos} {f : Value} {es : List Expr} {rs : List Res} {r : Res} {j : Nat}
    (hn : C.mg fx = none) (hv : bootBuiltins fx = some f) (hnr : notRef f = true) (hx : sc.names.lookup fx = some .globalImplicit) (hd : (fx == ("__debug__" : Str)) = false) (hb : fx ≠ "__name__")
    (hs : Evs C k sc ρ es rs ρ₁) (hst : ∀ env, backTo pos (starEach es env) = es.map fun e => (false, eval e env))
    (hfn : Bf C j f rs r) (hj : j ≤ k) : Ev C k sc ρ (.Call (.Name fx fp) es [] pos) r ρ₁ := by
  intro A env H G₀ G m X s Q E hh F hQ
  show wpAny _ A (eval (.Name fx fp) env >>= fun g => callWith pos g [] (backTo pos (starEach es env)) []) Q E s
  refine wpAny_bind (Ev_builtin hn hv hx hd hb A env H G₀ G m X s _ E hh F fun v ow h₁ tk₁ G₁ le₁ hv F₁ => ?_)
  obtain ⟨rfl, rfl⟩ := hv
  rw [hst]
  refine wp_callWith hnr (hs A env H G₀ G₁ m _ _ _ E hh F₁ fun vs ows h₂ tk₂ G₂ le₂ hr₂ F₂ => ?_)
  have F₂' : Fm H G₀ G₂ env.locals m ρ₁ (ows ++ X) h₂ := by simpa using F₂
  refine hfn A G₂ _ vs ows Q E (hh.room.le hj) (F₂'.pre hh.base) hr₂ fun v ow h₃ tk₃ G₃ st hv => ?_
  exact hQ v ow h₃ tk₃ G₃ ((le₁.trans le₂).trans (st.gle F₂'.ownX)) hv (F₂'.step st)

/-! isinstance -/
theorem isinstance_false_bytes {x : Array UInt8} {u : Tok} {T : String} (hne : (Value.type "bytes" == Value.type T) = false) (hty : typeOf (.type T) = pure (.type "type")) (hsub : isSubtype (.type "bytes") (.type T) = pure false) :
    Meets (Builtin.«isinstance» ⟨[.bytes x u, .type T], []⟩) (fun _ R s => R (.ok (.ret (.bool false))) { s with toks := s.toks + 1 }) :=
  fun _ _ _ _ s hs => by
    obtain ⟨h, g, d, t, os⟩ := s
    exact isinstance_outer (isinstance_nested_false_bytes hne hty hsub hs)

def isiD : D → String → Bool
  | .int _, "int" => true
  | .bool _, "int" => true
  | .bytes _, "bytes" => true
  | .list _, "list" => true
  | .dict _, "dict" => true
  | _, _ => false

theorem wp_isi {A : Around} {s : Shared} {G : Gm} {v : Value} {d : D} {Q : Value → Shared → Prop} {E : Value → Shared → Prop} (hv : Rep C G v d) (sub : ∀ b o, G b = some o → s.heap.get? b = some o) (T : String) (hT : T = "int" ∨ T = "bytes" ∨ T = "list" ∨ T = "dict")
    (h : ∀ tk, Q (.bool (isiD d T)) { s with toks := tk }) : wpAny (model C.prog C.w) A (call (.builtin "isinstance") [v, .type T] []) Q E s := by
  cases hv with
  | none => rcases hT with rfl | rfl | rfl | rfl
            · exact IsiPair.NoneType_int (h _)
            · exact IsiPair.NoneType_bytes (h _)
            · exact IsiPair.NoneType_list (h _)
            · exact IsiPair.NoneType_dict (h _)
  | bool b => rcases hT with rfl | rfl | rfl | rfl
              · exact IsiPair.bool_int (h s.toks)
              · exact IsiPair.bool_bytes (h _)
              · exact IsiPair.bool_list (h _)
              · exact IsiPair.bool_dict (h _)
  | int i t => rcases hT with rfl | rfl | rfl | rfl
               · exact IsiPair.int_int (h s.toks)
               · exact IsiPair.int_bytes (h _)
               · exact IsiPair.int_list (h _)
               · exact IsiPair.int_dict (h _)
  | str x t => rcases hT with rfl | rfl | rfl | rfl
               · exact IsiPair.str_int (h _)
               · exact IsiPair.str_bytes (h _)
               · exact IsiPair.str_list (h _)
               · exact IsiPair.str_dict (h _)
  | bytes x t => rcases hT with rfl | rfl | rfl | rfl
                 · exact call_isinstance (isinstance_false_bytes (by decide +kernel) F.isi_meta_int F.sub_bytes_int) (h _)
                 · exact call_isinstance (isinstance_true (Tx := "bytes") F.isi_meta_bytes F.sub_bytes_bytes) ⟨rfl, h s.toks⟩
                 · exact call_isinstance (isinstance_false_bytes (by decide +kernel) F.isi_meta_list F.sub_bytes_list) (h _)
                 · exact call_isinstance (isinstance_false_bytes (by decide +kernel) F.isi_meta_dict F.sub_bytes_dict) (h _)
  | list h1 h2 h3 h4 h5 => rcases hT with rfl | rfl | rfl | rfl
                           · exact IsiPair.list_int (sub _ _ h1) h2 (h _)
                           · exact IsiPair.list_bytes (sub _ _ h1) h2 (h _)
                           · exact IsiPair.list_list (sub _ _ h1) h2 (h s.toks)
                           · exact IsiPair.list_dict (sub _ _ h1) h2 (h _)
  | tup h1 h2 h3 h4 h5 => rcases hT with rfl | rfl | rfl | rfl
                          · exact IsiPair.tuple_int (sub _ _ h1) h2 (h _)
                          · exact IsiPair.tuple_bytes (sub _ _ h1) h2 (h _)
                          · exact IsiPair.tuple_list (sub _ _ h1) h2 (h _)
                          · exact IsiPair.tuple_dict (sub _ _ h1) h2 (h _)
  | dict h1 h2 h3 h4 h5 =>
    obtain ⟨_, _, e9, _⟩ := id h3
    have hc := e9.1
    rcases hT with rfl | rfl | rfl | rfl
    · exact call_isinstance (isinstance_false_dict (by decide +kernel) F.isi_meta_int F.sub_dict_int) ⟨⟨_, sub _ _ h1, hc⟩, h _⟩
    · exact call_isinstance (isinstance_false_dict (by decide +kernel) F.isi_meta_bytes F.sub_dict_bytes) ⟨⟨_, sub _ _ h1, hc⟩, h _⟩
    · exact call_isinstance (isinstance_false_dict (by decide +kernel) F.isi_meta_list F.sub_dict_list) ⟨⟨_, sub _ _ h1, hc⟩, h _⟩
    · exact call_isinstance (isinstance_true (Tx := "dict") F.isi_meta_dict F.sub_dict_dict) ⟨⟨_, sub _ _ h1, hc⟩, h s.toks⟩

theorem Bf_isinstance {d : D} {T : String} (hT : T = "int" ∨ T = "bytes" ∨ T = "list" ∨ T = "dict") : Bf C k (.builtin "isinstance") [dat C d, val (.type T)] (dat C (.bool (isiD d T))) := by
  intro A G s vs ows Q E hroom hpre hr hQ
  have o := hpre.own
  cases hr with
  | cons h1 h2 =>
    obtain ⟨rfl, hv⟩ := h1
    cases h2 with
    | cons h3 h4 =>
      obtain ⟨rfl, rfl⟩ := h3
      cases h4
      exact wp_isi hv o.sub T hT fun tk => hQ _ [] s.heap tk G (Step.id o) ⟨rfl, .bool _⟩

/-- the truth of data -/
def truthD : D → Bool
  | .none => false
  | .bool b => b
  | .int i => i != 0
  | .str x => x.cps.size != 0
  | .bytes x => !x.isEmpty
  | .list xs => !xs.isEmpty
  | .tup xs => !xs.isEmpty
  | .dict kvs => !kvs.isEmpty

end
end Mine

set_option maxRecDepth 100000
set_option autoImplicit false
set_option linter.unusedVariables false
namespace Mine
open PySem PySem.W PyProof.Rows

/-- an iterator: what it is by the data still to come -/
abbrev It := List D → Res

def Draw (C : Cx) (k : Nat) (I : It) : Prop :=
  ∀ (ds : List D) (A : Around) (G : Gm) (s : Shared) (v : Value) (ow : List (Addr × Obj)) (Q : Value → Shared → Prop) (E : Value → Shared → Prop), Room k A → Pre C G ow s.heap → (I ds).P G v ow →
    (∀ d ds', ds = d :: ds' → ∀ u ow' h' tk G', Step G ow s.heap G' ow' h' → Rep C G' u d → (I ds').P G' v ow' → Q u { s with heap := h', toks := tk }) →
    (ds = [] → ∀ e o h' tk G', Step G ow s.heap G' [] h' → h'.get? e = some o → o.cls = .type "StopIteration" → E (.ref e) { s with heap := h', toks := tk }) →
    wpAny (model C.prog C.w) A (Builtin.SmallTypes.nextOf v) Q E s
def Nx (C : Cx) (k : Nat) (I : It) : Prop :=
  ∀ (ds : List D) (A : Around) (G : Gm) (s : Shared) (v : Value) (ow : List (Addr × Obj)) (Q : Option Value → Shared → Prop) (E : Value → Shared → Prop), Room k A → Pre C G ow s.heap → (I ds).P G v ow →
    (∀ d ds', ds = d :: ds' → ∀ u ow' h' tk G', Step G ow s.heap G' ow' h' → Rep C G' u d → (I ds').P G' v ow' → Q (some u) { s with heap := h', toks := tk }) →
    (ds = [] → ∀ h' tk G', Step G ow s.heap G' [] h' → Q none { s with heap := h', toks := tk }) →
    wpAny (model C.prog C.w) A (pyNext v) Q E s
def Lgo (C : Cx) (I : It) : Prop :=
  ∀ (ds : List D) (A : Around) (G : Gm) (s : Shared) (v u : Value) (ow : List (Addr × Obj)) (elts : List Expr) (j : Nat) (pos : Pos) (Q : Unit → Shared → Prop) (E : Value → Shared → Prop), Pre C G ow s.heap → (I ds).P G v ow →
    (∀ ow' h', Step G ow s.heap G ow' h' → (I ds).P G v ow' → Q () { s with heap := h' }) →
    wpAny (model C.prog C.w) A (letOwnedTupleGo (.Tuple elts j pos) v u) Q E s
def Its (C : Cx) (k : Nat) (r r' : Res) : Prop :=
  ∀ (A : Around) (G : Gm) (s : Shared) (v : Value) (ow : List (Addr × Obj)) (Q : Value → Shared → Prop) (E : Value → Shared → Prop), Room k A → Pre C G ow s.heap → r.P G v ow →
    (∀ v' ow' h' tk G', Step G ow s.heap G' ow' h' → r'.P G' v' ow' → Q v' { s with heap := h', toks := tk }) →
    wpAny (model C.prog C.w) A (pyIter v) Q E s
/-- a draw for a target that is a tuple -/
def NxT (C : Cx) (k : Nat) (I : It) : Prop :=
  ∀ (ds : List D) (A : Around) (G : Gm) (s : Shared) (v : Value) (ow : List (Addr × Obj)) (elts : List Expr) (j : Nat) (pos : Pos) (K : Value → Shared → Prop) (N : Shared → Prop) (E : Value → Shared → Prop), Room k A → Pre C G ow s.heap → (I ds).P G v ow →
    (∀ d ds', ds = d :: ds' → ∀ u ow' h' tk G', Step G ow s.heap G' ow' h' → Rep C G' u d → (I ds').P G' v ow' → K u { s with heap := h', toks := tk }) →
    (ds = [] → ∀ h' tk G', Step G ow s.heap G' [] h' → N { s with heap := h', toks := tk }) →
    wpAny (model C.prog C.w) A (pyNext v) (fun r s₁ => match r with | none => N s₁ | some u => wpAny (model C.prog C.w) A (letOwnedTupleGo (.Tuple elts j pos) v u) (fun _ s₂ => K u s₂) E s₁) E s
/-- an iterator that may be walked by a name, or within a built-in thing -/
structure Walk (C : Cx) (k : Nat) (I : It) : Prop where
  nx : Nx C k I
  self : ∀ ds, Its C k (I ds) (I ds)
/-- an iterator that may be walked by a tuple of names -/
structure WalkT (C : Cx) (k : Nat) (I : It) : Prop where
  nx : NxT C k I
  self : ∀ ds, Its C k (I ds) (I ds)
theorem Walk.tuple {C : Cx} {k : Nat} {I : It} (w : Walk C k I) (l : Lgo C I) : WalkT C k I := ⟨fun ds A G s v ow elts j pos K N E hroom hpre hI hi he => by
  refine w.nx ds A G s v ow _ E hroom hpre hI (fun d ds' e u ow' h' tk G' st hr hI' => ?_) fun e h' tk G' st => he e h' tk G' st
  exact l ds' A G' _ v u ow' elts j pos _ E (hpre.step st) hI' fun ow'' h'' st' hI'' => hi d ds' e u ow'' h'' tk G' (st.trans st') hr hI'', w.self⟩

theorem reps_drop_cons {C : Cx} {G : Gm} {vs : List Value} {i : Nat} {d : D} {ds : List D} (h : Reps C G (vs.drop i) (d :: ds)) : ∃ x, vs[i]? = some x ∧ Rep C G x d ∧ Reps C G (vs.drop (i + 1)) ds := by
  cases e : vs.drop i with
  | nil => rw [e] at h; cases h
  | cons x r =>
    rw [e] at h
    have hx : vs[i]? = some x := by
      have := congrArg (fun l => l[0]?) e
      simpa using this
    have hr : vs.drop (i + 1) = r := by rw [← List.drop_drop, e]; rfl
    cases h with
    | cons h1 h2 => exact ⟨x, hx, h1, hr ▸ h2⟩
theorem reps_drop_nil {C : Cx} {G : Gm} {vs : List Value} {i : Nat} (h : Reps C G (vs.drop i) []) : vs[i]? = none := by
  have := h.length
  simp at this
  exact List.getElem?_eq_none (by omega)

section
variable {C : Cx} {k : Nat}

theorem lgo_other {A : Around} {s : Shared} {E : Value → Shared → Prop} {a : Addr} {o : Obj} {n : String} {u : Value} {elts : List Expr} {j : Nat} {pos : Pos} {Q : Unit → Shared → Prop} (ho : s.heap.get? a = some o) (hc : o.cls = .type n)
    (hn : ["enumerate", "zip", "dict_itemiterator", "dict_reverseitemiterator", "odict_iterator", "itertools.zip_longest", "itertools.pairwise"].contains n = false) (h : Q () s) :
    wpAny (model C.prog C.w) A (letOwnedTupleGo (.Tuple elts j pos) (.ref a) u) Q E s := by
  unfold letOwnedTupleGo
  cases u with
  | ref b =>
    refine wpAny_bind (wpAny_load ho ?_)
    obtain ⟨cl, dc, dt, sl⟩ := o
    dsimp only at hc
    subst hc
    cases dt with
    | fields vs =>
      dsimp only
      rw [hn, Bool.false_and]
      exact wpAny_pure h
    | _ => exact wpAny_pure h
  | _ => exact wpAny_pure h

/-! over a list -/
def lit (C : Cx) : It := fun ds => ⟨fun G v ow => ∃ it l i o ol vs n, v = .ref it ∧ ow = [(it, o)] ∧ o.cls = .type "list_iterator" ∧ o.data = .fields #[.ref l, .int (i : Nat) 0] ∧ G l = some ol ∧ ol.cls = .type "list" ∧ ol.data = .seq vs n ∧ Reps C G (vs.toList.drop i) ds,
  fun le ⟨it, l, i, o, ol, vs, n, h1, h2, h3, h4, h5, h6, h7, h8⟩ => ⟨it, l, i, o, ol, vs, n, h1, h2, h3, h4, le _ _ h5, h6, h7, h8.mono le⟩⟩

theorem Draw_list : Draw C k (lit C) := by
  rintro ds A G s v ow Q E hroom hpre ⟨it, l, i, o, ol, vs, n, rfl, rfl, h3, h4, h5, h6, h7, h8⟩ hi he
  have hit : s.heap.IsListIter it l i := ⟨o, hpre.own.at_ _ (.head _), h3, h4⟩
  have hl : s.heap.IsList l vs := ⟨ol, hpre.own.sub _ _ h5, h6, n, h7⟩
  cases ds with
  | nil =>
    refine wpAny_nextOf_list_end hroom.1 hit hl (by have := reps_drop_nil h8; simpa using this) fun h' e hs he' => ?_
    obtain ⟨oe, hoe, hce⟩ := he'
    exact he rfl e oe h' s.toks G (Step.lose hpre.own hs) hoe hce
  | cons d ds =>
    obtain ⟨x, hx, hr, hrs⟩ := reps_drop_cons h8
    refine wpAny_nextOf_list_item hit hl (by simpa using hx) fun h' hit' hs => ?_
    obtain ⟨o', ho', hc', hd'⟩ := hit'
    exact hi d ds rfl x [(it, o')] h' s.toks G (Step.one hpre.own hs.extBut ho') hr ⟨it, l, i + 1, o', ol, vs, n, rfl, rfl, hc', hd', h5, h6, h7, hrs⟩
theorem Lgo_list : Lgo C (lit C) := by
  rintro ds A G s v u ow elts j pos Q E hpre ⟨it, l, i, o, ol, vs, n, rfl, rfl, h3, h4, h5, h6, h7, h8⟩ hQ
  exact lgo_other (hpre.own.at_ _ (.head _)) h3 (by decide +kernel) (hQ _ s.heap (Step.id hpre.own) ⟨it, l, i, o, ol, vs, n, rfl, rfl, h3, h4, h5, h6, h7, h8⟩)
theorem Walk_list : Walk C k (lit C) := by
  refine ⟨?_, ?_⟩
  · rintro ds A G s v ow Q E hroom hpre ⟨it, l, i, o, ol, vs, n, rfl, rfl, h3, h4, h5, h6, h7, h8⟩ hi he
    have hit : s.heap.IsListIter it l i := ⟨o, hpre.own.at_ _ (.head _), h3, h4⟩
    have hl : s.heap.IsList l vs := ⟨ol, hpre.own.sub _ _ h5, h6, n, h7⟩
    cases ds with
    | nil =>
      refine wpAny_pyNext_list_end hroom.1 hit hl (by have := reps_drop_nil h8; simpa using this) fun h' hs => ?_
      exact he rfl h' s.toks G (Step.lose hpre.own hs)
    | cons d ds =>
      obtain ⟨x, hx, hr, hrs⟩ := reps_drop_cons h8
      refine wpAny_pyNext_list_item hit hl (by simpa using hx) fun h' hit' hs => ?_
      obtain ⟨o', ho', hc', hd'⟩ := hit'
      exact hi d ds rfl x [(it, o')] h' s.toks G (Step.one hpre.own hs.extBut ho') hr ⟨it, l, i + 1, o', ol, vs, n, rfl, rfl, hc', hd', h5, h6, h7, hrs⟩
  · rintro ds A G s v ow Q E hroom hpre ⟨it, l, i, o, ol, vs, n, rfl, rfl, h3, h4, h5, h6, h7, h8⟩ hQ
    have hit : s.heap.IsListIter it l i := ⟨o, hpre.own.at_ _ (.head _), h3, h4⟩
    exact wpAny_pyIter_listiter hit (hQ _ _ s.heap s.toks G (Step.id hpre.own) ⟨it, l, i, o, ol, vs, n, rfl, rfl, h3, h4, h5, h6, h7, h8⟩)
theorem Its_list {ds : List D} : Its C k (dat C (.list ds)) (lit C ds) := by
  rintro A G s v ow Q E hroom hpre ⟨rfl, hr⟩ hQ
  obtain ⟨a, o, vs, n, rfl, h1, h2, h3, h4⟩ := hr.list_inv
  refine wpAny_pyIter_list ⟨o, hpre.own.sub _ _ h1, h2, n, h3⟩ ?_
  obtain ⟨gr, ow⟩ := grow_held hpre.own { cls := .type "list_iterator", data := .fields #[.ref a, .int 0 0] } rfl
  exact hQ _ _ _ s.toks G (Step.of_grow gr ow fun p hp => by rw [List.mem_singleton.mp hp]; exact get?_size _) ⟨_, a, 0, _, o, vs, n, rfl, rfl, rfl, rfl, h1, h2, h3, by simpa using h4⟩

/-! over a tuple -/
def tit (C : Cx) : It := fun ds => ⟨fun G v ow => ∃ it l i o ol vs n, v = .ref it ∧ ow = [(it, o)] ∧ o.cls = .type "tuple_iterator" ∧ o.data = .fields #[.ref l, .int (i : Nat) 0] ∧ G l = some ol ∧ ol.cls = .type "tuple" ∧ ol.data = .seq vs n ∧ Reps C G (vs.toList.drop i) ds,
  fun le ⟨it, l, i, o, ol, vs, n, h1, h2, h3, h4, h5, h6, h7, h8⟩ => ⟨it, l, i, o, ol, vs, n, h1, h2, h3, h4, le _ _ h5, h6, h7, h8.mono le⟩⟩
theorem Lgo_tuple : Lgo C (tit C) := by
  rintro ds A G s v u ow elts j pos Q E hpre ⟨it, l, i, o, ol, vs, n, rfl, rfl, h3, h4, h5, h6, h7, h8⟩ hQ
  exact lgo_other (hpre.own.at_ _ (.head _)) h3 (by decide +kernel) (hQ _ s.heap (Step.id hpre.own) ⟨it, l, i, o, ol, vs, n, rfl, rfl, h3, h4, h5, h6, h7, h8⟩)
theorem Walk_tuple : Walk C k (tit C) := by
  refine ⟨?_, ?_⟩
  · rintro ds A G s v ow Q E hroom hpre ⟨it, l, i, o, ol, vs, n, rfl, rfl, h3, h4, h5, h6, h7, h8⟩ hi he
    have hit : s.heap.IsTupleIter it l i := ⟨o, hpre.own.at_ _ (.head _), h3, h4⟩
    have hl : s.heap.IsTuple l vs := ⟨ol, hpre.own.sub _ _ h5, h6, n, h7⟩
    cases ds with
    | nil =>
      refine wpAny_pyNext_tuple_end hroom.1 hit hl (by have := reps_drop_nil h8; simpa using this) fun h' hs => ?_
      exact he rfl h' s.toks G (Step.lose hpre.own hs)
    | cons d ds =>
      obtain ⟨x, hx, hr, hrs⟩ := reps_drop_cons h8
      refine wpAny_pyNext_tuple_item hit hl (by simpa using hx) fun h' hit' hs => ?_
      obtain ⟨o', ho', hc', hd'⟩ := hit'
      exact hi d ds rfl x [(it, o')] h' s.toks G (Step.one hpre.own hs.extBut ho') hr ⟨it, l, i + 1, o', ol, vs, n, rfl, rfl, hc', hd', h5, h6, h7, hrs⟩
  · rintro ds A G s v ow Q E hroom hpre ⟨it, l, i, o, ol, vs, n, rfl, rfl, h3, h4, h5, h6, h7, h8⟩ hQ
    have hit : s.heap.IsTupleIter it l i := ⟨o, hpre.own.at_ _ (.head _), h3, h4⟩
    exact wpAny_pyIter_tupleiter hit (hQ _ _ s.heap s.toks G (Step.id hpre.own) ⟨it, l, i, o, ol, vs, n, rfl, rfl, h3, h4, h5, h6, h7, h8⟩)
theorem Its_tuple {ds : List D} : Its C k (dat C (.tup ds)) (tit C ds) := by
  rintro A G s v ow Q E hroom hpre ⟨rfl, hr⟩ hQ
  obtain ⟨a, o, vs, n, rfl, h1, h2, h3, h4⟩ := hr.tup_inv
  refine wpAny_pyIter_tuple ⟨o, hpre.own.sub _ _ h1, h2, n, h3⟩ ?_
  obtain ⟨gr, ow⟩ := grow_held hpre.own { cls := .type "tuple_iterator", data := .fields #[.ref a, .int 0 0] } rfl
  exact hQ _ _ _ s.toks G (Step.of_grow gr ow fun p hp => by rw [List.mem_singleton.mp hp]; exact get?_size _) ⟨_, a, 0, _, o, vs, n, rfl, rfl, rfl, rfl, h1, h2, h3, by simpa using h4⟩

/-! over a range -/
def rit (C : Cx) : It := fun ds => ⟨fun G v ow => ∃ it x n o, v = .ref it ∧ ow = [(it, o)] ∧ o = { cls := .type "range_iterator", dict := none, data := .fields #[rawInt x, rawInt (n : Nat), rawInt 1], slots := #[] } ∧ ds = (List.range n).map fun (j : Nat) => D.int (x + j), fun _ h => h⟩
theorem range_map (x : Int) (n : Nat) : ((List.range (n + 1)).map fun (j : Nat) => D.int (x + j)) = D.int x :: (List.range n).map fun (j : Nat) => D.int (x + 1 + j) := by
  rw [List.range_succ_eq_map, List.map_cons, List.map_map]
  refine congr (congrArg List.cons (by simp)) (List.map_congr_left fun j _ => ?_)
  show D.int (x + ((j + 1 : Nat) : Int)) = D.int (x + 1 + (j : Int))
  congr 1; omega
theorem Lgo_range : Lgo C (rit C) := by
  rintro ds A G s v u ow elts j pos Q E hpre ⟨it, x, n, o, rfl, rfl, rfl, rfl⟩ hQ
  exact lgo_other (hpre.own.at_ _ (.head _)) rfl (by decide +kernel) (hQ _ s.heap (Step.id hpre.own) ⟨it, x, n, _, rfl, rfl, rfl, rfl⟩)
theorem Walk_range : Walk C k (rit C) := by
  refine ⟨?_, ?_⟩
  · rintro ds A G s v ow Q E hroom hpre ⟨it, x, n, o, rfl, rfl, rfl, rfl⟩ hi he
    have hit : IsRangeIter s.heap it x (n : Nat) 1 := hpre.own.at_ _ (.head _)
    cases n with
    | zero =>
      refine wpAny_pyNext_range_end hroom.1 hit (by simp) fun h' hs => ?_
      exact he rfl h' s.toks G (Step.lose hpre.own hs)
    | succ n =>
      refine wpAny_pyNext_range_item hit (by omega) fun h' hit' hs => ?_
      rw [show ((n + 1 : Nat) : Int) - 1 = (n : Int) by omega] at hit'
      exact hi _ _ (range_map x n) _ _ h' _ G (Step.one hpre.own hs.extBut hit') (.int x _) ⟨it, x + 1, n, _, rfl, rfl, rfl, rfl⟩
  · rintro ds A G s v ow Q E hroom hpre ⟨it, x, n, o, rfl, rfl, rfl, rfl⟩ hQ
    have hit : IsRangeIter s.heap it x (n : Nat) 1 := hpre.own.at_ _ (.head _)
    exact wpAny_pyIter_rangeiter hit (hQ _ _ s.heap s.toks G (Step.id hpre.own) ⟨it, x, n, _, rfl, rfl, rfl, rfl⟩)

theorem WalkT_list : WalkT C k (lit C) := Walk_list.tuple Lgo_list

/-! over the items of a dict -/
def kvD (p : Key × D) : D := .tup [p.1.d, p.2]
theorem rep_key {G : Gm} {key : Value} {x : Key} (h : isKey x key = true) : Rep C G key x.d := by
  rcases isKey_shape h with ⟨y, t, rfl, rfl⟩ | ⟨y, t, rfl, rfl⟩
  · exact .str y t
  · exact .bytes y t
def dictG (C : Cx) (G : Gm) (d : Addr) (kvv : List (Key × Value)) (ep : Nat) : Prop :=
  ∃ od es, G d = some od ∧ od.ExactDict ∧ od.data = .dict es ep ∧ KeysOf (keyKind C.prog C.w) es ∧ Pairs (keyKind C.prog C.w) es.toList kvv ∧ (kvv.map (·.1)).Nodup
theorem dictG.at {G : Gm} {d : Addr} {kvv : List (Key × Value)} {ep : Nat} (x : dictG C G d kvv ep) {h : Heap} (sub : ∀ b o, G b = some o → h.get? b = some o) : h.DictAt (keyKind C.prog C.w) d kvv ep :=
  let ⟨od, es, e, r⟩ := x; ⟨od, es, sub _ _ e, r⟩
theorem dictG.mono {G G' : Gm} (le : Gle G G') {d : Addr} {kvv : List (Key × Value)} {ep : Nat} (x : dictG C G d kvv ep) : dictG C G' d kvv ep :=
  let ⟨od, es, e, r⟩ := x; ⟨od, es, le _ _ e, r⟩
theorem repkv_drop_cons {G : Gm} {vs : List (Key × Value)} {i : Nat} {p : Key × D} {ds : List (Key × D)} (h : RepKV C G (vs.drop i) (p :: ds)) : ∃ x, vs[i]? = some (p.1, x) ∧ Rep C G x p.2 ∧ RepKV C G (vs.drop (i + 1)) ds := by
  cases e : vs.drop i with
  | nil => rw [e] at h; cases h
  | cons x r =>
    rw [e] at h
    have hx : vs[i]? = some x := by
      have := congrArg (fun l => l[0]?) e
      simpa using this
    have hr : vs.drop (i + 1) = r := by rw [← List.drop_drop, e]; rfl
    cases h with
    | cons h1 h2 => exact ⟨_, hx, h1, hr ▸ h2⟩
theorem repkv_drop_nil {G : Gm} {vs : List (Key × Value)} {i : Nat} (h : RepKV C G (vs.drop i) []) : vs[i]? = none := by
  have := h.length
  simp at this
  exact List.getElem?_eq_none (by omega)
theorem rep_pair {G : Gm} {a : Addr} {x y : Value} {d e : D} (h : G a = some { cls := .type "tuple", data := .seq #[x, y] }) (hx : Rep C G x d) (hy : Rep C G y e) : Rep C G (.ref a) (.tup [d, e]) :=
  .tup' h rfl rfl (.cons hx (.cons hy .nil))

def iobj (d : Addr) (i n ep : Nat) (ok ov : Value) : Obj := { cls := .type "dict_itemiterator", dict := none, data := .fields #[.none, .bool false, .ref d, .int i 0, .int n 0, .int ep 0, ok, ov], slots := #[] }
def iobjO (d : Addr) (i n ep : Nat) (ok ov : Value) (a : Addr) (f : Bool) : Obj := { cls := .type "dict_itemiterator", dict := none, data := .fields #[rawInt a, .bool f, .ref d, .int i 0, .int n 0, .int ep 0, ok, ov], slots := #[] }

def iitT (C : Cx) : It := fun ds => ⟨fun G v ow => ∃ (it d : Addr) (i ep : Nat) (kvv : List (Key × Value)) (kvs : List (Key × D)) (ok ov : Value), v = .ref it ∧ ow = [(it, iobj d i kvv.length ep ok ov)] ∧ dictG C G d kvv ep ∧ RepKV C G (kvv.drop i) kvs ∧ ds = kvs.map kvD,
  fun le ⟨it, d, i, ep, kvv, kvs, ok, ov, h1, h2, h3, h4, h5⟩ => ⟨it, d, i, ep, kvv, kvs, ok, ov, h1, h2, h3.mono le, h4.mono le, h5⟩⟩
def iit (C : Cx) : It := fun ds => ⟨fun G v ow => ∃ (it d : Addr) (i ep : Nat) (kvv : List (Key × Value)) (kvs : List (Key × D)) (ok ov : Value) (o : Obj), v = .ref it ∧ ow = [(it, o)] ∧ dictG C G d kvv ep ∧ RepKV C G (kvv.drop i) kvs ∧ ds = kvs.map kvD ∧
    (o = iobj d i kvv.length ep ok ov ∨ ∃ (a : Addr) (f : Bool) (oa : Obj), o = iobjO d i kvv.length ep ok ov a f ∧ G a = some oa),
  fun le ⟨it, d, i, ep, kvv, kvs, ok, ov, o, h1, h2, h3, h4, h5, h6⟩ => ⟨it, d, i, ep, kvv, kvs, ok, ov, o, h1, h2, h3.mono le, h4.mono le, h5, h6.imp (fun h => h) fun ⟨a, f, oa, e1, e2⟩ => ⟨a, f, oa, e1, le _ _ e2⟩⟩⟩
theorem iit_self {A : Around} {s : Shared} {E : Value → Shared → Prop} {it : Addr} {o : Obj} {Q : Value → Shared → Prop} (ho : s.heap.get? it = some o) (hc : o.cls = .type "dict_itemiterator") (h : Q (.ref it) s) : wpAny (model C.prog C.w) A (pyIter (.ref it)) Q E s := by
  have hT : s.TypeIs (.ref it) "dict_itemiterator" := ⟨o, ho, hc⟩
  refine wpAny_pyIter_slot hT PySem.F.slot_dict_itemiterator_iter (wpAny_call_entry PySem.F.slot_dict_itemiterator_iter hT kcp_entry ?_ (PySem.F.args_dict_itemiterator_iter_1 _))
  show wpAny _ _ (ret (.ref it)) _ _ s
  exact wpAny_pure ⟨_, rfl, "dict_itemiterator", _, hT, PySem.F.slot_dict_itemiterator_next.lookup, h⟩

theorem WalkT_items : WalkT C k (iitT C) := by
  refine ⟨?_, ?_⟩
  · rintro ds A G s v ow elts j pos K N E hroom hpre ⟨it, d, i, ep, kvv, kvs, ok, ov, rfl, rfl, hd, hr, rfl⟩ hi he
    have hit : IsItemIter s.heap it d i kvv.length ep ok ov := hpre.own.at_ _ (.head _)
    cases kvs with
    | nil =>
      refine wpAny_pyNext_items_end hroom.1 hit (hd.at hpre.own.sub) (repkv_drop_nil hr) fun h' hs => ?_
      exact he rfl h' s.toks G (Step.lose hpre.own hs)
    | cons p kvs =>
      obtain ⟨x, hx, hrx, hrs⟩ := repkv_drop_cons hr
      refine wpAny_pyNext_items_item hit (hd.at hpre.own.sub) hx fun key h' hk hit' ht hz hkeep => ?_
      refine wpAny_letOwnedTupleGo_items (x1 := j) hit' fun h'' hit'' hs => ?_
      have nz : it ≠ s.heap.objs.size := Nat.ne_of_lt (Heap.lt_size hit)
      have ht' := hs.extBut _ _ nz.symm ht
      have st := (Step.one hpre.own (o' := iobj d (i + 1) kvv.length ep key x) (fun b o hb e => hs.extBut b o hb (hkeep b o hb e)) hit'').newFrozen ht' (get?_size _) (by simpa using nz.symm) (by simpa using nz.symm) (hpre.own.none_of (get?_size _))
      have le : Gle G _ := st.gle (X := []) (by simpa using hpre.own)
      exact hi _ _ rfl _ _ h'' s.toks _ st (rep_pair (Gadd_self _ _ _) (rep_key hk) (hrx.mono le)) ⟨it, d, i + 1, ep, kvv, kvs, key, x, rfl, rfl, hd.mono le, hrs.mono le, rfl⟩
  · rintro ds A G s v ow Q E hroom hpre ⟨it, d, i, ep, kvv, kvs, ok, ov, rfl, rfl, hd, hr, rfl⟩ hQ
    exact iit_self (hpre.own.at_ _ (.head _)) rfl (hQ _ _ s.heap s.toks G (Step.id hpre.own) ⟨it, d, i, ep, kvv, kvs, ok, ov, rfl, rfl, hd, hr, rfl⟩)
theorem Walk_items : Walk C k (iit C) := by
  refine ⟨?_, ?_⟩
  · rintro ds A G s v ow Q E hroom hpre ⟨it, d, i, ep, kvv, kvs, ok, ov, o, rfl, rfl, hd, hr, rfl, hst⟩ hi he
    have hat := hpre.own.at_ _ (.head _)
    cases kvs with
    | nil =>
      rcases hst with rfl | ⟨a, f, oa, rfl, ha⟩
      · exact wpAny_pyNext_items_end hroom.1 hat (hd.at hpre.own.sub) (repkv_drop_nil hr) fun h' hs => he rfl h' s.toks G (Step.lose hpre.own hs)
      · exact kdx_end_out hroom.1 hat (hd.at hpre.own.sub) (repkv_drop_nil hr) fun h' hs => he rfl h' s.toks G (Step.lose hpre.own hs)
    | cons p kvs =>
      obtain ⟨x, hx, hrx, hrs⟩ := repkv_drop_cons hr
      have nz : it ≠ s.heap.objs.size := Nat.ne_of_lt (Heap.lt_size hat)
      rcases hst with rfl | ⟨a, f, oa, rfl, ha⟩
      · refine wpAny_pyNext_items_item hat (hd.at hpre.own.sub) hx fun key h' hk hit' ht hz hkeep => ?_
        have st := (Step.one hpre.own (o' := iobjO d (i + 1) kvv.length ep key x s.heap.objs.size false) hkeep hit').newFrozen ht (get?_size _) (by simpa using nz.symm) (by simpa using nz.symm) (hpre.own.none_of (get?_size _))
        have le : Gle G _ := st.gle (X := []) (by simpa using hpre.own)
        exact hi _ _ rfl _ _ h' s.toks _ st (rep_pair (Gadd_self _ _ _) (rep_key hk) (hrx.mono le)) ⟨it, d, i + 1, ep, kvv, kvs, key, x, _, rfl, rfl, hd.mono le, hrs.mono le, rfl, .inr ⟨_, _, _, rfl, Gadd_self _ _ _⟩⟩
      · have hai : a ≠ it := fun q => by have := hpre.own.off _ (.head _); rw [show (it, iobjO d i kvv.length ep ok ov a f).1 = a from q.symm, ha] at this; cases this
        refine kdx_next_out hat (hpre.own.sub _ _ ha) hai (hd.at hpre.own.sub) hx fun key h' hk hit' ht hz hkeep => ?_
        have st := (Step.one hpre.own (o' := iobjO d (i + 1) kvv.length ep ok ov a true) hkeep hit').newFrozen ht (get?_size _) (by simpa using nz.symm) (by simpa using nz.symm) (hpre.own.none_of (get?_size _))
        have le : Gle G _ := st.gle (X := []) (by simpa using hpre.own)
        exact hi _ _ rfl _ _ h' s.toks _ st (rep_pair (Gadd_self _ _ _) (rep_key hk) (hrx.mono le)) ⟨it, d, i + 1, ep, kvv, kvs, ok, ov, _, rfl, rfl, hd.mono le, hrs.mono le, rfl, .inr ⟨_, _, _, rfl, le _ _ ha⟩⟩
  · rintro ds A G s v ow Q E hroom hpre ⟨it, d, i, ep, kvv, kvs, ok, ov, o, rfl, rfl, hd, hr, rfl, hst⟩ hQ
    exact iit_self (hpre.own.at_ _ (.head _)) (by rcases hst with rfl | ⟨a, f, oa, rfl, ha⟩ <;> rfl) (hQ _ _ s.heap s.toks G (Step.id hpre.own) ⟨it, d, i, ep, kvv, kvs, ok, ov, o, rfl, rfl, hd, hr, rfl, hst⟩)

/-- the view that items() gives -/
def vw (C : Cx) (kvs : List (Key × D)) : Res := ⟨fun G v ow => ∃ (a d : Addr) (kvv : List (Key × Value)) (ep : Nat) (ov : Obj), v = .ref a ∧ ow = [] ∧ G a = some ov ∧ ov.cls = .type "dict_items" ∧ ov.data = .fields #[.ref d] ∧ dictG C G d kvv ep ∧ RepKV C G kvv kvs,
  fun le ⟨a, d, kvv, ep, ov, h1, h2, h3, h4, h5, h6, h7⟩ => ⟨a, d, kvv, ep, ov, h1, h2, le _ _ h3, h4, h5, h6.mono le, h7.mono le⟩⟩
theorem Its_viewT {kvs : List (Key × D)} : Its C k (vw C kvs) (iitT C (kvs.map kvD)) := by
  rintro A G s v ow Q E hroom hpre ⟨a, d, kvv, ep, ov, rfl, rfl, h3, h4, h5, h6, h7⟩ hQ
  refine wpAny_pyIter_items ⟨ov, hpre.own.sub _ _ h3, h4, h5⟩ (h6.at hpre.own.sub) ?_
  obtain ⟨gr, ow⟩ := grow_held hpre.own (iobj d 0 kvv.length ep .none .none) rfl
  exact hQ _ _ _ s.toks G (Step.of_grow gr ow fun p hp => by rw [List.mem_singleton.mp hp]; exact get?_size _) ⟨_, d, 0, ep, kvv, kvs, _, _, rfl, rfl, h6, h7, rfl⟩
theorem Its_view {kvs : List (Key × D)} : Its C k (vw C kvs) (iit C (kvs.map kvD)) := by
  rintro A G s v ow Q E hroom hpre ⟨a, d, kvv, ep, ov, rfl, rfl, h3, h4, h5, h6, h7⟩ hQ
  refine wpAny_pyIter_items ⟨ov, hpre.own.sub _ _ h3, h4, h5⟩ (h6.at hpre.own.sub) ?_
  obtain ⟨gr, ow⟩ := grow_held hpre.own (iobj d 0 kvv.length ep .none .none) rfl
  exact hQ _ _ _ s.toks G (Step.of_grow gr ow fun p hp => by rw [List.mem_singleton.mp hp]; exact get?_size _) ⟨_, d, 0, ep, kvv, kvs, _, _, _, rfl, rfl, h6, h7, rfl, .inl rfl⟩
end
end Mine

set_option maxRecDepth 100000
set_option autoImplicit false
set_option linter.unusedVariables false
namespace Mine
open PySem PySem.W PyProof.Rows

theorem Step.set {G : Gm} {X Y : List (Addr × Obj)} {a : Addr} {o o' : Obj} {h h' : Heap} (w : Own G (X ++ (a, o) :: Y) h) (hs : Heap.ExtBut a h h') (ho : h'.get? a = some o') : Step G (X ++ (a, o) :: Y) h G (X ++ (a, o') :: Y) h' := by
  have pm : ([(a, o)] ++ (X ++ Y)).Perm (X ++ (a, o) :: Y) := by
    simpa using perm3 [(a, o)] X Y
  have pm' : (X ++ (a, o') :: Y).Perm ([(a, o')] ++ (X ++ Y)) := by
    simpa using (perm3 [(a, o')] X Y).symm
  have w' := w.perm pm
  exact (((Step.one (w'.le (List.sublist_append_left _ _)) hs ho).frame w').permL pm.symm).permR pm'
theorem Step.tail {G G' : Gm} {X a b : List (Addr × Obj)} {h h' : Heap} (st : Step G a h G' b h') (w : Own G (X ++ a) h) : Step G (X ++ a) h G' (X ++ b) h' :=
  ((st.frame (w.perm List.perm_append_comm)).permL List.perm_append_comm).permR List.perm_append_comm
theorem Pre.tail {C : Cx} {G : Gm} {X a : List (Addr × Obj)} {h : Heap} (p : Pre C G (X ++ a) h) : Pre C G a h := p.sub (List.sublist_append_right _ _)

/-- two draws, one after the other -/
abbrev Src := List (D × D) → Gm → Value → Value → List (Addr × Obj) → Prop
abbrev Mid := Option (D × List (D × D)) → Gm → Value → Value → List (Addr × Obj) → Prop
structure Draw2 (C : Cx) (k : Nat) (S : Src) (M : Mid) : Prop where
  one : ∀ (ds : List (D × D)) (A : Around) (G : Gm) (s : Shared) (v1 v2 : Value) (ow : List (Addr × Obj)) (Q : Value → Shared → Prop) (E : Value → Shared → Prop), Room k A → Pre C G ow s.heap → S ds G v1 v2 ow →
    (∀ x y ds', ds = (x, y) :: ds' → ∀ u ow' h' tk G', Step G ow s.heap G' ow' h' → Rep C G' u x → M (some (y, ds')) G' v1 v2 ow' → Q u { s with heap := h', toks := tk }) →
    (ds = [] → ∀ u ow' h' tk G', Step G ow s.heap G' ow' h' → M none G' v1 v2 ow' → Q u { s with heap := h', toks := tk }) →
    (ds = [] → ∀ e o h' tk G', Step G ow s.heap G' [] h' → h'.get? e = some o → o.cls = .type "StopIteration" → E (.ref e) { s with heap := h', toks := tk }) →
    wpAny (model C.prog C.w) A (Builtin.SmallTypes.nextOf v1) Q E s
  two : ∀ (md : Option (D × List (D × D))) (A : Around) (G : Gm) (s : Shared) (v1 v2 : Value) (ow : List (Addr × Obj)) (Q : Value → Shared → Prop) (E : Value → Shared → Prop), Room k A → Pre C G ow s.heap → M md G v1 v2 ow →
    (∀ y ds', md = some (y, ds') → ∀ u ow' h' tk G', Step G ow s.heap G' ow' h' → Rep C G' u y → S ds' G' v1 v2 ow' → Q u { s with heap := h', toks := tk }) →
    (md = none → ∀ e o h' tk G', Step G ow s.heap G' [] h' → h'.get? e = some o → o.cls = .type "StopIteration" → E (.ref e) { s with heap := h', toks := tk }) →
    wpAny (model C.prog C.w) A (Builtin.SmallTypes.nextOf v2) Q E s
  monoS : ∀ {ds G G' v1 v2 ow}, Gle G G' → S ds G v1 v2 ow → S ds G' v1 v2 ow
  monoM : ∀ {md G G' v1 v2 ow}, Gle G G' → M md G v1 v2 ow → M md G' v1 v2 ow

def pairO (a b : Value) : Obj := { cls := .type "tuple", data := .seq #[a, b] }
def zipO (f0 : Value) (f : Bool) (TI TO : Addr) : Obj := { cls := .type "zip", dict := none, data := .fields #[f0, .bool f, .bool false, .ref TI, .ref TO], slots := #[] }
abbrev zX (z TO TI : Addr) (f0 : Value) (f : Bool) (a b v1 v2 : Value) : List (Addr × Obj) := [(z, zipO f0 f TI TO), (TO, pairO a b), (TI, pairO v1 v2)]

section
variable {C : Cx} {k : Nat} {S : Src} {M : Mid} {A : Around} {s : Shared} {G : Gm} {E : Value → Shared → Prop}

theorem own_ne {G : Gm} {X : List (Addr × Obj)} {h : Heap} (o : Own G X h) : (X.map (·.1)).Nodup := o.nd

theorem zip_free {ds : List (D × D)} {z TO TI : Addr} {f : Bool} {a b v1 v2 : Value} {ow : List (Addr × Obj)} {Q : Value → Shared → Prop} (hroom : Room k A) (hd : Draw2 C k S M)
    (hpre : Pre C G (zX z TO TI .none f a b v1 v2 ++ ow) s.heap) (hS : S ds G v1 v2 ow)
    (hi : ∀ x y ds', ds = (x, y) :: ds' → ∀ (t : Addr) ow' h' tk G' u1 u2 ot, Step G (zX z TO TI .none f a b v1 v2 ++ ow) s.heap G' (zX z TO TI (rawInt t) false u1 u2 v1 v2 ++ ow') h' → Rep C G' (.ref t) (.tup [x, y]) → G' t = some ot → S ds' G' v1 v2 ow' → Q (.ref t) { s with heap := h', toks := tk })
    (he : ds = [] → ∀ e o h' tk, (∃ G', Gle G G' ∧ Step G (zX z TO TI .none f a b v1 v2 ++ ow) s.heap G' [] h') → h'.get? e = some o → o.cls = .type "StopIteration" → E (.ref e) { s with heap := h', toks := tk }) :
    wpAny (model C.prog C.w) A (Builtin.«zip.__next__» ⟨[.ref z], []⟩) (fun fin s' => ∃ v, fin = .done (.ret v) ∧ Q v s') E s := by
  have nd := hpre.own.nd
  have hz : s.heap.get? z = some (zipO .none f TI TO) := hpre.own.at_ (z, _) (.head _)
  have hTO : s.heap.get? TO = some (pairO a b) := hpre.own.at_ (TO, _) (.tail _ (.head _))
  have hTI : s.heap.get? TI = some (pairO v1 v2) := hpre.own.at_ (TI, _) (.tail _ (.tail _ (.head _)))
  show wpAny _ _ (field (.ref z) 2 >>= _) _ _ _
  refine wpAny_bind (wpAny_field hz rfl (x := .bool false) rfl ?_)
  show wpAny _ _ (field (.ref z) 3 >>= _) _ _ _
  refine wpAny_bind (wpAny_field hz rfl (x := .ref TI) rfl ?_)
  refine wpAny_bind (wpAny_seqItems hTI rfl ?_)
  show wpAny _ _ (Builtin.SmallTypes.ownedTupleIsFree (.ref z) >>= _) _ _ _
  refine wpAny_bind ?_
  unfold Builtin.SmallTypes.ownedTupleIsFree
  refine wpAny_bind (wpAny_field hz rfl (x := .none) rfl (wpAny_pure ?_))
  simp only [if_true]
  refine wpAny_bind (wpAny_rule ?_)
  refine wpAny_bind (wpAny_field hz rfl (x := .ref TO) rfl ?_)
  refine wpAny_bind (wpAny_setField_rec hz (by simp) fun h₁ hz₁ hs₁ => ?_)
  have st₁ : Step G (zX z TO TI .none f a b v1 v2 ++ ow) s.heap G (zX z TO TI .ellipsis f a b v1 v2 ++ ow) h₁ := Step.set (X := []) hpre.own hs₁.extBut hz₁
  have pre₁ := hpre.step st₁
  refine wpAny_bind ?_
  simp only [List.zipIdx_cons, List.zipIdx_nil, List.forIn_cons, List.forIn_nil]
  refine wpAny_bind (wpAny_bind (wpAny_onRaise ?_))
  show wpAny _ _ (Builtin.SmallTypes.nextOf v1 >>= _) _ _ _
  -- the end
  have stop : ∀ (Gx : Gm) (hx : Heap) (tk : Nat) (e : Addr) (oe : Obj) (p q : Value), ds = [] → Step G (zX z TO TI .none f a b v1 v2 ++ ow) s.heap Gx (zX z TO TI .ellipsis f p q v1 v2 ++ []) hx → hx.get? e = some oe → oe.cls = .type "StopIteration" →
      wpAny (model C.prog C.w) A (setField (.ref z) 0 .none) (fun _ s' => E (.ref e) s') E { s with heap := hx, toks := tk } := by
    intro Gx hx tk e oe p q hds st hoe hce
    have hz' : hx.get? z = some (zipO .ellipsis f TI TO) := st.own.at_ (z, _) (.head _)
    have hez : e ≠ z := fun x => by subst x; rw [hz'] at hoe; cases hoe; simp [zipO] at hce
    refine wpAny_setField_rec hz' (by simp) fun h₃ hz₃ hs₃ => ?_
    have st' := st.trans (Step.set (X := []) st.own hs₃.extBut hz₃)
    have st'' := st'.drop (List.nil_sublist _)
    exact he hds e oe h₃ tk ⟨Gx, st''.gle (X := []) (by simpa using hpre.own), st''⟩ (hs₃.extBut _ _ hez hoe) hce
  refine wpAny_bind (hd.one ds A G { s with heap := h₁ } v1 v2 ow _ _ hroom pre₁.tail hS ?_ ?_ ?_)
  · intro x y ds' hds u1 ow₂ h₂ tk₂ G₂ st₂ hr₁ hM
    subst hds
    have st₂' := st₁.trans (st₂.tail pre₁.own)
    have hTO₂ : h₂.get? TO = some (pairO a b) := st₂'.own.at_ (TO, _) (.tail _ (.head _))
    refine wpAny_pure ?_
    refine wpAny_bind (wpAny_seqItems hTO₂ rfl ?_)
    refine wpAny_bind (wpAny_updateSeq_pair hTO₂ fun h₃ hTO₃ hs₃ => ?_)
    have st₃ : Step G (zX z TO TI .none f a b v1 v2 ++ ow) s.heap G₂ (zX z TO TI .ellipsis f u1 b v1 v2 ++ ow₂) h₃ := st₂'.trans (Step.set (X := [(z, _)]) st₂'.own hs₃.extBut hTO₃)
    have pre₃ := hpre.step st₃
    refine wpAny_bind (wpAny_letGo (wpAny_pure ?_))
    refine wpAny_bind (wpAny_bind (wpAny_onRaise ?_))
    show wpAny _ _ (Builtin.SmallTypes.nextOf v2 >>= _) _ _ _
    refine wpAny_bind (hd.two (some (y, ds')) A G₂ { s with heap := h₃, toks := tk₂ } v1 v2 ow₂ _ _ hroom pre₃.tail hM ?_ ?_)
    · intro y' ds'' hyd u2 ow₄ h₄ tk₄ G₄ st₄ hr₂ hS'
      obtain ⟨rfl, rfl⟩ := Prod.mk.inj (Option.some.inj hyd)
      have st₄' := st₃.trans (st₄.tail pre₃.own)
      have le₄ := st₄.gle (X := []) (by simpa using pre₃.tail.own)
      have hTO₄ : h₄.get? TO = some (pairO u1 b) := st₄'.own.at_ (TO, _) (.tail _ (.head _))
      refine wpAny_pure ?_
      refine wpAny_bind (wpAny_seqItems hTO₄ rfl ?_)
      refine wpAny_bind (wpAny_updateSeq_pair hTO₄ fun h₅ hTO₅ hs₅ => ?_)
      have st₅ : Step G (zX z TO TI .none f a b v1 v2 ++ ow) s.heap G₄ (zX z TO TI .ellipsis f u1 u2 v1 v2 ++ ow₄) h₅ := st₄'.trans (Step.set (X := [(z, _)]) st₄'.own hs₅.extBut hTO₅)
      refine wpAny_bind (wpAny_letGo (wpAny_pure (wpAny_pure ?_)))
      refine wpAny_bind (wpAny_seqItems hTO₅ rfl ?_)
      refine wpAny_bind (wpAny_newTuple ?_ (hsz := by simp [sizeLine_eq]))
      have hz₅ : h₅.get? z = some (zipO .ellipsis f TI TO) := st₅.own.at_ (z, _) (.head _)
      show wpAny _ _ (Builtin.SmallTypes.ownedTupleHandOut (.ref z) (.ref h₅.objs.size) >>= _) _ _ _
      refine wpAny_bind ?_
      unfold Builtin.SmallTypes.ownedTupleHandOut
      have hz₆ : (h₅.push (pairO u1 u2)).get? z = some (zipO .ellipsis f TI TO) := Heap.get?_push_of_some _ hz₅
      refine wpAny_bind (wpAny_setField_rec hz₆ (by simp) fun h₇ hz₇ hs₇ => ?_)
      replace hz₇ : h₇.get? z = some (zipO (rawInt h₅.objs.size) f TI TO) := hz₇
      refine wpAny_setField_rec hz₇ (by simp) fun h₈ hz₈ hs₈ => ?_
      replace hz₈ : h₈.get? z = some (zipO (rawInt h₅.objs.size) false TI TO) := hz₈
      have hzlt : z < h₅.objs.size := Heap.lt_size hz₅
      have hT₈ : h₈.get? h₅.objs.size = some (pairO u1 u2) := hs₈.extBut _ _ (Nat.ne_of_gt hzlt) (hs₇.extBut _ _ (Nat.ne_of_gt hzlt) (Heap.get?_push_size _ rfl))
      have eb : Heap.ExtBut z h₅ h₈ := fun c o c1 e => hs₈.extBut _ _ c1 (hs₇.extBut _ _ c1 (Heap.get?_push_of_some _ e))
      have inY : ∀ q, q ∈ (zX z TO TI (rawInt h₅.objs.size) false u1 u2 v1 v2 ++ ow₄).map (·.1) → q ≠ h₅.objs.size := fun q hq e => by
        have hq' : q ∈ (zX z TO TI .ellipsis f u1 u2 v1 v2 ++ ow₄).map (·.1) := by simpa using hq
        obtain ⟨p, hp, rfl⟩ := List.mem_map.mp hq'
        have := st₅.own.at_ p hp
        rw [e, get?_size] at this; cases this
      have st₈ : Step G₄ (zX z TO TI .ellipsis f u1 u2 v1 v2 ++ ow₄) h₅ G₄ (zX z TO TI (rawInt h₅.objs.size) false u1 u2 v1 v2 ++ ow₄) h₈ := Step.set (X := []) st₅.own eb hz₈
      have st₉ := st₈.newFrozen hT₈ (get?_size _) (fun hm => inY _ hm rfl) (fun hm => inY _ (by simpa using hm) rfl) (st₅.own.none_of (get?_size _))
      have le₉ := st₉.gle (X := []) (by simpa using st₅.own)
      refine wpAny_pure ⟨_, rfl, ?_⟩
      exact hi x y ds' rfl h₅.objs.size ow₄ h₈ tk₄ _ u1 u2 _ (st₅.trans st₉) (rep_pair (Gadd_self _ _ _) ((hr₁.mono le₄).mono le₉) (hr₂.mono le₉)) (Gadd_self _ _ _) (hd.monoS le₉ hS')
    · intro q; cases q
  · intro hds u1 ow₂ h₂ tk₂ G₂ st₂ hM
    subst hds
    have st₂' := st₁.trans (st₂.tail pre₁.own)
    have hTO₂ : h₂.get? TO = some (pairO a b) := st₂'.own.at_ (TO, _) (.tail _ (.head _))
    refine wpAny_pure ?_
    refine wpAny_bind (wpAny_seqItems hTO₂ rfl ?_)
    refine wpAny_bind (wpAny_updateSeq_pair hTO₂ fun h₃ hTO₃ hs₃ => ?_)
    have st₃ : Step G (zX z TO TI .none f a b v1 v2 ++ ow) s.heap G₂ (zX z TO TI .ellipsis f u1 b v1 v2 ++ ow₂) h₃ := st₂'.trans (Step.set (X := [(z, _)]) st₂'.own hs₃.extBut hTO₃)
    have pre₃ := hpre.step st₃
    refine wpAny_bind (wpAny_letGo (wpAny_pure ?_))
    refine wpAny_bind (wpAny_bind (wpAny_onRaise ?_))
    show wpAny _ _ (Builtin.SmallTypes.nextOf v2 >>= _) _ _ _
    refine wpAny_bind (hd.two none A G₂ { s with heap := h₃, toks := tk₂ } v1 v2 ow₂ _ _ hroom pre₃.tail hM ?_ ?_)
    · intro _ _ q; cases q
    · intro _ e o h₄ tk₄ G₄ st₄ hoe hce
      exact stop G₄ h₄ tk₄ e o u1 b rfl (st₃.trans (st₄.tail pre₃.own)) hoe hce
  · intro hds e o h₂ tk₂ G₂ st₂ hoe hce
    exact stop G₂ h₂ tk₂ e o a b hds (st₁.trans (st₂.tail pre₁.own)) hoe hce

theorem zip_kept {ds : List (D × D)} {z TO TI t : Addr} {ot : Obj} {f : Bool} {a b v1 v2 : Value} {ow : List (Addr × Obj)} {Q : Value → Shared → Prop} (hroom : Room k A) (hd : Draw2 C k S M)
    (hpre : Pre C G (zX z TO TI (rawInt t) f a b v1 v2 ++ ow) s.heap) (hS : S ds G v1 v2 ow) (ht : G t = some ot)
    (hi : ∀ x y ds', ds = (x, y) :: ds' → ∀ (t' : Addr) ow' h' tk G', Step G (zX z TO TI (rawInt t) f a b v1 v2 ++ ow) s.heap G' (zX z TO TI (rawInt t) true a b v1 v2 ++ ow') h' → Rep C G' (.ref t') (.tup [x, y]) → G' t = some ot → S ds' G' v1 v2 ow' → Q (.ref t') { s with heap := h', toks := tk })
    (he : ds = [] → ∀ e o h' tk, (∃ G', Gle G G' ∧ Step G (zX z TO TI (rawInt t) f a b v1 v2 ++ ow) s.heap G' [] h') → h'.get? e = some o → o.cls = .type "StopIteration" → E (.ref e) { s with heap := h', toks := tk }) :
    wpAny (model C.prog C.w) A (Builtin.«zip.__next__» ⟨[.ref z], []⟩) (fun fin s' => ∃ v, fin = .done (.ret v) ∧ Q v s') E s := by
  have hz : s.heap.get? z = some (zipO (rawInt t) f TI TO) := hpre.own.at_ (z, _) (.head _)
  have hTI : s.heap.get? TI = some (pairO v1 v2) := hpre.own.at_ (TI, _) (.tail _ (.tail _ (.head _)))
  have htz : t ≠ z := fun q => by have := hpre.own.off (z, _) (.head _); rw [show (z, zipO (rawInt t) f TI TO).1 = t from q.symm, ht] at this; cases this
  show wpAny _ _ (field (.ref z) 2 >>= _) _ _ _
  refine wpAny_bind (wpAny_field hz rfl (x := .bool false) rfl ?_)
  show wpAny _ _ (field (.ref z) 3 >>= _) _ _ _
  refine wpAny_bind (wpAny_field hz rfl (x := .ref TI) rfl ?_)
  refine wpAny_bind (wpAny_seqItems hTI rfl ?_)
  show wpAny _ _ (Builtin.SmallTypes.ownedTupleIsFree (.ref z) >>= _) _ _ _
  have free : wpAny (model C.prog C.w) A (Builtin.SmallTypes.ownedTupleIsFree (.ref z)) (fun r s' => r = false ∧ ∃ h₁, s' = { s with heap := h₁ } ∧ Step G (zX z TO TI (rawInt t) f a b v1 v2 ++ ow) s.heap G (zX z TO TI (rawInt t) true a b v1 v2 ++ ow) h₁) E s := by
    unfold Builtin.SmallTypes.ownedTupleIsFree
    refine wpAny_bind (wpAny_field hz rfl (x := rawInt t) rfl ?_)
    show wpAny _ _ (loadIfAlive ((t : Int).toNat) >>= _) _ _ _
    rw [Int.toNat_natCast]
    refine wpAny_bind (kdx_alive (hpre.own.sub _ _ ht) ?_)
    simp only [Option.isNone_some, Bool.false_eq_true, if_false]
    refine wpAny_bind (wpAny_field hz rfl (x := .bool f) rfl ?_)
    cases f with
    | true =>
      rw [if_neg (show ¬ ((Value.bool true != Value.bool true) = true) from Bool.false_ne_true)]
      exact wpAny_pure ⟨rfl, s.heap, rfl, Step.id hpre.own⟩
    | false =>
      rw [if_pos (show (Value.bool false != Value.bool true) = true from rfl)]
      refine wpAny_bind (wpAny_setField_rec hz (by simp) fun h₃ he₃ hs₃ => ?_)
      exact wpAny_pure ⟨rfl, h₃, rfl, Step.set (X := []) hpre.own hs₃.extBut he₃⟩
  refine wpAny_bind (wpAny_mono free (fun r s' hr => ?_) fun _ _ e => e)
  obtain ⟨rfl, h₁, rfl, st₁⟩ := hr
  have pre₁ := hpre.step st₁
  simp only [Bool.false_eq_true, if_false]
  refine wpAny_bind ?_
  rw [← Array.forIn_toList]
  simp only [List.forIn_cons, List.forIn_nil]
  refine wpAny_bind (wpAny_bind (wpAny_holding ?_))
  show wpAny _ _ (Builtin.SmallTypes.nextOf v1 >>= _) _ _ _
  refine wpAny_bind (hd.one ds A G { s with heap := h₁ } v1 v2 ow _ _ hroom pre₁.tail hS ?_ ?_ ?_)
  · intro x y ds' hds u1 ow₂ h₂ tk₂ G₂ st₂ hr₁ hM
    have st₂' := st₁.trans (st₂.tail pre₁.own)
    have pre₂ := hpre.step st₂'
    refine wpAny_pure (wpAny_pure ?_)
    refine wpAny_bind (wpAny_bind (wpAny_holding ?_))
    show wpAny _ _ (Builtin.SmallTypes.nextOf v2 >>= _) _ _ _
    refine wpAny_bind (hd.two (some (y, ds')) A G₂ { s with heap := h₂, toks := tk₂ } v1 v2 ow₂ _ _ hroom pre₂.tail hM ?_ ?_)
    · intro y' ds'' hyd u2 ow₄ h₄ tk₄ G₄ st₄ hr₂ hS'
      obtain ⟨rfl, rfl⟩ := Prod.mk.inj (Option.some.inj hyd)
      have le₄ := st₄.gle (X := []) (by simpa using pre₂.tail.own)
      refine wpAny_pure (wpAny_pure (wpAny_pure ?_))
      have st := st₂'.trans (st₄.tail pre₂.own)
      refine wpAny_bind (wpAny_newTuple ?_ (hsz := by simp [sizeLine_eq]))
      obtain ⟨gr, sub⟩ := grow_frozen st.own (pairO u1 u2) rfl
      have st' := (Step.of_grow gr (.nil sub) (fun _ hp => (nomatch hp))).frame (X := zX z TO TI (rawInt t) true a b v1 v2 ++ ow₄) (by simpa using st.own)
      have le := gr.gle st.own
      have le0 := st.gle (X := []) (by simpa using hpre.own)
      exact wpAny_pure ⟨_, rfl, hi x y ds' hds _ ow₄ _ tk₄ _ (st.trans st') (rep_pair (Gadd_self _ _ _) ((hr₁.mono le₄).mono le) (hr₂.mono le)) (le _ _ (le0 _ _ ht)) (hd.monoS le hS')⟩
    · intro q; cases q
  · intro hds u1 ow₂ h₂ tk₂ G₂ st₂ hM
    have st₂' := st₁.trans (st₂.tail pre₁.own)
    have pre₂ := hpre.step st₂'
    refine wpAny_pure (wpAny_pure ?_)
    refine wpAny_bind (wpAny_bind (wpAny_holding ?_))
    show wpAny _ _ (Builtin.SmallTypes.nextOf v2 >>= _) _ _ _
    refine wpAny_bind (hd.two none A G₂ { s with heap := h₂, toks := tk₂ } v1 v2 ow₂ _ _ hroom pre₂.tail hM ?_ ?_)
    · intro _ _ q; cases q
    · intro _ e o h₄ tk₄ G₄ st₄ hoe hce
      have st := (st₂'.trans (st₄.tail pre₂.own)).drop (List.nil_sublist _)
      exact he hds e o h₄ tk₄ ⟨G₄, st.gle (X := []) (by simpa using hpre.own), st⟩ hoe hce
  · intro hds e o h₂ tk₂ G₂ st₂ hoe hce
    have st := (st₁.trans (st₂.tail pre₁.own)).drop (List.nil_sublist _)
    exact he hds e o h₂ tk₂ ⟨G₂, st.gle (X := []) (by simpa using hpre.own), st⟩ hoe hce

def pairD (p : D × D) : D := .tup [p.1, p.2]
def MonoS (S : Src) : Prop := ∀ {ds G G' v1 v2 ow}, Gle G G' → S ds G v1 v2 ow → S ds G' v1 v2 ow
def zitT (C : Cx) (S : Src) (hm : MonoS S) : It := fun ds => ⟨fun G v ow => ∃ (z TO TI : Addr) (f : Bool) (a b v1 v2 : Value) (ow' : List (Addr × Obj)) (ps : List (D × D)), v = .ref z ∧ ow = zX z TO TI .none f a b v1 v2 ++ ow' ∧ S ps G v1 v2 ow' ∧ ds = ps.map pairD,
  fun le ⟨z, TO, TI, f, a, b, v1, v2, ow', ps, h1, h2, h3, h4⟩ => ⟨z, TO, TI, f, a, b, v1, v2, ow', ps, h1, h2, hm le h3, h4⟩⟩
def zit (C : Cx) (S : Src) (hm : MonoS S) : It := fun ds => ⟨fun G v ow => ∃ (z TO TI : Addr) (f0 : Value) (f : Bool) (a b v1 v2 : Value) (ow' : List (Addr × Obj)) (ps : List (D × D)), v = .ref z ∧ ow = zX z TO TI f0 f a b v1 v2 ++ ow' ∧ S ps G v1 v2 ow' ∧ ds = ps.map pairD ∧ (f0 = .none ∨ ∃ (t : Addr) (ot : Obj), f0 = rawInt t ∧ G t = some ot),
  fun le ⟨z, TO, TI, f0, f, a, b, v1, v2, ow', ps, h1, h2, h3, h4, h5⟩ => ⟨z, TO, TI, f0, f, a, b, v1, v2, ow', ps, h1, h2, hm le h3, h4, h5.imp (fun h => h) fun ⟨t, ot, e1, e2⟩ => ⟨t, ot, e1, le _ _ e2⟩⟩⟩

theorem lgo_zip {z TI TO T : Addr} {f : Bool} {elts : List Expr} {j : Nat} {pos : Pos} {Q : Unit → Shared → Prop} (hz : s.heap.get? z = some (zipO (rawInt T) f TI TO))
    (hQ : ∀ h', h'.get? z = some (zipO .none f TI TO) → Heap.SameBut z s.heap h' → Q () { s with heap := h' }) :
    wpAny (model C.prog C.w) A (letOwnedTupleGo (.Tuple elts j pos) (.ref z) (.ref T)) Q E s := by
  unfold letOwnedTupleGo
  refine wpAny_bind (wpAny_load hz ?_)
  show wpAny _ _ (if (["enumerate", "zip", "dict_itemiterator", "dict_reverseitemiterator", "odict_iterator", "itertools.zip_longest", "itertools.pairwise"].contains "zip" &&
      (#[rawInt T, .bool f, .bool false, .ref TI, .ref TO] : Array Value)[0]? == some (rawInt T)) = true then _ else _) Q E s
  rw [if_pos (by simp)]
  refine wpAny_bind (wpAny_rule ?_)
  show wpAny _ _ (setField (.ref z) 0 .none) Q E s
  exact wpAny_setField_rec hz (by simp) fun h' he' hs' => hQ h' he' hs'
theorem zip_self {z : Addr} {o : Obj} {Q : Value → Shared → Prop} (ho : s.heap.get? z = some o) (hc : o.cls = .type "zip") (h : Q (.ref z) s) : wpAny (model C.prog C.w) A (pyIter (.ref z)) Q E s := by
  have hT : s.TypeIs (.ref z) "zip" := ⟨o, ho, hc⟩
  refine wpAny_pyIter_slot hT PySem.F.slot_zip_iter (wpAny_call_entry PySem.F.slot_zip_iter hT PySem.F.entry_zip_iter ?_ (PySem.F.args_zip_iter_1 _))
  show wpAny _ _ (ret (.ref z)) _ _ s
  exact wpAny_pure ⟨_, rfl, "zip", _, hT, PySem.F.slot_zip_next.lookup, h⟩

theorem WalkT_zip (hd : Draw2 C k S M) : WalkT C (k + 1) (zitT C S hd.monoS) := by
  refine ⟨?_, ?_⟩
  · rintro ds A G s v ow elts j pos K N E hroom hpre ⟨z, TO, TI, f, a, b, v1, v2, ow', ps, rfl, rfl, hS, rfl⟩ hi he
    have hz : s.heap.get? z = some (zipO .none f TI TO) := hpre.own.at_ (z, _) (.head _)
    have hT : s.TypeIs (.ref z) "zip" := ⟨_, hz, rfl⟩
    unfold pyNext
    refine wpAny_bind (wpAny_attempt (wpAny_callSpecial?_slot (name := Str.ofString "__next__") hT PySem.F.slot_zip_next
      (wpAny_call_entry PySem.F.slot_zip_next hT PySem.F.entry_zip_next (zip_free hroom.in1 hd hpre hS ?_ ?_) (PySem.F.args_zip_next_1 _))))
    · intro x y ds' hds t ow₂ h₂ tk₂ G₂ u1 u2 ot st hr hGt hS'
      subst hds
      refine wpAny_pure ?_
      refine lgo_zip (st.own.at_ (z, _) (.head _)) fun h₃ hz₃ hs₃ => ?_
      have st₃ := st.trans (Step.set (X := []) st.own hs₃.extBut hz₃)
      exact hi _ _ rfl (.ref t) _ h₃ tk₂ G₂ st₃ hr ⟨z, TO, TI, false, u1, u2, v1, v2, ow₂, ds', rfl, rfl, hS', rfl⟩
    · intro hds e o h' tk ⟨G', le, st⟩ hoe hce
      subst hds
      refine wpAny_bind (wpAny_isInstance (T := "StopIteration") (b := true) ⟨o, hoe, hce⟩ isSubtype_stop ?_)
      exact wpAny_pure (he rfl h' tk G' st)
  · rintro ds A G s v ow Q E hroom hpre ⟨z, TO, TI, f, a, b, v1, v2, ow', ps, rfl, rfl, hS, rfl⟩ hQ
    exact zip_self (hpre.own.at_ (z, _) (.head _)) rfl (hQ _ _ s.heap s.toks G (Step.id hpre.own) ⟨z, TO, TI, f, a, b, v1, v2, ow', ps, rfl, rfl, hS, rfl⟩)
theorem Walk_zip (hd : Draw2 C k S M) : Walk C (k + 1) (zit C S hd.monoS) := by
  refine ⟨?_, ?_⟩
  · rintro ds A G s v ow Q E hroom hpre ⟨z, TO, TI, f0, f, a, b, v1, v2, ow', ps, rfl, rfl, hS, rfl, hst⟩ hi he
    have hz : s.heap.get? z = some (zipO f0 f TI TO) := hpre.own.at_ (z, _) (.head _)
    have hT : s.TypeIs (.ref z) "zip" := ⟨_, hz, rfl⟩
    unfold pyNext
    rcases hst with rfl | ⟨t, ot, rfl, ht⟩
    · refine wpAny_bind (wpAny_attempt (wpAny_callSpecial?_slot (name := Str.ofString "__next__") hT PySem.F.slot_zip_next
        (wpAny_call_entry PySem.F.slot_zip_next hT PySem.F.entry_zip_next (zip_free hroom.in1 hd hpre hS ?_ ?_) (PySem.F.args_zip_next_1 _))))
      · intro x y ds' hds t ow₂ h₂ tk₂ G₂ u1 u2 ot st hr hGt hS'
        subst hds
        exact wpAny_pure (hi _ _ rfl (.ref t) _ h₂ tk₂ G₂ st hr ⟨z, TO, TI, _, false, u1, u2, v1, v2, ow₂, ds', rfl, rfl, hS', rfl, .inr ⟨t, ot, rfl, hGt⟩⟩)
      · intro hds e o h' tk ⟨G', le, st⟩ hoe hce
        subst hds
        refine wpAny_bind (wpAny_isInstance (T := "StopIteration") (b := true) ⟨o, hoe, hce⟩ isSubtype_stop ?_)
        exact wpAny_pure (he rfl h' tk G' st)
    · refine wpAny_bind (wpAny_attempt (wpAny_callSpecial?_slot (name := Str.ofString "__next__") hT PySem.F.slot_zip_next
        (wpAny_call_entry PySem.F.slot_zip_next hT PySem.F.entry_zip_next (zip_kept hroom.in1 hd hpre hS ht ?_ ?_) (PySem.F.args_zip_next_1 _))))
      · intro x y ds' hds t' ow₂ h₂ tk₂ G₂ st hr hGt hS'
        subst hds
        exact wpAny_pure (hi _ _ rfl (.ref t') _ h₂ tk₂ G₂ st hr ⟨z, TO, TI, _, true, a, b, v1, v2, ow₂, ds', rfl, rfl, hS', rfl, .inr ⟨t, ot, rfl, hGt⟩⟩)
      · intro hds e o h' tk ⟨G', le, st⟩ hoe hce
        subst hds
        refine wpAny_bind (wpAny_isInstance (T := "StopIteration") (b := true) ⟨o, hoe, hce⟩ isSubtype_stop ?_)
        exact wpAny_pure (he rfl h' tk G' st)
  · rintro ds A G s v ow Q E hroom hpre ⟨z, TO, TI, f0, f, a, b, v1, v2, ow', ps, rfl, rfl, hS, rfl, hst⟩ hQ
    exact zip_self (hpre.own.at_ (z, _) (.head _)) rfl (hQ _ _ s.heap s.toks G (Step.id hpre.own) ⟨z, TO, TI, f0, f, a, b, v1, v2, ow', ps, rfl, rfl, hS, rfl, hst⟩)

/-! two iterators apart -/
def S2 (I J : It) : Src := fun ps G v1 v2 ow => ∃ ds es ow1 ow2, ow = ow1 ++ ow2 ∧ (I ds).P G v1 ow1 ∧ (J es).P G v2 ow2 ∧ ps = ds.zip es
def M2 (I J : It) : Mid := fun md G v1 v2 ow => ∃ ds es ow1 ow2, ow = ow1 ++ ow2 ∧ (I ds).P G v1 ow1 ∧ (J es).P G v2 ow2 ∧ md = match es with | [] => none | y :: es' => some (y, ds.zip es')
theorem Draw2_two {I J : It} (hI : Draw C k I) (hJ : Draw C k J) : Draw2 C k (S2 I J) (M2 I J) := by
  refine ⟨?_, ?_, ?_, ?_⟩
  · rintro ps A G s v1 v2 ow Q E hroom hpre ⟨ds, es, ow1, ow2, rfl, h1, h2, rfl⟩ hi hn he
    have p1 := hpre.sub (List.sublist_append_left ow1 ow2)
    refine hI ds A G s v1 ow1 Q E hroom p1 h1 (fun d ds' hds u ow' h' tk G' st hr hI' => ?_) fun hds e o h' tk G' st hoe hce => ?_
    · subst hds
      have le := st.gle hpre.own
      have st' := st.frame hpre.own
      cases es with
      | nil => exact hn rfl u _ h' tk G' st' ⟨ds', [], ow', ow2, rfl, hI', Res.mono _ le h2, rfl⟩
      | cons y es => exact hi d y (ds'.zip es) rfl u _ h' tk G' st' hr ⟨ds', y :: es, ow', ow2, rfl, hI', Res.mono _ le h2, rfl⟩
    · subst hds
      exact he rfl e o h' tk G' ((st.frame hpre.own).drop (List.nil_sublist _)) hoe hce
  · rintro md A G s v1 v2 ow Q E hroom hpre ⟨ds, es, ow1, ow2, rfl, h1, h2, rfl⟩ hi he
    have p2 := hpre.tail
    refine hJ es A G s v2 ow2 Q E hroom p2 h2 (fun d es' hds u ow' h' tk G' st hr hJ' => ?_) fun hds e o h' tk G' st hoe hce => ?_
    · subst hds
      have le := st.gle (X := []) (by simpa using p2.own)
      exact hi d _ rfl u _ h' tk G' (st.tail hpre.own) hr ⟨ds, es', ow1, ow', rfl, Res.mono _ le h1, hJ', rfl⟩
    · subst hds
      exact he rfl e o h' tk G' ((st.tail hpre.own).drop (List.nil_sublist _)) hoe hce
  · rintro ds G G' v1 v2 ow le ⟨a, b, c, d, e1, e2, e3, e4⟩
    exact ⟨a, b, c, d, e1, Res.mono _ le e2, Res.mono _ le e3, e4⟩
  · rintro ds G G' v1 v2 ow le ⟨a, b, c, d, e1, e2, e3, e4⟩
    exact ⟨a, b, c, d, e1, Res.mono _ le e2, Res.mono _ le e3, e4⟩
/-! one iterator twice -/
noncomputable def pairs : List D → List (D × D)
  | x :: y :: r => (x, y) :: pairs r
  | _ => []
def S1 (I : It) : Src := fun ps G v1 v2 ow => v2 = v1 ∧ ∃ ds, (I ds).P G v1 ow ∧ ps = pairs ds
def M1 (I : It) : Mid := fun md G v1 v2 ow => v2 = v1 ∧ ∃ ds, (I ds).P G v1 ow ∧ md = match ds with | [] => none | y :: ds' => some (y, pairs ds')
theorem Draw2_same {I : It} (hI : Draw C k I) : Draw2 C k (S1 I) (M1 I) := by
  refine ⟨?_, ?_, ?_, ?_⟩
  · rintro ps A G s v1 v2 ow Q E hroom hpre ⟨rfl, ds, h1, rfl⟩ hi hn he
    refine hI ds A G s v2 ow Q E hroom hpre h1 (fun d ds' hds u ow' h' tk G' st hr hI' => ?_) fun hds e o h' tk G' st hoe hce => ?_
    · subst hds
      cases ds' with
      | nil => exact hn rfl u _ h' tk G' st ⟨rfl, [], hI', rfl⟩
      | cons y r => exact hi d y (pairs r) rfl u _ h' tk G' st hr ⟨rfl, y :: r, hI', rfl⟩
    · subst hds
      exact he rfl e o h' tk G' st hoe hce
  · rintro md A G s v1 v2 ow Q E hroom hpre ⟨rfl, ds, h1, rfl⟩ hi he
    refine hI ds A G s v2 ow Q E hroom hpre h1 (fun d ds' hds u ow' h' tk G' st hr hI' => ?_) fun hds e o h' tk G' st hoe hce => ?_
    · subst hds
      exact hi d _ rfl u _ h' tk G' st hr ⟨rfl, ds', hI', rfl⟩
    · subst hds
      exact he rfl e o h' tk G' st hoe hce
  · rintro ds G G' v1 v2 ow le ⟨e1, a, e2, e3⟩
    exact ⟨e1, a, Res.mono _ le e2, e3⟩
  · rintro ds G G' v1 v2 ow le ⟨e1, a, e2, e3⟩
    exact ⟨e1, a, Res.mono _ le e2, e3⟩
end
end Mine

set_option maxRecDepth 100000
set_option autoImplicit false
set_option linter.unusedVariables false
namespace Mine
open PySem PySem.W PyProof.Rows

namespace Fc
theorem owner_map : Manifest.owners.lookup (String.ofList ['p', 'a', 'm'].reverse) = some Manifest.sig_map := by kernel_rfl
theorem slot_map_next : Slot "map" "__next__" "map.__next__" :=
  .of (owner := "map") (n := "__next__") (by rw [typeLookup_type, builtinLookup_eq_fast]; kernel_rfl) (by decide +kernel) (by decide +kernel) (by decide +kernel)
    (by first | exact .inl (by decide +kernel) | exact .inr (by decide +kernel)) (by rw [isSubtype_type]; kernel_rfl)
theorem entry_map_next : entryFor table "map.__next__" = some Builtin.«map.__next__» := entryFor_of_tree (by kernel_rfl)
theorem args_map_next (a : Value) : argsOk "map.__next__" ⟨[a], []⟩ := by
  unfold argsOk; rw [signature?_of (id := "map.__next__") (n := ['_', '_', 't', 'x', 'e', 'n', '_', '_']) (o := ['p', 'a', 'm']) (by kernel_rfl) owner_map]; kernel_rfl
theorem slot_map_iter : Slot "map" "__iter__" "map.__iter__" :=
  .of (owner := "map") (n := "__iter__") (by rw [typeLookup_type, builtinLookup_eq_fast]; kernel_rfl) (by decide +kernel) (by decide +kernel) (by decide +kernel)
    (by first | exact .inl (by decide +kernel) | exact .inr (by decide +kernel)) (by rw [isSubtype_type]; kernel_rfl)
theorem entry_map_iter : entryFor table "map.__iter__" = some Builtin.«dict_keyiterator.__iter__» :=
  entryFor_alias (id' := "dict_keyiterator.__iter__") (by kernel_rfl) (by first | rfl | decide +kernel | (unfold String.splitOn; simp +decide [String.splitOnAux])) (by decide +kernel) (by kernel_rfl)
theorem args_map_iter (a : Value) : argsOk "map.__iter__" ⟨[a], []⟩ := by
  unfold argsOk; rw [signature?_of (id := "map.__iter__") (n := ['_', '_', 'r', 'e', 't', 'i', '_', '_']) (o := ['p', 'a', 'm']) (by kernel_rfl) owner_map]; kernel_rfl
theorem slot_map_init : Slot "map" "__init__" "object.__init__" :=
  .of (owner := "object") (n := "__init__") (by rw [typeLookup_type, builtinLookup_eq_fast]; kernel_rfl) (by decide +kernel) (by decide +kernel) (by decide +kernel)
    (by first | exact .inl (by decide +kernel) | exact .inr (by decide +kernel)) (by rw [isSubtype_type]; kernel_rfl)
theorem mro_map : mroOf (.type "map") = pure [.type "map", .type "object"] := by rw [mroOf_type]; kernel_rfl
theorem lookup_map_new : typeLookup (.type "map") "__new__" = pure (some (.builtin "map.__new__")) := by rw [typeLookup_type, builtinLookup_eq_fast]; kernel_rfl
theorem called_map : TypeCalled "map" "map.__new__" "object.__init__" :=
  ⟨by decide +kernel, by decide +kernel, ⟨_, _, mro_map⟩, madeBy_type mro_map lookup_map_new (by decide +kernel), by decide +kernel, by rw [isSubtype_type]; kernel_rfl, slot_map_init⟩
theorem typeCall_map_2 (a b : Value) : checkTypeCall "map" ⟨[a, b], []⟩ = pure () := by kernel_rfl
theorem newCall_map_2 (a b : Value) : checkBuiltinCall "map.__new__" ⟨[.type "map", a, b], []⟩ = pure () := by kernel_rfl
theorem entry_map_new : entryFor table "map.__new__" = some Builtin.«map.__new__» := entryFor_of_tree (by kernel_rfl)
theorem sub_map : isSubtype (.type "map") (.type "map") = pure true := by rw [isSubtype_type]; kernel_rfl
theorem zip_no_len : typeLookup (.type "zip") "__len__" = pure none := by rw [typeLookup_type, builtinLookup_eq_fast]; kernel_rfl
theorem zip_no_hint : typeLookup (.type "zip") "__length_hint__" = pure none := by rw [typeLookup_type, builtinLookup_eq_fast]; kernel_rfl
theorem map_no_len : typeLookup (.type "map") "__len__" = pure none := by rw [typeLookup_type, builtinLookup_eq_fast]; kernel_rfl
theorem map_no_hint : typeLookup (.type "map") "__length_hint__" = pure none := by rw [typeLookup_type, builtinLookup_eq_fast]; kernel_rfl
theorem zip_no_keys : typeLookup (.type "zip") "keys" = pure none := by rw [typeLookup_type, builtinLookup_eq_fast]; kernel_rfl
end Fc

section
variable {C : Cx} {k : Nat} {S : Src} {M : Mid} {A : Around} {s : Shared} {G : Gm} {E : Value → Shared → Prop}

def mapO (TI : Addr) (f : Value) : Obj := { cls := .type "map", dict := none, data := .fields #[.ref TI, f], slots := #[] }
def oneO (a : Value) : Obj := { cls := .type "tuple", data := .seq #[a] }
/-- map f over I, f doing g on each -/
def mit (C : Cx) (k : Nat) (I : It) (f : Value) (g : D → D) : It := fun ds => ⟨fun G v ow => ∃ (z TI : Addr) (v1 : Value) (ow' : List (Addr × Obj)) (es : List D), v = .ref z ∧ ow = [(z, mapO TI f), (TI, oneO v1)] ++ ow' ∧ (I es).P G v1 ow' ∧ ds = es.map g ∧ ∀ e ∈ es, Fn C k f [e] [] (dat C (g e)),
  fun le ⟨z, TI, v1, ow', es, h1, h2, h3, h4, h5⟩ => ⟨z, TI, v1, ow', es, h1, h2, Res.mono _ le h3, h4, h5⟩⟩

theorem map_next {I : It} {f : Value} {g : D → D} {es : List D} {z TI : Addr} {v1 : Value} {ow : List (Addr × Obj)} {Q : Value → Shared → Prop} (hroom : Room k A) (hd : Draw C k I)
    (hpre : Pre C G ([(z, mapO TI f), (TI, oneO v1)] ++ ow) s.heap) (hI : (I es).P G v1 ow) (hf : ∀ e ∈ es, Fn C k f [e] [] (dat C (g e)))
    (hi : ∀ e es', es = e :: es' → ∀ u ow' h' tk G', Step G ([(z, mapO TI f), (TI, oneO v1)] ++ ow) s.heap G' ([(z, mapO TI f), (TI, oneO v1)] ++ ow') h' → Rep C G' u (g e) → (I es').P G' v1 ow' → Q u { s with heap := h', toks := tk })
    (he : es = [] → ∀ e o h' tk, (∃ G', Step G ([(z, mapO TI f), (TI, oneO v1)] ++ ow) s.heap G' [] h') → h'.get? e = some o → o.cls = .type "StopIteration" → E (.ref e) { s with heap := h', toks := tk }) :
    wpAny (model C.prog C.w) A (Builtin.«map.__next__» ⟨[.ref z], []⟩) (fun fin s' => ∃ v, fin = .done (.ret v) ∧ Q v s') E s := by
  have hz : s.heap.get? z = some (mapO TI f) := hpre.own.at_ (z, _) (.head _)
  have hTI : s.heap.get? TI = some (oneO v1) := hpre.own.at_ (TI, _) (.tail _ (.head _))
  show wpAny _ _ (field (.ref z) 0 >>= _) _ _ _
  refine wpAny_bind (wpAny_field hz rfl (x := .ref TI) rfl ?_)
  refine wpAny_bind (wpAny_seqItems hTI rfl ?_)
  dsimp only
  refine wpAny_bind ?_
  rw [← Array.forIn_toList]
  simp only [List.forIn_cons, List.forIn_nil]
  refine wpAny_bind (wpAny_bind (wpAny_holding ?_))
  refine hd es A G s v1 ow _ _ hroom hpre.tail hI ?_ ?_
  · intro e es' hes u ow₂ h₂ tk₂ G₂ st₂ hr hI'
    subst hes
    have st₂' := st₂.tail hpre.own
    have pre₂ := hpre.step st₂'
    refine wpAny_pure (wpAny_pure ?_)
    have hz₂ : h₂.get? z = some (mapO TI f) := pre₂.own.at_ (z, _) (.head _)
    refine wpAny_bind (wpAny_field hz₂ rfl (x := f) rfl ?_)
    refine wpAny_bind (wpAny_holding ?_)
    refine hf e (.head _) A G₂ _ [u] [] _ _ hroom pre₂.base pre₂.own.sub (.cons hr .nil) ⟨rfl, .nil⟩ fun v ow₃ h₃ tk₃ G₃ gr hv ho hn => ?_
    obtain ⟨rfl, hv⟩ := hv
    have st₃ := (Step.of_grow gr ho hn).frame (X := [(z, mapO TI f), (TI, oneO v1)] ++ ow₂) pre₂.own
    refine wpAny_bind (wpAny_letGo (wpAny_pure ⟨_, rfl, ?_⟩))
    exact hi e es' rfl v ow₂ h₃ tk₃ G₃ (st₂'.trans st₃) hv (Res.mono _ (gr.gle pre₂.own) hI')
  · intro hes e o h₂ tk₂ G₂ st₂ hoe hce
    exact he hes e o h₂ tk₂ ⟨G₂, (st₂.tail hpre.own).drop (List.nil_sublist _)⟩ hoe hce

theorem Draw_map {I : It} {f : Value} {g : D → D} (hd : Draw C k I) : Draw C (k + 1) (mit C k I f g) := by
  rintro ds A G s v ow Q E hroom hpre ⟨z, TI, v1, ow', es, rfl, rfl, hI, rfl, hf⟩ hi he
  have hz : s.heap.get? z = some (mapO TI f) := hpre.own.at_ (z, _) (.head _)
  have hT : s.TypeIs (.ref z) "map" := ⟨_, hz, rfl⟩
  unfold Builtin.SmallTypes.nextOf
  refine wpAny_bind (wpAny_callSpecial?_slot (name := Str.ofString "__next__") hT Fc.slot_map_next
    (wpAny_call_entry Fc.slot_map_next hT Fc.entry_map_next (map_next hroom.in1 hd hpre hI hf ?_ ?_) (Fc.args_map_next _)))
  · intro e es' hes u ow₂ h₂ tk₂ G₂ st hr hI'
    subst hes
    exact wpAny_pure (hi _ _ rfl u _ h₂ tk₂ G₂ st hr ⟨z, TI, v1, ow₂, es', rfl, rfl, hI', rfl, fun e h => hf e (.tail _ h)⟩)
  · rintro hes e o h' tk ⟨G', st⟩ hoe hce
    subst hes
    exact he rfl e o h' tk G' st hoe hce
theorem map_self {z : Addr} {o : Obj} {Q : Value → Shared → Prop} (ho : s.heap.get? z = some o) (hc : o.cls = .type "map") (h : Q (.ref z) s) : wpAny (model C.prog C.w) A (pyIter (.ref z)) Q E s := by
  have hT : s.TypeIs (.ref z) "map" := ⟨o, ho, hc⟩
  refine wpAny_pyIter_slot hT Fc.slot_map_iter (wpAny_call_entry Fc.slot_map_iter hT Fc.entry_map_iter ?_ (Fc.args_map_iter _))
  show wpAny _ _ (ret (.ref z)) _ _ s
  exact wpAny_pure ⟨_, rfl, "map", _, hT, Fc.slot_map_next.lookup, h⟩
theorem Walk_map {I : It} {f : Value} {g : D → D} (hd : Draw C k I) : Walk C (k + 1) (mit C k I f g) := by
  refine ⟨?_, ?_⟩
  · rintro ds A G s v ow Q E hroom hpre ⟨z, TI, v1, ow', es, rfl, rfl, hI, rfl, hf⟩ hi he
    have hz : s.heap.get? z = some (mapO TI f) := hpre.own.at_ (z, _) (.head _)
    have hT : s.TypeIs (.ref z) "map" := ⟨_, hz, rfl⟩
    unfold pyNext
    refine wpAny_bind (wpAny_attempt (wpAny_callSpecial?_slot (name := Str.ofString "__next__") hT Fc.slot_map_next
      (wpAny_call_entry Fc.slot_map_next hT Fc.entry_map_next (map_next hroom.in1 hd hpre hI hf ?_ ?_) (Fc.args_map_next _))))
    · intro e es' hes u ow₂ h₂ tk₂ G₂ st hr hI'
      subst hes
      exact wpAny_pure (hi _ _ rfl u _ h₂ tk₂ G₂ st hr ⟨z, TI, v1, ow₂, es', rfl, rfl, hI', rfl, fun e h => hf e (.tail _ h)⟩)
    · rintro hes e o h' tk ⟨G', st⟩ hoe hce
      subst hes
      refine wpAny_bind (wpAny_isInstance (T := "StopIteration") (b := true) ⟨o, hoe, hce⟩ isSubtype_stop ?_)
      exact wpAny_pure (he rfl h' tk G' st)
  · rintro ds A G s v ow Q E hroom hpre ⟨z, TI, v1, ow', es, rfl, rfl, hI, rfl, hf⟩ hQ
    exact map_self (hpre.own.at_ (z, _) (.head _)) rfl (hQ _ _ s.heap s.toks G (Step.id hpre.own) ⟨z, TI, v1, ow', es, rfl, rfl, hI, rfl, hf⟩)
theorem Its_map {I : It} {f : Value} {g : D → D} {ds : List D} : Its C k (mit C k I f g ds) (mit C k I f g ds) := by
  rintro A G s v ow Q E hroom hpre ⟨z, TI, v1, ow', es, rfl, rfl, hI, rfl, hf⟩ hQ
  exact map_self (hpre.own.at_ (z, _) (.head _)) rfl (hQ _ _ s.heap s.toks G (Step.id hpre.own) ⟨z, TI, v1, ow', es, rfl, rfl, hI, rfl, hf⟩)
end
end Mine

set_option maxRecDepth 100000
set_option autoImplicit false
set_option linter.unusedVariables false
namespace Mine
open PySem PySem.W PyProof.Rows

section
variable {C : Cx} {k : Nat} {S : Src} {M : Mid} {A : Around} {s : Shared} {G : Gm} {E : Value → Shared → Prop}

theorem Step.push {G : Gm} {ow : List (Addr × Obj)} {h : Heap} (w : Own G ow h) (o : Obj) (hf : o.isFreed = false) : Step G ow h G ((h.objs.size, o) :: ow) (h.push o) := by
  obtain ⟨gr, o1⟩ := grow_held w o hf
  exact (Step.of_grow gr o1 fun p hp => by rw [List.mem_singleton.mp hp]; exact get?_size h).frame (X := ow) w

theorem wp_newClass {T : String} {rest : List Value} {Q : Value × List Value → Shared → Prop} (hsub : isSubtype (.type T) (.type T) = pure true) (h : Q (.type T, rest) s) :
    wpAny (model C.prog C.w) A (Builtin.SmallTypes.newClass T ⟨.type T :: rest, []⟩) Q E s := by
  obtain ⟨hp, g, d, tk, os⟩ := s
  unfold Builtin.SmallTypes.newClass
  repeat (any_goals (first | assumption | wp_step))

theorem zip_new {r1 r2 : Res} {I J : It} {ds es : List D} (h1 : Its C k r1 (I ds)) (h2 : Its C k r2 (J es)) {v1 v2 : Value} {ow1 ow2 : List (Addr × Obj)} {Q : Value → Shared → Prop} (hroom : Room k A)
    (hpre : Pre C G (ow1 ++ ow2) s.heap) (hr1 : r1.P G v1 ow1) (hr2 : r2.P G v2 ow2)
    (hQ : ∀ z TO TI u1 u2 ow1' ow2' h' tk G', Step G (ow1 ++ ow2) s.heap G' (zX z TO TI .none false .none .none u1 u2 ++ (ow1' ++ ow2')) h' → (I ds).P G' u1 ow1' → (J es).P G' u2 ow2' → Q (.ref z) { s with heap := h', toks := tk }) :
    wpAny (model C.prog C.w) A (Builtin.«zip.__new__» ⟨[.type "zip", v1, v2], []⟩) (fun fin s' => ∃ v, fin = .done (.ret v) ∧ Q v s') E s := by
  unfold Builtin.«zip.__new__»
  refine wpAny_bind (wp_newClass sub_zip ?_)
  show wpAny _ _ (Builtin.SmallTypes.iterAll [v1, v2] >>= _) _ _ _
  refine wpAny_bind ?_
  unfold Builtin.SmallTypes.iterAll
  simp only [List.forIn_cons, List.forIn_nil]
  refine wpAny_bind (wpAny_bind (wpAny_bind (wpAny_holding ?_)))
  refine h1 A G s v1 ow1 _ _ hroom (hpre.sub (List.sublist_append_left _ _)) hr1 fun u1 ow1' h₁ tk₁ G₁ st₁ hI => ?_
  have st₁' := st₁.frame hpre.own
  have pre₁ := hpre.step st₁'
  have le₁ := st₁.gle hpre.own
  refine wpAny_pure ?_
  dsimp only
  refine wpAny_bind (wpAny_bind (wpAny_holding ?_))
  refine h2 A G₁ _ v2 ow2 _ _ hroom pre₁.tail (Res.mono _ le₁ hr2) fun u2 ow2' h₂ tk₂ G₂ st₂ hJ => ?_
  have st₂' := st₁'.trans (st₂.tail pre₁.own)
  have le₂ := st₂.gle (X := []) (by simpa using pre₁.tail.own)
  refine wpAny_pure ?_
  dsimp only
  refine wpAny_pure (wpAny_pure ?_)
  show wpAny _ _ (newTuple [u1, u2] >>= _) _ _ _
  refine wpAny_bind (wpAny_newTuple ?_ (hsz := by simp [sizeLine_eq]))
  refine wpAny_bind (wpAny_newTuple ?_ (hsz := by simp [sizeLine_eq]))
  refine wpAny_bind (wpAny_newObj_type (data := .fields #[.none, .bool false, .bool false, .ref h₂.objs.size, .ref (h₂.push (pairO u1 u2)).objs.size]) ?_ (hd := by size_fits))
  have p1 := Step.push st₂'.own (pairO u1 u2) rfl
  have p2 := Step.push p1.own (pairO .none .none) rfl
  have p3 := Step.push p2.own (zipO .none false h₂.objs.size (h₂.push (pairO u1 u2)).objs.size) rfl
  exact wpAny_pure ⟨_, rfl, hQ _ _ _ u1 u2 ow1' ow2' _ tk₂ G₂ (((st₂'.trans p1).trans p2).trans p3) (Res.mono _ le₂ hI) hJ⟩

theorem Bf_zipT {r1 r2 : Res} {I J : It} {ds es : List D} (hI : Draw C k I) (hJ : Draw C k J) (h1 : Its C k r1 (I ds)) (h2 : Its C k r2 (J es)) :
    Bf C (k + 2) (.type "zip") [r1, r2] (zitT C (S2 I J) (Draw2_two hI hJ).monoS ((ds.zip es).map pairD)) := by
  intro A G s vs ows Q E hroom hpre hr hQ
  cases hr with
  | cons hr1 hr' =>
    cases hr' with
    | @cons _ v2 ow2 _ _ _ hr2 hn =>
      cases hn
      rw [List.append_nil] at hpre hQ
      refine callType_newIn (S := fun A R s => wpAny (model C.prog C.w) A.in1 _ _ (fun e s' => R (.error e) s') s) PySem.F.called_zip (by decide) (PySem.F.typeCall_zip_2 _ _) (PySem.F.newCall_zip_2 _ _) (fun obj => PySem.F.args_object_init_3 obj _ _) PySem.F.entry_zip_new (fun A R s h => h) ?_
      refine wpAny_mono (zip_new h1 h2 (Room.in1 (Room.in1 hroom)) hpre hr1 hr2 (Q := fun v s' => s'.TypeIs v "zip" ∧ Q v s') fun z TO TI u1 u2 ow1' ow2' h' tk G' st hI' hJ' => ⟨⟨_, st.own.at_ (z, _) (.head _), rfl⟩, ?_⟩) (fun fin s' hf => ?_) fun _ _ e => e
      · exact hQ _ _ h' tk G' st ⟨z, TO, TI, false, _, _, u1, u2, _, ds.zip es, rfl, rfl, ⟨ds, es, ow1', ow2', rfl, hI', hJ', rfl⟩, rfl⟩
      · obtain ⟨v, rfl, hv⟩ := hf
        exact hv

theorem Bf_zip {r1 r2 : Res} {I J : It} {ds es : List D} (hI : Draw C k I) (hJ : Draw C k J) (h1 : Its C k r1 (I ds)) (h2 : Its C k r2 (J es)) :
    Bf C (k + 2) (.type "zip") [r1, r2] (zit C (S2 I J) (Draw2_two hI hJ).monoS ((ds.zip es).map pairD)) := fun A G s vs ows Q E hroom hpre hr hQ =>
  Bf_zipT hI hJ h1 h2 A G s vs ows Q E hroom hpre hr fun v ow h' tk G' st ⟨z, TO, TI, f, a, b, v1, v2, ow', ps, e1, e2, e3, e4⟩ => hQ v ow h' tk G' st ⟨z, TO, TI, _, f, a, b, v1, v2, ow', ps, e1, e2, e3, e4, .inl rfl⟩

/-! the same iterator twice -/
theorem zip_new_same {ds : List D} {v : Value} {ow : List (Addr × Obj)} {Q : Value → Shared → Prop} 
    (hpre : Pre C G ow s.heap) (hr : (lit C ds).P G v ow)
    (hQ : ∀ z TO TI h', Step G ow s.heap G (zX z TO TI .none false .none .none v v ++ ow) h' → Q (.ref z) { s with heap := h' }) :
    wpAny (model C.prog C.w) A (Builtin.«zip.__new__» ⟨[.type "zip", v, v], []⟩) (fun fin s' => ∃ v, fin = .done (.ret v) ∧ Q v s') E s := by
  unfold Builtin.«zip.__new__»
  refine wpAny_bind (wp_newClass sub_zip ?_)
  show wpAny _ _ (Builtin.SmallTypes.iterAll [v, v] >>= _) _ _ _
  refine wpAny_bind ?_
  unfold Builtin.SmallTypes.iterAll
  simp only [List.forIn_cons, List.forIn_nil]
  obtain ⟨it, l, i, o, ol, vs, n, rfl, rfl, h3, h4, h5, h6, h7, h8⟩ := hr
  have hit : s.heap.IsListIter it l i := ⟨o, hpre.own.at_ _ (.head _), h3, h4⟩
  refine wpAny_bind (wpAny_bind (wpAny_bind (wpAny_holding (wpAny_pyIter_listiter hit (wpAny_pure ?_)))))
  dsimp only
  refine wpAny_bind (wpAny_bind (wpAny_holding (wpAny_pyIter_listiter hit (wpAny_pure ?_))))
  dsimp only
  refine wpAny_pure (wpAny_pure ?_)
  show wpAny _ _ (newTuple [.ref it, .ref it] >>= _) _ _ _
  refine wpAny_bind (wpAny_newTuple ?_ (hsz := by simp [sizeLine_eq]))
  refine wpAny_bind (wpAny_newTuple ?_ (hsz := by simp [sizeLine_eq]))
  refine wpAny_bind (wpAny_newObj_type (data := .fields #[.none, .bool false, .bool false, .ref s.heap.objs.size, .ref (s.heap.push (pairO (.ref it) (.ref it))).objs.size]) ?_ (hd := by size_fits))
  have p1 := Step.push hpre.own (pairO (.ref it) (.ref it)) rfl
  have p2 := Step.push p1.own (pairO .none .none) rfl
  have p3 := Step.push p2.own (zipO .none false s.heap.objs.size (s.heap.push (pairO (.ref it) (.ref it))).objs.size) rfl
  exact wpAny_pure ⟨_, rfl, hQ _ _ _ _ ((p1.trans p2).trans p3)⟩
theorem call_zip_same {ds : List D} {v : Value} {ow : List (Addr × Obj)} {Q : Value → Shared → Prop} (hroom : Room (k + 2) A) (hpre : Pre C G ow s.heap) (hr : (lit C ds).P G v ow) (hI : Draw C k (lit C))
    (hQ : ∀ v' ow' h', Step G ow s.heap G ow' h' → (zitT C (S1 (lit C)) (Draw2_same hI).monoS ((pairs ds).map pairD)).P G v' ow' → Q v' { s with heap := h' }) :
    wpAny (model C.prog C.w) A (call (.type "zip") [v, v]) Q E s := by
  refine callType_newIn (S := fun A R s => wpAny (model C.prog C.w) A.in1 _ _ (fun e s' => R (.error e) s') s) PySem.F.called_zip (by decide) (PySem.F.typeCall_zip_2 _ _) (PySem.F.newCall_zip_2 _ _) (fun obj => PySem.F.args_object_init_3 obj _ _) PySem.F.entry_zip_new (fun A R s h => h) ?_
  refine wpAny_mono (zip_new_same hpre hr (Q := fun v s' => s'.TypeIs v "zip" ∧ Q v s') fun z TO TI h' st => ⟨⟨_, st.own.at_ (z, _) (.head _), rfl⟩, ?_⟩) (fun fin s' hf => ?_) fun _ _ e => e
  · exact hQ _ _ h' st ⟨z, TO, TI, false, _, _, v, v, _, pairs ds, rfl, rfl, ⟨rfl, ds, hr, rfl⟩, rfl⟩
  · obtain ⟨v, rfl, hv⟩ := hf
    exact hv

/-! map -/
theorem map_new {r : Res} {I : It} {es : List D} (h1 : Its C k r (I es)) {f v1 : Value} {ow : List (Addr × Obj)} {Q : Value → Shared → Prop} (hroom : Room k A) (hpre : Pre C G ow s.heap) (hr1 : r.P G v1 ow)
    (hQ : ∀ z TI u1 ow' h' tk G', Step G ow s.heap G' ([(z, mapO TI f), (TI, oneO u1)] ++ ow') h' → (I es).P G' u1 ow' → Q (.ref z) { s with heap := h', toks := tk }) :
    wpAny (model C.prog C.w) A (Builtin.«map.__new__» ⟨[.type "map", f, v1], []⟩) (fun fin s' => ∃ v, fin = .done (.ret v) ∧ Q v s') E s := by
  unfold Builtin.«map.__new__»
  refine wpAny_bind (wp_newClass Fc.sub_map ?_)
  show wpAny _ _ (Builtin.SmallTypes.iterAll [v1] >>= _) _ _ _
  refine wpAny_bind ?_
  unfold Builtin.SmallTypes.iterAll
  simp only [List.forIn_cons, List.forIn_nil]
  refine wpAny_bind (wpAny_bind (wpAny_bind (wpAny_holding ?_)))
  refine h1 A G s v1 ow _ _ hroom hpre hr1 fun u1 ow' h₁ tk₁ G₁ st₁ hI => ?_
  refine wpAny_pure ?_
  dsimp only
  refine wpAny_pure (wpAny_pure ?_)
  show wpAny _ _ (newTuple [u1] >>= _) _ _ _
  refine wpAny_bind (wpAny_newTuple ?_ (hsz := by simp [sizeLine_eq]))
  refine wpAny_bind (wpAny_newObj_type (data := .fields #[.ref h₁.objs.size, f]) ?_ (hd := by size_fits))
  have p1 := Step.push st₁.own (oneO u1) rfl
  have p2 := Step.push p1.own (mapO h₁.objs.size f) rfl
  exact wpAny_pure ⟨_, rfl, hQ _ _ u1 ow' _ tk₁ G₁ ((st₁.trans p1).trans p2) hI⟩
theorem Bf_map {r : Res} {I : It} {es : List D} {f : Value} {g : D → D} (h1 : Its C k r (I es)) (hf : ∀ e ∈ es, Fn C k f [e] [] (dat C (g e))) :
    Bf C (k + 2) (.type "map") [val f, r] (mit C k I f g (es.map g)) := by
  intro A G s vs ows Q E hroom hpre hr hQ
  cases hr with
  | cons hr0 hr' =>
    obtain ⟨rfl, rfl⟩ := hr0
    cases hr' with
    | @cons _ v1 ow1 _ _ _ hr1 hn =>
      cases hn
      rw [List.append_nil, List.nil_append] at hpre hQ
      refine callType_newIn (S := fun A R s => wpAny (model C.prog C.w) A.in1 _ _ (fun e s' => R (.error e) s') s) Fc.called_map (by decide) (Fc.typeCall_map_2 _ _) (Fc.newCall_map_2 _ _) (fun obj => PySem.F.args_object_init_3 obj _ _) Fc.entry_map_new (fun A R s h => h) ?_
      refine wpAny_mono (map_new h1 (Room.in1 (Room.in1 hroom)) hpre hr1 (Q := fun v s' => s'.TypeIs v "map" ∧ Q v s') fun z TI u1 ow' h' tk G' st hI' => ⟨⟨_, st.own.at_ (z, _) (.head _), rfl⟩, ?_⟩) (fun fin s' hf => ?_) fun _ _ e => e
      · exact hQ _ _ h' tk G' st ⟨z, TI, u1, ow', es, rfl, rfl, hI', rfl, hf⟩
      · obtain ⟨v, rfl, hv⟩ := hf
        exact hv

/-! iter -/
theorem Bf_iter {r r' : Res} (h1 : Its C k r r') : Bf C (k + 1) (.builtin "iter") [r] r' := by
  intro A G s vs ows Q E hroom hpre hr hQ
  cases hr with
  | @cons _ v1 ow1 _ _ _ hr1 hn =>
    cases hn
    rw [List.append_nil] at hpre hQ
    refine Calls.call_function_entry (by decide +kernel) (by decide +kernel) kdk_entry_iter (kdk_args_iter _) ?_
    unfold Builtin.«iter»
    refine wpAny_bind (m := someArgs "iter" 1 2 _) (wpAny_of_eq (a := [v1]) (by first | rfl | kernel_rfl!) ?_)
    show wpAny _ _ (pyIter v1 >>= _) _ _ _
    refine wpAny_bind (h1 A.in1 G s v1 ow1 _ _ hroom.in1 hpre hr1 fun v ow h' tk G' st hv => ?_)
    exact wpAny_pure ⟨_, rfl, hQ v ow h' tk G' st hv⟩

/-! list -/
theorem mapSeq_listObj (f : Array Value → Array Value) (acc : List Value) (n : Nat) : ∃ n', Obj.mapSeq f (listObj acc n) = listObj (f acc.toArray).toList n' := ⟨_, rfl⟩
theorem wp_upd {X Y : List (Addr × Obj)} {S : Addr} {acc acc' : List Value} {n : Nat} {f : Array Value → Array Value} {Q : Unit → Shared → Prop} (w : Own G (X ++ (S, listObj acc n) :: Y) s.heap) (hz : acc.length ≤ 2000)
    (hf : (f acc.toArray).toList = acc') (hz' : acc'.length ≤ 2001)
    (hQ : ∀ h' n', Step G (X ++ (S, listObj acc n) :: Y) s.heap G (X ++ (S, listObj acc' n') :: Y) h' → Q () { s with heap := h' }) :
    wpAny (model C.prog C.w) A (updateSeq S f) Q E s := by
  subst hf
  have hS : s.heap.get? S = some (listObj acc n) := w.at_ (S, listObj acc n) (List.mem_append_right _ (.head _))
  obtain ⟨n', e⟩ := mapSeq_listObj f acc n
  refine wpAny_updateSeq hS rfl (hQ _ n' (Step.set w (Heap.SameBut.update ..).extBut ((Heap.get?_update_self _ hS (by rw [e]; rfl)).trans (by rw [e])))) (by simp [sizeLine_eq]; omega) (by rw [sizeLine_eq, ← Array.length_toList]; omega)

theorem extend_loop {I : It} {res : Value} {R : Result → Shared → Prop} (W : Walk C k I) (hroom : Room k A.in1) : ∀ (ds : List D) (acc : List Value) (accd : List D) (n : Nat) (G : Gm) (s : Shared) (S : Addr) (v : Value) (ow : List (Addr × Obj)),
    Pre C G ((S, listObj acc n) :: ow) s.heap → (I ds).P G v ow → Reps C G acc accd → acc.length + ds.length ≤ 1000 →
    (∀ G' h' tk acc' n', Step G ((S, listObj acc n) :: ow) s.heap G' [(S, listObj acc' n')] h' → Reps C G' acc' (accd ++ ds) → R (.ok (.ret res)) { s with heap := h', toks := tk }) →
    codeAny (model C.prog C.w) A (.builtin "list.extend.loop" ⟨[.ref S, v, res], []⟩) R s := by
  intro ds
  induction ds with
  | nil =>
    intro acc accd n G s S v ow hpre hI hacc hsz hR
    refine codeAny_builtin PySem.F.entry_extend_loop ?_
    rw [Around.under_plainId PySem.F.plain_extend_loop _]
    show wpAny _ A.in1 (pyNext v >>= _) _ _ _
    refine wpAny_bind (W.nx [] A.in1 G s v ow _ _ hroom (hpre.tail (X := [_])) hI (fun _ _ q => nomatch q) fun _ h' tk G' st => ?_)
    have st' := st.tail (X := [(S, listObj acc n)]) hpre.own
    exact wpAny_pure (hR G' h' tk acc n st' (by rw [List.append_nil]; exact hacc.mono (st'.gle (X := []) (by simpa using hpre.own))))
  | cons d ds ih =>
    intro acc accd n G s S v ow hpre hI hacc hsz hR
    refine codeAny_builtin PySem.F.entry_extend_loop ?_
    rw [Around.under_plainId PySem.F.plain_extend_loop _]
    show wpAny _ A.in1 (pyNext v >>= _) _ _ _
    refine wpAny_bind (W.nx (d :: ds) A.in1 G s v ow _ _ hroom (hpre.tail (X := [_])) hI (fun d' ds' q u ow' h' tk G' st hr hI' => ?_) fun q => nomatch q)
    obtain ⟨rfl, rfl⟩ := List.cons.inj q
    have st' := st.tail (X := [(S, listObj acc n)]) hpre.own
    have le := st'.gle (X := []) (by simpa using hpre.own)
    have pre' := hpre.step st'
    have hl := hacc.length
    show wpAny _ A.in1 (updateSeq S (·.push u) >>= _) _ _ _
    refine wpAny_bind (wp_upd (X := []) (acc' := acc ++ [u]) pre'.own (by simp at hsz; omega) (by simp) (by simp at hsz ⊢; omega) fun h'' n'' st'' => ?_)
    refine wpAny_pure ⟨plainId_quiet PySem.F.plain_extend_loop _, ih (acc ++ [u]) (accd ++ [d]) n'' G' _ S v ow' (pre'.step st'') hI' ((hacc.mono le).snoc hr) (by simp at hsz ⊢; omega) fun G₃ h₃ tk₃ acc₃ n₃ st₃ hr₃ => ?_⟩
    exact hR G₃ h₃ tk₃ acc₃ n₃ ((st'.trans st'').trans st₃) (by simpa using hr₃)

/-- what list() asks of the thing it is given -/
structure Plain (C : Cx) (I : It) (T : String) : Prop where
  ty : ∀ {ds G v ow h}, (I ds).P G v ow → Own G ow h → ∃ a o, v = .ref a ∧ h.get? a = some o ∧ o.cls = .type T
  same : ∀ {A : Around} {E : Value → Shared → Prop} {s : Shared} {a : Addr} {o : Obj} {Q : Value → Shared → Prop}, s.heap.get? a = some o → o.cls = .type T → Q (.ref a) s → wpAny (model C.prog C.w) A (pyIter (.ref a)) Q E s
  noLen : typeLookup (.type T) "__len__" = pure none
  noHint : typeLookup (.type T) "__length_hint__" = pure none
  notList : (Value.type T == Value.type "list") = false
  notTuple : (Value.type T == Value.type "tuple") = false
theorem Plain_zip (hm : MonoS S) : Plain C (zit C S hm) "zip" :=
  ⟨by rintro ds G v ow h ⟨z, TO, TI, f0, f, a, b, v1, v2, ow', ps, rfl, rfl, _⟩ o; exact ⟨z, _, rfl, o.at_ (z, _) (.head _), rfl⟩, zip_self, Fc.zip_no_len, Fc.zip_no_hint, by decide +kernel, by decide +kernel⟩
theorem Plain_map {I : It} {f : Value} {g : D → D} : Plain C (mit C k I f g) "map" :=
  ⟨by rintro ds G v ow h ⟨z, TI, v1, ow', es, rfl, rfl, _⟩ o; exact ⟨z, _, rfl, o.at_ (z, _) (.head _), rfl⟩, map_self, Fc.map_no_len, Fc.map_no_hint, by decide +kernel, by decide +kernel⟩

theorem Bf_list {I : It} {T : String} {ds : List D} (W : Walk C k I) (P : Plain C I T) (hsz : ds.length ≤ 1000) : Bf C (k + 3) (.type "list") [I ds] (lst C ds) := by
  intro A G s vs ows Q E hroom hpre hr hQ
  cases hr with
  | @cons _ v ow _ _ _ hI hn =>
    cases hn
    rw [List.append_nil] at hpre hQ
    refine callType_codes (Q₁ := fun obj s₁ => obj = .ref s.heap.objs.size ∧ s₁ = { s with heap := s.heap.push { cls := .type "list", data := .seq #[] } }) PySem.F.called_list (PySem.F.typeCall_list_1 _) PySem.F.entry_list_init (code_list_new _ ⟨rfl, rfl⟩) ?_
    rintro obj s₁ ⟨rfl, rfl⟩
    have p1 := Step.push hpre.own (listObj [] 0) rfl
    have pre1 := hpre.step p1
    have hS : (s.heap.push (listObj [] 0)).get? s.heap.objs.size = some (listObj [] 0) := pre1.own.at_ _ (.head _)
    refine ⟨⟨_, hS, rfl⟩, PySem.F.args_list_init_2 _ _, ?_⟩
    show wpAny _ A.in1.in1 (do let old ← Builtin.List.listItems (.ref s.heap.objs.size); Builtin.List.listUpdate (.ref s.heap.objs.size) (fun _ => #[]); letGo old.toList.reverse; Builtin.List.listExtendWith (.ref s.heap.objs.size) v .none) _ _ _
    refine wpAny_bind ?_
    unfold Builtin.List.listItems
    refine wpAny_bind (wpAny_seqItems hS rfl (wpAny_pure ?_))
    show wpAny _ _ (updateSeq s.heap.objs.size (fun _ => #[]) >>= fun _ => letGo (#[] : Array Value).toList.reverse >>= fun _ => Builtin.List.listExtendWith (.ref s.heap.objs.size) v .none) _ _ _
    refine wpAny_bind (wp_upd (X := []) (acc' := []) pre1.own (by simp) rfl (by simp) fun h₂ n₂ st₂ => ?_)
    refine wpAny_bind (wpAny_letGo ?_)
    have pre2 := pre1.step st₂
    obtain ⟨a, o, rfl, ho, hc⟩ := P.ty hI (pre2.own.le (List.sublist_append_right [_] _))
    have hT : Shared.TypeIs { s with heap := h₂ } (.ref a) T := ⟨o, ho, hc⟩
    have hSa : s.heap.objs.size ≠ a := by
      obtain ⟨a', o', e, ho', _⟩ := P.ty hI hpre.own
      injection e with e; subst e
      exact Nat.ne_of_gt (Heap.lt_size ho')
    unfold Builtin.List.listExtendWith
    refine wpAny_bind (wpAny_typeOf hT ?_)
    have h1 : Builtin.List.listSameRef (.ref s.heap.objs.size) (.ref a) = false := by simp [Builtin.List.listSameRef, hSa]
    simp only [h1, P.notList, P.notTuple, Bool.or_false, Bool.false_eq_true, if_false]
    have h3 : Room (k + 1) A.in1.in1 := Room.in1 (Room.in1 hroom)
    refine wpAny_bind (P.same ho hc ?_)
    refine wpAny_bind (wpAny_holding ?_)
    unfold Builtin.List.listLengthHint
    refine wpAny_bind (wpAny_specialOf hT P.noLen ?_)
    show wpAny _ _ (specialOf (Value.ref a) (Str.ofString "__length_hint__") >>= _) _ _ _
    refine wpAny_bind (wpAny_specialOf hT P.noHint ?_)
    refine wpAny_pure ?_
    show wpAny _ _ (rule "list.extend.makes-room" >>= fun _ => Builtin.List.listTouch (.ref s.heap.objs.size) >>= fun _ =>
      again (.builtin "list.extend.loop" ⟨[.ref s.heap.objs.size, .ref a, .none], []⟩)) _ _ _
    refine wpAny_bind (wpAny_rule ?_)
    refine wpAny_bind ?_
    show wpAny _ _ (updateSeq s.heap.objs.size (·.push .none) >>= fun _ => updateSeq s.heap.objs.size (·.pop)) _ _ _
    refine wpAny_bind (wp_upd (X := []) (acc' := [.none]) pre2.own (by simp) (by simp) (by simp) fun h₄ n₄ st₄ => ?_)
    have pre4 := pre2.step st₄
    refine wp_upd (X := []) (acc' := []) pre4.own (by simp) (by simp) (by simp) fun h₅ n₅ st₅ => ?_
    have pre5 := pre4.step st₅
    refine wpAny_pure ⟨plainId_quiet PySem.F.plain_extend_loop _, extend_loop W (h3.le (Nat.le_succ k)) ds [] [] n₅ G _ _ _ ow pre5 hI .nil (by simpa using hsz) fun G' h' tk acc' n' st' hr' => ?_⟩
    exact ⟨rfl, hQ _ _ h' tk G' ((((p1.trans st₂).trans st₄).trans st₅).trans st') ⟨_, acc', n', rfl, rfl, by simpa using hr'⟩⟩
end
end Mine

set_option maxRecDepth 100000
set_option autoImplicit false
set_option linter.unusedVariables false
namespace Mine
open PySem PySem.W PyProof.Rows

section
variable {C : Cx} {k : Nat} {S : Src} {M : Mid} {A : Around} {s : Shared} {G : Gm} {E : Value → Shared → Prop}

theorem zip_getattr_none : typeLookup (.type "zip") "__getattr__" = pure none := by rw [typeLookup_type, builtinLookup_eq_fast]; kernel_rfl
theorem entry_zip_getattribute : entryFor table "zip.__getattribute__" = some Builtin.«object.__getattribute__» :=
  entryFor_alias (id' := "object.__getattribute__") (by kernel_rfl) (by decide +kernel) (by decide +kernel) (by kernel_rfl)
theorem meets_getattribute_miss_zip (a : Addr) (xs : Array Value) (name : Str) (u : Tok) (hmiss : typeLookup (.type "zip") name = pure none) (hname : (["__module__", "__name__", "__qualname__", "__doc__", "__annotations__"] : List Str).contains name = false) (hsz : name.length + 100 ≤ sizeLine := by size_fits) :
    Meets (Builtin.«object.__getattribute__» ⟨[.ref a, .str name u], []⟩) (fun A R s => s.heap.get? a = some { cls := .type "zip", dict := none, data := .fields xs, slots := #[] } ∧ raisesAttr (.ref a) name A R s) :=
  Meets.of_wp fun prog w A R s hs => by
    obtain ⟨hp, g, d, tk, os⟩ := s
    obtain ⟨hx, hs⟩ := hs
    have hT : (⟨hp, g, d, tk, os⟩ : Shared).TypeIs (.ref a) "zip" := ⟨_, hx, rfl⟩
    unfold Builtin.«object.__getattribute__»
    repeat (any_goals (first | assumption | wp_step))
    simp only [hname, Bool.false_eq_true, if_false]
    repeat (any_goals (first | assumption | wp_step))
    exact wpAny_raiseAttrError hs.1 hs.2 (attrMsg_fits (by decide +kernel) hsz)
theorem no_keys {a : Addr} {xs : Array Value} {Q : Option Value → Shared → Prop} (hx : s.heap.get? a = some { cls := .type "zip", dict := none, data := .fields xs, slots := #[] }) (hA : A.handled = none)
    (h : ∀ h' tk, Hle s.heap h' → Q none { s with heap := h', toks := tk }) : wpAny (model C.prog C.w) A (getAttr? (.ref a) "keys") Q E s := by
  obtain ⟨hp, g, d, tk, os⟩ := s
  have hT : ∀ tk', (⟨hp, g, d, tk', os⟩ : Shared).TypeIs (.ref a) "zip" := fun _ => ⟨_, hx, rfl⟩
  have f1 := sub_AttributeError
  have f3 := PySem.F.slot_zip_getattribute.lookup
  have f4 := PySem.F.slot_zip_getattribute.bind (.ref a)
  have f5 := zip_getattr_none
  unfold getAttr? getAttrBy? getAttrBy
  repeat (any_goals (first | assumption | exact hT _ | ((with_reducible show wpAny _ _ (call (Value.builtin "zip.__getattribute__") _ _) _ _ _); refine call_meets PySem.F.slot_zip_getattribute (hT _) entry_zip_getattribute (PySem.F.args_zip_getattribute_2 _ _) (meets_getattribute_miss_zip a xs "keys" _ Fc.zip_no_keys (by decide +kernel)) ⟨hx, hA, fun h' tk' e hx' => ?_⟩) | wp_step))
  obtain ⟨t', u', he⟩ := hx'.there
  show wpAny _ _ (getattributeRaised _ _ _ _ _ _ _) _ _ _
  unfold getattributeRaised
  repeat (any_goals (first | assumption | wp_step))
  exact h _ _ hx'.keeps
end
end Mine

set_option maxRecDepth 100000
set_option autoImplicit false
set_option linter.unusedVariables false
namespace Mine
open PySem PySem.W PyProof.Rows

def dset (kvs : List (Key × D)) (k : Key) (v : D) : List (Key × D) :=
  if kvs.any (fun kv => decide (kv.1 = k)) then kvs.map (fun kv => if kv.1 = k then (kv.1, v) else kv) else kvs ++ [(k, v)]
def dsets (kvs : List (Key × D)) (ps : List (Key × D)) : List (Key × D) := ps.foldl (fun a p => dset a p.1 p.2) kvs
theorem dsets_cons (kvs : List (Key × D)) (p : Key × D) (ps : List (Key × D)) : dsets kvs (p :: ps) = dsets (dset kvs p.1 p.2) ps := rfl
theorem dset_length (kvs : List (Key × D)) (k : Key) (v : D) : (dset kvs k v).length ≤ kvs.length + 1 := by
  unfold dset; split <;> simp

theorem RepKV.set {C : Cx} {G : Gm} {kvv : List (Key × Value)} {kvs : List (Key × D)} {k : Key} {x : Value} {d : D} (h : RepKV C G kvv kvs) (hx : Rep C G x d) : RepKV C G (stored kvv k x) (dset kvs k d) := by
  have ha : kvv.any (fun kv => decide (kv.1 = k)) = kvs.any (fun kv => decide (kv.1 = k)) := by
    induction h with
    | nil => rfl
    | cons _ _ ih => simp only [List.any_cons, ih]
  unfold stored dset
  rw [ha]
  split
  · clear ha
    rename_i q; clear q
    induction h with
    | nil => exact .nil
    | @cons k' v d' vs ds h1 h2 ih =>
      simp only [List.map_cons]
      by_cases e : k' = k
      · simp only [e, if_true]; exact .cons hx ih
      · simp only [if_neg e]; exact .cons h1 ih
  · exact h.append (.cons hx .nil)

section
variable {C : Cx} {k : Nat} {S : Src} {M : Mid} {A : Around} {s : Shared} {G : Gm} {E : Value → Shared → Prop}

theorem notMods {C : Cx} {h : Heap} {a : Addr} (le : Hle C.h h) (e : h.get? a = none) : (a == sysModules) = false := by
  obtain ⟨o, ho⟩ := C.mods
  refine beq_eq_false_iff_ne.mpr fun q => ?_
  rw [q, le _ _ ho] at e
  cases e
theorem wp_dset {X Y : List (Addr × Obj)} {d : Addr} {o : Obj} {kvv : List (Key × Value)} {x : Key} {key v : Value} {Q : Unit → Shared → Prop} (w : Own G (X ++ (d, o) :: Y) s.heap) (ho : o.IsDictOf (keyKind C.prog C.w) kvv) (hk : isKey x key = true) (hz : kvv.length ≤ 2000)
    (hQ : ∀ h' o' tk, Step G (X ++ (d, o) :: Y) s.heap G (X ++ (d, o') :: Y) h' → o'.IsDictOf (keyKind C.prog C.w) (stored kvv x v) → Q () { s with heap := h', toks := tk }) :
    wpAny (model C.prog C.w) A (dictSet d key v) Q E s := by
  have hd : s.heap.get? d = some o := w.at_ (d, o) (List.mem_append_right _ (.head _))
  refine wpAny_dictSet_pairs (knd := keyKind C.prog C.w) hk (Heap.dictOf_iff.mpr ⟨o, hd, ho⟩) (fun h' hd' hs => ?_) (by rw [sizeLine_eq]; omega)
  obtain ⟨o', ho', hi'⟩ := Heap.dictOf_iff.mp hd'
  exact hQ h' o' _ (Step.set w hs.extBut ho') hi'

/-- the pairs of a walk, as rows -/
theorem kvD_key {p : Key × D} {v : Value} (h : Rep C G v (kvD p)) : ∃ (a : Addr) (o : Obj) (key x : Value) (n : Nat), v = .ref a ∧ G a = some o ∧ o.cls = .type "tuple" ∧ o.data = .seq #[key, x] n ∧ isKey p.1 key = true ∧ Rep C G x p.2 := by
  obtain ⟨a, o, vs, n, rfl, h1, h2, h3, h4⟩ := Rep.tup_inv (ds := [p.1.d, p.2]) h
  obtain ⟨vs⟩ := vs
  cases h4 with
  | cons hk h5 =>
    cases h5 with
    | cons hx h6 =>
      cases h6
      refine ⟨a, o, _, _, n, rfl, h1, h2, h3, ?_, hx⟩
      rcases p with ⟨kx | kx, pd⟩
      · cases hk; exact isKey_str _ _
      · cases hk; exact isKey_bytes _ _

theorem plain_update_loop : plainId "dict.update.loop" = true := by decide +kernel
theorem entry_update_loop : entryFor table "dict.update.loop" = some Builtin.«dict.update.loop» := entryFor_of_tree (by kernel_rfl)

theorem update_loop {I : It} {R : Result → Shared → Prop} (W : Walk C k I) (hroom : Room k A.in1) : ∀ (ps : List (Key × D)) (kvv : List (Key × Value)) (kvs : List (Key × D)) (o : Obj) (G : Gm) (s : Shared) (d : Addr) (v : Value) (ow : List (Addr × Obj)) (i : Int),
    Pre C G ((d, o) :: ow) s.heap → o.IsDictOf (keyKind C.prog C.w) kvv → (d == sysModules) = false → (I (ps.map kvD)).P G v ow → RepKV C G kvv kvs → kvs.length + ps.length ≤ 1000 →
    (∀ G' h' tk kvv' o', Step G ((d, o) :: ow) s.heap G' [(d, o')] h' → o'.IsDictOf (keyKind C.prog C.w) kvv' → RepKV C G' kvv' (dsets kvs ps) → R (.ok (.ret .none)) { s with heap := h', toks := tk }) →
    codeAny (model C.prog C.w) A (.builtin "dict.update.loop" ⟨[.ref d, v, rawInt i, .none], []⟩) R s := by
  intro ps
  induction ps with
  | nil =>
    intro kvv kvs o G s d v ow i hpre ho hd hI hkv hsz hR
    refine codeAny_builtin entry_update_loop ?_
    rw [Around.under_plainId plain_update_loop _]
    show wpAny _ A.in1 (pyNext v >>= _) _ _ _
    refine wpAny_bind (W.nx [] A.in1 G s v ow _ _ hroom (hpre.tail (X := [_])) hI (fun _ _ q => nomatch q) fun _ h' tk G' st => ?_)
    have st' := st.tail (X := [(d, o)]) hpre.own
    show wpAny _ _ (Builtin.Dict.addKeywords d [] >>= _) _ _ _
    exact wpAny_bind (wpAny_pure (wpAny_pure (hR G' h' tk kvv o st' ho (hkv.mono (st'.gle (X := []) (by simpa using hpre.own))))))
  | cons p ps ih =>
    intro kvv kvs o G s d v ow i hpre ho hd hI hkv hsz hR
    refine codeAny_builtin entry_update_loop ?_
    rw [Around.under_plainId plain_update_loop _]
    show wpAny _ A.in1 (pyNext v >>= _) _ _ _
    refine wpAny_bind (W.nx ((p :: ps).map kvD) A.in1 G s v ow _ _ hroom (hpre.tail (X := [_])) hI (fun d' ds' q u ow' h' tk G' st hr hI' => ?_) fun q => nomatch q)
    obtain ⟨rfl, rfl⟩ := List.cons.inj q
    have st' := st.tail (X := [(d, o)]) hpre.own
    have le := st'.gle (X := []) (by simpa using hpre.own)
    have pre' := hpre.step st'
    have hl := hkv.length
    obtain ⟨a, ot, key, x, n, rfl, h1, h2, h3, h4, h5⟩ := kvD_key hr
    have hT : Shared.TypeIs { s with heap := h', toks := tk } (.ref a) "tuple" := ⟨ot, pre'.own.sub _ _ h1, h2⟩
    refine wpAny_bind (wpAny_holding ?_)
    refine wpAny_bind (wpAny_tryCatch ?_)
    unfold Builtin.Dict.pairItems
    refine wpAny_bind (wpAny_typeOf hT ?_)
    rw [if_pos (by decide)]
    refine wpAny_bind (wpAny_seqItems (pre'.own.sub _ _ h1) h3 ?_)
    refine wpAny_pure ?_
    show wpAny _ _ (holding [key, x] (dictSet d key x)) _ _ _
    refine wpAny_holding ?_
    refine wp_dset (X := []) pre'.own ho h4 (by simp at hsz; omega) fun h'' o'' tk'' st'' ho'' => ?_
    refine wpAny_pure ⟨plainId_quiet plain_update_loop _, ih (stored kvv p.1 x) (dset kvs p.1 p.2) o'' G' _ d v ow' (i + 1) (pre'.step st'') ho'' hd hI' ((hkv.mono le).set h5) (by have := dset_length kvs p.1 p.2; simp at hsz ⊢; omega) fun G₃ h₃ tk₃ kvv₃ o₃ st₃ ho₃ hr₃ => ?_⟩
    exact hR G₃ h₃ tk₃ kvv₃ o₃ ((st'.trans st'').trans st₃) ho₃ hr₃

theorem Bf_dict {hm : MonoS S} {ps : List (Key × D)} (W : Walk C k (zit C S hm)) (hsz : ps.length ≤ 1000) : Bf C (k + 3) (.type "dict") [zit C S hm (ps.map kvD)] (dct C (dsets [] ps)) := by
  intro A G s vs ows Q E hroom hpre hr hQ
  cases hr with
  | @cons _ v ow _ _ _ hI hn =>
    cases hn
    rw [List.append_nil] at hpre hQ
    refine callType_codes (Q₁ := fun obj s₁ => obj = .ref s.heap.objs.size ∧ s₁ = { s with heap := s.heap.push { cls := .type "dict", data := .dict #[] } }) PySem.F.kt_called_dict (PySem.F.kt_typeCall_dict_1 _) PySem.F.entry_dict_init (kt_code_dict_new _ ⟨rfl, rfl⟩) ?_
    rintro obj s₁ ⟨rfl, rfl⟩
    have hnew : (s.heap.push { cls := .type "dict", data := .dict #[] }).DictOf (keyKind C.prog C.w) s.heap.objs.size [] := Heap.DictOf.new s.heap
    have p1 := Step.push hpre.own { cls := .type "dict", data := .dict #[] } rfl
    have pre1 := hpre.step p1
    obtain ⟨oN, hoN, hiN⟩ := Heap.dictOf_iff.mp hnew
    have eN : oN = { cls := .type "dict", data := .dict #[] } := by
      have := pre1.own.at_ _ (.head _); rw [hoN] at this; exact Option.some.inj this
    subst eN
    have hd : (s.heap.objs.size == sysModules) = false := notMods hpre.le (get?_size _)
    refine ⟨hnew.typeIs, PySem.F.args_dict_init_2 _ _, ?_⟩
    unfold Builtin.«dict.__init__»
    refine wpAny_bind ?_
    unfold Builtin.Dict.selfAndRest
    refine wpAny_bind (wpAny_notOrdered_dict hnew.typeIs ?_)
    show wpAny _ _ (pure (s.heap.objs.size, [v])) _ _ _
    refine wpAny_pure ?_
    show wpAny _ _ (Builtin.Dict.updateFrom "dict.__init__" s.heap.objs.size v [] .none) _ _ _
    unfold Builtin.Dict.updateFrom
    obtain ⟨z, TO, TI, f0, f, a, b, v1, v2, ow', ps', rfl, rfl, hS, hps, hst⟩ := id hI
    have hz : (s.heap.push { cls := .type "dict", data := .dict #[] }).get? z = some (zipO f0 f TI TO) := pre1.own.at_ (z, _) (.tail _ (.head _))
    have hT : Shared.TypeIs { s with heap := s.heap.push { cls := .type "dict", data := .dict #[] } } (.ref z) "zip" := ⟨_, hz, rfl⟩
    refine wpAny_bind (wpAny_typeOf hT ?_)
    rw [if_pos (by decide)]
    refine wpAny_bind (no_keys hz hroom.1 fun h₂ tk₂ le₂ => ?_)
    simp only [Option.isNone_none, if_true]
    refine wpAny_bind (wpAny_rule ?_)
    have st₂ : Step G ((s.heap.objs.size, { cls := .type "dict", data := .dict #[] }) :: (zX z TO TI f0 f a b v1 v2 ++ ow')) (s.heap.push { cls := .type "dict", data := .dict #[] }) G ((s.heap.objs.size, { cls := .type "dict", data := .dict #[] }) :: (zX z TO TI f0 f a b v1 v2 ++ ow')) h₂ :=
      ⟨fun b o _ e => le₂ b o e, fun _ _ _ _ => rfl, ⟨fun p hp => le₂ _ _ (pre1.own.at_ p hp), pre1.own.off, pre1.own.nd, fun b o e => le₂ _ _ (pre1.own.sub b o e)⟩, fun p hp => .inl (List.mem_map_of_mem hp)⟩
    have pre2 := pre1.step st₂
    refine wpAny_bind (zip_self (pre2.own.at_ (z, _) (.tail _ (.head _))) rfl ?_)
    have h3 : Room (k + 1) A.in1.in1 := Room.in1 (Room.in1 hroom)
    refine wpAny_pure ⟨plainId_quiet plain_update_loop _, update_loop W (h3.le (Nat.le_succ k)) ps [] [] _ G _ _ _ _ 0 pre2 hiN hd hI .nil (by simpa using hsz) fun G' h' tk kvv' o' st' ho' hr' => ?_⟩
    exact ⟨rfl, hQ _ _ h' tk G' ((p1.trans st₂).trans st') ⟨_, o', kvv', rfl, rfl, hd, ho', hr'⟩⟩
end
end Mine

set_option maxRecDepth 100000
set_option autoImplicit false
set_option linter.unusedVariables false
namespace Mine
open PySem PySem.W PyProof.Rows

/-! a frame within a frame -/
theorem Fm.hide {H : Heap} {G₀ G : Gm} {L : Addr} {m : Str → Option Value} {ρ : Ctx} {ow X : List (Addr × Obj)} {h : Heap} (F : Fm H G₀ G L m ρ (ow ++ X) h) :
    ∃ Z, (∀ L' m' h', h.get? L' = none → Hle h h' → h'.Ns L' m' → Fm H G₀ G L' m' [] (ow ++ Z) h') ∧
      (∀ G' L' m' ow' h', Gle G G' → Fm H G₀ G' L' m' [] (ow' ++ Z) h' → ∃ o', h'.get? L' = some o' ∧ Fm H G₀ G' L m ρ (ow' ++ (L', o') :: X) h') := by
  obtain ⟨own, n, l, o, off⟩ := F.ex
  obtain ⟨oL, es, ep, hL, rL⟩ := id n
  have LX : ∀ p ∈ own ++ (ow ++ X), p.1 ≠ L := fun p hp => (off p hp).1
  refine ⟨(L, oL) :: (own ++ X), fun L' m' h' hL' k n' => ?_, fun G' L' m' ow' h' le F' => ?_⟩
  · have pm : (ow ++ (L, oL) :: (own ++ X)).Perm ((L, oL) :: (own ++ (ow ++ X))) := by
      refine (perm3 ow [(L, oL)] (own ++ X)).trans (List.Perm.cons _ (perm3 ow own X))
    have o2 : Own G ((L, oL) :: (own ++ (ow ++ X))) h' := by
      refine ⟨fun p hp => ?_, fun p hp => ?_, ?_, fun b ob e => k _ _ (o.sub b ob e)⟩
      · cases hp with
        | head => exact k _ _ hL
        | tail _ hp => exact k _ _ (o.at_ p hp)
      · cases hp with
        | head => exact F.LG
        | tail _ hp => exact o.off p hp
      · rw [List.map_cons, List.nodup_cons]
        refine ⟨fun hm => ?_, o.nd⟩
        obtain ⟨p, hp, e⟩ := List.mem_map.mp hm
        exact LX p hp e
    refine ⟨⟨[], n', .nil, by rw [List.nil_append]; exact o2.perm pm, fun p hp => ?_⟩, o.none_of hL', none_back F.keep hL', F.keep.trans k, F.ext⟩
    rw [List.nil_append] at hp
    have hp' := pm.mem_iff.mp hp
    cases hp' with
    | head => exact ⟨fun e => by (rw [← show (L, oL).1 = L' from e, hL] at hL'; cases hL'), F.LH⟩
    | tail _ hp' => exact ⟨fun e => by (have := o.at_ p hp'; rw [e, hL'] at this; cases this), (off p hp').2⟩
  · obtain ⟨own', n', l', o', off'⟩ := F'.ex
    cases l'
    rw [List.nil_append] at o' off'
    obtain ⟨oL', es', ep', hL', rL'⟩ := id n'
    have inL : (L, oL) ∈ ow' ++ (L, oL) :: (own ++ X) := List.mem_append_right _ (.head _)
    have inX : ∀ p ∈ own ++ X, p ∈ ow' ++ (L, oL) :: (own ++ X) := fun p hp => List.mem_append_right _ (.tail _ hp)
    have nd := o'.nd
    rw [List.map_append, List.map_cons, List.nodup_append, List.nodup_cons] at nd
    obtain ⟨nd1, ⟨nd2, nd3⟩, nd4⟩ := nd
    have nLL : L ≠ L' := (off' (L, oL) inL).1
    have mem : ∀ p ∈ own ++ (ow' ++ (L', oL') :: X), p = (L', oL') ∨ (p ∈ ow' ++ (L, oL) :: (own ++ X) ∧ p.1 ≠ L) := fun p hp => by
      rcases List.mem_append.mp hp with hp | hp
      · exact .inr ⟨inX p (List.mem_append_left _ hp), (off p (List.mem_append_left _ hp)).1⟩
      · rcases List.mem_append.mp hp with hp | hp
        · exact .inr ⟨List.mem_append_left _ hp, fun e => nd4 _ (List.mem_map_of_mem hp) _ (.head _) e⟩
        · cases hp with
          | head => exact .inl rfl
          | tail _ hp => exact .inr ⟨inX p (List.mem_append_right _ hp), (off p (List.mem_append_right _ (List.mem_append_right _ hp))).1⟩
    refine ⟨oL', hL', ⟨own, n.at' fun ob e => ?_, l.mono le, ⟨fun p hp => ?_, fun p hp => ?_, ?_, o'.sub⟩, fun p hp => ?_⟩, o'.off _ inL, F.LH, F'.keep, F'.ext⟩
    · rw [hL] at e; cases e; exact o'.at_ _ inL
    · rcases mem p hp with rfl | ⟨q, _⟩
      · exact hL'
      · exact o'.at_ p q
    · rcases mem p hp with rfl | ⟨q, _⟩
      · exact F'.LG
      · exact o'.off p q
    · have pm : (own ++ (ow' ++ (L', oL') :: X)).Perm ((L', oL') :: (ow' ++ (own ++ X))) := by
        refine ((perm3 own ow' _).trans ((perm3 own [(L', oL')] X).append_left ow')).trans (perm3 ow' [(L', oL')] (own ++ X))
      refine ((pm.map _).nodup_iff).mpr ?_
      rw [List.map_cons, List.nodup_cons]
      refine ⟨fun hm => ?_, ?_⟩
      · obtain ⟨p, hp, e⟩ := List.mem_map.mp hm
        refine (off' p ?_).1 e
        rcases List.mem_append.mp hp with hp | hp
        · exact List.mem_append_left _ hp
        · exact inX p hp
      · rw [List.map_append, List.nodup_append]
        exact ⟨nd1, nd3, fun a ha b hb => nd4 a ha b (.tail _ hb)⟩
    · rcases mem p hp with rfl | ⟨q, hne⟩
      · exact ⟨fun e => nLL e.symm, F'.LH⟩
      · exact ⟨hne, (off' p q).2⟩
/-- a thing held beside is changed and let go -/
theorem Fm.change {H : Heap} {G₀ G : Gm} {L : Addr} {m : Str → Option Value} {ρ : Ctx} {ow X : List (Addr × Obj)} {h h' : Heap} {a : Addr} {o : Obj} (F : Fm H G₀ G L m ρ (ow ++ (a, o) :: X) h) (hs : Heap.ExtBut a h h') : Fm H G₀ G L m ρ (ow ++ X) h' := by
  have F1 : Fm H G₀ G L m ρ ([(a, o)] ++ (ow ++ X)) h := F.permX (perm3 [(a, o)] ow X)
  have := F1.step (Step.lose (F1.ownX.le (List.sublist_append_left _ _)) hs)
  simpa using this

/-! targets -/
def As (C : Cx) (k : Nat) (sc : Scope) (ρ : Ctx) (t : Expr) (d : D) (ρ' : Ctx) : Prop :=
  ∀ (A : Around) (env : Env) (H : Heap) (G₀ G : Gm) (m : Str → Option Value) (X : List (Addr × Obj)) (s : Shared) (v : Value) (Q : Unit → Shared → Prop) (E : Value → Shared → Prop),
    Here C k sc A env H G₀ → Fm H G₀ G env.locals m ρ X s.heap → Rep C G v d →
    (∀ m' h' tk G', Gle G G' → Fm H G₀ G' env.locals m' ρ' X h' → Q () { s with heap := h', toks := tk }) →
    wpAny (model C.prog C.w) A (assign t env v) Q E s
def AsL (C : Cx) (k : Nat) (sc : Scope) (ρ : Ctx) (ts : List Expr) (ds : List D) (ρ' : Ctx) : Prop :=
  ∀ (A : Around) (env : Env) (H : Heap) (G₀ G : Gm) (m : Str → Option Value) (X : List (Addr × Obj)) (s : Shared) (vs : List Value) (Q : Unit → Shared → Prop) (E : Value → Shared → Prop),
    Here C k sc A env H G₀ → Fm H G₀ G env.locals m ρ X s.heap → Reps C G vs ds →
    (∀ m' h' tk G', Gle G G' → Fm H G₀ G' env.locals m' ρ' X h' → Q () { s with heap := h', toks := tk }) →
    wpAny (model C.prog C.w) A (assignInOrder ((ts.map fun t => ((false, assign t env) : Bool × (Value → Sem Unit))).map (·.2)) vs) Q E s

section
variable {C : Cx} {k : Nat} {sc : Scope} {ρ ρ₁ ρ₂ ρ' : Ctx}

theorem As_name {x : Str} {pos : Pos} {d : D} (hx : sc.names.lookup x = some .local) (hd : Del x ρ ρ') : As C k sc ρ (.Name x pos) d ((x, dat C d) :: ρ') := fun A env H G₀ G m X s v Q E hh F hv hQ =>
  wpAny_assign_Name (wp_store (ow := []) (r := dat C d) hh.env hx F ⟨rfl, hv⟩ hd fun h' tk F' => hQ _ h' tk G (Gle.refl G) F')
theorem AsL_nil : AsL C k sc ρ [] [] ρ := fun A env H G₀ G m X s vs Q E hh F hv hQ => by
  cases hv
  exact wpAny_pure (hQ m s.heap s.toks G (Gle.refl G) F)
theorem AsL_cons {t : Expr} {ts : List Expr} {d : D} {ds : List D} (h : As C k sc ρ t d ρ₁) (hs : AsL C k sc ρ₁ ts ds ρ₂) : AsL C k sc ρ (t :: ts) (d :: ds) ρ₂ := fun A env H G₀ G m X s vs Q E hh F hv hQ => by
  cases hv with
  | cons hv hvs =>
    show wpAny _ _ (do holding _ (assign t env _); assignInOrder _ _) _ _ _
    refine wpAny_bind (wpAny_holding (h A env H G₀ G m X s _ _ E hh F hv fun m₁ h₁ tk₁ G₁ le₁ F₁ => ?_))
    exact hs A env H G₀ G₁ m₁ X _ _ Q E hh F₁ (hvs.mono le₁) fun m' h' tk G' le F' => hQ m' h' tk G' (le₁.trans le) F'

/-- so many draws -/
theorem draw_all {I : It} (W : Walk C k I) {A : Around} (hroom : Room k A) : ∀ (ds : List D) (G : Gm) (s : Shared) (v : Value) (ow : List (Addr × Obj)) (Q : List Value → Shared → Prop) (E : Value → Shared → Prop), Pre C G ow s.heap → (I ds).P G v ow →
    (∀ us ow' h' tk G', Step G ow s.heap G' ow' h' → Reps C G' us ds → (I []).P G' v ow' → Q us { s with heap := h', toks := tk }) → wpAny (model C.prog C.w) A (draw v ds.length) Q E s := by
  intro ds
  induction ds with
  | nil => intro G s v ow Q E hpre hI hQ; exact wpAny_pure (hQ [] ow s.heap s.toks G (Step.id hpre.own) .nil hI)
  | cons d ds ih =>
    intro G s v ow Q E hpre hI hQ
    show wpAny _ _ (pyNext v >>= _) Q E s
    refine wpAny_bind (W.nx (d :: ds) A G s v ow _ _ hroom hpre hI (fun d' ds' q u ow' h' tk G' st hr hI' => ?_) fun q => nomatch q)
    obtain ⟨rfl, rfl⟩ := List.cons.inj q
    refine wpAny_bind (wpAny_holding (ih G' _ v ow' _ _ (hpre.step st) hI' fun us ow₂ h₂ tk₂ G₂ st₂ hrs hI₂ => wpAny_pure ?_))
    exact hQ (u :: us) ow₂ h₂ tk₂ G₂ (st.trans st₂) (.cons (hr.mono (st₂.gle (X := []) (by simpa using st.own))) hrs) hI₂

/-- a row taken apart -/
def seqD : Bool → List D → D
  | true, ds => .tup ds
  | false, ds => .list ds
theorem unpack_row {A : Around} {G : Gm} {s : Shared} {b : Bool} {ds : List D} {v : Value} {Q : List Value → Shared → Prop} {E : Value → Shared → Prop} (hroom : Room k A) (hpre : Pre C G [] s.heap) (hv : Rep C G v (seqD b ds))
    (hQ : ∀ us h' tk G', Step G [] s.heap G' [] h' → Reps C G' us ds → Q us { s with heap := h', toks := tk }) : wpAny (model C.prog C.w) A (unpackItems v ds.length none) Q E s := by
  have key : ∀ (I : It) (T : String), Walk C k I → Its C k (dat C (seqD b ds)) (I ds) → s.TypeIs v T → (∃ id, typeLookup (.type T) "__iter__" = pure (some (.builtin id))) → wpAny (model C.prog C.w) A (unpackItems v ds.length none) Q E s := by
    intro I T W hI hT ⟨id, hl⟩
    unfold unpackItems
    refine wpAny_bind ?_
    unfold notIterableAtAll
    refine wpAny_bind (wpAny_specialOf hT hl ?_)
    refine wpAny_pure ?_
    simp only [Bool.false_eq_true, if_false]
    refine wpAny_bind (wpAny_holding (hI A G s v [] _ _ hroom hpre ⟨rfl, hv⟩ fun it ow₁ h₁ tk₁ G₁ st₁ hI₁ => ?_))
    have pre₁ := hpre.step st₁
    refine wpAny_bind (wpAny_holding (draw_all W hroom ds G₁ { s with heap := h₁, toks := tk₁ } it ow₁ _ _ pre₁ hI₁ fun us ow₂ h₂ tk₂ G₂ st₂ hrs hI₂ => ?_))
    have hl := hrs.length
    rw [if_neg (by omega)]
    have pre₂ := pre₁.step st₂
    refine wpAny_bind (wpAny_holding (W.nx [] A G₂ { s with heap := h₂, toks := tk₂ } it ow₂ _ _ hroom pre₂ hI₂ (fun _ _ q => nomatch q) fun _ h₃ tk₃ G₃ st₃ => ?_))
    simp only [Option.isSome_none, Bool.false_eq_true, if_false]
    exact wpAny_pure (hQ us h₃ tk₃ G₃ ((st₁.trans st₂).trans st₃) (hrs.mono (st₃.gle (X := []) (by simpa using pre₂.own))))
  cases b with
  | true =>
    obtain ⟨a, o, vs, n, rfl, h1, h2, h3, h4⟩ := Rep.tup_inv hv
    exact key (tit C) "tuple" Walk_tuple Its_tuple ⟨o, hpre.own.sub _ _ h1, h2⟩ ⟨_, PySem.F.slot_tuple_iter.lookup⟩
  | false =>
    obtain ⟨a, o, vs, n, rfl, h1, h2, h3, h4⟩ := Rep.list_inv hv
    exact key (lit C) "list" Walk_list Its_list ⟨o, hpre.own.sub _ _ h1, h2⟩ ⟨_, slot_list_iter.lookup⟩

theorem As_row {elts : List Expr} {j : Nat} {pos : Pos} {b : Bool} {ds : List D} (h : AsL C k sc ρ elts ds ρ') (he : ∀ env, assignEach elts env = elts.map fun t => (false, assign t env)) (hl : elts.length = ds.length) :
    As C k sc ρ (.Tuple elts j pos) (seqD b ds) ρ' := fun A env H G₀ G m X s v Q E hh F hv hQ => by
  rw [arm_assign_Tuple]
  refine wpAny_bind (wpAny_standAt ?_)
  unfold unpack
  rw [he]
  have hstar : (elts.map fun t => ((false, assign t env) : Bool × (Value → Sem Unit))).findIdx? (·.1) = none := by
    rw [List.findIdx?_eq_none_iff]; intro x hx; obtain ⟨e, _, rfl⟩ := List.mem_map.mp hx; rfl
  rw [hstar, List.length_map, hl]
  refine wpAny_bind (wpAny_holding (unpack_row hh.room (F.pre (ows := []) hh.base) hv fun us h₁ tk₁ G₁ st₁ hrs => ?_))
  have F₁ := Fm.step (ows := []) F st₁
  exact h A env H G₀ G₁ m X _ us Q E hh F₁ hrs fun m' h' tk G' le F' => hQ m' h' tk G' ((st₁.gle (X := X) F.ownX).trans le) F'

end
end Mine

set_option maxRecDepth 100000
set_option autoImplicit false
set_option linter.unusedVariables false
namespace Mine
open PySem PySem.W PyProof.Rows

/-- a draw for a target -/
structure Wlk (C : Cx) (k : Nat) (I : It) (t : Expr) : Prop where
  nx : ∀ (ds : List D) (A : Around) (G : Gm) (s : Shared) (v : Value) (ow : List (Addr × Obj)) (K : Value → Shared → Prop) (N : Shared → Prop) (E : Value → Shared → Prop), Room k A → Pre C G ow s.heap → (I ds).P G v ow →
    (∀ d ds', ds = d :: ds' → ∀ u ow' h' tk G', Step G ow s.heap G' ow' h' → Rep C G' u d → (I ds').P G' v ow' → K u { s with heap := h', toks := tk }) →
    (ds = [] → ∀ h' tk G', Step G ow s.heap G' [] h' → N { s with heap := h', toks := tk }) →
    wpAny (model C.prog C.w) A (pyNext v) (fun r s₁ => match r with | none => N s₁ | some u => wpAny (model C.prog C.w) A (letOwnedTupleGo t v u) (fun _ s₂ => K u s₂) E s₁) E s
  self : ∀ ds, Its C k (I ds) (I ds)
theorem Walk.by {C : Cx} {k : Nat} {I : It} (w : Walk C k I) {x : Str} {p : Pos} : Wlk C k I (.Name x p) := ⟨fun ds A G s v ow K N E hroom hpre hI hi he =>
  w.nx ds A G s v ow _ E hroom hpre hI (fun d ds' e u ow' h' tk G' st hr hI' => wpAny_pure (hi d ds' e u ow' h' tk G' st hr hI')) he, w.self⟩
theorem WalkT.by {C : Cx} {k : Nat} {I : It} (w : WalkT C k I) {elts : List Expr} {j : Nat} {pos : Pos} : Wlk C k I (.Tuple elts j pos) := ⟨fun ds A G s v ow K N E => w.nx ds A G s v ow elts j pos K N E, w.self⟩

section
variable {C : Cx} {k : Nat} {sc sc' : Scope} {ρ ρ₁ ρ₂ ρ' : Ctx} {P : Post}

/-- for -/
theorem Es_for {I : It} {t iter : Expr} {body : List Stmt} {pos : Pos} {r : Res} {ds : List D} (Inv : List D → Ctx) (hw : Wlk C k I t) (hi : Ev C k sc ρ iter r ρ₁) (hits : Its C k r (I ds)) (h0 : Wk ρ₁ (Inv ds))
    (hs : ∀ env x, foldedSetIterable iter env x = pure x)
    (step : ∀ pre d ds', ds = pre ++ d :: ds' → ∃ ρ₂, As C k sc (Inv (d :: ds')) t d ρ₂ ∧ Ex C k sc ρ₂ body ⟨fun ρ' => Wk ρ' (Inv ds'), fun ρ' => Wk ρ' (Inv ds'), fun _ => False⟩) :
    Es C k sc ρ (.For t iter body [] pos) (Inv []) := fun A env H G₀ G m X s Q E hh F hQ => by
  refine wpAny_For (hi A env H G₀ G m X s _ E hh F fun v ow h₁ tk₁ G₁ le₁ hr F₁ => ?_) (hs env)
  refine hits A G₁ _ v ow _ _ hh.room (F₁.pre hh.base) hr fun it ow₂ h₂ tk₂ G₂ st₂ hI => ?_
  have le₂ := le₁.trans (st₂.gle (X := X) F₁.ownX)
  obtain ⟨G₃, le₃, F₃⟩ := (F₁.step st₂).wk h0
  refine codeAny_forLoop_any (fun n s' => ∃ pre ds' G' m' h' tk ow', ds = pre ++ ds' ∧ n = ds'.length ∧ s' = { s with heap := h', toks := tk } ∧ Gle G G' ∧ (I ds').P G' it ow' ∧ Fm H G₀ G' env.locals m' (Inv ds') (ow' ++ X) h') ?_ ds.length
    ⟨[], ds, G₃, m, h₂, tk₂, ow₂, rfl, rfl, rfl, le₂.trans le₃, Res.mono _ le₃ hI, F₃⟩
  rintro n s' ⟨pre, ds', G', m', h', tk, ow', hds, rfl, rfl, le, hI', F'⟩
  refine wpAny_mono (hw.nx ds' A G' { s with heap := h', toks := tk } it ow' (fun u s₂ => wpAny (model C.prog C.w) A (assign t env u) (fun _ s₂ => wpAny (model C.prog C.w) A (execs body env) (fun f s₃ => match f with
            | .next | .cont => ∃ m, m < ds'.length ∧ ∃ pre ds' G' m' h' tk ow', ds = pre ++ ds' ∧ m = ds'.length ∧ s₃ = { s with heap := h', toks := tk } ∧ Gle G G' ∧ (I ds').P G' it ow' ∧ Fm H G₀ G' env.locals m' (Inv ds') (ow' ++ X) h'
            | .brk => Q .next s₃
            | .ret v => Q (.ret v) s₃) (notedBy (model C.prog C.w) A env fun e s' => cameBackBy (model C.prog C.w) A env E e s') s₂) (notedBy (model C.prog C.w) A env fun e s' => cameBackBy (model C.prog C.w) A env E e s') s₂)
          (fun s₁ => wpAny (model C.prog C.w) A (execs [] env) (fun f s₃ => Q f s₃) (notedBy (model C.prog C.w) A env fun e s' => cameBackBy (model C.prog C.w) A env E e s') s₁)
          (notedBy (model C.prog C.w) A env fun e s' => cameBackBy (model C.prog C.w) A env E e s') hh.room (F'.pre hh.base) hI' ?_ ?_) (fun r s₁ h₁ => ?_) fun _ _ e => e
  · rintro d ds'' rfl u ow₄ h₄ tk₄ G₄ st₄ hru hI₄
    obtain ⟨ρ₅, ha, hb⟩ := step pre d ds'' hds
    have F₄ := F'.step st₄
    have le₄ := st₄.gle (X := X) F'.ownX
    refine ha A env H G₀ G₄ m' _ _ u _ _ hh F₄ hru fun m₅ h₅ tk₅ G₅ le₅ F₅ => ?_
    have fin : ∀ m₆ ρ₆ h₆ tk₆ G₆, Wk ρ₆ (Inv ds'') → Gle G₅ G₆ → Fm H G₀ G₆ env.locals m₆ ρ₆ (ow₄ ++ X) h₆ →
        ∃ m, m < (d :: ds'').length ∧ ∃ pre ds' G' m' h' tk ow', ds = pre ++ ds' ∧ m = ds'.length ∧ ({ s with heap := h₆, toks := tk₆ } : Shared) = { s with heap := h', toks := tk } ∧ Gle G G' ∧ (I ds').P G' it ow' ∧ Fm H G₀ G' env.locals m' (Inv ds') (ow' ++ X) h' := by
      intro m₆ ρ₆ h₆ tk₆ G₆ w le₆ F₆
      obtain ⟨G₇, le₇, F₇⟩ := F₆.wk w
      exact ⟨ds''.length, by simp, pre ++ [d], ds'', G₇, m₆, h₆, tk₆, ow₄, by simp [hds], rfl, rfl, (((le.trans le₄).trans le₅).trans le₆).trans le₇, Res.mono _ ((le₅.trans le₆).trans le₇) hI₄, F₇⟩
    refine hb A env H G₀ G₅ m₅ _ _ _ _ hh F₅ ?_ ?_ ?_
    · intro m₆ ρ₆ h₆ tk₆ G₆ w le₆ F₆; exact fin m₆ ρ₆ h₆ tk₆ G₆ w le₆ F₆
    · intro m₆ ρ₆ h₆ tk₆ G₆ w le₆ F₆; exact fin m₆ ρ₆ h₆ tk₆ G₆ w le₆ F₆
    · intro _ _ _ _ _ _ _ hf; exact hf.elim
  · rintro rfl h₄ tk₄ G₄ st₄
    exact wpAny_execs_nil (hQ m' h₄ tk₄ G₄ (le.trans (st₄.gle (X := X) F'.ownX)) (F'.step st₄))
  · cases r with
    | none => exact h₁
    | some u => exact h₁

/-! tests of a comprehension -/
def Tst (C : Cx) (k : Nat) (sc : Scope) (ρ : Ctx) (ifs : List Expr) (b : Bool) : Prop :=
  ∀ (A : Around) (env : Env) (H : Heap) (G₀ G : Gm) (m : Str → Option Value) (X : List (Addr × Obj)) (s : Shared) (Q : Bool → Shared → Prop) (E : Value → Shared → Prop),
    Here C k sc A env H G₀ → Fm H G₀ G env.locals m ρ X s.heap →
    (∀ h' tk G', Gle G G' → Fm H G₀ G' env.locals m ρ X h' → Q b { s with heap := h', toks := tk }) →
    wpAny (model C.prog C.w) A (forIn ifs true fun c r => if r = true then do let ok ← isTrue c env (eval c env); pure (ForInStep.yield ok) else pure (ForInStep.yield r)) Q E s
theorem Tst_nil : Tst C k sc ρ [] true := fun A env H G₀ G m X s Q E hh F hQ => wpAny_tests_nil (hQ s.heap s.toks G (Gle.refl G) F)
theorem Tst_one {c : Expr} {b : Bool} (h : T C k sc ρ c b) : Tst C k sc ρ [c] b := fun A env H G₀ G m X s Q E hh F hQ => wpAny_tests_one (h A env H G₀ G m X s Q E hh F hQ)

/-- the names of a comprehension -/
structure ScOk (sc : Scope) : Prop where
  free : ∀ x ∈ sc.names, x.2 ≠ .free
  cell : ∀ x ∈ sc.names, x.2 ≠ .cell
  kind : sc.kind = .function
  names : ∀ x ∈ sc.names, x.2 = .local → sc.names.lookup x.1 = some .local

theorem wp_append {X Y : List (Addr × Obj)} {A : Around} {G : Gm} {s : Shared} {E : Value → Shared → Prop} {S : Addr} {acc : List Value} {n : Nat} {x : Value} {Q : Value → Shared → Prop} (w : Own G (X ++ (S, listObj acc n) :: Y) s.heap) (hz : acc.length ≤ 2000)
    (hQ : ∀ h' n', Step G (X ++ (S, listObj acc n) :: Y) s.heap G (X ++ (S, listObj (acc ++ [x]) n') :: Y) h' → Q .none { s with heap := h' }) :
    wpAny (model C.prog C.w) A (call (.builtin "list.append") [.ref S, x]) Q E s := by
  have hS : s.heap.get? S = some (listObj acc n) := w.at_ (S, listObj acc n) (List.mem_append_right _ (.head _))
  refine wpAny_call_entry slot_list_append ⟨_, hS, rfl⟩ entry_list_append ?_ (args_list_append _ _)
  show wpAny _ _ (updateSeq S (·.push x) >>= fun _ => ret .none) _ _ s
  exact wpAny_bind (wp_upd (acc' := acc ++ [x]) w hz (by simp) (by simp; omega) fun h' n' st => wpAny_pure ⟨.none, rfl, hQ h' n' st⟩)

section
variable {A : Around} {E : Value → Shared → Prop} {R : Result → Shared → Prop} {s : Shared}
theorem compLoop_list {elt target iter : Expr} {ifs : List Expr} {scope : Scope} {pos : Pos} {it acc : Value} {env : Env} (I : Nat → Shared → Prop)
    (turn : ∀ n s, I n s → wpAny (model C.prog C.w) A (pyNext it) (fun r s₁ => match r with
      | none => R (.ok .next) s₁
      | some v => wpAny (model C.prog C.w) A (letOwnedTupleGo target it v) (fun _ s₀ => wpAny (model C.prog C.w) A (assign target env v) (fun _ s₂ =>
          wpAny (model C.prog C.w) A (forIn ifs true fun c r => if r = true then do let ok ← isTrue c env (eval c env); pure (ForInStep.yield ok) else pure (ForInStep.yield r)) (fun ok s₃ =>
            if ok = true then wpAny (model C.prog C.w) A (eval elt env) (fun x s₄ =>
              wpAny (model C.prog C.w) A (call (.builtin "list.append") [acc, x]) (fun _ s₅ => ∃ m, m < n ∧ I m s₅) (fun _ _ => False) s₄) (fun _ _ => False) s₃
            else ∃ m, m < n ∧ I m s₃) (fun _ _ => False) s₂) (fun _ _ => False) s₀) (fun _ _ => False) s₁) (fun _ _ => False) s)
    (n : Nat) (h : I n s) :
    codeAny (model C.prog C.w) A (.compLoop (.ListComp elt [⟨target, iter, ifs, 0⟩] scope pos) 0 it acc env) R s := by
  refine codeAny_loop rfl I (fun n s hI => ?_) n h
  show wpAny _ A ((compTurn (.ListComp elt [⟨target, iter, ifs, 0⟩] scope pos) 0 it acc env).onRaise (fun x => do noteFrame x env; theTreesLotGoes x)) _ _ s
  refine wpAny_noted ?_
  rw [compTurn_list]
  refine wpAny_bind (wpAny_standAt (wpAny_bind (wpAny_mono (turn n s hI) (fun r s₁ h₁ => ?_) fun _ _ h' => h'.elim)))
  cases r with
  | none => exact wpAny_pure h₁
  | some v =>
    refine wpAny_bind (wpAny_mono h₁ (fun _ s₀ h₀ => ?_) fun _ _ h' => h'.elim)
    refine wpAny_bind (wpAny_mono h₀ (fun _ s₂ h₂ => wpAny_bind (wpAny_mono h₂ (fun ok s₃ h₃ => ?_) fun _ _ h' => h'.elim)) fun _ _ h' => h'.elim)
    cases ok with
    | false => exact wpAny_pure ⟨rfl, h₃⟩
    | true =>
      exact wpAny_bind (wpAny_bind (wpAny_mono h₃ (fun x s₄ h₄ => wpAny_bind (wpAny_mono h₄ (fun _ s₅ h₅ => wpAny_pure (wpAny_pure ⟨rfl, h₅⟩)) fun _ _ h' => h'.elim)) fun _ _ h' => h'.elim))
theorem compLoop_dict {kx vx target iter : Expr} {ifs : List Expr} {scope : Scope} {pos : Pos} {it : Value} {D : Addr} {env : Env} (I : Nat → Shared → Prop)
    (turn : ∀ n s, I n s → wpAny (model C.prog C.w) A (pyNext it) (fun r s₁ => match r with
      | none => R (.ok .next) s₁
      | some v => wpAny (model C.prog C.w) A (letOwnedTupleGo target it v) (fun _ s₀ => wpAny (model C.prog C.w) A (assign target env v) (fun _ s₂ =>
          wpAny (model C.prog C.w) A (forIn ifs true fun c r => if r = true then do let ok ← isTrue c env (eval c env); pure (ForInStep.yield ok) else pure (ForInStep.yield r)) (fun ok s₃ =>
            if ok = true then wpAny (model C.prog C.w) A (eval kx env) (fun kv s₄ => wpAny (model C.prog C.w) A (eval vx env) (fun vv s₅ =>
              wpAny (model C.prog C.w) A (dictSet D kv vv) (fun _ s₆ => ∃ m, m < n ∧ I m s₆) (fun _ _ => False) s₅) (fun _ _ => False) s₄) (fun _ _ => False) s₃
            else ∃ m, m < n ∧ I m s₃) (fun _ _ => False) s₂) (fun _ _ => False) s₀) (fun _ _ => False) s₁) (fun _ _ => False) s)
    (n : Nat) (h : I n s) :
    codeAny (model C.prog C.w) A (.compLoop (.DictComp kx vx [⟨target, iter, ifs, 0⟩] scope pos) 0 it (.ref D) env) R s := by
  refine codeAny_loop rfl I (fun n s hI => ?_) n h
  show wpAny _ A ((compTurn (.DictComp kx vx [⟨target, iter, ifs, 0⟩] scope pos) 0 it (.ref D) env).onRaise (fun x => do noteFrame x env; theTreesLotGoes x)) _ _ s
  refine wpAny_noted ?_
  rw [compTurn_dict]
  refine wpAny_bind (wpAny_standAt (wpAny_bind (wpAny_mono (turn n s hI) (fun r s₁ h₁ => ?_) fun _ _ h' => h'.elim)))
  cases r with
  | none => exact wpAny_pure h₁
  | some v =>
    refine wpAny_bind (wpAny_mono h₁ (fun _ s₀ h₀ => ?_) fun _ _ h' => h'.elim)
    refine wpAny_bind (wpAny_mono h₀ (fun _ s₂ h₂ => wpAny_bind (wpAny_mono h₂ (fun ok s₃ h₃ => ?_) fun _ _ h' => h'.elim)) fun _ _ h' => h'.elim)
    cases ok with
    | false => exact wpAny_pure ⟨rfl, h₃⟩
    | true =>
      exact wpAny_bind (wpAny_bind (wpAny_mono h₃ (fun kv s₄ h₄ => wpAny_bind (wpAny_holding (wpAny_mono h₄ (fun vv s₅ h₅ => wpAny_bind (wpAny_standAt (wpAny_holding (wpAny_mono h₅ (fun _ s₆ h₆ => wpAny_pure ⟨rfl, h₆⟩) fun _ _ h' => h'.elim)))) fun _ _ h' => h'.elim))) fun _ _ h' => h'.elim))
end

end
end Mine

set_option maxRecDepth 100000
set_option autoImplicit false
set_option linter.unusedVariables false
namespace Mine
open PySem PySem.W PyProof.Rows

section
variable {C : Cx} {k : Nat} {sc sc' : Scope} {ρ ρ₁ ρ₂ ρ' : Ctx} {P : Post}

/-- after the loop of a comprehension: the frame around it, with the comprehension's own names held beside -/
def After (C : Cx) (H : Heap) (G₀ G : Gm) (L : Addr) (m : Str → Option Value) (ρ : Ctx) (X : List (Addr × Obj)) (res : Res) (acc : Value) (L' : Addr) (h' : Heap) : Prop :=
  ∃ G' ow' o' m', Gle G G' ∧ res.P G' acc ow' ∧ h'.Ns L' m' ∧ h'.get? L' = some o' ∧ Fm H G₀ G' L m ρ (ow' ++ (L', o') :: X) h'

theorem env_comp {env : Env} {L' : Addr} (he : EnvOk sc env) (hk : sc'.kind = .function) : EnvOk sc' (compEnv sc' L' env) := ⟨rfl, hk, he.gl, he.bu, rfl⟩

theorem core_list {I : It} {t elt iter : Expr} {ifs : List Expr} {pos : Pos} {r : Res} {ds : List D} (out : D → Option D) (hw : Wlk C k I t) (hok : ScOk sc') (hits : Its C k r (I ds)) (hsz : ds.length ≤ 1000)
    (step : ∀ d ∈ ds, ∃ ρ₂ ρ₃, As C k sc' [] t d ρ₂ ∧ Tst C k sc' ρ₂ ifs (out d).isSome ∧ ∀ e, out d = some e → Ev C k sc' ρ₂ elt (dat C e) ρ₃)
    {A : Around} {env : Env} {H : Heap} {G₀ G : Gm} {m : Str → Option Value} {X ow : List (Addr × Obj)} {s : Shared} {xv : Value} {E : Value → Shared → Prop} (hh : Here C k sc A env H G₀) (F : Fm H G₀ G env.locals m ρ (ow ++ X) s.heap) (hr : r.P G xv ow)
    {RR : Value → Env → Result → Shared → Prop} (hRR : ∀ acc L' h' tk, After C H G₀ G env.locals m ρ X (lst C (ds.filterMap out)) acc L' h' → RR acc (compEnv sc' L' env) (.ok .next) { s with heap := h', toks := tk }) :
    wpAny (model C.prog C.w) A (pyIter xv) (fun it s₂ => wpAny (model C.prog C.w) A (newList []) (fun acc s₃ =>
      wpAny (model C.prog C.w) A (newFunctionEnv sc' env.globals [] [] env.qual none .none (some env)) (fun cenv s₄ =>
        codeAny (model C.prog C.w) A (.compStart (.ListComp elt [⟨t, iter, ifs, 0⟩] sc' pos) 0 it acc { cenv with scope := sc' }) (RR acc { cenv with scope := sc' }) s₄) E s₃) E s₂) E s := by
  refine hits A G s xv ow _ _ hh.room (F.pre hh.base) hr fun it ow₁ h₁ tk₁ G₁ st₁ hI => ?_
  have F₁ := F.step st₁
  have le₁ := st₁.gle (X := X) F.ownX
  refine wpAny_newList ?_ (by simp)
  have p₁ := Step.push (F₁.ownX.le (List.sublist_append_left _ _)) (listObj [] 0) rfl
  have F₂ := F₁.step p₁
  refine wpAny_newFunctionEnv hok.cell (by intro y hy; simp at hy) (fun h₂ hns hsb => ?_) hok.kind
  dsimp only at hns hsb ⊢
  have hns' : h₂.Ns (h₁.push (listObj [] 0)).objs.size _ := hns
  generalize hL' : (h₁.push (listObj [] 0)).objs.size = L' at hns'
  have k₂ : Hle (h₁.push (listObj [] 0)) h₂ := fun b ob e => hsb.extBut b ob (Nat.ne_of_lt (Heap.lt_size e)) (Heap.get?_push_of_some _ e)
  obtain ⟨Z, hin, hout⟩ := F₂.hide
  have F₃ := hin L' _ h₂ (by rw [← hL']; exact get?_size _) k₂ hns'
  generalize hS : h₁.objs.size = S at F₃
  have hhC : Here C k sc' A (compEnv sc' L' env) H G₀ := ⟨hh.room, env_comp hh.env hok.kind, hh.base⟩
  have loop : ∀ (it₀ : Value) (ow₀ : List (Addr × Obj)) (m₀ : Str → Option Value) (h₀ : Heap) (tk₀ : Nat) (G' : Gm), Gle G₁ G' → (I ds).P G' it₀ ow₀ → Fm H G₀ G' L' m₀ [] (ow₀ ++ (S, listObj [] 0) :: Z) h₀ →
      codeAny (model C.prog C.w) A (.compLoop (.ListComp elt [⟨t, iter, ifs, 0⟩] sc' pos) 0 it₀ (.ref S) (compEnv sc' L' env)) (RR (.ref S) (compEnv sc' L' env)) { s with heap := h₀, toks := tk₀ } := by
    intro it₀ ow₀ m₀ h₀ tk₀ Gs leS hI₀ F₀
    refine compLoop_list (fun n s' => ∃ pre ds' G' m' h' tk ow' acc q, ds = pre ++ ds' ∧ n = ds'.length ∧ s' = { s with heap := h', toks := tk } ∧ Gle G₁ G' ∧ (I ds').P G' it₀ ow' ∧ Fm H G₀ G' L' m' [] (ow' ++ (S, listObj acc q) :: Z) h' ∧ Reps C G' acc (pre.filterMap out)) ?_ ds.length
      ⟨[], ds, Gs, m₀, h₀, tk₀, ow₀, [], 0, rfl, rfl, rfl, leS, hI₀, F₀, .nil⟩
    rintro n s' ⟨pre, ds', G', m', h', tk, ow', acc, q, hds, rfl, rfl, le, hI', F', hacc⟩
    have hal : acc.length ≤ 1000 := by
      have e1 := hacc.length
      have e2 := List.length_filterMap_le out pre
      have e3 := congrArg List.length hds
      rw [List.length_append] at e3
      omega
    refine wpAny_mono (hw.nx ds' A G' { s with heap := h', toks := tk } it₀ ow' (fun u s₀ => wpAny (model C.prog C.w) A (assign t (compEnv sc' L' env) u) (fun _ s₂ =>
          wpAny (model C.prog C.w) A (forIn ifs true fun c r => if r = true then do let ok ← isTrue c (compEnv sc' L' env) (eval c (compEnv sc' L' env)); pure (ForInStep.yield ok) else pure (ForInStep.yield r)) (fun ok s₃ =>
            if ok = true then wpAny (model C.prog C.w) A (eval elt (compEnv sc' L' env)) (fun x s₄ =>
              wpAny (model C.prog C.w) A (call (.builtin "list.append") [.ref S, x]) (fun _ s₅ => ∃ m, m < ds'.length ∧ ∃ pre ds' G' m' h' tk ow' acc q, ds = pre ++ ds' ∧ m = ds'.length ∧ s₅ = { s with heap := h', toks := tk } ∧ Gle G₁ G' ∧ (I ds').P G' it₀ ow' ∧ Fm H G₀ G' L' m' [] (ow' ++ (S, listObj acc q) :: Z) h' ∧ Reps C G' acc (pre.filterMap out)) (fun _ _ => False) s₄) (fun _ _ => False) s₃
            else ∃ m, m < ds'.length ∧ ∃ pre ds' G' m' h' tk ow' acc q, ds = pre ++ ds' ∧ m = ds'.length ∧ s₃ = { s with heap := h', toks := tk } ∧ Gle G₁ G' ∧ (I ds').P G' it₀ ow' ∧ Fm H G₀ G' L' m' [] (ow' ++ (S, listObj acc q) :: Z) h' ∧ Reps C G' acc (pre.filterMap out)) (fun _ _ => False) s₂) (fun _ _ => False) s₀)
        (fun s₁ => RR (.ref S) (compEnv sc' L' env) (.ok .next) s₁) (fun _ _ => False) hh.room (F'.pre hh.base) hI' ?_ ?_) (fun r s₁ h₁ => ?_) fun _ _ e => e
    · rintro d ds'' rfl u ow₄ h₄ tk₄ G₄ st₄ hru hI₄
      obtain ⟨ρ₂, ρ₃, ha, ht, he⟩ := step d (by rw [hds]; simp)
      have F₄ := F'.step st₄
      have le₄ := st₄.gle (X := _) F'.ownX
      refine ha A (compEnv sc' L' env) H G₀ G₄ m' _ _ u _ _ hhC F₄ hru fun m₅ h₅ tk₅ G₅ le₅ F₅ => ?_
      refine ht A (compEnv sc' L' env) H G₀ G₅ m₅ _ _ _ _ hhC F₅ fun h₆ tk₆ G₆ le₆ F₆ => ?_
      have leA := ((le.trans le₄).trans le₅).trans le₆
      have upA := (le₄.trans le₅).trans le₆
      cases ho : out d with
      | none =>
        rw [if_neg (by simp)]
        obtain ⟨G₇, le₇, F₇⟩ := F₆.wk (Wk.nil _)
        exact ⟨ds''.length, by simp, pre ++ [d], ds'', G₇, m₅, h₆, tk₆, ow₄, acc, q, by simp [hds], rfl, rfl, leA.trans le₇, Res.mono _ ((le₅.trans le₆).trans le₇) hI₄, F₇, by simpa [ho] using hacc.mono (upA.trans le₇)⟩
      | some e =>
        rw [if_pos (by simp)]
        refine he e ho A (compEnv sc' L' env) H G₀ G₆ m₅ _ _ _ _ hhC F₆ fun x owx h₇ tk₇ G₇ le₇ hx F₇ => ?_
        obtain ⟨rfl, hx⟩ := hx
        rw [List.nil_append] at F₇
        refine wp_append F₇.ownX (by omega) fun h₈ q₈ st₈ => ?_
        have F₈ : Fm H G₀ G₇ L' m₅ ρ₃ (ow₄ ++ (S, listObj (acc ++ [x]) q₈) :: Z) h₈ := by
          have := Fm.step (X := []) (by simpa using F₇) st₈
          rw [List.append_nil] at this
          exact this
        obtain ⟨G₉, le₉, F₉⟩ := F₈.wk (Wk.nil _)
        exact ⟨ds''.length, by simp, pre ++ [d], ds'', G₉, m₅, h₈, tk₇, ow₄, acc ++ [x], q₈, by simp [hds], rfl, rfl, (leA.trans le₇).trans le₉, Res.mono _ (((le₅.trans le₆).trans le₇).trans le₉) hI₄, F₉,
          by simpa [ho] using (hacc.mono ((upA.trans le₇).trans le₉)).snoc (hx.mono le₉)⟩
    · rintro rfl h₄ tk₄ G₄ st₄
      have F₄ := F'.step st₄
      have le₄ := st₄.gle (X := _) F'.ownX
      have hds' : ds = pre := by simpa using hds
      subst hds'
      rw [List.nil_append] at F₄
      obtain ⟨o', ho', F₅⟩ := hout G₄ L' m' [(S, listObj acc q)] h₄ (le.trans le₄) F₄
      obtain ⟨_, n', _⟩ := F₄.ex
      exact hRR (.ref S) L' h₄ tk₄ ⟨G₄, [(S, listObj acc q)], o', m', le₁.trans (le.trans le₄), ⟨S, acc, q, rfl, rfl, hacc.mono le₄⟩, n', ho', F₅⟩
    · cases r with
      | none => exact h₁
      | some u => exact h₁
  have F₄ : Fm H G₀ G₁ L' _ [] (ow₁ ++ (S, listObj [] 0) :: Z) h₂ := F₃.permX (perm3 ow₁ [(S, listObj [] 0)] Z)
  subst hS
  subst hL'
  refine codeAny_compStart_list (loop it ow₁ _ h₂ _ G₁ (Gle.refl _) hI F₄) ?_
  refine hw.self ds A G₁ { s with heap := h₂, toks := _ } it ow₁ _ _ hh.room (F₄.pre hh.base) hI fun it₂ ow₂ h₃ tk₃ G₃ st₃ hI₃ => ?_
  exact loop it₂ ow₂ _ h₃ tk₃ G₃ (st₃.gle (X := _) F₄.ownX) hI₃ (F₄.step st₃)

def dobj0 : Obj := { cls := .type "dict", data := .dict #[] }
theorem dobj0_is : dobj0.IsDictOf (keyKind C.prog C.w) [] := ⟨#[], 0, ⟨rfl, rfl, rfl⟩, rfl, fun _ he => by simp at he, Pairs.nil, List.nodup_nil⟩
theorem dsets_length : ∀ (ps kvs : List (Key × D)), (dsets kvs ps).length ≤ kvs.length + ps.length
  | [], kvs => by simp [dsets]
  | p :: ps, kvs => by
    have h1 := dsets_length ps (dset kvs p.1 p.2)
    have h2 := dset_length kvs p.1 p.2
    rw [dsets_cons, List.length_cons]; omega
theorem key_rep {G : Gm} {x : Key} {v : Value} (h : Rep C G v x.d) : isKey x v = true := by
  rcases x with x | x
  · cases h; exact isKey_str _ _
  · cases h; exact isKey_bytes _ _
theorem wpAny_newDict' {A : Around} {s : Shared} {E : Value → Shared → Prop} {Q : Value → Shared → Prop} (h : Q (.ref s.heap.objs.size) { s with heap := s.heap.push dobj0 }) : wpAny (model C.prog C.w) A newDict Q E s := by
  obtain ⟨hp, g, d, tk, os⟩ := s
  unfold newDict
  repeat (any_goals (first | assumption | wp_step))

theorem core_dict {I : It} {t kx vx iter : Expr} {ifs : List Expr} {pos : Pos} {r : Res} {ds : List D} (out : D → Option (Key × D)) (hw : Wlk C k I t) (hok : ScOk sc') (hits : Its C k r (I ds)) (hsz : ds.length ≤ 1000)
    (step : ∀ d ∈ ds, ∃ ρ₂ ρ₃, As C k sc' [] t d ρ₂ ∧ Tst C k sc' ρ₂ ifs (out d).isSome ∧ ∀ e, out d = some e → ∃ ρ₄, Ev C k sc' ρ₂ kx (dat C e.1.d) ρ₄ ∧ Ev C k sc' ρ₄ vx (dat C e.2) ρ₃)
    {A : Around} {env : Env} {H : Heap} {G₀ G : Gm} {m : Str → Option Value} {X ow : List (Addr × Obj)} {s : Shared} {xv : Value} {E : Value → Shared → Prop} (hh : Here C k sc A env H G₀) (F : Fm H G₀ G env.locals m ρ (ow ++ X) s.heap) (hr : r.P G xv ow)
    {RR : Value → Env → Result → Shared → Prop} (hRR : ∀ acc L' h' tk, After C H G₀ G env.locals m ρ X (dct C (dsets [] (ds.filterMap out))) acc L' h' → RR acc (compEnv sc' L' env) (.ok .next) { s with heap := h', toks := tk }) :
    wpAny (model C.prog C.w) A (pyIter xv) (fun it s₂ => wpAny (model C.prog C.w) A newDict (fun acc s₃ =>
      wpAny (model C.prog C.w) A (newFunctionEnv sc' env.globals [] [] env.qual none .none (some env)) (fun cenv s₄ =>
        codeAny (model C.prog C.w) A (.compStart (.DictComp kx vx [⟨t, iter, ifs, 0⟩] sc' pos) 0 it acc { cenv with scope := sc' }) (RR acc { cenv with scope := sc' }) s₄) E s₃) E s₂) E s := by
  refine hits A G s xv ow _ _ hh.room (F.pre hh.base) hr fun it ow₁ h₁ tk₁ G₁ st₁ hI => ?_
  have F₁ := F.step st₁
  have le₁ := st₁.gle (X := X) F.ownX
  refine wpAny_newDict' ?_
  have p₁ := Step.push (F₁.ownX.le (List.sublist_append_left _ _)) dobj0 rfl
  have F₂ := F₁.step p₁
  refine wpAny_newFunctionEnv hok.cell (by intro y hy; simp at hy) (fun h₂ hns hsb => ?_) hok.kind
  dsimp only at hns hsb ⊢
  have hns' : h₂.Ns (h₁.push dobj0).objs.size _ := hns
  generalize hL' : (h₁.push dobj0).objs.size = L' at hns'
  have k₂ : Hle (h₁.push dobj0) h₂ := fun b ob e => hsb.extBut b ob (Nat.ne_of_lt (Heap.lt_size e)) (Heap.get?_push_of_some _ e)
  obtain ⟨Z, hin, hout⟩ := F₂.hide
  have F₃ := hin L' _ h₂ (by rw [← hL']; exact get?_size _) k₂ hns'
  generalize hS : h₁.objs.size = S at F₃
  have hSm : (S == sysModules) = false := by rw [← hS]; exact notMods (hh.base.le.trans F₁.keep) (get?_size _)
  have hhC : Here C k sc' A (compEnv sc' L' env) H G₀ := ⟨hh.room, env_comp hh.env hok.kind, hh.base⟩
  have loop : ∀ (it₀ : Value) (ow₀ : List (Addr × Obj)) (m₀ : Str → Option Value) (h₀ : Heap) (tk₀ : Nat) (G' : Gm), Gle G₁ G' → (I ds).P G' it₀ ow₀ → Fm H G₀ G' L' m₀ [] (ow₀ ++ (S, dobj0) :: Z) h₀ →
      codeAny (model C.prog C.w) A (.compLoop (.DictComp kx vx [⟨t, iter, ifs, 0⟩] sc' pos) 0 it₀ (.ref S) (compEnv sc' L' env)) (RR (.ref S) (compEnv sc' L' env)) { s with heap := h₀, toks := tk₀ } := by
    intro it₀ ow₀ m₀ h₀ tk₀ Gs leS hI₀ F₀
    refine compLoop_dict (fun n s' => ∃ pre ds' G' m' h' tk ow' kvv od, ds = pre ++ ds' ∧ n = ds'.length ∧ s' = { s with heap := h', toks := tk } ∧ Gle G₁ G' ∧ (I ds').P G' it₀ ow' ∧ Fm H G₀ G' L' m' [] (ow' ++ (S, od) :: Z) h' ∧ od.IsDictOf (keyKind C.prog C.w) kvv ∧ RepKV C G' kvv (dsets [] (pre.filterMap out))) ?_ ds.length
      ⟨[], ds, Gs, m₀, h₀, tk₀, ow₀, [], dobj0, rfl, rfl, rfl, leS, hI₀, F₀, dobj0_is, .nil⟩
    rintro n s' ⟨pre, ds', G', m', h', tk, ow', kvv, od, hds, rfl, rfl, le, hI', F', hod, hacc⟩
    have hal : kvv.length ≤ 1000 := by
      have e1 := hacc.length
      have e2 := List.length_filterMap_le out pre
      have e4 := dsets_length (pre.filterMap out) []
      have e5 : ([] : List (Key × D)).length = 0 := rfl
      have e3 := congrArg List.length hds
      rw [List.length_append] at e3
      omega
    refine wpAny_mono (hw.nx ds' A G' { s with heap := h', toks := tk } it₀ ow' (fun u s₀ => wpAny (model C.prog C.w) A (assign t (compEnv sc' L' env) u) (fun _ s₂ =>
          wpAny (model C.prog C.w) A (forIn ifs true fun c r => if r = true then do let ok ← isTrue c (compEnv sc' L' env) (eval c (compEnv sc' L' env)); pure (ForInStep.yield ok) else pure (ForInStep.yield r)) (fun ok s₃ =>
            if ok = true then wpAny (model C.prog C.w) A (eval kx (compEnv sc' L' env)) (fun kv s₄ => wpAny (model C.prog C.w) A (eval vx (compEnv sc' L' env)) (fun vv s₄' =>
              wpAny (model C.prog C.w) A (dictSet S kv vv) (fun _ s₅ => ∃ m, m < ds'.length ∧ ∃ pre ds' G' m' h' tk ow' kvv od, ds = pre ++ ds' ∧ m = ds'.length ∧ s₅ = { s with heap := h', toks := tk } ∧ Gle G₁ G' ∧ (I ds').P G' it₀ ow' ∧ Fm H G₀ G' L' m' [] (ow' ++ (S, od) :: Z) h' ∧ od.IsDictOf (keyKind C.prog C.w) kvv ∧ RepKV C G' kvv (dsets [] (pre.filterMap out))) (fun _ _ => False) s₄') (fun _ _ => False) s₄) (fun _ _ => False) s₃
            else ∃ m, m < ds'.length ∧ ∃ pre ds' G' m' h' tk ow' kvv od, ds = pre ++ ds' ∧ m = ds'.length ∧ s₃ = { s with heap := h', toks := tk } ∧ Gle G₁ G' ∧ (I ds').P G' it₀ ow' ∧ Fm H G₀ G' L' m' [] (ow' ++ (S, od) :: Z) h' ∧ od.IsDictOf (keyKind C.prog C.w) kvv ∧ RepKV C G' kvv (dsets [] (pre.filterMap out))) (fun _ _ => False) s₂) (fun _ _ => False) s₀)
        (fun s₁ => RR (.ref S) (compEnv sc' L' env) (.ok .next) s₁) (fun _ _ => False) hh.room (F'.pre hh.base) hI' ?_ ?_) (fun r s₁ h₁ => ?_) fun _ _ e => e
    · rintro d ds'' rfl u ow₄ h₄ tk₄ G₄ st₄ hru hI₄
      obtain ⟨ρ₂, ρ₃, ha, ht, he⟩ := step d (by rw [hds]; simp)
      have F₄ := F'.step st₄
      have le₄ := st₄.gle (X := _) F'.ownX
      refine ha A (compEnv sc' L' env) H G₀ G₄ m' _ _ u _ _ hhC F₄ hru fun m₅ h₅ tk₅ G₅ le₅ F₅ => ?_
      refine ht A (compEnv sc' L' env) H G₀ G₅ m₅ _ _ _ _ hhC F₅ fun h₆ tk₆ G₆ le₆ F₆ => ?_
      have leA := ((le.trans le₄).trans le₅).trans le₆
      have upA := (le₄.trans le₅).trans le₆
      cases ho : out d with
      | none =>
        rw [if_neg (by simp)]
        obtain ⟨G₇, le₇, F₇⟩ := F₆.wk (Wk.nil _)
        exact ⟨ds''.length, by simp, pre ++ [d], ds'', G₇, m₅, h₆, tk₆, ow₄, kvv, od, by simp [hds], rfl, rfl, leA.trans le₇, Res.mono _ ((le₅.trans le₆).trans le₇) hI₄, F₇, hod, by simpa [ho] using hacc.mono (upA.trans le₇)⟩
      | some e =>
        rw [if_pos (by simp)]
        obtain ⟨ρ₄, hke, hve⟩ := he e ho
        refine hke A (compEnv sc' L' env) H G₀ G₆ m₅ _ _ _ _ hhC F₆ fun kv owx h₇ tk₇ G₇ le₇ hkv F₇ => ?_
        obtain ⟨rfl, hkv⟩ := hkv
        rw [List.nil_append] at F₇
        refine hve A (compEnv sc' L' env) H G₀ G₇ m₅ _ _ _ _ hhC F₇ fun vv owy h₈ tk₈ G₈ le₈ hvv F₈ => ?_
        obtain ⟨rfl, hvv⟩ := hvv
        rw [List.nil_append] at F₈
        refine wp_dset F₈.ownX hod (key_rep hkv) (by omega) fun h₉ od' tk₉ st₉ hod' => ?_
        have F₉ : Fm H G₀ G₈ L' m₅ ρ₃ (ow₄ ++ (S, od') :: Z) h₉ := by
          have := Fm.step (X := []) (by simpa using F₈) st₉
          rw [List.append_nil] at this
          exact this
        obtain ⟨GA, leX, FA⟩ := F₉.wk (Wk.nil _)
        refine ⟨ds''.length, by simp, pre ++ [d], ds'', GA, m₅, h₉, tk₉, ow₄, _, od', by simp [hds], rfl, rfl, ((leA.trans le₇).trans le₈).trans leX, Res.mono _ ((((le₅.trans le₆).trans le₇).trans le₈).trans leX) hI₄, FA, hod', ?_⟩
        have := (hacc.mono (((upA.trans le₇).trans le₈).trans leX)).set (k := e.1) (hvv.mono leX)
        simpa [ho, dsets, List.foldl_append] using this
    · rintro rfl h₄ tk₄ G₄ st₄
      have F₄ := F'.step st₄
      have le₄ := st₄.gle (X := _) F'.ownX
      have hds' : ds = pre := by simpa using hds
      subst hds'
      rw [List.nil_append] at F₄
      obtain ⟨o', ho', F₅⟩ := hout G₄ L' m' [(S, od)] h₄ (le.trans le₄) F₄
      obtain ⟨_, n', _⟩ := F₄.ex
      exact hRR (.ref S) L' h₄ tk₄ ⟨G₄, [(S, od)], o', m', le₁.trans (le.trans le₄), ⟨S, od, kvv, rfl, rfl, hSm, hod, hacc.mono le₄⟩, n', ho', F₅⟩
    · cases r with
      | none => exact h₁
      | some u => exact h₁
  have F₄ : Fm H G₀ G₁ L' _ [] (ow₁ ++ (S, dobj0) :: Z) h₂ := F₃.permX (perm3 ow₁ [(S, dobj0)] Z)
  subst hS
  subst hL'
  refine codeAny_compStart_dict (loop it ow₁ _ h₂ _ G₁ (Gle.refl _) hI F₄) ?_
  refine hw.self ds A G₁ { s with heap := h₂, toks := _ } it ow₁ _ _ hh.room (F₄.pre hh.base) hI fun it₂ ow₂ h₃ tk₃ G₃ st₃ hI₃ => ?_
  exact loop it₂ ow₂ _ h₃ tk₃ G₃ (st₃.gle (X := _) F₄.ownX) hI₃ (F₄.step st₃)
end
end Mine

set_option maxRecDepth 100000
set_option autoImplicit false
set_option linter.unusedVariables false
namespace Mine
open PySem PySem.W PyProof.Rows

section
variable {C : Cx} {k : Nat} {sc sc' : Scope} {ρ ρ₁ ρ₂ ρ' : Ctx} {P : Post}

theorem Ev_listcomp {I : It} {t elt iter : Expr} {ifs : List Expr} {pos : Pos} {r : Res} {ds : List D} (out : D → Option D) (hw : Wlk C k I t) (hok : ScOk sc') (hi : Ev C k sc ρ iter r ρ₁) (hits : Its C k r (I ds)) (hsz : ds.length ≤ 1000)
    (hs : ∀ env x, foldedSetIterable iter env x = pure x)
    (step : ∀ d ∈ ds, ∃ ρ₂ ρ₃, As C k sc' [] t d ρ₂ ∧ Tst C k sc' ρ₂ ifs (out d).isSome ∧ ∀ e, out d = some e → Ev C k sc' ρ₂ elt (dat C e) ρ₃) :
    Ev C k sc ρ (.ListComp elt [⟨t, iter, ifs, 0⟩] sc' pos) (lst C (ds.filterMap out)) ρ₁ := fun A env H G₀ G m X s Q E hh F hQ => by
  refine wpAny_ListComp hok.free hok.kind hok.names (hi A env H G₀ G m X s _ E hh F fun v ow h₁ tk₁ G₁ le₁ hr F₁ => ?_) (hs env)
  refine core_list out hw hok hits hsz step hh F₁ hr (RR := fun acc cenv r s' => ∃ m, s'.heap.Ns cenv.locals m ∧ ∀ h', Heap.SameBut cenv.locals s'.heap h' → match r with | .ok _ => Q acc { s' with heap := h' } | .error x => wpAny (model C.prog C.w) A (passOn "comprehension.variables-let-go" x cenv) Q E { s' with heap := h' }) ?_
  rintro acc L' h' tk ⟨G', ow', o', m', le, hacc, n', ho', F'⟩
  exact ⟨m', n', fun h'' hs'' => hQ acc ow' h'' tk G' (le₁.trans le) hacc (F'.change hs''.extBut)⟩
theorem Ev_dictcomp {I : It} {t kx vx iter : Expr} {ifs : List Expr} {pos : Pos} {r : Res} {ds : List D} (out : D → Option (Key × D)) (hw : Wlk C k I t) (hok : ScOk sc') (hi : Ev C k sc ρ iter r ρ₁) (hits : Its C k r (I ds)) (hsz : ds.length ≤ 1000)
    (hs : ∀ env x, foldedSetIterable iter env x = pure x)
    (step : ∀ d ∈ ds, ∃ ρ₂ ρ₃, As C k sc' [] t d ρ₂ ∧ Tst C k sc' ρ₂ ifs (out d).isSome ∧ ∀ e, out d = some e → ∃ ρ₄, Ev C k sc' ρ₂ kx (dat C e.1.d) ρ₄ ∧ Ev C k sc' ρ₄ vx (dat C e.2) ρ₃) :
    Ev C k sc ρ (.DictComp kx vx [⟨t, iter, ifs, 0⟩] sc' pos) (dct C (dsets [] (ds.filterMap out))) ρ₁ := fun A env H G₀ G m X s Q E hh F hQ => by
  rw [arm_eval_DictComp]
  refine wpAny_comprehension rfl (hs env) hok.free hok.kind hok.names (hi A env H G₀ G m X s _ E hh F fun v ow h₁ tk₁ G₁ le₁ hr F₁ => ?_)
  refine core_dict out hw hok hits hsz step hh F₁ hr (RR := fun acc cenv r s' => ∃ m, s'.heap.Ns cenv.locals m ∧ ∀ h', Heap.SameBut cenv.locals s'.heap h' → match r with | .ok _ => Q acc { s' with heap := h' } | .error x => wpAny (model C.prog C.w) A (passOn "comprehension.variables-let-go" x cenv) Q E { s' with heap := h' }) ?_
  rintro acc L' h' tk ⟨G', ow', o', m', le, hacc, n', ho', F'⟩
  exact ⟨m', n', fun h'' hs'' => hQ acc ow' h'' tk G' (le₁.trans le) hacc (F'.change hs''.extBut)⟩

/-- what a comprehension gave is put under a name while its own names still stand -/
theorem after_store {A : Around} {E : Value → Shared → Prop} {s : Shared} {env : Env} {H : Heap} {G₀ G : Gm} {m : Str → Option Value} {X : List (Addr × Obj)} {res : Res} {acc : Value} {L' : Addr} {h' : Heap} {tk : Nat} {y : Str} {py : Pos} {Q : Flow → Shared → Prop}
    (he : EnvOk sc env) (hy : sc.names.lookup y = some .local) (hd : Del y ρ ρ') (a : After C H G₀ G env.locals m ρ X res acc L' h')
    (hQ : ∀ m' h'' tk' G', Gle G G' → Fm H G₀ G' env.locals m' ((y, res) :: ρ') X h'' → Q .next { s with heap := h'', toks := tk' }) :
    wpAny (model C.prog C.w) A (assign (.Name y py) env acc) (fun _ s'' => ∃ m, s''.heap.Ns L' m ∧ ∀ h', Heap.SameBut L' s''.heap h' → Q .next { s'' with heap := h' }) E { s with heap := h', toks := tk } := by
  obtain ⟨G', ow', o', m', le, hacc, n', ho', F'⟩ := a
  refine wpAny_assign_Name (wp_store he hy F' hacc hd fun h₂ tk₂ F₂ => ?_)
  have ho₂ : h₂.get? L' = some o' := by
    have := F₂.ownX.at_ (L', o') (.head _)
    exact this
  refine ⟨m', n'.at' fun ob e => by rw [ho'] at e; cases e; exact ho₂, fun h₃ hs₃ => ?_⟩
  exact hQ _ h₃ tk₂ G' le (Fm.change (ow := []) F₂ hs₃.extBut)

theorem Es_assign_listcomp {I : It} {t elt iter : Expr} {ifs : List Expr} {pos spos py : Pos} {y : Str} {r : Res} {ds : List D} (out : D → Option D) (hw : Wlk C k I t) (hok : ScOk sc') (hi : Ev C k sc ρ iter r ρ₁) (hits : Its C k r (I ds)) (hsz : ds.length ≤ 1000)
    (hs : ∀ env x, foldedSetIterable iter env x = pure x)
    (step : ∀ d ∈ ds, ∃ ρ₂ ρ₃, As C k sc' [] t d ρ₂ ∧ Tst C k sc' ρ₂ ifs (out d).isSome ∧ ∀ e, out d = some e → Ev C k sc' ρ₂ elt (dat C e) ρ₃)
    (hsw : ∀ env, EnvOk sc env → swapsWith (.ListComp elt [⟨t, iter, ifs, 0⟩] sc' pos) (some (.Name y py)) spos.line env = pure true) (hy : sc.names.lookup y = some .local) (hd : Del y ρ₁ ρ') :
    Es C k sc ρ (.Assign [.Name y py] (.ListComp elt [⟨t, iter, ifs, 0⟩] sc' pos) spos) ((y, lst C (ds.filterMap out)) :: ρ') := fun A env H G₀ G m X s Q E hh F hQ => by
  rw [exec_Assign_Name_used _ _ _ _ (hsw env hh.env)]
  refine wpAny_bind (wpAny_standAt (wpAny_bind ?_))
  show wpAny _ A (do let _ ← comprehension (.ListComp elt [⟨t, iter, ifs, 0⟩] sc' pos) sc' env _ (newList []) false (eval iter env) (some (assign (.Name y py) env))) _ _ s
  refine wpAny_bind (wpAny_mono (wpAny_comprehension_use (Q := fun _ s' => Q .next s') rfl (hs env) hok.free hok.kind hok.names (hi A env H G₀ G m X s _ E hh F fun v ow h₁ tk₁ G₁ le₁ hr F₁ => ?_)) (fun _ s' hq => wpAny_pure (wpAny_pure hq)) fun _ _ e => e)
  refine core_list out hw hok hits hsz step hh F₁ hr (RR := fun acc cenv r s' => match r with
      | .ok _ => wpAny (model C.prog C.w) A (assign (.Name y py) env acc) (fun _ s'' => ∃ m, s''.heap.Ns cenv.locals m ∧ ∀ h', Heap.SameBut cenv.locals s''.heap h' → Q .next { s'' with heap := h' }) E s'
      | .error x => ∃ m, s'.heap.Ns cenv.locals m ∧ ∀ h', Heap.SameBut cenv.locals s'.heap h' → wpAny (model C.prog C.w) A (passOn "comprehension.variables-let-go" x cenv) (fun _ s' => Q .next s') E { s' with heap := h' }) ?_
  intro acc L' h' tk a
  exact after_store hh.env hy hd a fun m' h'' tk' G' le F' => hQ m' h'' tk' G' (le₁.trans le) F'
theorem Es_assign_dictcomp {I : It} {t kx vx iter : Expr} {ifs : List Expr} {pos spos py : Pos} {y : Str} {r : Res} {ds : List D} (out : D → Option (Key × D)) (hw : Wlk C k I t) (hok : ScOk sc') (hi : Ev C k sc ρ iter r ρ₁) (hits : Its C k r (I ds)) (hsz : ds.length ≤ 1000)
    (hs : ∀ env x, foldedSetIterable iter env x = pure x)
    (step : ∀ d ∈ ds, ∃ ρ₂ ρ₃, As C k sc' [] t d ρ₂ ∧ Tst C k sc' ρ₂ ifs (out d).isSome ∧ ∀ e, out d = some e → ∃ ρ₄, Ev C k sc' ρ₂ kx (dat C e.1.d) ρ₄ ∧ Ev C k sc' ρ₄ vx (dat C e.2) ρ₃)
    (hsw : ∀ env, EnvOk sc env → swapsWith (.DictComp kx vx [⟨t, iter, ifs, 0⟩] sc' pos) (some (.Name y py)) spos.line env = pure true) (hy : sc.names.lookup y = some .local) (hd : Del y ρ₁ ρ') :
    Es C k sc ρ (.Assign [.Name y py] (.DictComp kx vx [⟨t, iter, ifs, 0⟩] sc' pos) spos) ((y, dct C (dsets [] (ds.filterMap out))) :: ρ') := fun A env H G₀ G m X s Q E hh F hQ => by
  rw [exec_Assign_Name_used _ _ _ _ (hsw env hh.env)]
  refine wpAny_bind (wpAny_standAt (wpAny_bind ?_))
  show wpAny _ A (do let _ ← comprehension (.DictComp kx vx [⟨t, iter, ifs, 0⟩] sc' pos) sc' env _ newDict false (eval iter env) (some (assign (.Name y py) env))) _ _ s
  refine wpAny_bind (wpAny_mono (wpAny_comprehension_use (Q := fun _ s' => Q .next s') rfl (hs env) hok.free hok.kind hok.names (hi A env H G₀ G m X s _ E hh F fun v ow h₁ tk₁ G₁ le₁ hr F₁ => ?_)) (fun _ s' hq => wpAny_pure (wpAny_pure hq)) fun _ _ e => e)
  refine core_dict out hw hok hits hsz step hh F₁ hr (RR := fun acc cenv r s' => match r with
      | .ok _ => wpAny (model C.prog C.w) A (assign (.Name y py) env acc) (fun _ s'' => ∃ m, s''.heap.Ns cenv.locals m ∧ ∀ h', Heap.SameBut cenv.locals s''.heap h' → Q .next { s'' with heap := h' }) E s'
      | .error x => ∃ m, s'.heap.Ns cenv.locals m ∧ ∀ h', Heap.SameBut cenv.locals s'.heap h' → wpAny (model C.prog C.w) A (passOn "comprehension.variables-let-go" x cenv) (fun _ s' => Q .next s') E { s' with heap := h' }) ?_
  intro acc L' h' tk a
  exact after_store hh.env hy hd a fun m' h'' tk' G' le F' => hQ m' h'' tk' G' (le₁.trans le) F'
end
end Mine

set_option maxRecDepth 100000
set_option autoImplicit false
set_option linter.unusedVariables false
namespace Mine
open PySem PySem.W PyProof.Rows

abbrev nestC (elt t1 i1 t2 i2 : Expr) (sc : Scope) (pos : Pos) : Expr := .ListComp elt [⟨t1, i1, [], 0⟩, ⟨t2, i2, [], 0⟩] sc pos
theorem compTurn_nest0 (elt t1 i1 t2 i2 : Expr) (sc : Scope) (pos : Pos) (it acc : Value) (env : Env) :
    compTurn (nestC elt t1 i1 t2 i2 sc pos) 0 it acc env = (do
      standAt i1.pos
      match ← pyNext it with
      | none => pure (.done .next)
      | some v =>
        letOwnedTupleGo t1 it v
        assign t1 env v
        let mut ok := true
        for c in ([] : List Expr) do
          if ok then ok ← isTrue c env (eval c env)
        if ok then
          (do
            let x ← eval i2 env
            standAt i2.pos
            let x ← foldedSetIterable i2 env x
            let _ ← runOwn (.compStart (nestC elt t1 i1 t2 i2 sc pos) 1 (← holding [x] (pyIter x)) acc env) env
            again (.compLoop (nestC elt t1 i1 t2 i2 sc pos) 0 it acc env))
        else again (.compLoop (nestC elt t1 i1 t2 i2 sc pos) 0 it acc env)) := by rfl
theorem compTurn_nest1 (elt t1 i1 t2 i2 : Expr) (sc : Scope) (pos : Pos) (it acc : Value) (env : Env) :
    compTurn (nestC elt t1 i1 t2 i2 sc pos) 1 it acc env = (do
      standAt i2.pos
      match ← pyNext it with
      | none => pure (.done .next)
      | some v =>
        letOwnedTupleGo t2 it v
        assign t2 env v
        let mut ok := true
        for c in ([] : List Expr) do
          if ok then ok ← isTrue c env (eval c env)
        if ok then
          (do let _ ← call (.builtin "list.append") [acc, ← eval elt env])
        again (.compLoop (nestC elt t1 i1 t2 i2 sc pos) 1 it acc env)) := by rfl

section
variable {C : Cx} {k : Nat} {sc sc' : Scope} {ρ ρ₁ ρ₂ ρ' : Ctx} {P : Post} {A : Around} {E : Value → Shared → Prop} {R : Result → Shared → Prop} {s : Shared}
theorem compStart_nest1 {elt t1 i1 t2 i2 : Expr} {pos it acc env}
    (h0 : codeAny (model C.prog C.w) A (.compLoop (nestC elt t1 i1 t2 i2 sc pos) 1 it acc env) R s)
    (h : wpAny (model C.prog C.w) A (pyIter it) (fun it' s' => codeAny (model C.prog C.w) A (.compLoop (nestC elt t1 i1 t2 i2 sc pos) 1 it' acc env) R s')
      (notedBy (model C.prog C.w) A env fun x s' => R (.error x) s') s) :
    codeAny (model C.prog C.w) A (.compStart (nestC elt t1 i1 t2 i2 sc pos) 1 it acc env) R s := by
  refine codeAny_of_tree ?_
  show wpAny _ _ ((compStart (nestC elt t1 i1 t2 i2 sc pos) 1 it acc env).onRaise (fun x => do noteFrame x env; standAt theWindowsPlace)) _ _ s
  refine wpAny_notedAt ?_
  unfold compStart
  show wpAny _ _ (ask >>= _) _ _ s
  refine wpAny_bind (wpAny_askSetting (wpAny_ite ?_))
  split
  · first
      | exact wpAny_bind (wpAny_pure (wpAny_pure (And.intro rfl h0)))
      | exact wpAny_pure (And.intro rfl h0)
  · first
      | exact wpAny_bind (wpAny_rule (wpAny_bind (wpAny_standAt (wpAny_bind (wpAny_mono h (fun it' s' h' => wpAny_pure (And.intro rfl h')) fun _ _ x => x)))))
      | (refine wpAny_bind (wpAny_rule ?_); show wpAny _ _ (standAt i2.pos >>= _) _ _ s; exact wpAny_bind (wpAny_standAt (wpAny_bind (wpAny_mono h (fun it' s' h' => wpAny_pure (And.intro rfl h')) fun _ _ x => x))))

theorem compLoop_nest0 {elt t1 i1 t2 i2 : Expr} {pos : Pos} {it acc : Value} {env : Env} (I : Nat → Shared → Prop)
    (hs : ∀ x, foldedSetIterable i2 env x = pure x)
    (turn : ∀ n s, I n s → wpAny (model C.prog C.w) A (pyNext it) (fun r s₁ => match r with
      | none => R (.ok .next) s₁
      | some v => wpAny (model C.prog C.w) A (letOwnedTupleGo t1 it v) (fun _ s₀ => wpAny (model C.prog C.w) A (assign t1 env v) (fun _ s₂ =>
          wpAny (model C.prog C.w) A (eval i2 env) (fun x s₃ => wpAny (model C.prog C.w) A (pyIter x) (fun it₂ s₄ =>
            codeAny (model C.prog C.w) A (.compStart (nestC elt t1 i1 t2 i2 sc pos) 1 it₂ acc env) (fun r s₅ => match r with | .ok _ => ∃ m, m < n ∧ I m s₅ | .error _ => False) s₄) (fun _ _ => False) s₃) (fun _ _ => False) s₂) (fun _ _ => False) s₀) (fun _ _ => False) s₁) (fun _ _ => False) s)
    (n : Nat) (h : I n s) :
    codeAny (model C.prog C.w) A (.compLoop (nestC elt t1 i1 t2 i2 sc pos) 0 it acc env) R s := by
  refine codeAny_loop rfl I (fun n s hI => ?_) n h
  show wpAny _ A ((compTurn (nestC elt t1 i1 t2 i2 sc pos) 0 it acc env).onRaise (fun x => do noteFrame x env; theTreesLotGoes x)) _ _ s
  refine wpAny_noted ?_
  rw [compTurn_nest0]
  refine wpAny_bind (wpAny_standAt (wpAny_bind (wpAny_mono (turn n s hI) (fun r s₁ h₁ => ?_) fun _ _ h' => h'.elim)))
  cases r with
  | none => exact wpAny_pure h₁
  | some v =>
    refine wpAny_bind (wpAny_mono h₁ (fun _ s₀ h₀ => ?_) fun _ _ h' => h'.elim)
    refine wpAny_bind (wpAny_mono h₀ (fun _ s₂ h₂ => ?_) fun _ _ h' => h'.elim)
    refine wpAny_bind (wpAny_tests_nil ?_)
    rw [if_pos rfl]
    refine wpAny_bind (wpAny_mono h₂ (fun x s₃ h₃ => ?_) fun _ _ h' => h'.elim)
    refine wpAny_bind (wpAny_standAt (wpAny_bind (wpAny_of_eq (hs x) ?_)))
    refine wpAny_bind (wpAny_holding (wpAny_mono h₃ (fun it₂ s₄ h₄ => ?_) fun _ _ h' => h'.elim))
    refine wpAny_bind (wpAny_runOwn (codeAny_mono h₄ fun r s₅ hr => ?_))
    cases r with
    | ok f => exact wpAny_pure ⟨rfl, hr⟩
    | error e => exact hr.elim
theorem compLoop_nest1 {elt t1 i1 t2 i2 : Expr} {pos : Pos} {it acc : Value} {env : Env} (I : Nat → Shared → Prop)
    (turn : ∀ n s, I n s → wpAny (model C.prog C.w) A (pyNext it) (fun r s₁ => match r with
      | none => R (.ok .next) s₁
      | some v => wpAny (model C.prog C.w) A (letOwnedTupleGo t2 it v) (fun _ s₀ => wpAny (model C.prog C.w) A (assign t2 env v) (fun _ s₂ =>
          wpAny (model C.prog C.w) A (eval elt env) (fun x s₄ =>
              wpAny (model C.prog C.w) A (call (.builtin "list.append") [acc, x]) (fun _ s₅ => ∃ m, m < n ∧ I m s₅) (fun _ _ => False) s₄) (fun _ _ => False) s₂) (fun _ _ => False) s₀) (fun _ _ => False) s₁) (fun _ _ => False) s)
    (n : Nat) (h : I n s) :
    codeAny (model C.prog C.w) A (.compLoop (nestC elt t1 i1 t2 i2 sc pos) 1 it acc env) R s := by
  refine codeAny_loop rfl I (fun n s hI => ?_) n h
  show wpAny _ A ((compTurn (nestC elt t1 i1 t2 i2 sc pos) 1 it acc env).onRaise (fun x => do noteFrame x env; theTreesLotGoes x)) _ _ s
  refine wpAny_noted ?_
  rw [compTurn_nest1]
  refine wpAny_bind (wpAny_standAt (wpAny_bind (wpAny_mono (turn n s hI) (fun r s₁ h₁ => ?_) fun _ _ h' => h'.elim)))
  cases r with
  | none => exact wpAny_pure h₁
  | some v =>
    refine wpAny_bind (wpAny_mono h₁ (fun _ s₀ h₀ => ?_) fun _ _ h' => h'.elim)
    refine wpAny_bind (wpAny_mono h₀ (fun _ s₂ h₂ => ?_) fun _ _ h' => h'.elim)
    refine wpAny_bind (wpAny_tests_nil ?_)
    exact wpAny_bind (wpAny_bind (wpAny_mono h₂ (fun x s₄ h₄ => wpAny_bind (wpAny_mono h₄ (fun _ s₅ h₅ => wpAny_pure (wpAny_pure ⟨rfl, h₅⟩)) fun _ _ h' => h'.elim)) fun _ _ h' => h'.elim))

variable {I J : It} {t1 t2 i1 i2 elt : Expr} {pos : Pos}
/-- the inner walk -/
theorem nest_inner (hw : Wlk C k J t2) {env : Env} {H : Heap} {G₀ : Gm} {Z : List (Addr × Obj)} {S : Addr} (hh : Here C k sc A env H G₀) : ∀ (es : List D) (f : D → D) (it : Value) (s : Shared) (G : Gm) (m : Str → Option Value) (ow : List (Addr × Obj)) (acc : List Value) (accd : List D) (q : Nat),
    (∀ e ∈ es, ∃ ρ₄ ρ₅, As C k sc [] t2 e ρ₄ ∧ Ev C k sc ρ₄ elt (dat C (f e)) ρ₅) → (J es).P G it ow → Fm H G₀ G env.locals m [] (ow ++ (S, listObj acc q) :: Z) s.heap → Reps C G acc accd → acc.length + es.length ≤ 2000 →
    (∀ h' tk G' m' acc' q', Gle G G' → Fm H G₀ G' env.locals m' [] ((S, listObj acc' q') :: Z) h' → Reps C G' acc' (accd ++ es.map f) → R (.ok .next) { s with heap := h', toks := tk }) →
    codeAny (model C.prog C.w) A (.compLoop (nestC elt t1 i1 t2 i2 sc pos) 1 it (.ref S) env) R s := by
  intro es f it s G m ow acc accd q hst hI F hacc hsz hR
  refine compLoop_nest1 (fun n s' => ∃ pre es' G' m' h' tk ow' acc' q', es = pre ++ es' ∧ n = es'.length ∧ s' = { s with heap := h', toks := tk } ∧ Gle G G' ∧ (J es').P G' it ow' ∧ Fm H G₀ G' env.locals m' [] (ow' ++ (S, listObj acc' q') :: Z) h' ∧ Reps C G' acc' (accd ++ pre.map f)) ?_ es.length
    ⟨[], es, G, m, s.heap, s.toks, ow, acc, q, rfl, rfl, rfl, Gle.refl G, hI, F, by simpa using hacc⟩
  rintro n s' ⟨pre, es', G', m', h', tk, ow', acc', q', hes, rfl, rfl, le, hI', F', hacc'⟩
  have hal : acc'.length ≤ 2000 - es'.length := by
    have e1 := hacc'.length
    have e2 := hacc.length
    have e3 := congrArg List.length hes
    rw [List.length_append] at e1 e3
    rw [List.length_map] at e1
    omega
  refine wpAny_mono (hw.nx es' A G' { s with heap := h', toks := tk } it ow' (fun u s₀ => wpAny (model C.prog C.w) A (assign t2 env u) (fun _ s₂ =>
          wpAny (model C.prog C.w) A (eval elt env) (fun x s₄ =>
              wpAny (model C.prog C.w) A (call (.builtin "list.append") [.ref S, x]) (fun _ s₅ => ∃ m, m < es'.length ∧ ∃ pre es' G' m' h' tk ow' acc' q', es = pre ++ es' ∧ m = es'.length ∧ s₅ = { s with heap := h', toks := tk } ∧ Gle G G' ∧ (J es').P G' it ow' ∧ Fm H G₀ G' env.locals m' [] (ow' ++ (S, listObj acc' q') :: Z) h' ∧ Reps C G' acc' (accd ++ pre.map f)) (fun _ _ => False) s₄) (fun _ _ => False) s₂) (fun _ _ => False) s₀)
        (fun s₁ => R (.ok .next) s₁) (fun _ _ => False) hh.room (F'.pre hh.base) hI' ?_ ?_) (fun r s₁ h₁ => ?_) fun _ _ e => e
  · rintro e es'' rfl u ow₄ h₄ tk₄ G₄ st₄ hru hI₄
    obtain ⟨ρ₄, ρ₅, ha, he⟩ := hst e (by rw [hes]; simp)
    have F₄ := F'.step st₄
    have le₄ := st₄.gle (X := _) F'.ownX
    refine ha A env H G₀ G₄ m' _ _ u _ _ hh F₄ hru fun m₅ h₅ tk₅ G₅ le₅ F₅ => ?_
    refine he A env H G₀ G₅ m₅ _ _ _ _ hh F₅ fun x owx h₇ tk₇ G₇ le₇ hx F₇ => ?_
    obtain ⟨rfl, hx⟩ := hx
    rw [List.nil_append] at F₇
    refine wp_append F₇.ownX (by simp at hal; omega) fun h₈ q₈ st₈ => ?_
    have F₈ : Fm H G₀ G₇ env.locals m₅ ρ₅ (ow₄ ++ (S, listObj (acc' ++ [x]) q₈) :: Z) h₈ := by
      have := Fm.step (X := []) (by simpa using F₇) st₈
      rw [List.append_nil] at this
      exact this
    obtain ⟨G₉, le₉, F₉⟩ := F₈.wk (Wk.nil _)
    exact ⟨es''.length, by simp, pre ++ [e], es'', G₉, m₅, h₈, tk₇, ow₄, acc' ++ [x], q₈, by simp [hes], rfl, rfl, (((le.trans le₄).trans le₅).trans le₇).trans le₉, Res.mono _ ((le₅.trans le₇).trans le₉) hI₄, F₉,
      by simpa using (hacc'.mono (((le₄.trans le₅).trans le₇).trans le₉)).snoc (hx.mono le₉)⟩
  · rintro rfl h₄ tk₄ G₄ st₄
    have F₄ := F'.step st₄
    have le₄ := st₄.gle (X := _) F'.ownX
    have hes' : es = pre := by simpa using hes
    subst hes'
    rw [List.nil_append] at F₄
    exact hR h₄ tk₄ G₄ m' acc' q' (le.trans le₄) F₄ (hacc'.mono le₄)
  · cases r with
    | none => exact h₁
    | some u => exact h₁

theorem Ev_nest {scO : Scope} {r : Res} {ds : List D} (sub : D → List D) (f : D → D) (r2 : D → Res) (hw : Wlk C k I t1) (hw2 : Wlk C k J t2) (hok : ScOk sc) (hi : Ev C k scO ρ i1 r ρ₁) (hits : Its C k r (I ds)) (hsz : (ds.flatMap sub).length ≤ 1000)
    (hs : ∀ env x, foldedSetIterable i1 env x = pure x) (hs2 : ∀ env x, foldedSetIterable i2 env x = pure x)
    (step : ∀ d ∈ ds, ∃ ρ₂ ρ₃, As C k sc [] t1 d ρ₂ ∧ Ev C k sc ρ₂ i2 (r2 d) ρ₃ ∧ Its C k (r2 d) (J (sub d)) ∧ ∀ e ∈ sub d, ∃ ρ₄ ρ₅, As C k sc [] t2 e ρ₄ ∧ Ev C k sc ρ₄ elt (dat C (f e)) ρ₅) :
    Ev C k scO ρ (nestC elt t1 i1 t2 i2 sc pos) (lst C ((ds.flatMap sub).map f)) ρ₁ := fun A env H G₀ G m X s Q E hh F hQ => by
  refine wpAny_ListComp hok.free hok.kind hok.names (hi A env H G₀ G m X s _ E hh F fun xv ow h₀ tk₀ G₀' le₀ hr F₀ => ?_) (hs env)
  refine hits A G₀' { s with heap := h₀, toks := tk₀ } xv ow _ _ hh.room (F₀.pre hh.base) hr fun it ow₁ h₁ tk₁ G₁ st₁ hI => ?_
  have F₁ := F₀.step st₁
  have le₁ := le₀.trans (st₁.gle (X := X) F₀.ownX)
  refine wpAny_newList ?_ (by simp)
  have p₁ := Step.push (F₁.ownX.le (List.sublist_append_left _ _)) (listObj [] 0) rfl
  have F₂ := F₁.step p₁
  refine wpAny_newFunctionEnv hok.cell (by intro y hy; simp at hy) (fun h₂ hns hsb => ?_) hok.kind
  dsimp only at hns hsb ⊢
  have hns' : h₂.Ns (h₁.push (listObj [] 0)).objs.size _ := hns
  generalize hL' : (h₁.push (listObj [] 0)).objs.size = L' at hns'
  have k₂ : Hle (h₁.push (listObj [] 0)) h₂ := fun b ob e => hsb.extBut b ob (Nat.ne_of_lt (Heap.lt_size e)) (Heap.get?_push_of_some _ e)
  obtain ⟨Z, hin, hout⟩ := F₂.hide
  have F₃ := hin L' _ h₂ (by rw [← hL']; exact get?_size _) k₂ hns'
  generalize hS : h₁.objs.size = S at F₃
  have hhC : Here C k sc A (compEnv sc L' env) H G₀ := ⟨hh.room, env_comp hh.env hok.kind, hh.base⟩
  let RR : Value → Env → Result → Shared → Prop := fun acc cenv r s' => ∃ m, s'.heap.Ns cenv.locals m ∧ ∀ h', Heap.SameBut cenv.locals s'.heap h' → match r with | .ok _ => Q acc { s' with heap := h' } | .error x => wpAny (model C.prog C.w) A (passOn "comprehension.variables-let-go" x cenv) Q E { s' with heap := h' }
  have loop : ∀ (it₀ : Value) (ow₀ : List (Addr × Obj)) (m₀ : Str → Option Value) (h₀ : Heap) (tk₀ : Nat) (G' : Gm), Gle G₁ G' → (I ds).P G' it₀ ow₀ → Fm H G₀ G' L' m₀ [] (ow₀ ++ (S, listObj [] 0) :: Z) h₀ →
      codeAny (model C.prog C.w) A (.compLoop (nestC elt t1 i1 t2 i2 sc pos) 0 it₀ (.ref S) (compEnv sc L' env)) (RR (.ref S) (compEnv sc L' env)) { s with heap := h₀, toks := tk₀ } := by
    intro it₀ ow₀ m₀ h₀ tk₀ Gs leS hI₀ F₀
    refine compLoop_nest0 (fun n s' => ∃ pre ds' G' m' h' tk ow' acc q, ds = pre ++ ds' ∧ n = ds'.length ∧ s' = { s with heap := h', toks := tk } ∧ Gle G₁ G' ∧ (I ds').P G' it₀ ow' ∧ Fm H G₀ G' L' m' [] (ow' ++ (S, listObj acc q) :: Z) h' ∧ Reps C G' acc ((pre.flatMap sub).map f)) (hs2 _) ?_ ds.length
      ⟨[], ds, Gs, m₀, h₀, tk₀, ow₀, [], 0, rfl, rfl, rfl, leS, hI₀, F₀, .nil⟩
    rintro n s' ⟨pre, ds', G', m', h', tk, ow', acc, q, hds, rfl, rfl, le, hI', F', hacc⟩
    refine wpAny_mono (hw.nx ds' A G' { s with heap := h', toks := tk } it₀ ow' (fun u s₀ => wpAny (model C.prog C.w) A (assign t1 (compEnv sc L' env) u) (fun _ s₂ =>
          wpAny (model C.prog C.w) A (eval i2 (compEnv sc L' env)) (fun x s₃ => wpAny (model C.prog C.w) A (pyIter x) (fun it₂ s₄ =>
            codeAny (model C.prog C.w) A (.compStart (nestC elt t1 i1 t2 i2 sc pos) 1 it₂ (.ref S) (compEnv sc L' env)) (fun r s₅ => match r with | .ok _ => ∃ m, m < ds'.length ∧ ∃ pre ds' G' m' h' tk ow' acc q, ds = pre ++ ds' ∧ m = ds'.length ∧ s₅ = { s with heap := h', toks := tk } ∧ Gle G₁ G' ∧ (I ds').P G' it₀ ow' ∧ Fm H G₀ G' L' m' [] (ow' ++ (S, listObj acc q) :: Z) h' ∧ Reps C G' acc ((pre.flatMap sub).map f) | .error _ => False) s₄) (fun _ _ => False) s₃) (fun _ _ => False) s₂) (fun _ _ => False) s₀)
        (fun s₁ => RR (.ref S) (compEnv sc L' env) (.ok .next) s₁) (fun _ _ => False) hh.room (F'.pre hh.base) hI' ?_ ?_) (fun r s₁ h₁ => ?_) fun _ _ e => e
    · rintro d ds'' rfl u ow₄ h₄ tk₄ G₄ st₄ hru hI₄
      obtain ⟨ρ₂, ρ₃, ha, hi2, hit2, hin2⟩ := step d (by rw [hds]; simp)
      have F₄ := F'.step st₄
      have le₄ := st₄.gle (X := _) F'.ownX
      refine ha A (compEnv sc L' env) H G₀ G₄ m' _ _ u _ _ hhC F₄ hru fun m₅ h₅ tk₅ G₅ le₅ F₅ => ?_
      refine hi2 A (compEnv sc L' env) H G₀ G₅ m₅ _ _ _ _ hhC F₅ fun x owx h₆ tk₆ G₆ le₆ hx F₆ => ?_
      obtain ⟨G₇, le₇, F₇⟩ := F₆.wk (Wk.nil _)
      have leA := (((le.trans le₄).trans le₅).trans le₆).trans le₇
      have upA := ((le₄.trans le₅).trans le₆).trans le₇
      have upB := ((le₅.trans le₆).trans le₇)
      refine hit2 A G₇ _ x owx _ _ hh.room (F₇.pre hh.base) (Res.mono _ le₇ hx) fun it₂ ow₈ h₈ tk₈ G₈ st₈ hI₈ => ?_
      have le₈ := st₈.gle (X := _) F₇.ownX
      have F₈ := F₇.step st₈
      have hlen : acc.length + (sub d).length ≤ 2000 := by
        have e1 := hacc.length
        rw [List.length_map] at e1
        rw [hds, List.flatMap_append, List.flatMap_cons, List.length_append, List.length_append] at hsz
        omega
      have inner : ∀ (it₃ : Value) (ow₃ : List (Addr × Obj)) (h₉ : Heap) (tk₉ : Nat) (G₉ : Gm), Gle G₇ G₉ → (J (sub d)).P G₉ it₃ ow₃ → Fm H G₀ G₉ L' m₅ [] (ow₃ ++ (ow₄ ++ (S, listObj acc q) :: Z)) h₉ →
          codeAny (model C.prog C.w) A (.compLoop (nestC elt t1 i1 t2 i2 sc pos) 1 it₃ (.ref S) (compEnv sc L' env)) (fun r s₅ => match r with | .ok _ => ∃ m, m < (d :: ds'').length ∧ ∃ pre ds' G' m' h' tk ow' acc q, ds = pre ++ ds' ∧ m = ds'.length ∧ s₅ = { s with heap := h', toks := tk } ∧ Gle G₁ G' ∧ (I ds').P G' it₀ ow' ∧ Fm H G₀ G' L' m' [] (ow' ++ (S, listObj acc q) :: Z) h' ∧ Reps C G' acc ((pre.flatMap sub).map f) | .error _ => False) { s with heap := h₉, toks := tk₉ } := by
        intro it₃ ow₃ h₉ tk₉ G₉ le₉ hI₃ F₉
        refine nest_inner (Z := ow₄ ++ Z) hw2 hhC (sub d) f it₃ { s with heap := h₉, toks := tk₉ } G₉ m₅ ow₃ acc _ q hin2 hI₃ (F₉.permX ((perm3 [(S, listObj acc q)] ow₄ Z).append_left ow₃)) (hacc.mono (upA.trans le₉)) hlen fun h' tk G' m' acc' q' le' F' hr' => ?_
        exact ⟨ds''.length, by simp, pre ++ [d], ds'', G', m', h', tk, ow₄, acc', q', by simp [hds], rfl, rfl, (leA.trans le₉).trans le', Res.mono _ ((upB.trans le₉).trans le') hI₄, F'.permX (perm3 ow₄ [(S, listObj acc' q')] Z), by simpa using hr'⟩
      refine compStart_nest1 (inner it₂ ow₈ h₈ tk₈ G₈ le₈ hI₈ F₈) ?_
      refine hw2.self (sub d) A G₈ _ it₂ ow₈ _ _ hh.room (F₈.pre hh.base) hI₈ fun it₃ ow₉ h₉ tk₉ G₉ st₉ hI₉ => ?_
      exact inner it₃ ow₉ h₉ tk₉ G₉ (le₈.trans (st₉.gle (X := _) F₈.ownX)) hI₉ (F₈.step st₉)
    · rintro rfl h₄ tk₄ G₄ st₄
      have F₄ := F'.step st₄
      have le₄ := st₄.gle (X := _) F'.ownX
      have hds' : ds = pre := by simpa using hds
      subst hds'
      rw [List.nil_append] at F₄
      obtain ⟨o', ho', F₅⟩ := hout G₄ L' m' [(S, listObj acc q)] h₄ (le.trans le₄) F₄
      obtain ⟨_, n', _⟩ := F₄.ex
      exact ⟨m', n', fun h'' hs'' => hQ (.ref S) [(S, listObj acc q)] h'' tk₄ G₄ (le₁.trans (le.trans le₄)) ⟨S, acc, q, rfl, rfl, hacc.mono le₄⟩ (F₅.change hs''.extBut)⟩
    · cases r with
      | none => exact h₁
      | some u => exact h₁
  have F₄ : Fm H G₀ G₁ L' _ [] (ow₁ ++ (S, listObj [] 0) :: Z) h₂ := F₃.permX (perm3 ow₁ [(S, listObj [] 0)] Z)
  subst hS
  subst hL'
  refine codeAny_compStart_list (loop it ow₁ _ h₂ _ G₁ (Gle.refl _) hI F₄) ?_
  refine hw.self ds A G₁ { s with heap := h₂, toks := _ } it ow₁ _ _ hh.room (F₄.pre hh.base) hI fun it₂ ow₂ h₃ tk₃ G₃ st₃ hI₃ => ?_
  exact loop it₂ ow₂ _ h₃ tk₃ G₃ (st₃.gle (X := _) F₄.ownX) hI₃ (F₄.step st₃)
end
end Mine

set_option maxRecDepth 100000
set_option autoImplicit false
set_option linter.unusedVariables false
namespace Mine
open PySem PySem.W PyProof.Rows

section
variable {C : Cx} {k : Nat} {sc sc' : Scope} {ρ ρ₁ ρ₂ ρ' : Ctx} {P : Post}

def tyD : D → String
  | .str _ => "str"
  | .bytes _ => "bytes"
  | .dict _ => "dict"
  | _ => ""
theorem ty_rep {G : Gm} {s : Shared} {v : Value} {d : D} (h : Rep C G v d) (sub : ∀ b o, G b = some o → s.heap.get? b = some o) (hd : tyD d ≠ "") : s.TypeIs v (tyD d) ∧ ∀ a, v = .ref a → ∃ o, s.heap.get? a = some o ∧ o.dict = none := by
  cases h with
  | str x t => exact ⟨typeIs_str _ _ _, fun a e => nomatch e⟩
  | bytes x t => exact ⟨typeIs_bytes _ _ _, fun a e => nomatch e⟩
  | dict h1 h2 h3 h4 h5 =>
    obtain ⟨es, ep, hx, _⟩ := h3
    exact ⟨⟨_, sub _ _ h1, hx.1⟩, fun a e => by cases e; exact ⟨_, sub _ _ h1, hx.2.1⟩⟩
  | _ => exact absurd rfl hd

theorem mform {n : Nat} {es : List Expr} {env : Env} {ke : List (Str × Expr)} {pos : Pos} (hn : n + ke.length < 29) :
    methodCallForm n (es.map fun e => ((false, eval e env) : Bool × Sem Value)) (ke.map fun p => ((some p.1, do let v ← eval p.2 env; standAt pos; pure v) : Option Str × Sem Value)) = true := by
  unfold methodCallForm
  have h1 : (es.map fun e => ((false, eval e env) : Bool × Sem Value)).all (fun x => !x.1) = true := by rw [List.all_eq_true]; intro x hx; obtain ⟨e, _, rfl⟩ := List.mem_map.mp hx; rfl
  have h2 : (ke.map fun p => ((some p.1, do let v ← eval p.2 env; standAt pos; pure v) : Option Str × Sem Value)).all (fun x => x.1.isSome) = true := by rw [List.all_eq_true]; intro x hx; obtain ⟨e, _, rfl⟩ := List.mem_map.mp hx; rfl
  rw [h1, h2]
  simp only [Bool.true_and, decide_eq_true_eq]
  split <;> omega

theorem Ev_method {o : Expr} {name : Str} {id : String} {apos pos : Pos} {e₁ : Expr} {es : List Expr} {kws : List Keyword} {ke : List (Str × Expr)} {d₀ : D} {ds : List D} {kw : List (Str × D)} {r : Res} {j : Nat}
    (h0 : Ev C k sc ρ o (dat C d₀) ρ₁) (hs : Evs C k sc ρ₁ (e₁ :: es) (ds.map (dat C)) ρ₂) (hst : ∀ env, backTo pos (starEach (e₁ :: es) env) = (e₁ :: es).map fun e => (false, eval e env))
    (hk : ∀ env, backToKw pos (keywordEach kws env) = ke.map fun p => (some p.1, do let v ← eval p.2 env; standAt pos; pure v))
    (hks : EvsA C k sc ρ₂ pos (ke.map (·.2)) ((kw.map (·.2)).map (dat C)) ρ') (hnm : ke.map (·.1) = kw.map (·.1))
    (hbase : ∀ env, attributeBase o name env (eval o env) = eval o env) (hline : (apos.endLine == pos.line) = true) (hn : (e₁ :: es).length + kws.length + ke.length < 29)
    (hd : tyD d₀ ≠ "") (pa : PlainAttrs (tyD d₀)) (slot : Slot (tyD d₀) name id) (hty : typeOf (.builtin id) = pure (.type "method_descriptor"))
    (hfn : Fn C j (.builtin id) (d₀ :: ds) kw r) (hj : j ≤ k) : Ev C k sc ρ (.Call (.Attribute o name apos) (e₁ :: es) kws pos) r ρ' := by
  intro A env H G₀ G m X s Q E hh F hQ
  rw [arm_eval_Call, hbase]
  refine wpAny_bind (h0 A env H G₀ G m X s _ E hh F fun ov ow h₁ tk₁ G₁ le₁ hv F₁ => ?_)
  obtain ⟨rfl, hv⟩ := hv
  rw [List.nil_append] at F₁
  obtain ⟨hT, hnd⟩ := ty_rep (s := { s with heap := h₁, toks := tk₁ }) hv F₁.sub hd
  refine wpAny_bind (wpAny_standAt ?_)
  rw [hst, hk]
  have hpos : methodCallPos true o env apos pos = pure pos := by unfold methodCallPos; simp [hline]
  unfold methodCall
  rw [mform (n := (e₁ :: es).length + kws.length) hn]
  refine wpAny_bind (wpAny_holding (getMethod_builtin hT pa slot hty hnd ?_))
  refine wpAny_bind (wpAny_of_eq hpos ?_)
  have hplain : ((e₁ :: es).map fun e => ((false, eval e env) : Bool × Sem Value)).any (·.1) = false := by
    rw [List.any_eq_false]; intro x hx; obtain ⟨e, _, rfl⟩ := List.mem_map.mp hx; simp
  have hkw : (ke.map fun p => ((some p.1, do let v ← eval p.2 env; standAt pos; pure v) : Option Str × Sem Value)).any (·.1.isNone) = false := by
    rw [List.any_eq_false]; intro x hx; obtain ⟨e, _, rfl⟩ := List.mem_map.mp hx; simp
  refine callWith_builtin_kwB hplain hkw ?_
  refine evalArgs_kwB (by rw [List.all_eq_true]; intro x hx; obtain ⟨e, _, rfl⟩ := List.mem_map.mp hx; rfl) ?_
  refine hs A env H G₀ G₁ m X _ _ E hh F₁ fun vs ows h₂ tk₂ G₂ le₂ hr₂ F₂ => ?_
  obtain ⟨rfl, hq₂⟩ := hr₂.dats
  rw [List.nil_append] at F₂
  have em : List.map (fun x : Option Str × Sem Value => x.snd) (ke.map fun p => ((some p.1 : Option Str), (do let v ← eval p.2 env; standAt pos; pure v : Sem Value))) = (ke.map (·.2)).map fun e => (do let v ← eval e env; standAt pos; pure v : Sem Value) := by
    rw [List.map_map, List.map_map]; rfl
  rw [em]
  refine hks A env H G₀ G₂ m X _ _ E hh F₂ fun ks ows' h₃ tk₃ G₃ le₃ hr₃ F₃ => ?_
  obtain ⟨rfl, hq₃⟩ := hr₃.dats
  rw [List.nil_append] at F₃
  have en : List.filterMap (fun x : Option Str × Sem Value => x.fst) (ke.map fun p => ((some p.1 : Option Str), (do let v ← eval p.2 env; standAt pos; pure v : Sem Value))) = kw.map (·.1) := by
    rw [List.filterMap_map, ← hnm, ← List.filterMap_eq_map]; rfl
  rw [en]
  have hlen : ks.length = (kw.map (·.1)).length := by have := hq₃.length; simpa using this
  refine hfn A G₃ _ (ov :: vs) _ Q E (hh.room.le hj) ⟨hh.base.le.trans F₃.keep, F₃.gbase hh.base⟩ F₃.sub (.cons (hv.mono (le₂.trans le₃)) (hq₂.mono le₃)) ⟨?_, ?_⟩ fun v ow h₄ tk₄ G₄ gr hv ho new => ?_
  · rw [List.map_fst_zip (by omega)]
  · rw [List.map_snd_zip (by omega)]; exact hq₃
  · exact hQ v ow h₄ tk₄ G₄ (((le₁.trans le₂).trans le₃).trans (gr.gle F₃.ownX)) hv (F₃.grow gr ho new)

theorem Ev_items {o : Expr} {apos pos : Pos} {kvs : List (Key × D)} (h0 : Ev C k sc ρ o (dat C (.dict kvs)) ρ₁)
    (hbase : ∀ env, attributeBase o "items" env (eval o env) = eval o env) (hline : (apos.endLine == pos.line) = true) : Ev C k sc ρ (.Call (.Attribute o "items" apos) [] [] pos) (vw C kvs) ρ₁ := by
  intro A env H G₀ G m X s Q E hh F hQ
  rw [arm_eval_Call, hbase]
  refine wpAny_bind (h0 A env H G₀ G m X s _ E hh F fun ov ow h₁ tk₁ G₁ le₁ hv F₁ => ?_)
  obtain ⟨rfl, hv⟩ := hv
  rw [List.nil_append] at F₁
  obtain ⟨d, o', kvv, rfl, h2, h3, h4, h5⟩ := hv.dict_inv
  obtain ⟨hT, hnd⟩ := ty_rep (s := { s with heap := h₁, toks := tk₁ }) (d := .dict kvs) (Rep.dict' h2 h3 h4 h5) F₁.sub (fun e => by simp [tyD] at e)
  refine wpAny_bind (wpAny_standAt ?_)
  have hpos : methodCallPos true o env apos pos = pure pos := by unfold methodCallPos; simp [hline]
  show wpAny _ _ (methodCall o "items" apos pos env (.ref d) 0 [] []) _ _ _
  unfold methodCall
  rw [show methodCallForm 0 [] [] = true from rfl]
  refine wpAny_bind (wpAny_holding (getMethod_builtin hT PySem.F.plainAttrs_dict PySem.F.slot_dict_items PySem.F.type_dict_items hnd ?_))
  refine wpAny_bind (wpAny_of_eq hpos ?_)
  have hm : h₁.DictOf (keyKind C.prog C.w) d kvv := Heap.dictOf_iff.mpr ⟨o', F₁.sub _ _ h2, h4⟩
  refine method_meetsIn PySem.F.slot_dict_items PySem.F.entry_dict_items rfl (PySem.evalArgs_none ⟨rfl, hT, PySem.F.args_dict_items_1 _, _, meets_dict_items (keyKind C.prog C.w) d h3, ⟨kvv, hm⟩, ?_⟩)
  obtain ⟨gr, sub⟩ := grow_frozen F₁.ownX { cls := .type "dict_items", data := .fields #[.ref d] } rfl
  have le2 := gr.gle F₁.ownX
  obtain ⟨es, ep, x1, x2, x3, x4, x5⟩ := h4
  exact hQ _ [] _ _ _ (le₁.trans le2) ⟨_, d, kvv, ep, _, rfl, rfl, Gadd_self .., rfl, rfl, dictG.mono le2 ⟨o', es, h2, x1, x2, x3, x4, x5⟩, h5.mono le2⟩ (F₁.grow0 gr sub)

theorem Fn_startswith {x y : Str} : Fn C 0 (.builtin "str.startswith") [.str x, .str y] [] (dat C (.bool (0 + y.length ≤ x.length && Builtin.Str.subAt x y 0))) := by
  intro A G s vs kvs Q E hroom hle sub hvs hkw hQ
  obtain ⟨h1, h2⟩ := hkw
  cases kvs with
  | cons _ _ => simp at h1
  | nil =>
    cases hvs with
    | cons ha hb =>
      cases hb with
      | cons hb hc =>
        cases hc
        cases ha
        cases hb
        refine call_gives PySem.F.slot_str_startswith (typeIs_str _ _ _) PySem.F.entry_str_startswith (PySem.F.args_str_startswith_2 _ _) (gives_str_startswith _ _ _ _) ?_
        exact hQ _ [] s.heap s.toks G (Grow.refl _ _) ⟨rfl, .bool _⟩ (.nil sub) fun _ hp => (nomatch hp)

def dget (kvs : List (Key × D)) (k : Key) : Option D := (kvs.find? fun kv => kv.1 = k).map (·.2)
theorem RepKV.look {G : Gm} {kvv : List (Key × Value)} {kvs : List (Key × D)} (h : RepKV C G kvv kvs) (x : Key) : (valueAt kvv x = none ∧ dget kvs x = none) ∨ ∃ v d, valueAt kvv x = some v ∧ dget kvs x = some d ∧ Rep C G v d := by
  induction h with
  | nil => exact .inl ⟨rfl, rfl⟩
  | @cons k' v d vs ds h1 h2 ih =>
    unfold valueAt dget at *
    by_cases e : k' = x
    · exact .inr ⟨v, d, by simp [e], by simp [e], h1⟩
    · simpa [List.find?_cons, e] using ih
theorem Fn_get {kvs : List (Key × D)} {x : Key} : Fn C 0 (.builtin "dict.get") [.dict kvs, x.d] [] (dat C ((dget kvs x).getD .none)) := by
  intro A G s vs kvs' Q E hroom hle sub hvs hkw hQ
  obtain ⟨h1, h2⟩ := hkw
  cases kvs' with
  | cons _ _ => simp at h1
  | nil =>
    cases hvs with
    | cons ha hb =>
      cases hb with
      | cons hb hc =>
        cases hc
        obtain ⟨d, o', kvv, rfl, q2, q3, q4, q5⟩ := ha.dict_inv
        have hm : s.heap.DictOf (keyKind C.prog C.w) d kvv := Heap.dictOf_iff.mpr ⟨o', sub _ _ q2, q4⟩
        refine call_meetsIn PySem.F.slot_dict_get hm.typeIs PySem.F.entry_dict_get (PySem.F.args_dict_get_2 _ _) (meets_dict_get (keyKind C.prog C.w) d (key_rep hb) q3) ⟨_, hm.mapOf, ?_⟩
        rcases q5.look x with ⟨e1, e2⟩ | ⟨v, dd, e1, e2, e3⟩
        · rw [e1]
          exact hQ _ [] _ _ G (Grow.refl _ _) ⟨rfl, by rw [e2]; exact .none⟩ (.nil sub) fun _ hp => (nomatch hp)
        · rw [e1]
          exact hQ _ [] _ _ G (Grow.refl _ _) ⟨rfl, by rw [e2]; exact e3⟩ (.nil sub) fun _ hp => (nomatch hp)

/-! append -/
theorem Fm.take {H : Heap} {G₀ G : Gm} {L : Addr} {m : Str → Option Value} {x : Str} {r : Res} {X : List (Addr × Obj)} {h : Heap} (F : Fm H G₀ G L m ρ X h) (hp : Pick (x, r) ρ ρ') : ∃ v ow, m x = some v ∧ r.P G v ow ∧ Fm H G₀ G L m ρ' (ow ++ X) h := by
  obtain ⟨own, n, l, o, off⟩ := F.ex
  obtain ⟨v, ow, own', h1, h2, h3, pm⟩ := l.pick hp
  have q : (own' ++ (ow ++ X)).Perm (own ++ X) := by
    refine List.Perm.trans ?_ (pm.append_right X).symm
    rw [← List.append_assoc]
    exact List.Perm.append_right X List.perm_append_comm
  exact ⟨v, ow, h1, h2, ⟨own', n, h3, o.perm q, fun p hp => off p (q.mem_iff.mp hp)⟩, F.LG, F.LH, F.keep, F.ext⟩
theorem Es_append {x : Str} {p apos cpos spos : Pos} {e : Expr} {ds : List D} {d : D} (hp : Pick (x, lst C ds) ρ ρ₁) (hx : sc.names.lookup x = some .local) (hdb : (x == ("__debug__" : Str)) = false)
    (he : Ev C k sc ρ₁ e (dat C d) ρ₂) (hst : ∀ env, backTo cpos (starEach [e] env) = [(false, eval e env)]) (hline : (apos.endLine == cpos.line) = true) (hz : ds.length ≤ 1000) :
    Es C k sc ρ (.Expr (.Call (.Attribute (.Name x p) "append" apos) [e] [] cpos) spos) ((x, lst C (ds ++ [d])) :: ρ₂) := by
  intro A env H G₀ G m X s Q E hh F hQ
  refine wpAny_Expr ?_ (by unfold interactive; rw [hh.env.isSc, hh.env.kind]; rfl)
  rw [arm_eval_Call]
  show wpAny _ _ (eval (.Name x p) env >>= _) _ _ _
  obtain ⟨ov, ow, hm, hv, F₁⟩ := F.take hp
  obtain ⟨own, n', _⟩ := F.ex
  obtain ⟨a, vs, n, rfl, rfl, hrs⟩ := hv
  have hS : s.heap.get? a = some (listObj vs n) := F₁.ownX.at_ (a, _) (.head _)
  have hT : s.TypeIs (.ref a) "list" := ⟨_, hS, rfl⟩
  refine wpAny_bind (wpAny_Name (wpAny_loadName_local (by rw [hh.env.isSc]; exact hh.env.kind) (by rw [hh.env.kindOf]; exact hx) n' hm ?_) hdb)
  refine wpAny_bind (wpAny_standAt ?_)
  have hpos : methodCallPos true (.Name x p) env apos cpos = pure cpos := by unfold methodCallPos; simp [hline]
  rw [hst]
  show wpAny _ _ (methodCall (.Name x p) "append" apos cpos env (.ref a) 1 [(false, eval e env)] []) _ _ _
  unfold methodCall
  rw [show methodCallForm 1 [(false, eval e env)] [] = true from rfl]
  refine wpAny_bind (wpAny_holding (getMethod_builtin hT PySem.F.plainAttrs_list slot_list_append type_list_append (fun b q => by cases q; exact ⟨_, hS, rfl⟩) ?_))
  refine wpAny_bind (wpAny_of_eq hpos ?_)
  refine callWith_builtin_kwB rfl rfl (evalArgs_kwB rfl ?_)
  refine Calls.spliced_cons (he A env H G₀ G m _ _ _ E hh F₁ fun v ow₂ h₂ tk₂ G₂ le₂ hv F₂ => Calls.spliced_nil ?_)
  obtain ⟨rfl, hv⟩ := hv
  rw [List.nil_append] at F₂
  have hl := hrs.length
  refine evalAll_nil ?_
  refine wp_append (X := []) F₂.ownX (by omega) fun h₃ n₃ st₃ => ?_
  have F₃ : Fm H G₀ G₂ env.locals m ρ₂ ((a, listObj (vs ++ [v]) n₃) :: X) h₃ := by
    have := Fm.step (X := []) (by simpa using F₂) st₃
    simpa using this
  exact hQ m h₃ tk₂ G₂ le₂ (Fm.back (p := (x, lst C (ds ++ [d]))) (ow := [(a, listObj (vs ++ [v]) n₃)]) F₃ hm ⟨a, vs ++ [v], n₃, rfl, rfl, (hrs.mono le₂).snoc hv⟩)
end
end Mine

set_option maxRecDepth 100000
set_option autoImplicit false
set_option linter.unusedVariables false
namespace Mine
open PySem PySem.W PyProof.Rows Builtin

abbrev sUtf : Str := "utf-8"
abbrev sRep : Str := "replace"
abbrev sErr : Str := "errors"
namespace Dc
variable {b : Array UInt8} {c : UInt8} {cs : List UInt8} {t t1 t2 t3 : Tok} {x : Str} {n : Nat}
theorem args_decode (b : Array UInt8) (t t1 t2 : Tok) : argsOk "bytes.decode" ⟨[.bytes b t, .str sUtf t1], [(sErr, .str sRep t2)]⟩ := by
  unfold argsOk; kernel_rfl
theorem road_eq {id : String} : _codecs.decodeRoad id b (PySem.Str.ofString "utf-8") (some sRep) [] = (_codecs.runDecoder id _codecs.utf8Decoder (some sRep) true b 0 [] >>= fun r => mkStr ⟨r.1⟩) := by kernel_rfl
theorem entry_eq : «bytes.decode» ⟨[.bytes (c :: cs).toArray t, .str sUtf t1], [(sErr, .str sRep t2)]⟩ = (mkStr (PySem.Str.ofString "utf-8") >>= fun _ => mkStr sUtf >>= fun e => mkStr sRep >>= fun r => mkStr (PySem.Str.ofString "bytes.decode") >>= fun d =>
    call (.builtin "_codecs.decode.text") [.bytes (c :: cs).toArray t, e, r, d] >>= fun v => ret v) := by kernel_rfl
theorem empty_eq : «bytes.decode» ⟨[.bytes ([] : List UInt8).toArray t, .str sUtf t1], [(sErr, .str sRep t2)]⟩ = (rule "bytes.decode.empty" >>= fun _ => retStr Str.empty) := by kernel_rfl
def RunsTo (C : Cx) (b : Array UInt8) (x : Str) : Prop := ∀ (id : String) (A : Around) (E : Value → Shared → Prop) (s : Shared) (Q : Array Nat × Nat → Shared → Prop), A.handled = none → (∀ n h' tk, Hle s.heap h' → Q (x.cps, n) { s with heap := h', toks := tk }) →
  wpAny (model C.prog C.w) A (_codecs.runDecoder id _codecs.utf8Decoder (some sRep) true b 0 []) Q E s
theorem RunsTo.pure {C : Cx} (hd : ∀ id, _codecs.runDecoder id _codecs.utf8Decoder (some sRep) true b 0 [] = Pure.pure (x.cps, n)) : RunsTo C b x := fun id A E s Q hA h => by
  rw [hd id]; exact wpAny_pure (h n s.heap s.toks (Hle.refl _))
section
variable {C : Cx} {A : Around} {E : Value → Shared → Prop} {s : Shared}
theorem text {d : Str} {Q : Value → Shared → Prop} (hd : RunsTo C b x) (hA : A.handled = none) (hz : x.length ≤ sizeLine) (h : ∀ t' h' tk, Hle s.heap h' → Q (.str x t') { s with heap := h', toks := tk }) :
    wpAny (model C.prog C.w) A (call (.builtin "_codecs.decode.text") [.bytes b t, .str sUtf t1, .str sRep t2, .str d t3]) Q E s := by
  refine Calls.call_function_entry KBd.kind_text KBd.plain_text KBd.entry_text (KBd.args_text _ _ _ _) ?_
  show wpAny _ _ (Bytes.bytesLike _ (.bytes b t) >>= fun r => _) _ _ s
  refine wpAny_bind (wpAny_of_eq KBd.like_eq ?_)
  refine wpAny_bind (wpAny_of_eq KBd.held_eq ?_)
  show wpAny _ _ (_codecs.decodeRoad _ b (PySem.Str.ofString "utf-8") (some sRep) [] >>= fun v => _) _ _ s
  rw [road_eq]
  refine wpAny_bind (wpAny_bind (hd _ A.in1 _ s _ hA fun n h' tk le => ?_))
  exact wpAny_mkStr (wpAny_pure ⟨_, rfl, h _ _ _ le⟩) hz
theorem decode {Q : Value → Shared → Prop} (hd : RunsTo C (c :: cs).toArray x) (hA : A.handled = none) (hz : x.length ≤ sizeLine) (h : ∀ t' h' tk, Hle s.heap h' → Q (.str x t') { s with heap := h', toks := tk }) :
    wpAny (model C.prog C.w) A (call (.builtin "bytes.decode") [.bytes (c :: cs).toArray t, .str sUtf t1] [(sErr, .str sRep t2)]) Q E s := by
  refine wpAny_call (codeAny_call_builtin FB.slot_bytes_decode.plain FB.entry_bytes_decode (FB.slot_bytes_decode.check _ _ _ _ _ _ _ _ (typeIs_bytes _ _ _) (args_decode _ _ _ _) ?_))
  rw [entry_eq]
  refine wpAny_bind (wpAny_mkStr ?_ (by decide))
  refine wpAny_bind (wpAny_mkStr ?_ (by decide))
  refine wpAny_bind (wpAny_mkStr ?_ (by decide))
  refine wpAny_bind (wpAny_mkStr ?_ (by decide))
  exact wpAny_bind (text hd hA hz fun t' h' tk le => wpAny_pure (h t' h' tk le))
theorem decode0 {Q : Value → Shared → Prop} (h : ∀ t' tk, Q (.str Str.empty t') { s with toks := tk }) :
    wpAny (model C.prog C.w) A (call (.builtin "bytes.decode") [.bytes ([] : List UInt8).toArray t, .str sUtf t1] [(sErr, .str sRep t2)]) Q E s := by
  refine wpAny_call (codeAny_call_builtin FB.slot_bytes_decode.plain FB.entry_bytes_decode (FB.slot_bytes_decode.check _ _ _ _ _ _ _ _ (typeIs_bytes _ _ _) (args_decode _ _ _ _) ?_))
  rw [empty_eq]
  refine wpAny_bind (wpAny_rule ?_)
  exact wpAny_bind (wpAny_mkStr (wpAny_pure (h _ _)) (by decide))

abbrev bad3 : Array UInt8 := ([0x78, 0xff, 0x79] : List UInt8).toArray
theorem f0 : _codecs.utf8Decoder.find true bad3 0 = .text [0x78] 1 := by kernel_rfl
theorem f1 : _codecs.utf8Decoder.find true bad3 1 = .bad 2 "invalid start byte" false := by kernel_rfl
theorem f2 : _codecs.utf8Decoder.find true bad3 2 = .text [0x79] 3 := by kernel_rfl
theorem run_bad (hf : ∀ (id : String) (A : Around) (E : Value → Shared → Prop) (s : Shared) (Q : _codecs.Faults × Array Nat × Nat → Shared → Prop), A.handled = none → (∀ st h' tk, Hle s.heap h' → Q (st, #[0xfffd], 2) { s with heap := h', toks := tk }) →
      wpAny (model C.prog C.w) A (_codecs.decodeFault id {} (some sRep) _codecs.utf8Decoder.own _codecs.utf8Decoder.name bad3 1 2 "invalid start byte") Q E s) : RunsTo C bad3 ⟨#[0x78, 0xfffd, 0x79]⟩ := by
  intro id A E s Q hA h
  unfold _codecs.runDecoder
  dsimp only
  rw [Std.Legacy.Range.forIn_eq_forIn_range']
  have e : List.range' ([:bad3.size] : Std.Legacy.Range).start ([:bad3.size] : Std.Legacy.Range).size ([:bad3.size] : Std.Legacy.Range).step = [0, 1, 2] := by decide
  rw [e]
  simp only [List.forIn_cons, List.forIn_nil]
  refine wpAny_bind ?_
  refine wpAny_bind ?_
  rw [if_neg (by rw [sizeLine_eq]; decide), if_neg (by decide), f0]
  refine wpAny_pure ?_
  dsimp only
  refine wpAny_bind ?_
  rw [if_neg (by rw [sizeLine_eq]; decide), if_neg (by decide), f1]
  dsimp only
  rw [if_neg (by decide)]
  refine wpAny_bind (wpAny_rule ?_)
  refine wpAny_bind (hf id A E s _ hA fun st h' tk le => ?_)
  refine wpAny_pure ?_
  dsimp only
  refine wpAny_bind ?_
  rw [if_neg (by rw [sizeLine_eq]; decide), if_neg (by decide), f2]
  refine wpAny_pure ?_
  dsimp only
  exact wpAny_pure (wpAny_pure (h _ h' tk le))
end
end Dc
end Mine

set_option maxRecDepth 100000
set_option autoImplicit false
set_option linter.unusedVariables false
namespace Mine
open PySem PySem.W PyProof.Rows

section
variable {C : Cx} {k : Nat} {sc sc' : Scope} {ρ ρ₁ ρ₂ ρ' : Ctx} {P : Post}

/-! index -/
def tyS : D → String
  | .list _ => "list"
  | .tup _ => "tuple"
  | .dict _ => "dict"
  | _ => ""
theorem tyS_rep {G : Gm} {s : Shared} {v : Value} {d : D} (h : Rep C G v d) (sub : ∀ b o, G b = some o → s.heap.get? b = some o) (hd : tyS d ≠ "") : s.TypeIs v (tyS d) ∧ ∃ id, typeLookup (.type (tyS d)) "__getitem__" = pure (some (.builtin id)) := by
  cases h with
  | list h1 h2 h3 h4 h5 => exact ⟨⟨_, sub _ _ h1, h2⟩, _, PySem.F.slot_list_getitem.lookup⟩
  | tup h1 h2 h3 h4 h5 => exact ⟨⟨_, sub _ _ h1, h2⟩, _, PySem.F.slot_tuple_getitem.lookup⟩
  | dict h1 h2 h3 h4 h5 =>
    obtain ⟨es, ep, hx, _⟩ := h3
    exact ⟨⟨_, sub _ _ h1, hx.1⟩, _, slot_dict_getitem.lookup⟩
  | _ => exact absurd rfl hd
def Gt (C : Cx) (d e : D) (r : Res) : Prop :=
  ∀ (A : Around) (G : Gm) (s : Shared) (u v : Value) (Q : Value → Shared → Prop) (E : Value → Shared → Prop), (∀ b o, G b = some o → s.heap.get? b = some o) → Rep C G u d → Rep C G v e →
    (∀ w tk, r.P G w [] → Q w { s with toks := tk }) → wpAny (model C.prog C.w) A (getItem u v) Q E s
theorem Ev_index {value slice : Expr} {pos : Pos} {d e : D} {r : Res} (h1 : Ev C k sc ρ value (dat C d) ρ₁) (h2 : Ev C k sc ρ₁ slice (dat C e) ρ₂) (hg : Gt C d e r) (hd : tyS d ≠ "")
    (hsub : ∀ o i, subscripted slice false o i = operate [o, i] (getItem o i)) : Ev C k sc ρ (.Subscript value slice pos) r ρ₂ := fun A env H G₀ G m X s Q E hh F hQ => by
  rw [arm_eval_Subscript]
  refine wpAny_bind (h1 A env H G₀ G m X s _ E hh F fun u ow h₁ tk₁ G₁ le₁ hu F₁ => ?_)
  obtain ⟨rfl, hu⟩ := hu
  rw [List.nil_append] at F₁
  refine wpAny_bind (wpAny_holding (h2 A env H G₀ G₁ m X _ _ E hh F₁ fun v ow h₂ tk₂ G₂ le₂ hv F₂ => ?_))
  obtain ⟨rfl, hv⟩ := hv
  rw [List.nil_append] at F₂
  obtain ⟨hT, id, hl⟩ := tyS_rep (s := { s with heap := h₂, toks := tk₂ }) (hu.mono le₂) F₂.sub hd
  refine wpAny_bind (wpAny_standAt ?_)
  refine wpAny_bind ?_
  rw [getitemInPython_of_ne hT.not_modules]
  refine wpAny_bind (wpAny_specialOf hT hl ?_)
  refine wpAny_pure ?_
  rw [hsub]
  refine wpAny_bind (wpAny_operating (hg A G₂ _ u v _ E F₂.sub (hu.mono le₂) hv fun w tk hw => ?_))
  refine wpAny_bind (wpAny_letTemporaryGo (wpAny_pure ?_))
  exact hQ w [] h₂ tk G₂ (le₁.trans le₂) hw F₂
theorem Gt_list {ds : List D} {i : Int} {d : D} (h0 : 0 ≤ i) (h1 : i < 2 ^ 63) (h : ds[i.toNat]? = some d) : Gt C (.list ds) (.int i) (dat C d) := by
  intro A G s u v Q E sub hu hv hQ
  obtain ⟨a, o, vs, n, rfl, q1, q2, q3, q4⟩ := hu.list_inv
  cases hv
  obtain ⟨x, hx, hr⟩ := q4.at h
  exact wpAny_getItem_list ⟨o, sub _ _ q1, q2, n, q3⟩ h0 h1 (by simpa using hx) (hQ x s.toks ⟨rfl, hr⟩)
theorem Gt_tup {ds : List D} {i : Int} {j : Nat} {d : D} (h0 : -(2 ^ 63) ≤ i) (h1 : i < 2 ^ 63) (hj : seqIndex? i ds.length = some j) (h : ds[j]? = some d) : Gt C (.tup ds) (.int i) (dat C d) := by
  intro A G s u v Q E sub hu hv hQ
  obtain ⟨a, o, vs, n, rfl, q1, q2, q3, q4⟩ := hu.tup_inv
  cases hv
  obtain ⟨x, hx, hr⟩ := q4.at h
  have hl := q4.length
  exact PyProof.Rows.getItem_tuple (items := vs) ⟨o, sub _ _ q1, q2, n, q3⟩ h0 h1 (by rw [← hj]; congr 1) (by simpa using hx) (hQ x s.toks ⟨rfl, hr⟩)
theorem Gt_dict {kvs : List (Key × D)} {x : Key} {d : D} (h : dget kvs x = some d) : Gt C (.dict kvs) x.d (dat C d) := by
  intro A G s u v Q E sub hu hv hQ
  obtain ⟨a, o, kvv, rfl, q2, q3, q4, q5⟩ := hu.dict_inv
  have hm : s.heap.DictOf (keyKind C.prog C.w) a kvv := Heap.dictOf_iff.mpr ⟨o, sub _ _ q2, q4⟩
  rcases q5.look x with ⟨_, e2⟩ | ⟨w, dd, e1, e2, e3⟩
  · rw [h] at e2; cases e2
  · rw [h] at e2; cases e2
    exact wpAny_getItem_of (knd := keyKind C.prog C.w) (key_rep hv) hm.mapOf e1 (hQ w _ ⟨rfl, e3⟩)

/-! slices -/
def EvP (C : Cx) (k : Nat) (sc : Scope) (ρ : Ctx) (x : Option Expr) (p : Option Int) : Prop :=
  ∀ (A : Around) (env : Env) (H : Heap) (G₀ G : Gm) (m : Str → Option Value) (X : List (Addr × Obj)) (s : Shared) (Q : Value → Shared → Prop) (E : Value → Shared → Prop),
    Here C k sc A env H G₀ → Fm H G₀ G env.locals m ρ X s.heap →
    (∀ v h' tk G', Gle G G' → IsPart v p → Fm H G₀ G' env.locals m ρ X h' → Q v { s with heap := h', toks := tk }) →
    wpAny (model C.prog C.w) A (evalPart x env) Q E s
theorem EvP_none : EvP C k sc ρ none none := fun A env H G₀ G m X s Q E hh F hQ => by
  rw [evalPart_none]; exact wpAny_pure (hQ .none s.heap s.toks G (Gle.refl G) .none F)
theorem EvP_some {e : Expr} {i : Int} (h : Ev C k sc ρ e (dat C (.int i)) ρ) : EvP C k sc ρ (some e) (some i) := fun A env H G₀ G m X s Q E hh F hQ => by
  rw [evalPart_some]
  refine h A env H G₀ G m X s _ E hh F fun v ow h' tk G' le hv F' => ?_
  obtain ⟨rfl, hv⟩ := hv
  cases hv
  exact hQ _ h' tk G' le (.int i _) F'
def pickD (ds : List D) (lo hi st : Option Int) : List D :=
  (sliceRange (sliceBounds lo hi st ds.length).1 (sliceBounds lo hi st ds.length).2.1 (sliceBounds lo hi st ds.length).2.2).filterMap (ds[·]?)
theorem reps_pick {G : Gm} {vs : List Value} {ds : List D} (h : Reps C G vs ds) : ∀ idx : List Nat, Reps C G (idx.filterMap (vs[·]?)) (idx.filterMap (ds[·]?))
  | [] => .nil
  | i :: r => by
    have ih := reps_pick h r
    cases e : ds[i]? with
    | none =>
      have e2 : vs[i]? = none := by have := h.length; rw [List.getElem?_eq_none_iff] at e ⊢; omega
      simpa [List.filterMap_cons, e, e2] using ih
    | some d =>
      obtain ⟨v, e2, hr⟩ := h.at e
      simpa [List.filterMap_cons, e, e2] using Reps.cons hr ih
theorem Ev_slice {value : Expr} {lower upper step : Option Expr} {p pos : Pos} {ds : List D} {lo hi st : Option Int} (h1 : Ev C k sc ρ value (dat C (.list ds)) ρ₁) (hl : EvP C k sc ρ₁ lower lo) (hu : EvP C k sc ρ₁ upper hi) (hst : EvP C k sc ρ₁ step st) (h0 : st ≠ some 0) (hz : ds.length ≤ 1000) :
    Ev C k sc ρ (.Subscript value (.Slice lower upper step p) pos) (dat C (.list (pickD ds lo hi st))) ρ₁ := fun A env H G₀ G m X s Q E hh F hQ => by
  rw [arm_eval_Subscript]
  refine wpAny_bind (h1 A env H G₀ G m X s _ E hh F fun u ow h₁ tk₁ G₁ le₁ hu' F₁ => ?_)
  obtain ⟨rfl, hu'⟩ := hu'
  rw [List.nil_append] at F₁
  refine wpAny_bind (wpAny_holding (wpAny_Slice ?_))
  refine hl A env H G₀ G₁ m X _ _ E hh F₁ fun vl h₂ tk₂ G₂ le₂ pl F₂ => ?_
  refine hu A env H G₀ G₂ m X _ _ E hh F₂ fun vu h₃ tk₃ G₃ le₃ pu F₃ => ?_
  refine hst A env H G₀ G₃ m X _ _ E hh F₃ fun vs h₄ tk₄ G₄ le₄ ps F₄ => ?_
  have hr := ((hu'.mono le₂).mono le₃).mono le₄
  obtain ⟨a, o, items, n, rfl, q1, q2, q3, q4⟩ := hr.list_inv
  have hsl : (h₄.push { cls := .type "slice", data := .fields #[vl, vu, vs] }).IsSliceOf h₄.objs.size vl vu vs := ⟨_, Heap.get?_push_size _ rfl, rfl, rfl⟩
  have hla : (h₄.push { cls := .type "slice", data := .fields #[vl, vu, vs] }).get? a = some o := Heap.get?_push_of_some _ (F₄.sub _ _ q1)
  have hlen := q4.length
  obtain ⟨hT, id, hlk⟩ : Shared.TypeIs { s with heap := h₄.push { cls := .type "slice", data := .fields #[vl, vu, vs] }, toks := tk₄ } (.ref a) "list" ∧ ∃ id, typeLookup (.type "list") "__getitem__" = pure (some (.builtin id)) := ⟨⟨o, hla, q2⟩, _, PySem.F.slot_list_getitem.lookup⟩
  refine wpAny_bind (wpAny_standAt ?_)
  refine wpAny_bind ?_
  rw [getitemInPython_of_ne hT.not_modules]
  refine wpAny_bind (wpAny_specialOf hT hlk ?_)
  refine wpAny_pure ?_
  have p1 := grow_held F₄.ownX { cls := .type "slice", data := .fields #[vl, vu, vs] } rfl
  have fin : wpAny (model C.prog C.w) A (getItem (.ref a) (.ref h₄.objs.size)) (fun r s₁ => wpAny (model C.prog C.w) A (letTemporaryGo value (.ref a) r >>= fun _ => pure r) Q E s₁) E { s with heap := h₄.push { cls := .type "slice", data := .fields #[vl, vu, vs] }, toks := tk₄ } := by
    refine wpAny_getItem_list_slice ⟨o, hla, q2, n, q3⟩ hsl pl pu ps h0 ?_ (by rw [sizeLine_eq]; simp at hlen; omega)
    refine wpAny_bind (wpAny_letTemporaryGo (wpAny_pure ?_))
    have F₅ := F₄.grow0 p1.1 fun b ob e => Heap.get?_push_of_some _ (F₄.sub _ _ e)
    obtain ⟨gr, sub⟩ := grow_frozen F₅.ownX { cls := .type "list", data := .seq (slicePick items lo hi st) } rfl
    have le5 := gr.gle F₅.ownX
    refine hQ _ [] _ _ _ ((((le₁.trans le₂).trans le₃).trans le₄).trans le5) ⟨rfl, Rep.list' (Gadd_self ..) rfl rfl ?_⟩ (F₅.grow0 gr sub)
    have := reps_pick (q4.mono le5) (sliceRange (sliceBounds lo hi st ds.length).1 (sliceBounds lo hi st ds.length).2.1 (sliceBounds lo hi st ds.length).2.2)
    have hsz : items.size = ds.length := by simpa using hlen
    have e : (slicePick items lo hi st).toList = (sliceRange (sliceBounds lo hi st ds.length).1 (sliceBounds lo hi st ds.length).2.1 (sliceBounds lo hi st ds.length).2.2).filterMap (items.toList[·]?) := by
      unfold slicePick
      rw [hsz]
      simp
    rw [e]
    exact this
  cases step with
  | none => exact wpAny_bind (wpAny_operating fin)
  | some e => exact wpAny_bind (wpAny_operating fin)

/-! arithmetic -/
theorem Ev_bin {l r : Expr} {op : Operator} {pos : Pos} {d e d' : D} (h1 : Ev C k sc ρ l (dat C d) ρ₁) (h2 : Ev C k sc ρ₁ r (dat C e) ρ₂)
    (hb : ∀ (A : Around) (G : Gm) (X : List (Addr × Obj)) (s : Shared) (u v : Value) (Q : Value → Shared → Prop) (E : Value → Shared → Prop), Own G X s.heap → Rep C G u d → Rep C G v e →
      (∀ w h' tk G', Grow G s.heap G' h' → (∀ b o, G' b = some o → h'.get? b = some o) → Rep C G' w d' → Q w { s with heap := h', toks := tk }) → wpAny (model C.prog C.w) A (binaryOp op u v) Q E s) :
    Ev C k sc ρ (.BinOp l op r pos) (dat C d') ρ₂ := fun A env H G₀ G m X s Q E hh F hQ => by
  refine wpAny_BinOp (h1 A env H G₀ G m X s _ E hh F fun u ow h₁ tk₁ G₁ le₁ hu F₁ => ?_)
  obtain ⟨rfl, hu⟩ := hu
  rw [List.nil_append] at F₁
  refine h2 A env H G₀ G₁ m X _ _ E hh F₁ fun v ow h₂ tk₂ G₂ le₂ hv F₂ => ?_
  obtain ⟨rfl, hv⟩ := hv
  rw [List.nil_append] at F₂
  refine hb A G₂ X _ u v Q E F₂.ownX (hu.mono le₂) hv fun w h₃ tk₃ G₃ gr sub hw => ?_
  exact hQ w [] h₃ tk₃ G₃ ((le₁.trans le₂).trans (gr.gle F₂.ownX)) ⟨rfl, hw⟩ (F₂.grow0 gr sub)
theorem Ev_add {l r : Expr} {pos : Pos} {a b : Int} (h1 : Ev C k sc ρ l (dat C (.int a)) ρ₁) (h2 : Ev C k sc ρ₁ r (dat C (.int b)) ρ₂) : Ev C k sc ρ (.BinOp l .Add r pos) (dat C (.int (a + b))) ρ₂ :=
  Ev_bin h1 h2 fun A G X s u v Q E o hu hv hQ => by
    cases hu; cases hv
    exact wpAny_add_int (hQ _ s.heap _ G (Grow.refl _ _) o.sub (.int _ _))
theorem Ev_fdiv {l r : Expr} {pos : Pos} {a b : Int} (h1 : Ev C k sc ρ l (dat C (.int a)) ρ₁) (h2 : Ev C k sc ρ₁ r (dat C (.int b)) ρ₂) (hb : b ≠ 0) (hs : b.natAbs < 1073741824) : Ev C k sc ρ (.BinOp l .FloorDiv r pos) (dat C (.int (a.fdiv b))) ρ₂ :=
  Ev_bin h1 h2 fun A G X s u v Q E o hu hv hQ => by
    cases hu; cases hv
    exact floordiv_int hb (hQ _ s.heap _ G (Grow.refl _ _) o.sub (.int _ _)) (.inl (PyProof.noPylong_small hs))
theorem Ev_mod {l r : Expr} {pos : Pos} {a b : Int} (h1 : Ev C k sc ρ l (dat C (.int a)) ρ₁) (h2 : Ev C k sc ρ₁ r (dat C (.int b)) ρ₂) (hb : b ≠ 0) : Ev C k sc ρ (.BinOp l .Mod r pos) (dat C (.int (a.fmod b))) ρ₂ :=
  Ev_bin h1 h2 fun A G X s u v Q E o hu hv hQ => by
    cases hu; cases hv
    exact mod_int' hb (hQ _ s.heap _ G (Grow.refl _ _) o.sub (.int _ _))
theorem Ev_addl {l r : Expr} {pos : Pos} {xs ys : List D} (h1 : Ev C k sc ρ l (dat C (.list xs)) ρ₁) (h2 : Ev C k sc ρ₁ r (dat C (.list ys)) ρ₂) (hz : xs.length + ys.length ≤ 1000) : Ev C k sc ρ (.BinOp l .Add r pos) (dat C (.list (xs ++ ys))) ρ₂ :=
  Ev_bin h1 h2 fun A G X s u v Q E o hu hv hQ => by
    obtain ⟨a, ob, vs, n, rfl, q1, q2, q3, q4⟩ := hu.list_inv
    obtain ⟨b, ob2, ws, n2, rfl, p1, p2, p3, p4⟩ := hv.list_inv
    have l1 := q4.length
    have l2 := p4.length
    have e1 : s.heap.get? a = some ob := o.sub _ _ q1
    have e2 : s.heap.get? b = some ob2 := o.sub _ _ p1
    obtain ⟨gr, sub⟩ := grow_frozen o { cls := .type "list", data := .seq (vs ++ ws) } rfl
    have le := gr.gle o
    obtain ⟨cls, dd, data, sl⟩ := ob
    obtain ⟨cls2, dd2, data2, sl2⟩ := ob2
    simp only at q2 q3 p2 p3
    subst q2 q3 p2 p3
    refine concat_meets ⟨_, e1, rfl⟩ ⟨_, e2, rfl⟩ noFill_list_add seq_list_add PySem.F.slot_list_add PySem.F.entry_list_add (PySem.F.args_list_add_2 _ _) (list_addW a b vs ws n n2 dd dd2 sl sl2 (by rw [sizeLine_eq]; simp at l1 l2; omega)) ⟨e1, e2, ?_⟩
    exact hQ _ _ _ _ gr sub (Rep.list' (Gadd_self ..) rfl rfl (by simpa using (q4.mono le).append (p4.mono le)))
end
end Mine

set_option maxRecDepth 100000
set_option autoImplicit false
set_option linter.unusedVariables false
namespace Mine
open PySem PySem.W PyProof.Rows

section
variable {C : Cx} {k : Nat} {sc sc' : Scope} {ρ ρ₁ ρ₂ ρ' : Ctx} {P : Post} {A : Around} {E : Value → Shared → Prop} {s : Shared}

theorem RepKV.merge {G : Gm} {more : List (Key × Value)} {ds : List (Key × D)} (hm : RepKV C G more ds) : ∀ {kvv : List (Key × Value)} {kvs : List (Key × D)}, RepKV C G kvv kvs → RepKV C G (merged kvv more) (dsets kvs ds) := by
  induction hm with
  | nil => intro kvv kvs h; exact h
  | @cons x v d vs ds hv hr ih => intro kvv kvs h; exact ih (h.set (k := x) hv)

theorem put_pairs {d : Addr} {kvs : List (Key × Value)} {x : Key} {key v : Value} {Q : Unit → Shared → Prop} (hkey : isKey x key = true) (hm : s.heap.DictOf (keyKind C.prog C.w) d kvs)
    (hQ : ∀ h', h'.DictOf (keyKind C.prog C.w) d (stored kvs x v) → Heap.SameBut d s.heap h' → Q () { s with heap := h' }) (hsz : kvs.length ≤ 2000) :
    wpAny (model C.prog C.w) A (dictPut d (hashKey C.w x) key v) Q E s := by
  obtain ⟨o, es, ep, ho, hc, hd, hk, hp, hn⟩ := hm
  have hes : es.size ≤ sizeLine := by
    have e1 := hp.length
    have e2 : es.toList.length = es.size := by simp
    rw [sizeLine_eq]; omega
  unfold dictPut
  refine wpAny_bind (wpAny_dictFind_of (knd := keyKind C.prog C.w) hkey ho hd hk ?_)
  have hidx : (es.findIdx? fun e => (keyKind C.prog C.w).is x e.key) = kvs.findIdx? fun kv => decide (kv.1 = x) := by
    rw [← hp.findIdx x]; obtain ⟨l⟩ := es; simp
  cases hi : es.findIdx? fun e => (keyKind C.prog C.w).is x e.key with
  | some i =>
    have hl : (es.toList.findIdx? fun e => (keyKind C.prog C.w).is x e.key) = some i := by rw [← hi]; obtain ⟨l⟩ := es; simp
    refine wpAny_updateDict ho hd (hQ _ ⟨_, _, ep, Heap.get?_update_self _ ho (Obj.isFreed_of_dict (Obj.data_mapDict hd _)), hc.mapDict _, Obj.data_mapDict hd _, hk.modify _ _, ?_, ?_⟩ (Heap.SameBut.update ..))
    · rw [stored, if_pos (any_of_findIdx_some (hidx ▸ hi))]
      have := hp.modify hn hl v
      obtain ⟨l⟩ := es
      simpa using this
    · rw [stored, if_pos (any_of_findIdx_some (hidx ▸ hi)), keys_map_store]; exact hn
  | none =>
    have hnot : x ∉ kvs.map (·.1) := not_mem_of_findIdx_none (hidx ▸ hi)
    have hany : ¬ (kvs.any fun kv => decide (kv.1 = x)) = true := by
      rw [List.any_eq_true]; rintro ⟨kv, hkv, he⟩
      exact hnot (List.mem_map.mpr ⟨kv, hkv, of_decide_eq_true he⟩)
    refine wpAny_updateDictKeys (hz := hes) ho hd (hQ _ ⟨_, _, ep + 1, Heap.get?_update_self _ ho (Obj.isFreed_of_dict (Obj.data_mapDictKeys hd _)), hc.mapDictKeys _, Obj.data_mapDictKeys hd _, hk.push (knd := keyKind C.prog C.w) hkey _, ?_, ?_⟩ (Heap.SameBut.update ..))
    · rw [stored, if_neg hany]
      have := hp.append (knd := keyKind C.prog C.w) hkey (hashKey C.w x) v
      obtain ⟨l⟩ := es
      simpa using this
    · rw [stored, if_neg hany, List.map_append, List.nodup_append]
      refine ⟨hn, by simp, ?_⟩
      intro a ha b hb
      simp only [List.map_cons, List.map_nil, List.mem_singleton] at hb
      subst hb
      exact fun e => hnot (e ▸ ha)

/-- a plain dict merged into one that is held -/
theorem wp_merge {d a : Addr} {kvs more : List (Key × Value)} {Q : Unit → Shared → Prop} (hda : d ≠ a) (haS : (a == sysModules) = false) (hd : s.heap.DictOf (keyKind C.prog C.w) d kvs) (ha : s.heap.DictOf (keyKind C.prog C.w) a more)
    (hz : kvs.length + more.length ≤ 2000) (hQ : ∀ h' tk, h'.DictOf (keyKind C.prog C.w) d (merged kvs more) → Heap.SameBut d s.heap h' → Q () { s with heap := h', toks := tk }) :
    wpAny (model C.prog C.w) A (mergeMapping d (.ref a) false) Q E s := by
  obtain ⟨oa, es, ep, hoa, hca, hdat, hka, hpa, hna⟩ := id ha
  obtain ⟨od, esd, epd, hod, hcd, hdd, hkd, hpd, hnd⟩ := id hd
  have hT : s.TypeIs (.ref a) "dict" := ha.typeIs
  have hl := hpa.length
  unfold mergeMapping
  refine wpAny_bind (wpAny_isInstance hT isSubtype_dict_dict ?_)
  simp only [if_true]
  refine wpAny_bind (wpAny_specialOf hT PySem.F.slot_dict_iter.lookup ?_)
  refine wpAny_bind (wpAny_pure ?_)
  simp only [beq_self_eq_true]
  rw [if_neg (by rw [haS]; exact Bool.false_ne_true)]
  refine wpAny_bind (wpAny_dictEntries hod hdd ?_)
  have body : ∀ (F : Nat → PUnit → Sem (ForInStep PUnit)),
      (∀ (i : Nat) (kvs' : List (Key × Value)) (x : Key) (v : Value) (h' : Heap) (R : ForInStep PUnit → Shared → Prop) (hd' : h'.DictOf (keyKind C.prog C.w) d kvs'), kvs'.length ≤ 2000 → more[i]? = some (x, v) → h'.get? a = some oa →
        (∀ h'', h''.DictOf (keyKind C.prog C.w) d (stored kvs' x v) → Heap.SameBut d h' h'' → R (.yield ⟨⟩) { s with heap := h'' }) → wpAny (model C.prog C.w) A (F i ⟨⟩) R E { s with heap := h' }) →
      wpAny (model C.prog C.w) A (forIn (List.range es.size) PUnit.unit F >>= fun _ => pure ()) Q E s := by
    intro F hF
    refine wpAny_bind ?_
    have key : ∀ (n i : Nat) (kvs' : List (Key × Value)) (h' : Heap), i + n = es.size → h'.DictOf (keyKind C.prog C.w) d kvs' → h'.get? a = some oa → Heap.SameBut d s.heap h' → kvs'.length + n ≤ 2000 → merged kvs' (more.drop i) = merged kvs more →
        wpAny (model C.prog C.w) A (forIn (List.range' i n) PUnit.unit F) (fun _ s' => wpAny (model C.prog C.w) A (pure ()) Q E s') E { s with heap := h' } := by
      intro n
      induction n with
      | zero =>
        intro i kvs' h' hi hd' ha' hs' hz' hm
        have : more.drop i = [] := by rw [List.drop_eq_nil_iff]; simp at hl; omega
        rw [this] at hm
        exact wpAny_pure (wpAny_pure (hQ h' s.toks (hm ▸ hd') hs'))
      | succ n ih =>
        intro i kvs' h' hi hd' ha' hs' hz' hm
        have hlm : i < more.length := by simp at hl; omega
        rw [List.range'_succ, List.forIn_cons]
        obtain ⟨x, v⟩ : ∃ kv, more[i]? = some kv := ⟨more[i], List.getElem?_eq_getElem hlm⟩
        obtain ⟨x, w⟩ := x
        refine wpAny_bind (hF i kvs' x w h' _ hd' (by omega) v ha' fun h'' hd'' hs'' => ?_)
        have ed : more.drop i = (x, w) :: more.drop (i + 1) := by
          rw [List.drop_eq_getElem_cons hlm]
          congr 1
          rw [List.getElem?_eq_getElem hlm] at v
          exact Option.some.inj v
        rw [ed] at hm
        exact ih (i + 1) (stored kvs' x w) h'' (by omega) hd'' (hs''.extBut _ _ (Ne.symm hda) ha') (hs'.trans hs'') (by have := stored_length_le kvs' x w; omega) hm
    have := key es.size 0 kvs s.heap (by omega) hd hoa (Heap.SameBut.refl _ _) (by simp at hl; omega) rfl
    rw [List.range_eq_range']
    exact this
  have step : ∀ (i : Nat) (kvs' : List (Key × Value)) (x : Key) (v : Value) (h' : Heap), h'.DictOf (keyKind C.prog C.w) d kvs' → kvs'.length ≤ 2000 → more[i]? = some (x, v) →
      ∃ e, es[i]? = some e ∧ ∀ R : PUnit → Shared → Prop, (∀ h'', h''.DictOf (keyKind C.prog C.w) d (stored kvs' x v) → Heap.SameBut d h' h'' → R ⟨⟩ { s with heap := h'' }) → wpAny (model C.prog C.w) A (dictPut d e.hash e.key e.val) R E { s with heap := h' } := by
    intro i kvs' x v h' hd' hz' hkv
    have hlm : i < more.length := (List.getElem?_eq_some_iff.mp hkv).1
    have hlt : i < es.size := by simp at hl; omega
    obtain ⟨hkey, hval⟩ := hpa.get? (e := es[i]) (by simp [hlt]) hkv
    obtain ⟨x', hx', hh⟩ := hka es[i] (Array.getElem_mem hlt)
    have ex : x' = x := (keyKind C.prog C.w).inj _ _ _ hx' hkey
    subst ex
    refine ⟨es[i], Array.getElem?_eq_getElem hlt, fun R hR => ?_⟩
    rw [hh, hval]
    exact put_pairs hkey hd' (fun h'' hd'' hs'' => hR h'' hd'' hs'') hz'
  have tail : ∀ {α : Type} (pre : Sem α) (k : α → Sem Unit), wpAny (model C.prog C.w) A pre (fun x s' => s' = s ∧ wpAny (model C.prog C.w) A (k x) Q E s) E s → wpAny (model C.prog C.w) A (pre >>= k) Q E s := by
    intro α pre k h
    exact wpAny_bind (wpAny_mono h (fun x s' hx => by obtain ⟨rfl, hx⟩ := hx; exact hx) fun _ _ e => e)
  split
  · refine wpAny_bind (wpAny_dictEntries hoa hdat ?_)
    refine tail _ _ ?_
    rw [← Array.forIn_toList, forIn_yield_id PUnit.unit (fun e he c => ?_)]
    · refine wpAny_pure ⟨rfl, ?_⟩
      refine wpAny_bind (wpAny_dictEntries hoa hdat ?_)
      refine wpAny_bind (wpAny_dictEpoch hoa hdat ?_)
      refine body _ fun i kvs' x v h' R hd' hz' hkv ha' hR => ?_
      refine wpAny_bind (wpAny_dictEntries ha' hdat ?_)
      obtain ⟨e, he, hw⟩ := step i kvs' x v h' hd' hz' hkv
      rw [he]
      refine wpAny_bind (wpAny_holding (hw _ fun h'' hd'' hs'' => ?_))
      refine wpAny_bind (wpAny_dictEpoch (hs''.extBut _ _ (Ne.symm hda) ha') hdat ?_)
      rw [if_neg (by simp)]
      exact wpAny_pure (hR h'' hd'' hs'')
    · obtain ⟨x', hx', hh⟩ := hka e (by simpa using he)
      rcases isKey_shape hx' with ⟨y, t, _, ey⟩ | ⟨y, t, _, ey⟩ <;> rw [ey]
  · refine wpAny_bind (wpAny_dictEntries hoa hdat ?_)
    refine wpAny_bind (wpAny_dictEpoch hoa hdat ?_)
    refine body _ fun i kvs' x v h' R hd' hz' hkv ha' hR => ?_
    refine wpAny_bind (wpAny_dictEntries ha' hdat ?_)
    obtain ⟨e, he, hw⟩ := step i kvs' x v h' hd' hz' hkv
    rw [he]
    refine wpAny_bind (wpAny_holding (hw _ fun h'' hd'' hs'' => ?_))
    refine wpAny_bind (wpAny_dictEpoch (hs''.extBut _ _ (Ne.symm hda) ha') hdat ?_)
    rw [if_neg (by simp)]
    exact wpAny_pure (hR h'' hd'' hs'')
end
end Mine

set_option maxRecDepth 100000
set_option autoImplicit false
set_option linter.unusedVariables false
namespace Mine
open PySem PySem.W PyProof.Rows

section
variable {C : Cx} {k : Nat} {sc sc' : Scope} {ρ ρ₁ ρ₂ ρ' : Ctx} {P : Post} {A : Around} {E : Value → Shared → Prop} {s : Shared}

theorem Ev_Dict0 {pos : Pos} : Ev C k sc ρ (.Dict [] [] pos) (dct C []) ρ := fun A env H G₀ G m X s Q E hh F hQ => by
  refine wpAny_Dict_empty ?_
  obtain ⟨gr, ow⟩ := grow_held F.ownX dobj0 rfl
  exact hQ _ _ _ s.toks G (Gle.refl G) ⟨_, _, [], rfl, rfl, notMods (hh.base.le.trans F.keep) (get?_size _), dobj0_is, .nil⟩ (F.grow gr ow fun p hp => by rw [List.mem_singleton.mp hp]; exact get?_size _)

theorem wp_disp1 {m0 k1 v1 : Sem Value} {Q : Value → Shared → Prop}
    (h : wpAny (model C.prog C.w) A m0 (fun m s₁ => wpAny (model C.prog C.w) A (mergeMapping s.heap.objs.size m false) (fun _ s₂ => wpAny (model C.prog C.w) A (subDict [(k1, v1)]) (fun sub s₃ =>
      wpAny (model C.prog C.w) A (mergeMapping s.heap.objs.size (.ref sub) false) (fun _ s₄ => Q (.ref s.heap.objs.size) s₄) (fun _ _ => False) s₃) E s₂) (fun _ _ => False) s₁) E { s with heap := s.heap.push dobj0 }) :
    wpAny (model C.prog C.w) A (dictDisplay [(none, m0), (some k1, v1)]) Q E s := by
  unfold dictDisplay
  dsimp only
  refine wpAny_bind ?_
  simp only [List.forIn_cons, List.forIn_nil]
  refine wpAny_bind ?_
  refine wpAny_bind ?_
  rw [if_pos (show ([] : List (Sem Value × Sem Value)).isEmpty = true from rfl)]
  refine wpAny_pure ?_
  dsimp only
  refine wpAny_bind (wpAny_alloc ?_)
  refine wpAny_bind (wpAny_holding (wpAny_mono h (fun m s₁ h₁ => ?_) fun _ _ e => e))
  refine wpAny_bind (wpAny_onRaise (wpAny_tryCatch (wpAny_onRaise (wpAny_holding (wpAny_mono h₁ (fun _ s₂ h₂ => ?_) fun _ _ e => e.elim)))))
  refine wpAny_pure ?_
  dsimp only
  refine wpAny_bind ?_
  rw [if_neg (by simp)]
  refine wpAny_pure ?_
  dsimp only
  refine wpAny_pure ?_
  dsimp only
  refine wpAny_bind ?_
  rw [if_neg (by simp)]
  refine wpAny_bind (wpAny_holding (wpAny_mono h₂ (fun sub s₃ h₃ => ?_) fun _ _ e => e))
  refine wpAny_bind (wpAny_onRaise (wpAny_holding (wpAny_mono h₃ (fun _ s₄ h₄ => ?_) fun _ _ e => e.elim)))
  exact wpAny_pure (wpAny_pure h₄)
theorem wp_disp2 {m0 k1 v1 k2 v2 : Sem Value} {Q : Value → Shared → Prop}
    (h : wpAny (model C.prog C.w) A m0 (fun m s₁ => wpAny (model C.prog C.w) A (mergeMapping s.heap.objs.size m false) (fun _ s₂ => wpAny (model C.prog C.w) A (subDict [(k1, v1), (k2, v2)]) (fun sub s₃ =>
      wpAny (model C.prog C.w) A (mergeMapping s.heap.objs.size (.ref sub) false) (fun _ s₄ => Q (.ref s.heap.objs.size) s₄) (fun _ _ => False) s₃) E s₂) (fun _ _ => False) s₁) E { s with heap := s.heap.push dobj0 }) :
    wpAny (model C.prog C.w) A (dictDisplay [(none, m0), (some k1, v1), (some k2, v2)]) Q E s := by
  unfold dictDisplay
  dsimp only
  refine wpAny_bind ?_
  simp only [List.forIn_cons, List.forIn_nil]
  refine wpAny_bind ?_
  refine wpAny_bind ?_
  rw [if_pos (show ([] : List (Sem Value × Sem Value)).isEmpty = true from rfl)]
  refine wpAny_pure ?_
  dsimp only
  refine wpAny_bind (wpAny_alloc ?_)
  refine wpAny_bind (wpAny_holding (wpAny_mono h (fun m s₁ h₁ => ?_) fun _ _ e => e))
  refine wpAny_bind (wpAny_onRaise (wpAny_tryCatch (wpAny_onRaise (wpAny_holding (wpAny_mono h₁ (fun _ s₂ h₂ => ?_) fun _ _ e => e.elim)))))
  refine wpAny_pure ?_
  dsimp only
  refine wpAny_bind ?_
  rw [if_neg (by simp)]
  refine wpAny_pure ?_
  dsimp only
  refine wpAny_bind ?_
  rw [if_neg (by simp)]
  refine wpAny_pure ?_
  dsimp only
  refine wpAny_pure ?_
  dsimp only
  refine wpAny_bind ?_
  rw [if_neg (by simp)]
  refine wpAny_bind (wpAny_holding (wpAny_mono h₂ (fun sub s₃ h₃ => ?_) fun _ _ e => e))
  refine wpAny_bind (wpAny_onRaise (wpAny_holding (wpAny_mono h₃ (fun _ s₄ h₄ => ?_) fun _ _ e => e.elim)))
  exact wpAny_pure (wpAny_pure h₄)

def EvPr (C : Cx) (k : Nat) (sc : Scope) (ρ : Ctx) (pos : Pos) (ps : List (Expr × Expr)) (out : List (Key × D)) : Prop :=
  ∀ (A : Around) (env : Env) (H : Heap) (G₀ G : Gm) (m : Str → Option Value) (X : List (Addr × Obj)) (s : Shared) (Q : List (Value × Value) → Shared → Prop) (E : Value → Shared → Prop),
    Here C k sc A env H G₀ → Fm H G₀ G env.locals m ρ X s.heap →
    (∀ vs kvv h' tk G', Gle G G' → Carries (keyKind C.prog C.w) vs kvv → RepKV C G' kvv out → Fm H G₀ G' env.locals m ρ X h' → Q vs { s with heap := h', toks := tk }) →
    wpAny (model C.prog C.w) A (evalPairs (ps.map fun p => (eval p.1 env, do let x ← eval p.2 env; standAt pos; pure x))) Q E s
theorem EvPr_nil {pos : Pos} : EvPr C k sc ρ pos [] [] := fun A env H G₀ G m X s Q E hh F hQ => PySem.evalPairs_nil (hQ [] [] s.heap s.toks G (Gle.refl G) trivial .nil F)
theorem EvPr_cons {pos : Pos} {ke ve : Expr} {ps : List (Expr × Expr)} {x : Key} {d : D} {out : List (Key × D)} (hk : Ev C k sc ρ ke (dat C x.d) ρ) (hv : Ev C k sc ρ ve (dat C d) ρ) (hs : EvPr C k sc ρ pos ps out) : EvPr C k sc ρ pos ((ke, ve) :: ps) ((x, d) :: out) := fun A env H G₀ G m X s Q E hh F hQ => by
  refine PySem.evalPairs_cons (hk A env H G₀ G m X s _ E hh F fun kv ow h₁ tk₁ G₁ le₁ hkv F₁ => ?_)
  obtain ⟨rfl, hkv⟩ := hkv
  rw [List.nil_append] at F₁
  refine wpAny_bind (hv A env H G₀ G₁ m X _ _ E hh F₁ fun vv ow h₂ tk₂ G₂ le₂ hvv F₂ => wpAny_bind (wpAny_standAt (wpAny_pure ?_)))
  obtain ⟨rfl, hvv⟩ := hvv
  rw [List.nil_append] at F₂
  refine hs A env H G₀ G₂ m X _ _ E hh F₂ fun vs kvv h₃ tk₃ G₃ le₃ hc hr F₃ => ?_
  exact hQ _ ((x, vv) :: kvv) h₃ tk₃ G₃ ((le₁.trans le₂).trans le₃) ⟨key_rep hkv, rfl, hc⟩ (.cons (hvv.mono le₃) hr) F₃

theorem star_core {e0 : Expr} {pos : Pos} {ps : List (Expr × Expr)} {kvs out : List (Key × D)} (h0 : Ev C k sc ρ e0 (dat C (.dict kvs)) ρ) (hp : EvPr C k sc ρ pos ps out) (hz : kvs.length ≤ 500) (hz2 : out.length ≤ 15) (hz3 : ps.length ≤ 15)
    (A : Around) (env : Env) (H : Heap) (G₀ G : Gm) (m : Str → Option Value) (X : List (Addr × Obj)) (s : Shared) (Q : Value → Shared → Prop) (E : Value → Shared → Prop) (hh : Here C k sc A env H G₀) (F : Fm H G₀ G env.locals m ρ X s.heap)
    (hQ : ∀ v ow h' tk G', Gle G G' → (dct C (dsets (dsets [] kvs) (dsets [] out))).P G' v ow → Fm H G₀ G' env.locals m ρ (ow ++ X) h' → Q v { s with heap := h', toks := tk }) :
    wpAny (model C.prog C.w) A (do let x ← eval e0 env; standAt pos; pure x) (fun mv s₁ => wpAny (model C.prog C.w) A (mergeMapping s.heap.objs.size mv false) (fun _ s₂ => wpAny (model C.prog C.w) A (subDict (ps.map fun p => (eval p.1 env, do let x ← eval p.2 env; standAt pos; pure x))) (fun sub s₃ =>
      wpAny (model C.prog C.w) A (mergeMapping s.heap.objs.size (.ref sub) false) (fun _ s₄ => Q (.ref s.heap.objs.size) s₄) (fun _ _ => False) s₃) E s₂) (fun _ _ => False) s₁) E { s with heap := s.heap.push dobj0 } := by
  obtain ⟨gr, ow⟩ := grow_held F.ownX dobj0 rfl
  have F₀ := F.grow gr ow fun p hp => by rw [List.mem_singleton.mp hp]; exact get?_size _
  have hSm : (s.heap.objs.size == sysModules) = false := notMods (hh.base.le.trans F.keep) (get?_size _)
  generalize hd : s.heap.objs.size = d at F₀ hSm
  refine wpAny_bind (h0 A env H G₀ G m _ _ _ E hh F₀ fun mv owm h₁ tk₁ G₁ le₁ hm F₁ => wpAny_bind (wpAny_standAt (wpAny_pure ?_)))
  obtain ⟨rfl, hm⟩ := hm
  rw [List.nil_append] at F₁
  obtain ⟨a, oa, kvv, rfl, q2, q3, q4, q5⟩ := hm.dict_inv
  have hdo : h₁.get? d = some dobj0 := F₁.ownX.at_ (d, dobj0) (.head _)
  have hda : d ≠ a := fun e => by have := F₁.ownX.off (d, dobj0) (.head _); rw [show (d, dobj0).1 = a from e, q2] at this; cases this
  have l1 := q5.length
  refine wp_merge hda q3 (Heap.dictOf_iff.mpr ⟨dobj0, hdo, dobj0_is⟩) (Heap.dictOf_iff.mpr ⟨oa, F₁.sub _ _ q2, q4⟩) (by simp; omega) fun h₂ tk₂ hd₂ hs₂ => ?_
  obtain ⟨o₂, ho₂, hi₂⟩ := Heap.dictOf_iff.mp hd₂
  have st₂ := Step.set (X := []) (Y := X) F₁.ownX hs₂.extBut ho₂
  have F₂ : Fm H G₀ G₁ env.locals m ρ ((d, o₂) :: X) h₂ := by
    have := Fm.step (X := []) (by simpa using F₁) st₂
    rw [List.append_nil] at this
    exact this
  have r₂ : RepKV C G₁ (merged [] kvv) (dsets [] kvs) := RepKV.merge q5 .nil
  have l2 := r₂.length
  have l3 := dsets_length kvs []
  obtain ⟨gr₃, ow₃⟩ := grow_held F₂.ownX dobj0 rfl
  have F₃ := F₂.grow gr₃ ow₃ fun p hp => by rw [List.mem_singleton.mp hp]; exact get?_size _
  have hSs : (h₂.objs.size == sysModules) = false := notMods (hh.base.le.trans F₂.keep) (get?_size _)
  refine wpAny_subDict (knd := keyKind C.prog C.w) (by rw [List.length_map]; exact hz3) ?_
  refine hp A env H G₀ G₁ m _ _ _ E hh F₃ fun vs kvv' h₄ tk₄ G₄ le₄ hc hr F₄ => ?_
  generalize hsub : h₂.objs.size = sub at F₄ hSs
  have hso : h₄.get? sub = some dobj0 := F₄.ownX.at_ (sub, dobj0) (.head _)
  refine ⟨kvv', hc, Heap.dictOf_iff.mpr ⟨dobj0, hso, dobj0_is⟩, fun h₅ hd₅ hs₅ => ?_⟩
  obtain ⟨o₅, ho₅, hi₅⟩ := Heap.dictOf_iff.mp hd₅
  have st₅ := Step.set (X := []) (Y := (d, o₂) :: X) F₄.ownX hs₅.extBut ho₅
  have F₅ : Fm H G₀ G₄ env.locals m ρ ((sub, o₅) :: (d, o₂) :: X) h₅ := by
    have := Fm.step (X := []) (by simpa using F₄) st₅
    rw [List.append_nil] at this
    exact this
  have r₅ : RepKV C G₄ (merged [] kvv') (dsets [] out) := RepKV.merge hr .nil
  have l5 := r₅.length
  have l6 := dsets_length out []
  have hds : d ≠ sub := by
    have nd := F₅.ownX.nd
    rw [List.map_cons, List.nodup_cons, List.map_cons] at nd
    exact fun e => nd.1 (by rw [← e]; exact .head _)
  have hd5 : h₅.get? d = some o₂ := F₅.ownX.at_ (d, o₂) (.tail _ (.head _))
  refine wp_merge hds hSs (Heap.dictOf_iff.mpr ⟨o₂, hd5, hi₂⟩) (Heap.dictOf_iff.mpr ⟨o₅, ho₅, hi₅⟩) (by simp at l3 l6; omega) fun h₆ tk₆ hd₆ hs₆ => ?_
  obtain ⟨o₆, ho₆, hi₆⟩ := Heap.dictOf_iff.mp hd₆
  have st₆ := Step.set (X := [(sub, o₅)]) (Y := X) F₅.ownX hs₆.extBut ho₆
  have F₆ : Fm H G₀ G₄ env.locals m ρ ((sub, o₅) :: (d, o₆) :: X) h₆ := by
    have := Fm.step (X := []) (by simpa using F₅) st₆
    rw [List.append_nil] at this
    exact this
  exact hQ (.ref d) [(d, o₆)] h₆ tk₆ G₄ (le₁.trans le₄) ⟨d, o₆, _, rfl, rfl, hSm, hi₆, RepKV.merge r₅ (r₂.mono le₄)⟩ (F₆.dropX (List.sublist_cons_self _ _))
theorem Ev_DictStar1 {e0 k1 v1 : Expr} {pos : Pos} {kvs out : List (Key × D)} (h0 : Ev C k sc ρ e0 (dat C (.dict kvs)) ρ) (hp : EvPr C k sc ρ pos [(k1, v1)] out) (hz : kvs.length ≤ 500) (hz2 : out.length ≤ 15) :
    Ev C k sc ρ (.Dict [none, some k1] [e0, v1] pos) (dct C (dsets (dsets [] kvs) (dsets [] out))) ρ := fun A env H G₀ G m X s Q E hh F hQ => by
  rw [arm_eval_Dict]
  refine wpAny_bind (wpAny_standAt ?_)
  exact wp_disp1 (star_core h0 hp hz hz2 (by simp) A env H G₀ G m X s Q E hh F hQ)
theorem Ev_DictStar2 {e0 k1 k2 v1 v2 : Expr} {pos : Pos} {kvs out : List (Key × D)} (h0 : Ev C k sc ρ e0 (dat C (.dict kvs)) ρ) (hp : EvPr C k sc ρ pos [(k1, v1), (k2, v2)] out) (hz : kvs.length ≤ 500) (hz2 : out.length ≤ 15) :
    Ev C k sc ρ (.Dict [none, some k1, some k2] [e0, v1, v2] pos) (dct C (dsets (dsets [] kvs) (dsets [] out))) ρ := fun A env H G₀ G m X s Q E hh F hQ => by
  rw [arm_eval_Dict]
  refine wpAny_bind (wpAny_standAt ?_)
  exact wp_disp2 (star_core h0 hp hz hz2 (by simp) A env H G₀ G m X s Q E hh F hQ)
end
end Mine

set_option maxRecDepth 100000
set_option autoImplicit false
set_option linter.unusedVariables false
namespace Mine
open PySem PySem.W PyProof.Rows

/-! two values that tell the same are equal -/
def EqW (C : Cx) (A : Around) (s : Shared) (u v : Value) : Prop := ∀ (E : Value → Shared → Prop) (Q : Bool → Shared → Prop), Q true s → wpAny (model C.prog C.w) A (eqBool u v) Q E s
def CmpW (C : Cx) (op : CmpOp) (A : Around) (s : Shared) (u v : Value) (b : Bool) : Prop := ∀ (E : Value → Shared → Prop) (Q : Value → Shared → Prop), Q (.bool b) s → wpAny (model C.prog C.w) A (richCompare op u v) Q E s

section
variable {C : Cx} {A : Around} {E : Value → Shared → Prop} {s : Shared}
theorem EqW.at {u v : Value} (h : SeqAt.EqAt A s u v true) : EqW C A s u v := fun E Q q => h C.prog C.w E Q q
theorem EqW.refs {a b : Addr} (h : CmpW C .Eq A s (.ref a) (.ref b) true) : EqW C A s (.ref a) (.ref b) := by
  by_cases e : a = b
  · subst e; exact EqW.at (SeqAt.EqAt.same _)
  · intro E Q hq
    unfold eqBool
    refine wpAny_holding ?_
    refine wpAny_ite_split (fun hab => absurd (by have := eq_of_beq hab; injection this) e) (fun _ => ?_)
    exact wpAny_bind (h E _ (wpAny_truthy_bool hq))

/-- what the loop of a list's comparison gives when all is equal -/
def opRes : CmpOp → Bool
  | .Eq => true
  | _ => false
def opNum : CmpOp → Nat
  | .Eq => 2
  | _ => 3
theorem list_items {a : Addr} {o : Obj} {xs : Array Value} {n : Nat} {Q : Array Value → Shared → Prop} (ho : s.heap.get? a = some o) (hd : o.data = .seq xs n) (h : Q xs s) : wpAny (model C.prog C.w) A (Builtin.List.listItems (.ref a)) Q E s := by
  unfold Builtin.List.listItems
  exact wpAny_bind (wpAny_seqItems ho hd (wpAny_pure h))
theorem list_loop {l b : Addr} {ol ob : Obj} {xs ys : Array Value} {n n2 : Nat} (hl : s.heap.get? l = some ol) (hdl : ol.data = .seq xs n) (hb : s.heap.get? b = some ob) (hdb : ob.data = .seq ys n2) (hsz : xs.size = ys.size) (op : CmpOp) (hop : op = .Eq ∨ op = .NotEq)
    (he : ∀ j (h1 : j < xs.size) (h2 : j < ys.size), EqW C A.in1 s xs[j] ys[j]) (R : Result → Shared → Prop) (hR : R (.ok (.ret (.bool (opRes op)))) s) : ∀ k i : Nat, i + k = xs.size →
    codeAny (model C.prog C.w) A (.builtin "list.__eq__.loop" ⟨[.ref l, .ref b, rawInt i, rawInt (opNum op)], []⟩) R s := by
  intro k
  induction k with
  | zero =>
    intro i hi
    refine codeAny_builtin PySem.MeetsSeq3.entry_eq_loop ?_
    rw [Around.under_plainId PySem.MeetsSeq3.plain_eq_loop _]
    have hi1 : xs[((i : Nat) : Int).toNat]? = none := by simp; omega
    have hi2 : ys[((i : Nat) : Int).toNat]? = none := by simp; omega
    rcases hop with rfl | rfl
    · show wpAny _ _ (Builtin.List.listItems (.ref l) >>= _) _ _ _
      refine wpAny_bind (list_items hl hdl (wpAny_bind (list_items hb hdb ?_)))
      rw [hi1, hi2]
      refine wpAny_bind (list_items hl hdl (wpAny_bind (list_items hb hdb (wpAny_pure ?_))))
      show R (.ok (.ret (.bool (xs.size == ys.size)))) s
      rw [hsz, beq_self_eq_true]; exact hR
    · show wpAny _ _ (Builtin.List.listItems (.ref l) >>= _) _ _ _
      refine wpAny_bind (list_items hl hdl (wpAny_bind (list_items hb hdb ?_)))
      rw [hi1, hi2]
      refine wpAny_bind (list_items hl hdl (wpAny_bind (list_items hb hdb (wpAny_pure ?_))))
      show R (.ok (.ret (.bool (xs.size != ys.size)))) s
      rw [hsz, bne_self_eq_false]; exact hR
  | succ k ih =>
    intro i hi
    have hlt : i < xs.size := by omega
    have hlt2 : i < ys.size := by omega
    have hi1 : xs[((i : Nat) : Int).toNat]? = some xs[i] := by simp [hlt]
    have hi2 : ys[((i : Nat) : Int).toNat]? = some ys[i] := by simp [hlt2]
    refine codeAny_builtin PySem.MeetsSeq3.entry_eq_loop ?_
    rw [Around.under_plainId PySem.MeetsSeq3.plain_eq_loop _]
    have go : wpAny (model C.prog C.w) A.in1 (eqBool xs[i] ys[i]) (fun r s' => r = true ∧ s' = s) (fun e s' => R (.error e) s') s := he i hlt hlt2 _ _ ⟨rfl, rfl⟩
    have nxt := ih (i + 1) (by omega)
    have hc : ((i : Int) + 1) = ((i + 1 : Nat) : Int) := by push_cast; rfl
    rcases hop with rfl | rfl
    · show wpAny _ _ (Builtin.List.listItems (.ref l) >>= _) _ _ _
      refine wpAny_bind (list_items hl hdl (wpAny_bind (list_items hb hdb ?_)))
      rw [hi1, hi2]
      refine wpAny_bind (wpAny_mono go (fun r s' hr => ?_) fun _ _ e => e)
      obtain ⟨rfl, rfl⟩ := hr
      rw [if_pos rfl]
      refine wpAny_pure ⟨plainId_quiet PySem.MeetsSeq3.plain_eq_loop _, ?_⟩
      rw [hc]; exact nxt
    · show wpAny _ _ (Builtin.List.listItems (.ref l) >>= _) _ _ _
      refine wpAny_bind (list_items hl hdl (wpAny_bind (list_items hb hdb ?_)))
      rw [hi1, hi2]
      refine wpAny_bind (wpAny_mono go (fun r s' hr => ?_) fun _ _ e => e)
      obtain ⟨rfl, rfl⟩ := hr
      rw [if_pos rfl]
      refine wpAny_pure ⟨plainId_quiet PySem.MeetsSeq3.plain_eq_loop _, ?_⟩
      rw [hc]; exact nxt

theorem cmp_lists {l b : Addr} {ol ob : Obj} {xs ys : Array Value} {n n2 : Nat} (hl : s.heap.get? l = some ol) (hcl : ol.cls = .type "list") (hdl : ol.data = .seq xs n) (hb : s.heap.get? b = some ob) (hcb : ob.cls = .type "list") (hdb : ob.data = .seq ys n2) (hsz : xs.size = ys.size)
    (hu : A.units < cLine) (op : CmpOp) (hop : op = .Eq ∨ op = .NotEq) (he : ∀ j (h1 : j < xs.size) (h2 : j < ys.size), EqW C A.in1 s xs[j] ys[j]) : CmpW C op A s (.ref l) (.ref b) (opRes op) := fun E Q hq => by
  have hTl : s.TypeIs (.ref l) "list" := ⟨ol, hl, hcl⟩
  have hTb : s.TypeIs (.ref b) "list" := ⟨ob, hb, hcb⟩
  have loop := list_loop (C := C) (A := A) hl hdl hb hdb hsz op hop he (wants (fun v s' => v ≠ .notImplemented ∧ Q v s') E) ⟨(fun x => nomatch x), hq⟩ xs.size 0 (by omega)
  rcases hop with rfl | rfl
  · refine wpAny_richCompare_same_room (op := .Eq) hTl hTb PySem.F.slot_list_eq (wpAny_call (codeAny_call_builtin PySem.F.slot_list_eq.plain PySem.F.entry_list_eq (PySem.F.slot_list_eq.check _ _ _ _ _ _ _ _ hTl (PySem.F.args_list_eq_2 _ _) ?_))) hu
    show wpAny _ _ (isInstance (.ref b) (.type "list") >>= _) _ _ _
    refine wpAny_bind (wpAny_isInstance hTb AutoSeq1.sub_list_list ?_)
    show wpAny _ _ (Builtin.List.listItems (.ref l) >>= _) _ _ _
    refine wpAny_bind (list_items hl hdl (wpAny_bind (list_items hb hdb ?_)))
    rw [if_neg (by rw [hsz]; simp)]
    exact wpAny_pure ⟨plainId_quiet PySem.MeetsSeq3.plain_eq_loop _, loop⟩
  · refine wpAny_richCompare_same_room (op := .NotEq) hTl hTb PySem.F.slot_list_ne (wpAny_call (codeAny_call_builtin PySem.F.slot_list_ne.plain PySem.F.entry_list_ne (PySem.F.slot_list_ne.check _ _ _ _ _ _ _ _ hTl (PySem.F.args_list_ne_2 _ _) ?_))) hu
    show wpAny _ _ (isInstance (.ref b) (.type "list") >>= _) _ _ _
    refine wpAny_bind (wpAny_isInstance hTb AutoSeq1.sub_list_list ?_)
    show wpAny _ _ (Builtin.List.listItems (.ref l) >>= _) _ _ _
    refine wpAny_bind (list_items hl hdl (wpAny_bind (list_items hb hdb ?_)))
    rw [if_neg (by rw [hsz]; simp)]
    exact wpAny_pure ⟨plainId_quiet PySem.MeetsSeq3.plain_eq_loop _, loop⟩

theorem zip_eq {us vs : List Value} (he : ∀ p ∈ us.zip vs, EqW C A s p.1 p.2) {β : Type} (b : β) (F : Value × Value → β → Sem (ForInStep β)) (hF : ∀ p R, p ∈ us.zip vs → EqW C A s p.1 p.2 → R (.yield b) s → wpAny (model C.prog C.w) A (F p b) R E s) {Q : β → Shared → Prop} (h : Q b s) :
    wpAny (model C.prog C.w) A (forIn (us.zip vs) b F) Q E s := by
  generalize us.zip vs = l at he hF
  induction l with
  | nil => exact wpAny_pure h
  | cons p l ih =>
    rw [List.forIn_cons]
    refine wpAny_bind (hF p _ (.head _) (he p (.head _)) ?_)
    exact ih (fun q hq => he q (.tail _ hq)) fun q R hq => hF q R (.tail _ hq)
theorem cmp_tuples {l b : Addr} {ol ob : Obj} {xs ys : Array Value} {n n2 : Nat} (hl : s.heap.get? l = some ol) (hcl : ol.cls = .type "tuple") (hdl : ol.data = .seq xs n) (hb : s.heap.get? b = some ob) (hcb : ob.cls = .type "tuple") (hdb : ob.data = .seq ys n2) (hsz : xs.size = ys.size)
    (hu : A.units < cLine) (he : ∀ p ∈ xs.toList.zip ys.toList, EqW C A.in1 s p.1 p.2) : CmpW C .Eq A s (.ref l) (.ref b) true := fun E Q hq => by
  have hTl : s.TypeIs (.ref l) "tuple" := ⟨ol, hl, hcl⟩
  have hTb : s.TypeIs (.ref b) "tuple" := ⟨ob, hb, hcb⟩
  refine wpAny_richCompare_same_room (op := .Eq) hTl hTb PySem.F.slot_tuple_eq (wpAny_call_entry PySem.F.slot_tuple_eq hTl PySem.F.entry_tuple_eq ?_ (PySem.F.args_tuple_eq_2 _ _)) hu
  show wpAny _ _ (isInstance (.ref b) (.type "tuple") >>= _) _ _ _
  refine wpAny_bind (wpAny_isInstance hTb AutoSeq1.sub_tuple_tuple ?_)
  show wpAny _ _ (Builtin.Tuple.tupleItemsOf (.ref l) >>= _) _ _ _
  refine wpAny_bind (PyProof.Rows.tupleItemsOf_ (items := xs) ⟨ol, hl, hcl, n, hdl⟩ ?_)
  refine wpAny_bind (PyProof.Rows.tupleItemsOf_ (items := ys) ⟨ob, hb, hcb, n2, hdb⟩ ?_)
  refine wpAny_bind (zip_eq he _ _ (fun p R hp hpe hR => ?_) ?_)
  · refine wpAny_bind (hpe _ _ ?_)
    rw [if_neg (by simp)]
    exact wpAny_pure hR
  · dsimp only
    refine wpAny_pure ⟨_, rfl, (fun x => nomatch x), ?_⟩
    have e : Builtin.Tuple.tupleCompareSizes .Eq xs.size ys.size = .bool true := by rw [hsz]; simp [Builtin.Tuple.tupleCompareSizes]
    rw [e]; exact hq

theorem samePairs_true {nm : String} {a b : Addr} {ka kb : List (Key × Value)} {Q : Bool → Shared → Prop} (ha : (a == sysModules) = false) (hb : (b == sysModules) = false)
    (da : s.heap.DictOf (keyKind C.prog C.w) a ka) (db : s.heap.DictOf (keyKind C.prog C.w) b kb) (hlen : ka.length = kb.length) (hits : ∀ x v, (x, v) ∈ ka → ∃ y, valueAt kb x = some y ∧ EqW C A s v y) (h : Q true s) :
    wpAny (model C.prog C.w) A (Builtin.Dict.samePairs nm a b) Q E s := by
  obtain ⟨oa, es, ep, hoa, _, hda, hka, hpa, _⟩ := da
  obtain ⟨ob, fs, ep', hob, _, hdb, hkb, hpb, _⟩ := db
  have hla : ka.length = es.size := by rw [← hpa.length]; exact Array.length_toList
  have hlb : kb.length = fs.size := by rw [← hpb.length]; exact Array.length_toList
  have hfind : ∀ x, findBy (keyKind C.prog C.w).is fs x = valueAt kb x := fun x => by
    rw [← hpb.find x]
    clear hlb hpb hkb hdb hob
    obtain ⟨l⟩ := fs
    simp [findBy]
  have hsz : es.size = fs.size := by omega
  unfold Builtin.Dict.samePairs Builtin.Dict.showsAll
  rw [if_neg (show ¬ (a == sysModules) = true by rw [ha]; exact Bool.false_ne_true), if_neg (show ¬ (b == sysModules) = true by rw [hb]; exact Bool.false_ne_true)]
  refine wpAny_bind (wpAny_pure (wpAny_bind (wpAny_pure ?_)))
  refine wpAny_bind (wpAny_dictEntries hoa hda ?_)
  dsimp only
  refine wpAny_bind (wpAny_dictEntries hob hdb ?_)
  rw [if_neg (by rw [hsz]; simp)]
  refine wpAny_bind (wpAny_dictEpoch hoa hda ?_)
  refine wpAny_bind ?_
  rw [Std.Legacy.Range.forIn_eq_forIn_range']
  simp only [Std.Legacy.Range.size, Nat.sub_zero, Nat.add_sub_cancel, Nat.div_one]
  refine wpAny_forIn_list _ (fun rest q s' => s' = s ∧ q = (none, ()) ∧ ∀ x ∈ rest, x < es.size) _ ?_ ?_ _ _ ⟨rfl, rfl, fun x hx => by simpa using hx⟩
  · rintro x rest q s' ⟨rfl, rfl, hr⟩
    have hlt : x < es.size := hr x (.head _)
    have hlt' : x < ka.length := by rw [hla]; exact hlt
    refine wpAny_bind (wpAny_dictEntries hoa hda ?_)
    rw [Array.getElem?_eq_getElem hlt]
    obtain ⟨kx, v, hkv⟩ : ∃ kx v, ka[x] = (kx, v) := ⟨_, _, rfl⟩
    obtain ⟨hkey, hval⟩ := hpa.get? (i := x) (e := es[x]) (k := kx) (v := v) (by rw [Array.getElem?_toList]; exact Array.getElem?_eq_getElem hlt) (by rw [List.getElem?_eq_getElem hlt', hkv])
    obtain ⟨k', hk', hh⟩ := hka es[x] (Array.getElem_mem hlt)
    have ekk : k' = kx := (keyKind C.prog C.w).inj _ _ _ hk' hkey
    rw [ekk] at hh
    obtain ⟨y, hy, heq⟩ := hits kx v (by rw [← hkv]; exact List.getElem_mem hlt')
    show wpAny _ _ (holding [es[x].key, es[x].val] _ >>= _) _ _ _
    rw [hh]
    refine wpAny_bind (wpAny_holding (wpAny_bind (wpAny_dictFind_of (knd := keyKind C.prog C.w) hkey hob hdb hkb ?_)))
    cases hj : fs.findIdx? fun e => (keyKind C.prog C.w).is kx e.key with
    | none =>
      have hn : valueAt kb kx = none := by rw [← hfind kx, findBy_of_findIdx?, hj]
      rw [hn] at hy; cases hy
    | some j =>
      obtain ⟨hjlt, _, _⟩ := Array.findIdx?_eq_some_iff_getElem.mp hj
      have hv' : valueAt kb kx = some fs[j].val := by
        rw [← hfind kx, findBy_of_findIdx?, hj]
        simp [Array.getElem?_eq_getElem hjlt]
      refine wpAny_bind (wpAny_dictEntries hob hdb ?_)
      rw [Array.getElem?_eq_getElem hjlt]
      have ey : fs[j].val = y := Option.some.inj (hv'.symm.trans hy)
      rw [← ey, ← hval] at heq
      refine wpAny_holding (heq _ _ ?_)
      show wpAny _ _ (if (!true) = true then _ else _) _ _ _
      rw [if_neg (by decide)]
      refine wpAny_bind (wpAny_dictEpoch hoa hda ?_)
      rw [if_neg (by simp)]
      exact wpAny_pure ⟨rfl, rfl, fun z hz => hr z (.tail _ hz)⟩
  · rintro q s' ⟨rfl, rfl, _⟩
    exact wpAny_pure h

theorem cmp_dicts {a b : Addr} {ka kb : List (Key × Value)} (ha : (a == sysModules) = false) (hb : (b == sysModules) = false) (da : s.heap.DictOf (keyKind C.prog C.w) a ka) (db : s.heap.DictOf (keyKind C.prog C.w) b kb) (hlen : ka.length = kb.length)
    (hu : A.units < cLine) (op : CmpOp) (hop : op = .Eq ∨ op = .NotEq) (hits : ∀ x v, (x, v) ∈ ka → ∃ y, valueAt kb x = some y ∧ EqW C A.in1 s v y) : CmpW C op A s (.ref a) (.ref b) (opRes op) := fun E Q hq => by
  rcases hop with rfl | rfl
  · refine wpAny_richCompare_same_room (op := .Eq) da.typeIs db.typeIs PySem.F.slot_dict_eq (wpAny_call_entry PySem.F.slot_dict_eq da.typeIs PySem.F.entry_dict_eq ?_ (PySem.F.args_dict_eq_2 _ _)) hu
    show wpAny _ _ (Builtin.Dict.dictSlotArgs "__eq__" ⟨[.ref a, .ref b], []⟩ >>= _) _ _ s
    refine wpAny_bind ?_
    unfold Builtin.Dict.dictSlotArgs
    refine wpAny_bind (wpAny_notOrdered_dict da.typeIs ?_)
    show wpAny _ _ (pure (Value.ref a, Value.ref b)) _ _ s
    refine wpAny_pure ?_
    refine wpAny_bind (wpAny_isInstance (T := "dict") db.typeIs PySem.F.sub_dict_dict ?_)
    simp only [Bool.not_true, Bool.false_eq_true, if_false]
    refine wpAny_bind (wpAny_pure (wpAny_bind (wpAny_pure ?_)))
    refine wpAny_bind (samePairs_true ha hb da db hlen hits ?_)
    exact wpAny_pure ⟨_, rfl, (fun x => nomatch x), hq⟩
  · refine wpAny_richCompare_same_room (op := .NotEq) da.typeIs db.typeIs PySem.F.slot_dict_ne (wpAny_call_entry PySem.F.slot_dict_ne da.typeIs PySem.F.entry_dict_ne ?_ (PySem.F.args_dict_ne_2 _ _)) hu
    show wpAny _ _ (Builtin.Dict.dictSlotArgs "__ne__" ⟨[.ref a, .ref b], []⟩ >>= _) _ _ s
    refine wpAny_bind ?_
    unfold Builtin.Dict.dictSlotArgs
    refine wpAny_bind (wpAny_notOrdered_dict da.typeIs ?_)
    show wpAny _ _ (pure (Value.ref a, Value.ref b)) _ _ s
    refine wpAny_pure ?_
    refine wpAny_bind (wpAny_isInstance (T := "dict") db.typeIs PySem.F.sub_dict_dict ?_)
    simp only [Bool.not_true, Bool.false_eq_true, if_false]
    refine wpAny_bind (wpAny_pure (wpAny_bind (wpAny_pure ?_)))
    refine wpAny_bind (samePairs_true ha hb da db hlen hits ?_)
    exact wpAny_pure ⟨_, rfl, (fun x => nomatch x), hq⟩

/-! how deep data lies -/
mutual
noncomputable def D.dep : D → Nat
  | .list xs => D.depL xs + 1
  | .tup xs => D.depL xs + 1
  | .dict kvs => D.depK kvs + 1
  | _ => 0
noncomputable def D.depL : List D → Nat
  | [] => 0
  | x :: r => max x.dep (D.depL r)
noncomputable def D.depK : List (Key × D) → Nat
  | [] => 0
  | (_, x) :: r => max x.dep (D.depK r)
end
theorem depL_mem {x : D} : ∀ {xs : List D}, x ∈ xs → x.dep ≤ D.depL xs
  | _, .head r => by rw [D.depL]; exact Nat.le_max_left _ _
  | _, .tail y h => by rw [D.depL]; exact Nat.le_trans (depL_mem h) (Nat.le_max_right _ _)
theorem depK_mem {k : Key} {x : D} : ∀ {xs : List (Key × D)}, (k, x) ∈ xs → x.dep ≤ D.depK xs
  | _, .head r => by rw [D.depK]; exact Nat.le_max_left _ _
  | _, .tail y h => by obtain ⟨k', z⟩ := y; rw [D.depK]; exact Nat.le_trans (depK_mem h) (Nat.le_max_right _ _)

theorem valueAt_of_mem {kb : List (Key × Value)} {x : Key} {v : Value} (hn : (kb.map (·.1)).Nodup) (h : (x, v) ∈ kb) : valueAt kb x = some v := by
  induction kb with
  | nil => cases h
  | cons p r ih =>
    rw [List.map_cons, List.nodup_cons] at hn
    unfold valueAt
    cases h with
    | head => simp
    | tail _ h =>
      have hne : ¬ p.1 = x := fun e => hn.1 (by rw [e]; exact List.mem_map_of_mem (f := (·.1)) h)
      rw [List.find?_cons_of_neg (by simpa using hne)]
      exact ih hn.2 h

theorem eqW (C : Cx) : ∀ (n : Nat) (d : D), d.dep ≤ n → ∀ (A : Around) (s : Shared) (G : Gm) (u v : Value), A.units + n < cLine → (∀ b o, G b = some o → s.heap.get? b = some o) → Rep C G u d → Rep C G v d → EqW C A s u v := by
  intro n
  induction n with
  | zero =>
    intro d hd A s G u v hu sub h1 h2
    cases h1 with
    | none => cases h2; exact EqW.at (SeqAt.EqAt.same _)
    | bool b => cases h2; exact EqW.at (SeqAt.EqAt.same _)
    | int i t =>
      cases h2 with
      | int _ t' => exact fun E Q hq => (intKind C.prog C.w).eqBool (a := i) (b := i) (intKind_is _ _ i t) (intKind_is _ _ i t') (by simpa using hq)
    | str x t =>
      cases h2 with
      | str _ t' => exact fun E Q hq => (strKind C.prog C.w).eqBool (a := x) (b := x) (isKey_str x t) (isKey_str x t') (by simpa using hq)
    | bytes x t =>
      cases h2 with
      | bytes _ t' => exact fun E Q hq => (bytesKind C.prog C.w).eqBool (a := x) (b := x) (isKey_bytes x t) (isKey_bytes x t') (by simpa using hq)
    | list _ _ _ _ _ => rw [D.dep] at hd; omega
    | tup _ _ _ _ _ => rw [D.dep] at hd; omega
    | dict _ _ _ _ _ => rw [D.dep] at hd; omega
  | succ n ih =>
    intro d hd A s G u v hu sub h1 h2
    by_cases hd0 : d.dep ≤ n
    · exact ih d hd0 A s G u v (by omega) sub h1 h2
    have hu1 : A.in1.units + n < cLine := by show A.units + 1 + n < _; omega
    have hu0 : A.units < cLine := by omega
    cases d with
    | list ds =>
      rw [D.dep] at hd
      obtain ⟨a, oa, xs, m1, rfl, p1, p2, p3, p4⟩ := h1.list_inv
      obtain ⟨b, ob, ys, m2, rfl, q1, q2, q3, q4⟩ := h2.list_inv
      have l1 := p4.length
      have l2 := q4.length
      have hsz : xs.size = ys.size := by simp at l1 l2; omega
      refine EqW.refs (cmp_lists (sub _ _ p1) p2 p3 (sub _ _ q1) q2 q3 hsz hu0 .Eq (.inl rfl) fun j hj1 hj2 => ?_)
      have hj3 : j < ds.length := by simp at l1; omega
      have hm := depL_mem (List.getElem_mem hj3)
      exact ih ds[j] (by omega) A.in1 s G _ _ hu1 sub (p4.get (i := j) (by simp [hj1]) (List.getElem?_eq_getElem hj3)) (q4.get (i := j) (by simp [hj2]) (List.getElem?_eq_getElem hj3))
    | tup ds =>
      rw [D.dep] at hd
      obtain ⟨a, oa, xs, m1, rfl, p1, p2, p3, p4⟩ := h1.tup_inv
      obtain ⟨b, ob, ys, m2, rfl, q1, q2, q3, q4⟩ := h2.tup_inv
      have l1 := p4.length
      have l2 := q4.length
      have hsz : xs.size = ys.size := by simp at l1 l2; omega
      refine EqW.refs (cmp_tuples (sub _ _ p1) p2 p3 (sub _ _ q1) q2 q3 hsz hu0 fun p hp => ?_)
      obtain ⟨j, hj, rfl⟩ := List.getElem_of_mem hp
      rw [List.getElem_zip]
      have hj1 : j < xs.toList.length := by simp at hj ⊢; omega
      have hj2 : j < ys.toList.length := by simp at hj ⊢; omega
      have hj3 : j < ds.length := by simp at l1 hj1; omega
      have hm := depL_mem (List.getElem_mem hj3)
      exact ih ds[j] (by omega) A.in1 s G _ _ hu1 sub (p4.get (i := j) (List.getElem?_eq_getElem hj1) (List.getElem?_eq_getElem hj3)) (q4.get (i := j) (List.getElem?_eq_getElem hj2) (List.getElem?_eq_getElem hj3))
    | dict kvs =>
      rw [D.dep] at hd
      obtain ⟨a, oa, ka, rfl, p1, p2, p3, p4⟩ := h1.dict_inv
      obtain ⟨b, ob, kb, rfl, q1, q2, q3, q4⟩ := h2.dict_inv
      refine EqW.refs (cmp_dicts p2 q2 (Heap.dictOf_iff.mpr ⟨oa, sub _ _ p1, p3⟩) (Heap.dictOf_iff.mpr ⟨ob, sub _ _ q1, q3⟩) (p4.length.trans q4.length.symm) hu0 .Eq (.inl rfl) fun x w hx => ?_)
      obtain ⟨j, hj, hxj⟩ := List.getElem_of_mem hx
      have e1 : ka[j]? = some (x, w) := by rw [List.getElem?_eq_getElem hj, hxj]
      have hl1 := p4.length
      have hl2 := q4.length
      have hj3 : j < kvs.length := by omega
      have hj2 : j < kb.length := by omega
      obtain ⟨k1, r1⟩ := p4.get e1 (List.getElem?_eq_getElem hj3)
      obtain ⟨k2, r2⟩ := q4.get (List.getElem?_eq_getElem hj2) (List.getElem?_eq_getElem hj3)
      have hkb : (x, kb[j].2) ∈ kb := by
        have ex : x = kb[j].1 := by rw [k2]; exact k1
        rw [ex]; exact List.getElem_mem hj2
      obtain ⟨_, _, _, _, _, _, nd⟩ := q3
      refine ⟨kb[j].2, valueAt_of_mem nd hkb, ?_⟩
      have hm : kvs[j].2.dep ≤ D.depK kvs := depK_mem (k := kvs[j].1) (List.getElem_mem hj3)
      exact ih kvs[j].2 (by omega) A.in1 s G _ _ hu1 sub r1 r2
    | _ => rw [D.dep] at hd0 <;> first | exact absurd (Nat.zero_le _) hd0 | (intros; first | (rename_i h; exact (h _ rfl).elim) | skip)
end
end Mine

set_option maxRecDepth 100000
set_option autoImplicit false
set_option linter.unusedVariables false
namespace Mine
open PySem PySem.W PyProof.Rows

section
variable {C : Cx} {k : Nat} {sc sc' : Scope} {ρ ρ₁ ρ₂ ρ' : Ctx} {P : Post}

def isBox : D → Bool
  | .list _ => true
  | .dict _ => true
  | .bytes _ => true
  | _ => false
/-- data compared with the same data -/
theorem cmp_same {A : Around} {s : Shared} {G : Gm} {u v : Value} {d : D} (op : CmpOp) (hop : op = .Eq ∨ op = .NotEq) (hb : isBox d = true) (hu : A.units + d.dep < cLine) (sub : ∀ b o, G b = some o → s.heap.get? b = some o) (h1 : Rep C G u d) (h2 : Rep C G v d) : CmpW C op A s u v (opRes op) := by
  cases d with
  | list ds =>
    rw [D.dep] at hu
    obtain ⟨a, oa, xs, m1, rfl, p1, p2, p3, p4⟩ := h1.list_inv
    obtain ⟨b, ob, ys, m2, rfl, q1, q2, q3, q4⟩ := h2.list_inv
    have l1 := p4.length
    have l2 := q4.length
    have hsz : xs.size = ys.size := by simp at l1 l2; omega
    refine cmp_lists (sub _ _ p1) p2 p3 (sub _ _ q1) q2 q3 hsz (by omega) op hop fun j hj1 hj2 => ?_
    have hj3 : j < ds.length := by simp at l1; omega
    have hm := depL_mem (List.getElem_mem hj3)
    exact eqW C (D.depL ds) ds[j] hm A.in1 s G _ _ (by show A.units + 1 + _ < _; omega) sub (p4.get (i := j) (by simp [hj1]) (List.getElem?_eq_getElem hj3)) (q4.get (i := j) (by simp [hj2]) (List.getElem?_eq_getElem hj3))
  | dict kvs =>
    rw [D.dep] at hu
    obtain ⟨a, oa, ka, rfl, p1, p2, p3, p4⟩ := h1.dict_inv
    obtain ⟨b, ob, kb, rfl, q1, q2, q3, q4⟩ := h2.dict_inv
    refine cmp_dicts p2 q2 (Heap.dictOf_iff.mpr ⟨oa, sub _ _ p1, p3⟩) (Heap.dictOf_iff.mpr ⟨ob, sub _ _ q1, q3⟩) (p4.length.trans q4.length.symm) (by omega) op hop fun x w hx => ?_
    obtain ⟨j, hj, hxj⟩ := List.getElem_of_mem hx
    have e1 : ka[j]? = some (x, w) := by rw [List.getElem?_eq_getElem hj, hxj]
    have hl1 := p4.length
    have hl2 := q4.length
    have hj3 : j < kvs.length := by omega
    have hj2 : j < kb.length := by omega
    obtain ⟨k1, r1⟩ := p4.get e1 (List.getElem?_eq_getElem hj3)
    obtain ⟨k2, r2⟩ := q4.get (List.getElem?_eq_getElem hj2) (List.getElem?_eq_getElem hj3)
    have hkb : (x, kb[j].2) ∈ kb := by
      have ex : x = kb[j].1 := by rw [k2]; exact k1
      rw [ex]; exact List.getElem_mem hj2
    obtain ⟨_, _, _, _, _, _, nd⟩ := q3
    refine ⟨kb[j].2, valueAt_of_mem nd hkb, ?_⟩
    have hm : kvs[j].2.dep ≤ D.depK kvs := depK_mem (k := kvs[j].1) (List.getElem_mem hj3)
    exact eqW C (D.depK kvs) kvs[j].2 hm A.in1 s G _ _ (by show A.units + 1 + _ < _; omega) sub r1 r2
  | bytes x =>
    cases h1; cases h2
    intro E Q hq
    rcases hop with rfl | rfl
    · exact eq_bytes (by simpa [opRes] using hq)
    · exact ne_bytes (by simpa [opRes] using hq)
  | _ => cases hb

theorem bim (op : CmpOp) (h : op = .Eq ∨ op = .NotEq) (r : Expr) : behindInMarks op r = false := by
  cases r with
  | Set elts j p =>
    rcases h with rfl | rfl
    · rw [behindInMarks, show ((CmpOp.Eq == CmpOp.In || CmpOp.Eq == CmpOp.NotIn) = false) from rfl]; simp
    · rw [behindInMarks, show ((CmpOp.NotEq == CmpOp.In || CmpOp.NotEq == CmpOp.NotIn) = false) from rfl]; simp
  | _ => rfl
theorem T_ne {l r : Expr} {pos : Pos} {d : D} (h1 : Ev C k sc ρ l (dat C d) ρ) (h2 : Ev C k sc ρ r (dat C d) ρ) (hb : isBox d = true) (hk : d.dep ≤ 8 * k) : T C k sc ρ (.Compare l [.NotEq] [r] pos) false :=
  T_cmp h1 h2 (bim _ (.inr rfl) r) fun A s G u v Q E hr sub hu hv hQ => by
    have := hr.2.2
    exact cmp_same .NotEq (.inr rfl) hb (by omega) sub hu hv E Q (hQ s.toks)
theorem Ev_eq {l r : Expr} {pos : Pos} {d : D} (h1 : Ev C k sc ρ l (dat C d) ρ) (h2 : Ev C k sc ρ r (dat C d) ρ) (hb : isBox d = true) (hk : d.dep ≤ 8 * k) : Ev C k sc ρ (.Compare l [.Eq] [r] pos) (dat C (.bool true)) ρ := fun A env H G₀ G m X s Q E hh F hQ => by
  refine wpAny_Compare1 (h1 A env H G₀ G m X s _ E hh F fun u ow h' tk G' le hu F' => ?_) (bim _ (.inl rfl) r)
  obtain ⟨rfl, hu⟩ := hu
  refine h2 A env H G₀ G' m _ _ _ E hh F' fun v ow' h'' tk' G'' le' hv F'' => ?_
  obtain ⟨rfl, hv⟩ := hv
  have := hh.room.2.2
  exact cmp_same .Eq (.inl rfl) hb (by omega) F''.sub (hu.mono le') hv E Q (hQ _ [] h'' tk' G'' (le.trans le') ⟨rfl, .bool _⟩ F'')

/-! atoms -/
theorem T_eqint {l r : Expr} {pos : Pos} {a b : Int} (h1 : Ev C k sc ρ l (dat C (.int a)) ρ) (h2 : Ev C k sc ρ r (dat C (.int b)) ρ) : T C k sc ρ (.Compare l [.Eq] [r] pos) (a == b) :=
  T_cmp h1 h2 (bim _ (.inl rfl) r) fun A s G u v Q E hr sub hu hv hQ => by
    cases hu; cases hv
    exact PyProof.Rows.eq_int (hQ s.toks)
theorem T_eqkey {l r : Expr} {pos : Pos} {a b : Key} (h1 : Ev C k sc ρ l (dat C a.d) ρ) (h2 : Ev C k sc ρ r (dat C b.d) ρ) : T C k sc ρ (.Compare l [.Eq] [r] pos) (decide (a = b)) :=
  T_cmp h1 h2 (bim _ (.inl rfl) r) fun A s G u v Q E hr sub hu hv hQ => by
    show wpAny _ _ (richCompare .Eq u v) Q E s
    have h := hQ s.toks
    cases a with
    | s x =>
      cases hu
      cases b with
      | s y =>
        cases hv
        refine PyProof.Rows.eq_str ?_
        have e : (x == y) = decide (Key.s x = Key.s y) := by by_cases q : x = y <;> simp [q]
        rw [e]; exact h
      | b y =>
        cases hv
        rw [show decide (Key.s x = Key.b y) = false by simp] at h
        exact EqNone.wpAny_richCompare_eq_decline (k := false) (fun s' => typeIs_str s' _ _) (fun s' => typeIs_bytes s' _ _) (by decide) F.sub_bytes_str F.slot_str_eq FB.slot_bytes_eq rfl
          (call_gives F.slot_str_eq (typeIs_str s _ _) F.entry_str_eq (F.args_str_eq_2 _ _) (str_eq_bytes _ _ _ _) ⟨rfl, call_gives FB.slot_bytes_eq (typeIs_bytes s _ _) FB.entry_bytes_eq (FB.args_bytes_eq_2 _ _) (bytes_eq_str _ _ _ _) ⟨rfl, h⟩⟩)
    | b x =>
      cases hu
      cases b with
      | b y =>
        cases hv
        refine eq_bytes ?_
        have e : (x.toArray.toList == y.toArray.toList) = decide (Key.b x = Key.b y) := by by_cases q : x = y <;> simp [q]
        rw [e]; exact h
      | s y =>
        cases hv
        rw [show decide (Key.b x = Key.s y) = false by simp] at h
        exact EqNone.wpAny_richCompare_eq_decline (k := false) (fun s' => typeIs_bytes s' _ _) (fun s' => typeIs_str s' _ _) (by decide) F.sub_str_bytes FB.slot_bytes_eq F.slot_str_eq_refl rfl
          (call_gives FB.slot_bytes_eq (typeIs_bytes s _ _) FB.entry_bytes_eq (FB.args_bytes_eq_2 _ _) (bytes_eq_str _ _ _ _) ⟨rfl, call_gives F.slot_str_eq_refl (typeIs_str s _ _) F.entry_str_eq (F.args_str_eq_2 _ _) (str_eq_bytes _ _ _ _) ⟨rfl, h⟩⟩)

theorem any_reps {G : Gm} {α : Type} (f : α → D) (g : α → Bool) (e : Value → Bool) (he : ∀ (x : α) (v : Value), Rep C G v (f x) → e v = g x) : ∀ {vs : List Value} {xs : List α}, Reps C G vs (xs.map f) → vs.any e = xs.any g
  | [], [], _ => rfl
  | v :: vs, x :: xs, h => by
    cases h with
    | cons h1 h2 => rw [List.any_cons, List.any_cons, he x v h1, any_reps f g e he h2]
  | [], _ :: _, h => by cases h
  | _ :: _, [], h => by cases h
theorem T_in_strs {l r : Expr} {pos : Pos} {x : Str} {xs : List Str} (h1 : Ev C k sc ρ l (dat C (.str x)) ρ) (h2 : Ev C k sc ρ r (dat C (.tup (xs.map D.str))) ρ) (hm : behindInMarks .In r = false) : T C k sc ρ (.Compare l [.In] [r] pos) (xs.any fun y => decide (y = x)) :=
  T_cmp h1 h2 hm fun A s G u v Q E hr sub hu hv hQ => by
    obtain ⟨a, o, vs, n, rfl, q1, q2, q3, q4⟩ := hv.tup_inv
    cases hu with
    | str _ t =>
    refine SeqAt.in_tupleAt (fun y => y.isStr x) ⟨o, sub _ _ q1, q2, n, q3⟩ (fun y hy => ?_) ?_
    · obtain ⟨i, hi, rfl⟩ := List.getElem_of_mem (Array.mem_toList_iff.mpr hy)
      have hl := q4.length
      have hi2 : i < (xs.map D.str).length := by omega
      have hrp := q4.get (List.getElem?_eq_getElem hi) (List.getElem?_eq_getElem hi2)
      rw [List.getElem_map] at hrp
      generalize vs.toList[i] = y at hrp
      cases hrp with
      | str _ t' => exact fun prog w E Q hq => (strKind prog w).eqBool (a := xs[i]'(by simpa using hi2)) (b := x) (isKey_str _ t') (isKey_str x t) (by
          have e : (Value.str (xs[i]'(by simpa using hi2)) t').isStr x = decide (xs[i]'(by simpa using hi2) = x) := by
            show (xs[i]'(by simpa using hi2) == x) = _
            by_cases q : xs[i]'(by simpa using hi2) = x <;> simp [q]
          rw [e] at hq; exact hq)
    · have e : vs.any (fun y => y.isStr x) = xs.any fun y => decide (y = x) := by
        have := any_reps (C := C) (G := G) D.str (fun y => decide (y = x)) (fun y => y.isStr x) (fun z v hv => by cases hv; show (z == x) = _; by_cases q : z = x <;> simp [q]) q4
        simpa using this
      rw [e]; exact hQ s.toks
theorem T_in_ints {l r : Expr} {pos : Pos} {x : Int} {xs : List Int} (h1 : Ev C k sc ρ l (dat C (.int x)) ρ) (h2 : Ev C k sc ρ r (dat C (.tup (xs.map D.int))) ρ) (hm : behindInMarks .In r = false) : T C k sc ρ (.Compare l [.In] [r] pos) (xs.any fun y => decide (y = x)) :=
  T_cmp h1 h2 hm fun A s G u v Q E hr sub hu hv hQ => by
    obtain ⟨a, o, vs, n, rfl, q1, q2, q3, q4⟩ := hv.tup_inv
    cases hu with
    | int _ t =>
    refine SeqAt.in_tupleAt (fun y => isInt x y) ⟨o, sub _ _ q1, q2, n, q3⟩ (fun y hy => ?_) ?_
    · obtain ⟨i, hi, rfl⟩ := List.getElem_of_mem (Array.mem_toList_iff.mpr hy)
      have hl := q4.length
      have hi2 : i < (xs.map D.int).length := by omega
      have hrp := q4.get (List.getElem?_eq_getElem hi) (List.getElem?_eq_getElem hi2)
      rw [List.getElem_map] at hrp
      generalize vs.toList[i] = y at hrp
      cases hrp with
      | int _ t' => exact fun prog w E Q hq => (intKind prog w).eqBool (a := xs[i]'(by simpa using hi2)) (b := x) (intKind_is _ _ _ t') (intKind_is _ _ x t) (by
          have e : isInt x (Value.int (xs[i]'(by simpa using hi2)) t') = decide (xs[i]'(by simpa using hi2) = x) := by
            show (xs[i]'(by simpa using hi2) == x) = _
            by_cases q : xs[i]'(by simpa using hi2) = x <;> simp [q]
          rw [e] at hq; exact hq)
    · have e : vs.any (fun y => isInt x y) = xs.any fun y => decide (y = x) := by
        have := any_reps (C := C) (G := G) D.int (fun y => decide (y = x)) (fun y => isInt x y) (fun z v hv => by cases hv; show (z == x) = _; by_cases q : z = x <;> simp [q]) q4
        simpa using this
      rw [e]; exact hQ s.toks

/-! truth -/
theorem T_val {e : Expr} {d : D} {b : Bool} (h : Ev C k sc ρ e (dat C d) ρ) (he : ∀ env (whole : Sem Value), isTrue e env whole = (do let v ← whole; standAt e.pos; holding [v] (truthy v)))
    (ht : ∀ (A : Around) (s : Shared) (G : Gm) (u : Value) (Q : Bool → Shared → Prop) (E : Value → Shared → Prop), (∀ b o, G b = some o → s.heap.get? b = some o) → Rep C G u d → (∀ tk, Q b { s with toks := tk }) → wpAny (model C.prog C.w) A (truthy u) Q E s) : T C k sc ρ e b := fun A env H G₀ G m X s Q E hh F hQ => by
  refine wpAny_isTrue_value (h A env H G₀ G m X s _ E hh F fun u ow h' tk G' le hu F' => ?_) (he env _)
  obtain ⟨rfl, hu⟩ := hu
  exact ht A _ G' u Q E F'.sub hu fun tk' => hQ h' tk' G' le F'
def tru : D → Option Bool
  | .none => some false
  | .bool b => some b
  | .int i => some (i != 0)
  | .list xs => some (!xs.isEmpty)
  | .dict kvs => some (!kvs.isEmpty)
  | _ => none
def fits : D → Prop
  | .list xs => xs.length ≤ 1000
  | .dict kvs => kvs.length ≤ 1000
  | _ => True
theorem truthy_tru {A : Around} {s : Shared} {G : Gm} {u : Value} {d : D} {b : Bool} {Q : Bool → Shared → Prop} {E : Value → Shared → Prop} (hd : tru d = some b) (hf : fits d) (sub : ∀ b o, G b = some o → s.heap.get? b = some o) (hu : Rep C G u d) (hQ : ∀ tk, Q b { s with toks := tk }) :
    wpAny (model C.prog C.w) A (truthy u) Q E s := by
  cases d with
  | none => cases hu; cases hd; exact wpAny_pure (hQ s.toks)
  | bool c => cases hu; cases hd; exact wpAny_truthy_bool (hQ s.toks)
  | int i => cases hu; cases hd; exact PyProof.Rows.truthy_int (hQ s.toks)
  | list xs =>
    cases hd
    obtain ⟨a, o, vs, n, rfl, q1, q2, q3, q4⟩ := hu.list_inv
    have hl := q4.length
    have hf' : xs.length ≤ 1000 := hf
    refine wpAny_truthy_list (items := vs) ⟨o, sub _ _ q1, q2, n, q3⟩ (by simp at hl; omega) ?_
    have e : vs.isEmpty = xs.isEmpty := by
      cases xs with
      | nil => simp at hl; simp [hl]
      | cons x r => simp at hl; simp [Array.isEmpty, hl]
    rw [e]; exact hQ _
  | dict kvs =>
    cases hd
    obtain ⟨a, o, kvv, rfl, q2, q3, q4, q5⟩ := hu.dict_inv
    have hl := q5.length
    have hf' : kvs.length ≤ 1000 := hf
    refine wpAny_truthy_dict (knd := keyKind C.prog C.w) q3 (Heap.dictOf_iff.mpr ⟨o, sub _ _ q2, q4⟩) (by omega) ?_
    have e : kvv.isEmpty = kvs.isEmpty := by cases q5 <;> rfl
    rw [e]; exact hQ _
  | _ => cases hd
theorem T_tru {e : Expr} {d : D} {b : Bool} (h : Ev C k sc ρ e (dat C d) ρ) (hd : tru d = some b) (hf : fits d) (he : ∀ env (whole : Sem Value), isTrue e env whole = (do let v ← whole; standAt e.pos; holding [v] (truthy v))) : T C k sc ρ e b :=
  T_val h he fun A s G u Q E sub hu hQ => truthy_tru hd hf sub hu hQ
/-! and, or as values -/
theorem Ev_and {x y : Expr} {pos : Pos} {d : D} {b : Bool} {r : Res} (h1 : Ev C k sc ρ x (dat C d) ρ) (hd : tru d = some b) (hf : fits d) (h2 : b = true → Ev C k sc ρ y r ρ) (h0 : b = false → r = dat C d) : Ev C k sc ρ (.BoolOp .And [x, y] pos) r ρ := fun A env H G₀ G m X s Q E hh F hQ => by
  refine wpAny_And2 (h1 A env H G₀ G m X s _ E hh F fun u ow h' tk G' le hu F' => ?_)
  obtain ⟨rfl, hu⟩ := hu
  refine truthy_tru hd hf F'.sub hu fun tk' => ?_
  cases b with
  | true => rw [if_pos rfl]; exact h2 rfl A env H G₀ G' m X _ Q E hh F' fun v ow h'' tk'' G'' le'' => hQ v ow h'' tk'' G'' (le.trans le'')
  | false =>
    rw [if_neg (by simp)]
    have e := h0 rfl
    subst e
    exact hQ u [] h' tk' G' le ⟨rfl, hu⟩ F'
theorem Ev_or {x y : Expr} {pos : Pos} {d : D} {b : Bool} {r : Res} (h1 : Ev C k sc ρ x (dat C d) ρ) (hd : tru d = some b) (hf : fits d) (h2 : b = false → Ev C k sc ρ y r ρ) (h0 : b = true → r = dat C d) : Ev C k sc ρ (.BoolOp .Or [x, y] pos) r ρ := fun A env H G₀ G m X s Q E hh F hQ => by
  refine wpAny_Or2 (h1 A env H G₀ G m X s _ E hh F fun u ow h' tk G' le hu F' => ?_)
  obtain ⟨rfl, hu⟩ := hu
  refine truthy_tru hd hf F'.sub hu fun tk' => ?_
  cases b with
  | false => rw [if_neg (by simp)]; exact h2 rfl A env H G₀ G' m X _ Q E hh F' fun v ow h'' tk'' G'' le'' => hQ v ow h'' tk'' G'' (le.trans le'')
  | true =>
    rw [if_pos rfl]
    have e := h0 rfl
    subst e
    exact hQ u [] h' tk' G' le ⟨rfl, hu⟩ F'
end
end Mine

set_option maxRecDepth 100000
set_option autoImplicit false
set_option linter.unusedVariables false
namespace Mine
open PySem PySem.W PyProof.Rows

section
variable {C : Cx} {k : Nat} {sc sc' : Scope} {ρ ρ₁ ρ₂ ρ' : Ctx} {P : Post}

/-! arguments -/
theorem Binds_1 {fd : FuncData} {x : Str} {d : D} (hb : ∀ v, bindArgs fd ⟨[v], []⟩ = pure [(x, v)]) (hx : sc.names.lookup x = some .local) : Binds C fd sc [d] [] [(x, dat C d)] := by
  intro A G s vs kvs Q E hle sub hvs hkw hQ
  obtain ⟨h1, h2⟩ := hkw
  cases kvs with
  | cons _ _ => simp at h1
  | nil =>
    cases hvs with
    | @cons v _ _ _ hv hn =>
      cases hn
      rw [hb]
      refine wpAny_pure (hQ _ s.heap s.toks G (Grow.refl _ _) sub (Loc.cons (v := v) (ow := []) (own := []) ?_ ⟨rfl, hv⟩ .nil) fun p hp => ?_)
      · simp
      · rw [List.mem_singleton.mp hp]; exact hx
theorem Binds_kw0 {fd : FuncData} {x y : Str} {d : D} (hb : ∀ v, bindArgs fd ⟨[v], []⟩ = (alloc { cls := .type "dict", data := .dict #[] } >>= fun a => pure [(x, v), (y, .ref a)])) (hxy : (x == y) = false) (hx : sc.names.lookup x = some .local) (hy : sc.names.lookup y = some .local) :
    Binds C fd sc [d] [] [(x, dat C d), (y, dat C (.dict []))] := by
  intro A G s vs kvs Q E hle sub hvs hkw hQ
  obtain ⟨h1, h2⟩ := hkw
  cases kvs with
  | cons _ _ => simp at h1
  | nil =>
    cases hvs with
    | @cons v _ _ _ hv hn =>
      cases hn
      rw [hb]
      refine wpAny_bind (wpAny_alloc (wpAny_pure ?_))
      obtain ⟨gr, sub'⟩ := grow_frozen (Own.nil sub) dobj0 rfl
      have le := gr.gle (Own.nil sub)
      refine hQ _ _ s.toks _ gr sub' (Loc.cons (v := v) (ow := []) (own := []) ?_ ⟨rfl, hv.mono le⟩ (Loc.cons (v := .ref s.heap.objs.size) (ow := []) (own := []) ?_ ⟨rfl, Rep.dict' (Gadd_self ..) (notMods hle (get?_size _)) dobj0_is .nil⟩ .nil)) fun p hp => ?_
      · show List.lookup x [(y, Value.ref s.heap.objs.size), (x, v)] = some v
        rw [List.lookup_cons, hxy]
        simp
      · simp
      · rcases List.mem_cons.mp hp with rfl | hp
        · exact hx
        · rw [List.mem_singleton.mp hp]; exact hy
theorem nsSet_one {A : Around} {s : Shared} {E : Value → Shared → Prop} {d : Addr} {x : Str} {v : Value} {Q : Unit → Shared → Prop} (hd : s.heap.get? d = some dobj0)
    (hQ : ∀ h' o' tk, h'.get? d = some o' → Heap.SameBut d s.heap h' → o'.IsDictOf (keyKind C.prog C.w) [(.s x, v)] → Q () { s with heap := h', toks := tk }) : wpAny (model C.prog C.w) A (nsSet d x v) Q E s := by
  obtain ⟨hp, g, dr, tk, os⟩ := s
  unfold nsSet
  repeat (any_goals (first | assumption | wp_step))
  refine wpAny_askSetting ?_
  refine wpAny_pure ?_
  refine wpAny_bind (wpAny_mkText ?_)
  refine wpAny_bind (wpAny_loadPart hd ?_)
  show wpAny _ _ (if aRefKeyMayBeTheName x #[] = true then _ else _) _ _ _
  rw [if_neg (by simp [aRefKeyMayBeTheName, nsNameIn])]
  have ep : Obj.putName x (hashStr C.w x) (.str x tk) v dobj0 = { cls := .type "dict", data := .dict #[⟨hashStr C.w x, .str x tk, v⟩] 1 } := by
    rw [Obj.putName_eq]; simp [Obj.putNameByArray, dobj0]
  refine wpAny_updatePart hd (hQ _ _ _ (Heap.get?_update_self _ hd (by show (Obj.putName x (hashStr C.w x) (.str x tk) v dobj0).isFreed = false; rw [ep]; rfl)) (Heap.SameBut.update ..) ?_)
  show Obj.IsDictOf _ (Obj.putName x (hashStr C.w x) (.str x tk) v dobj0) _
  rw [ep]
  refine ⟨_, _, ⟨rfl, rfl, rfl⟩, rfl, fun e he => ?_, .cons (isKey_str x tk) rfl .nil, by simp⟩
  have : e = ⟨hashStr C.w x, .str x tk, v⟩ := by simpa using he
  subst this
  exact ⟨.s x, isKey_str x tk, rfl⟩
end
end Mine

set_option maxRecDepth 100000
set_option autoImplicit false
set_option linter.unusedVariables false
namespace Mine
open PySem PySem.W PyProof.Rows

section
variable {C : Cx} {k : Nat} {sc sc' : Scope} {ρ ρ₁ ρ₂ ρ' : Ctx} {P : Post}

theorem Ev_gdata {x : Str} {pos : Pos} {v : Value} {d : D} (hv : C.mg x = some v) (hr : Rep C (fun b => C.h.get? b) v d) (hx : sc.names.lookup x = some .globalImplicit) (hd : (x == ("__debug__" : Str)) = false) : Ev C k sc ρ (.Name x pos) (dat C d) ρ := fun A env H G₀ G m X s Q E hh F hQ =>
  Ev_global hv hx hd A env H G₀ G m X s Q E hh F fun u ow h' tk G' le hu F' => by
    obtain ⟨rfl, rfl⟩ := hu
    exact hQ u [] h' tk G' le ⟨rfl, hr.mono (F'.gbase hh.base)⟩ F'

theorem T_isi {fp tp pos : Pos} {e : Expr} {d : D} {Ty : String} {nm : Str} (h : Ev C k sc ρ e (dat C d) ρ) (hT : Ty = "int" ∨ Ty = "bytes" ∨ Ty = "list" ∨ Ty = "dict") (h1 : C.mg "isinstance" = none) (h2 : C.mg nm = none) (hb : bootBuiltins nm = some (.type Ty))
    (hx1 : sc.names.lookup ("isinstance" : Str) = some .globalImplicit) (hx2 : sc.names.lookup nm = some .globalImplicit) (hd : (nm == ("__debug__" : Str)) = false) (hn : nm ≠ "__name__") (hst : ∀ env, backTo pos (starEach [e, .Name nm tp] env) = [e, .Name nm tp].map fun e => (false, eval e env)) :
    T C k sc ρ (.Call (.Name "isinstance" fp) [e, .Name nm tp] [] pos) (isiD d Ty) :=
  T_tru (Ev_bcall (f := .builtin "isinstance") (rs := [dat C d, val (.type Ty)]) h1 (by rfl) rfl hx1 (by rfl) (by decide) (Evs_cons h (Evs_cons (Ev_builtin h2 hb hx2 hd hn) Evs_nil)) hst (Bf_isinstance hT) (Nat.le_refl k)) rfl trivial fun _ _ => rfl

/-! a dict that the frame holds -/
theorem own_dict {H : Heap} {G₀ G : Gm} {L : Addr} {m : Str → Option Value} {X : List (Addr × Obj)} {h : Heap} {x : Str} {kvs : List (Key × D)} (F : Fm H G₀ G L m ρ X h) (hp : Pick (x, dct C kvs) ρ ρ') :
    ∃ d o kvv, m x = some (.ref d) ∧ (d == sysModules) = false ∧ h.get? d = some o ∧ o.IsDictOf (keyKind C.prog C.w) kvv ∧ RepKV C G kvv kvs ∧ Fm H G₀ G L m ρ' ((d, o) :: X) h := by
  obtain ⟨v, ow, hm, ⟨d, o, kvv, rfl, rfl, h1, h2, h3⟩, F₁⟩ := F.take hp
  exact ⟨d, o, kvv, hm, h1, F₁.ownX.at_ (d, o) (.head _), h2, h3, F₁⟩
theorem eval_local {A : Around} {env : Env} {H : Heap} {G₀ G : Gm} {m : Str → Option Value} {X : List (Addr × Obj)} {s : Shared} {E : Value → Shared → Prop} {x : Str} {p : Pos} {v : Value} {Q : Value → Shared → Prop} (hh : Here C k sc A env H G₀) (F : Fm H G₀ G env.locals m ρ X s.heap)
    (hx : sc.names.lookup x = some .local) (hdb : (x == ("__debug__" : Str)) = false) (hm : m x = some v) (h : Q v s) : wpAny (model C.prog C.w) A (eval (.Name x p) env) Q E s := by
  obtain ⟨own, n', _⟩ := F.ex
  exact wpAny_Name (wpAny_loadName_local (by rw [hh.env.isSc]; exact hh.env.kind) (by rw [hh.env.kindOf]; exact hx) n' hm h) hdb

theorem Ev_ownget {x : Str} {p pos : Pos} {slice : Expr} {kvs : List (Key × D)} {key : Key} {d : D} (hp : Pick (x, dct C kvs) ρ ρ') (hx : sc.names.lookup x = some .local) (hdb : (x == ("__debug__" : Str)) = false) (hs : Ev C k sc ρ slice (dat C key.d) ρ) (hg : dget kvs key = some d)
    (hsub : ∀ o i, subscripted slice false o i = operate [o, i] (getItem o i)) : Ev C k sc ρ (.Subscript (.Name x p) slice pos) (dat C d) ρ := fun A env H G₀ G m X s Q E hh F hQ => by
  rw [arm_eval_Subscript]
  obtain ⟨a, o, kvv, hm, h1, h2, h3, h4, _⟩ := own_dict F hp
  refine wpAny_bind (eval_local hh F hx hdb hm ?_)
  refine wpAny_bind (wpAny_holding (hs A env H G₀ G m X _ _ E hh F fun v ow h₂ tk₂ G₂ le₂ hv F₂ => ?_))
  obtain ⟨rfl, hv⟩ := hv
  rw [List.nil_append] at F₂
  obtain ⟨a', o', kvv', hm', q1, q2, q3, q4, _⟩ := own_dict F₂ hp
  rw [hm] at hm'
  cases hm'
  have hD : h₂.DictOf (keyKind C.prog C.w) a kvv' := Heap.dictOf_iff.mpr ⟨o', q2, q3⟩
  have hT : Shared.TypeIs { s with heap := h₂, toks := tk₂ } (.ref a) "dict" := hD.typeIs
  refine wpAny_bind (wpAny_standAt ?_)
  refine wpAny_bind ?_
  rw [getitemInPython_of_ne hT.not_modules]
  refine wpAny_bind (wpAny_specialOf hT slot_dict_getitem.lookup ?_)
  refine wpAny_pure ?_
  rw [hsub]
  rcases q4.look key with ⟨_, e2⟩ | ⟨w, dd, e1, e2, e3⟩
  · rw [hg] at e2; cases e2
  · rw [hg] at e2; cases e2
    refine wpAny_bind (wpAny_operating (wpAny_getItem_of (knd := keyKind C.prog C.w) (key_rep hv) hD.mapOf e1 ?_))
    exact wpAny_bind (wpAny_letTemporaryGo (wpAny_pure (hQ w [] h₂ _ G₂ le₂ ⟨rfl, e3⟩ F₂)))
theorem T_ownin {x : Str} {p pos : Pos} {l : Expr} {kvs : List (Key × D)} {key : Key} (hp : Pick (x, dct C kvs) ρ ρ') (hx : sc.names.lookup x = some .local) (hdb : (x == ("__debug__" : Str)) = false) (hs : Ev C k sc ρ l (dat C key.d) ρ) :
    T C k sc ρ (.Compare l [.In] [.Name x p] pos) (dget kvs key).isSome := fun A env H G₀ G m X s Q E hh F hQ => by
  refine wpAny_isTrue_Compare1 (hs A env H G₀ G m X s _ E hh F fun v ow h₂ tk₂ G₂ le₂ hv F₂ => ?_) rfl
  obtain ⟨rfl, hv⟩ := hv
  rw [List.nil_append] at F₂
  obtain ⟨a, o, kvv, hm, q1, q2, q3, q4, _⟩ := own_dict F₂ hp
  refine eval_local hh F₂ hx hdb hm ?_
  have hD : h₂.DictOf (keyKind C.prog C.w) a kvv := Heap.dictOf_iff.mpr ⟨o, q2, q3⟩
  refine wpAny_in_of (knd := keyKind C.prog C.w) (key_rep hv) q1 hD.mapOf ?_
  have e : (valueAt kvv key).isSome = (dget kvs key).isSome := by
    rcases q4.look key with ⟨e1, e2⟩ | ⟨w, dd, e1, e2, e3⟩
    · rw [e1, e2]; rfl
    · rw [e1, e2]; rfl
  rw [e]
  exact wpAny_truthy_bool (hQ h₂ _ G₂ le₂ F₂)
theorem Es_ownset {x : Str} {p pos pos' : Pos} {slice value : Expr} {kvs : List (Key × D)} {key : Key} {d : D} (hp : Pick (x, dct C kvs) ρ ρ') (hx : sc.names.lookup x = some .local) (hdb : (x == ("__debug__" : Str)) = false) (hv : Ev C k sc ρ value (dat C d) ρ) (hs : Ev C k sc ρ slice (dat C key.d) ρ)
    (hsw : ∀ env, swapsWith value (some (.Subscript (.Name x p) slice pos')) pos.line env = pure false) (hz : kvs.length ≤ 1000) : Es C k sc ρ (.Assign [.Subscript (.Name x p) slice pos'] value pos) ((x, dct C (dset kvs key d)) :: ρ') := fun A env H G₀ G m X s Q E hh F hQ => by
  refine wpAny_Assign_Subscript (hv A env H G₀ G m X s _ E hh F fun u ow h₁ tk₁ G₁ le₁ hu F₁ => ?_) (hsw env)
  obtain ⟨rfl, hu⟩ := hu
  rw [List.nil_append] at F₁
  obtain ⟨a, o, kvv, hm, _⟩ := own_dict F₁ hp
  refine eval_local hh F₁ hx hdb hm ?_
  refine hs A env H G₀ G₁ m X _ _ E hh F₁ fun kv ow h₂ tk₂ G₂ le₂ hkv F₂ => ?_
  obtain ⟨rfl, hkv⟩ := hkv
  rw [List.nil_append] at F₂
  obtain ⟨a', o', kvv', hm', q1, q2, q3, q4, F₃⟩ := own_dict F₂ hp
  rw [hm] at hm'
  cases hm'
  have hD : h₂.DictOf (keyKind C.prog C.w) a kvv' := Heap.dictOf_iff.mpr ⟨o', q2, q3⟩
  have hl := q4.length
  refine wpAny_setItem_pairs (knd := keyKind C.prog C.w) (key_rep hkv) hD (fun h₄ hd₄ hs₄ => ?_) (by rw [sizeLine_eq]; omega)
  obtain ⟨o₄, ho₄, hi₄⟩ := Heap.dictOf_iff.mp hd₄
  have st₄ := Step.set (X := []) (Y := X) F₃.ownX hs₄.extBut ho₄
  have F₄ : Fm H G₀ G₂ env.locals m ρ' ((a, o₄) :: X) h₄ := by
    have := Fm.step (X := []) (by simpa using F₃) st₄
    rw [List.append_nil] at this
    exact this
  exact hQ m h₄ _ G₂ (le₁.trans le₂) (Fm.back (p := (x, dct C (dset kvs key d))) (ow := [(a, o₄)]) F₄ hm ⟨a, o₄, _, rfl, rfl, q1, hi₄, q4.set (hu.mono le₂)⟩)

/-! more of built-in things -/
def rng (C : Cx) (n : Nat) : Res := ⟨fun G v ow => ∃ (r : Addr) (t u w : Tok) (o : Obj), v = .ref r ∧ ow = [] ∧ G r = some o ∧ o = { cls := .type "range", data := .fields #[.int 0 t, .int (n : Int) u, .int 1 w] }, fun le ⟨r, t, u, w, o, h1, h2, h3, h4⟩ => ⟨r, t, u, w, o, h1, h2, le _ _ h3, h4⟩⟩
theorem Its_range : Its C k (rng C 6) (rit C ((List.range 6).map fun (j : Nat) => D.int (0 + j))) := by
  rintro A G s v ow Q E hroom hpre ⟨r, t, u, w, o, rfl, rfl, h3, rfl⟩ hQ
  have hr : IsRange s.heap r 0 ((6 : Nat) : Int) 1 t u w := hpre.own.sub _ _ h3
  have e : Builtin.Range.rangeSize 0 ((6 : Nat) : Int) 1 = ((6 : Nat) : Int) := by decide
  refine wpAny_pyIter_range hr (by decide) ?_
  rw [e]
  obtain ⟨gr, ow⟩ := grow_held hpre.own { cls := .type "range_iterator", data := .fields #[rawInt 0, rawInt ((6 : Nat) : Int), rawInt 1] } rfl
  exact hQ _ _ _ s.toks G (Step.of_grow gr ow fun p hp => by rw [List.mem_singleton.mp hp]; exact get?_size _) ⟨_, 0, 6, _, rfl, rfl, rfl, rfl⟩
theorem Ev_range {fp pos : Pos} {e : Expr} {n : Nat} (h : Ev C k sc ρ e (dat C (.int n)) ρ) (h1 : C.mg "range" = none) (hx : sc.names.lookup ("range" : Str) = some .globalImplicit) (hst : ∀ env, backTo pos (starEach [e] env) = [e].map fun e => (false, eval e env)) :
    Ev C k sc ρ (.Call (.Name "range" fp) [e] [] pos) (rng C n) ρ :=
  Ev_bcall (f := .type "range") (rs := [dat C (.int n)]) (j := 0) h1 (by rfl) rfl hx (by rfl) (by decide) (Evs_cons h Evs_nil) hst (by
    intro A G s vs ows Q E hroom hpre hr hQ
    cases hr with
    | cons hr1 hn' =>
      cases hn'
      obtain ⟨rfl, hv⟩ := hr1
      cases hv with
      | int _ t =>
      refine call_range_1 ?_
      obtain ⟨gr, sub⟩ := grow_frozen (Own.nil hpre.own.sub) { cls := .type "range", data := .fields #[.int 0 s.toks, .int (n : Int) t, .int 1 (s.toks + 1)] } rfl
      exact hQ _ [] _ _ _ (Step.of_grow gr (.nil sub) fun _ hp => (nomatch hp)) ⟨_, _, _, _, _, rfl, rfl, Gadd_self .., rfl⟩) (Nat.zero_le k)
end
end Mine

set_option maxRecDepth 100000
set_option autoImplicit false
set_option linter.unusedVariables false
namespace Mine
open PySem PySem.W PyProof.Rows

/-- a dict that the frame holds, at a place, while it is walked -/
def pind (C : Cx) (d : Addr) (ep : Nat) (kvs : List (Key × D)) : Res :=
  ⟨fun G v ow => v = .ref d ∧ ∃ (o : Obj) (es : Array DictEntry) (kvv : List (Key × Value)), ow = [(d, o)] ∧ (d == sysModules) = false ∧ o.ExactDict ∧ o.data = .dict es ep ∧ KeysOf (keyKind C.prog C.w) es ∧ Pairs (keyKind C.prog C.w) es.toList kvv ∧ (kvv.map fun q : Key × Value => q.1).Nodup ∧ RepKV C G kvv kvs,
  fun le ⟨h0, o, es, kvv, h1, h2, h3, h4, h5, h6, h7, h8⟩ => ⟨h0, o, es, kvv, h1, h2, h3, h4, h5, h6, h7, h8.mono le⟩⟩
theorem pind_dct {C : Cx} {d : Addr} {ep : Nat} {kvs : List (Key × D)} {G : Gm} {v : Value} {ow : List (Addr × Obj)} (h : (pind C d ep kvs).P G v ow) : (dct C kvs).P G v ow := by
  obtain ⟨rfl, o, es, kvv, rfl, h2, h3, h4, h5, h6, h7, h8⟩ := h
  exact ⟨d, o, kvv, rfl, rfl, h2, ⟨es, ep, h3, h4, h5, h6, h7⟩, h8⟩
theorem dct_pind {C : Cx} {kvs : List (Key × D)} {G : Gm} {v : Value} {ow : List (Addr × Obj)} (h : (dct C kvs).P G v ow) : ∃ d ep, (pind C d ep kvs).P G v ow := by
  obtain ⟨d, o, kvv, rfl, rfl, h2, ⟨es, ep, h3, h4, h5, h6, h7⟩, h8⟩ := h
  exact ⟨d, ep, rfl, o, es, kvv, rfl, h2, h3, h4, h5, h6, h7, h8⟩

section
variable {C : Cx} {k : Nat} {sc sc' : Scope} {ρ ρ₁ ρ₂ ρ' : Ctx} {P : Post} {A : Around} {E : Value → Shared → Prop} {s : Shared}

theorem setItem_at {d : Addr} {o : Obj} {es : Array DictEntry} {ep : Nat} {kvv : List (Key × Value)} {x : Key} {key v : Value} {Q : Unit → Shared → Prop} (ho : s.heap.get? d = some o) (hx : o.ExactDict) (hd : o.data = .dict es ep) (hk : KeysOf (keyKind C.prog C.w) es)
    (hp : Pairs (keyKind C.prog C.w) es.toList kvv) (hn : (kvv.map (·.1)).Nodup) (hkey : isKey x key = true) (hin : x ∈ kvv.map (·.1))
    (hQ : ∀ h' o' es' tk, h'.get? d = some o' → Heap.SameBut d s.heap h' → o'.ExactDict → o'.data = .dict es' ep → KeysOf (keyKind C.prog C.w) es' → Pairs (keyKind C.prog C.w) es'.toList (stored kvv x v) → ((stored kvv x v).map (·.1)).Nodup → Q () { s with heap := h', toks := tk }) :
    wpAny (model C.prog C.w) A (setItem (.ref d) key v) Q E s := by
  have hT : s.TypeIs (.ref d) "dict" := ⟨o, ho, hx.1⟩
  unfold setItem
  try with_reducible refine wpAny_holding ?_
  refine wpAny_bind (wpAny_sequenceKey hT (by decide) ?_)
  refine wpAny_bind (wpAny_callSpecial?_slot (name := Str.ofString "__setitem__") hT slot_dict_setitem (wpAny_call_entry slot_dict_setitem hT entry_dict_setitem ?_ (args_dict_setitem _ _ _)))
  show wpAny _ _ (Builtin.Dict.notOrdered "__setitem__" ⟨[.ref d, key, v], []⟩ >>= _) _ _ s
  refine wpAny_bind (wpAny_notOrdered_dict hT ?_)
  show wpAny _ _ (dictSet d key v >>= _) _ _ s
  refine wpAny_bind ?_
  unfold dictSet
  refine wpAny_holding ?_
  refine wpAny_bind ((keyKind C.prog C.w).pyHash hkey ?_)
  unfold dictSetHashed
  refine wpAny_holding ?_
  refine wpAny_bind (wpAny_dictFind_of (knd := keyKind C.prog C.w) hkey ho hd hk ?_)
  have hidx : (es.findIdx? fun e => (keyKind C.prog C.w).is x e.key) = kvv.findIdx? fun kv => decide (kv.1 = x) := by
    rw [← hp.findIdx x]; obtain ⟨l⟩ := es; simp
  cases hi : es.findIdx? fun e => (keyKind C.prog C.w).is x e.key with
  | none => exact absurd hin (not_mem_of_findIdx_none (hidx ▸ hi))
  | some i =>
    have hl : (es.toList.findIdx? fun e => (keyKind C.prog C.w).is x e.key) = some i := by rw [← hi]; obtain ⟨l⟩ := es; simp
    refine wpAny_bind (wpAny_rule (wpAny_bind (wpAny_updateDict ho hd (wpAny_point (wpAny_pure ⟨.none, rfl, wpAny_pure (hQ _ _ _ _ (Heap.get?_update_self _ ho (Obj.isFreed_of_dict (Obj.data_mapDict hd _))) (Heap.SameBut.update ..)
      (hx.mapDict _) (Obj.data_mapDict hd _) (hk.modify _ _) ?_ ?_)⟩)))))
    · rw [stored, if_pos (any_of_findIdx_some (hidx ▸ hi))]
      have := hp.modify hn hl v
      obtain ⟨l⟩ := es
      simpa using this
    · rw [stored, if_pos (any_of_findIdx_some (hidx ▸ hi)), keys_map_store]; exact hn

theorem Es_set_pind {x : Str} {p pos pos' : Pos} {slice value : Expr} {kvs : List (Key × D)} {key : Key} {v : D} {d : Addr} {ep : Nat} (hp : Pick (x, pind C d ep kvs) ρ ρ') (hx : sc.names.lookup x = some .local) (hdb : (x == ("__debug__" : Str)) = false) (hv : Ev C k sc ρ value (dat C v) ρ) (hs : Ev C k sc ρ slice (dat C key.d) ρ)
    (hsw : ∀ env, swapsWith value (some (.Subscript (.Name x p) slice pos')) pos.line env = pure false) (hin : key ∈ kvs.map (·.1)) : Es C k sc ρ (.Assign [.Subscript (.Name x p) slice pos'] value pos) ((x, pind C d ep (dset kvs key v)) :: ρ') := fun A env H G₀ G m X s Q E hh F hQ => by
  refine wpAny_Assign_Subscript (hv A env H G₀ G m X s _ E hh F fun u ow h₁ tk₁ G₁ le₁ hu F₁ => ?_) (hsw env)
  obtain ⟨rfl, hu⟩ := hu
  rw [List.nil_append] at F₁
  obtain ⟨v₁, ow₁, hm, ⟨rfl, _⟩, _⟩ := F₁.take hp
  refine eval_local hh F₁ hx hdb hm ?_
  refine hs A env H G₀ G₁ m X _ _ E hh F₁ fun kv ow h₂ tk₂ G₂ le₂ hkv F₂ => ?_
  obtain ⟨rfl, hkv⟩ := hkv
  rw [List.nil_append] at F₂
  obtain ⟨v₂, ow₂, hm₂, ⟨rfl, o, es, kvv, rfl, q1, q2, q3, q4, q5, q6, q7⟩, F₃⟩ := F₂.take hp
  have hin' : key ∈ kvv.map (·.1) := by rw [q7.keys]; exact hin
  refine setItem_at (F₃.ownX.at_ (_, o) (.head _)) q2 q3 q4 q5 q6 (key_rep hkv) hin' fun h₄ o₄ es₄ tk₄ ho₄ hs₄ r1 r2 r3 r4 r5 => ?_
  have st₄ := Step.set (X := []) (Y := X) F₃.ownX hs₄.extBut ho₄
  have F₄ : Fm H G₀ G₂ env.locals m ρ' ((d, o₄) :: X) h₄ := by
    have := Fm.step (X := []) (by simpa using F₃) st₄
    rw [List.append_nil] at this
    exact this
  exact hQ m h₄ _ G₂ (le₁.trans le₂) (Fm.back (p := (x, pind C d ep (dset kvs key v))) (ow := [(d, o₄)]) F₄ hm ⟨rfl, o₄, es₄, _, rfl, q1, r1, r2, r3, r4, r5, q7.set (hu.mono le₂)⟩)

theorem Fm.imp {H : Heap} {G₀ G : Gm} {L : Addr} {m : Str → Option Value} {X : List (Addr × Obj)} {h : Heap} {x : Str} {r r' : Res} (F : Fm H G₀ G L m ((x, r) :: ρ) X h) (hi : ∀ v ow, r.P G v ow → r'.P G v ow) : Fm H G₀ G L m ((x, r') :: ρ) X h := by
  obtain ⟨v, ow, h1, h2, F'⟩ := F.aside
  exact F'.back (p := (x, r')) h1 (hi v ow h2)

theorem Es_for_own {x kx vx : Str} {p pk pv tp apos cpos pos : Pos} {j : Nat} {body : List Stmt} {kvs : List (Key × D)} (upd : Key × D → D) (hp : Pick (x, dct C kvs) ρ ρ') (hx : sc.names.lookup x = some .local) (hdb : (x == ("__debug__" : Str)) = false) (hkx : sc.names.lookup kx = some .local) (hvx : sc.names.lookup vx = some .local)
    (h1 : x ≠ kx) (h2 : x ≠ vx) (h3 : kx ≠ vx) (hline : (apos.endLine == cpos.line) = true)
    (step : ∀ d ep pre kv post, kvs = pre ++ kv :: post → Ex C k sc [(vx, dat C kv.2), (kx, dat C kv.1.d), (x, pind C d ep (pre.map (fun q => (q.1, upd q)) ++ kv :: post))] body
      ⟨fun ρ₂ => Wk ρ₂ [(x, pind C d ep (pre.map (fun q => (q.1, upd q)) ++ (kv.1, upd kv) :: post))], fun ρ₂ => Wk ρ₂ [(x, pind C d ep (pre.map (fun q => (q.1, upd q)) ++ (kv.1, upd kv) :: post))], fun _ => False⟩) :
    Es C k sc ρ (.For (.Tuple [.Name kx pk, .Name vx pv] j tp) (.Call (.Attribute (.Name x p) "items" apos) [] [] cpos) body [] pos) [(x, dct C (kvs.map fun q => (q.1, upd q)))] := fun A env H G₀ G m X s Q E hh F hQ => by
  obtain ⟨G', leW, FW⟩ := F.wk (Wk.pick hp (Wk.nil _))
  obtain ⟨v0, ow0, hm0, hd0, FA⟩ := FW.aside
  obtain ⟨d, ep, hpd⟩ := dct_pind hd0
  have F0 : Fm H G₀ G' env.locals m [(x, pind C d ep kvs)] X s.heap := FA.back (p := (x, pind C d ep kvs)) hm0 hpd
  obtain ⟨rfl, _⟩ := hpd
  have inv : ∀ {G : Gm} {m : Str → Option Value} {kvs : List (Key × D)} {X : List (Addr × Obj)} {h : Heap}, Fm H G₀ G env.locals m [(x, pind C d ep kvs)] X h → ∃ o es kvv, (d == sysModules) = false ∧ h.get? d = some o ∧ o.ExactDict ∧ o.data = .dict es ep ∧ KeysOf (keyKind C.prog C.w) es ∧ Pairs (keyKind C.prog C.w) es.toList kvv ∧ (kvv.map (·.1)).Nodup ∧ RepKV C G kvv kvs := by
    intro G m kvs X h F
    obtain ⟨v, ow, _, ⟨rfl, o, es, kvv, rfl, a1, a2, a3, a4, a5, a6, a7⟩, F'⟩ := F.aside
    exact ⟨o, es, kvv, a1, F'.ownX.at_ (d, o) (.head _), a2, a3, a4, a5, a6, a7⟩
  obtain ⟨o, es, kvv, a1, a2, a3, a4, a5, a6, a7, a8⟩ := inv F0
  have hD : s.heap.DictOf (keyKind C.prog C.w) d kvv := ⟨o, es, ep, a2, a3, a4, a5, a6, a7⟩
  refine wpAny_For (wpAny_Call_items (knd := keyKind C.prog C.w) a1 hD rfl hline (fun Q' hq => eval_local hh F0 hx hdb hm0 hq) ?_) (fun _ => rfl)
  -- the view and the iterator
  obtain ⟨gr₁, sub₁⟩ := grow_frozen F0.ownX { cls := .type "dict_items", data := .fields #[.ref d] } rfl
  have F1 := F0.grow0 gr₁ sub₁
  have leV := gr₁.gle F0.ownX
  obtain ⟨o1, es1, kvv1, b1, b2, b3, b4, b5, b6, b7, b8⟩ := inv F1
  refine wpAny_pyIter_items (knd := keyKind C.prog C.w) (d := d) (kvs := kvv1) (ep := ep) ⟨_, Heap.get?_push_size _ rfl, rfl, rfl⟩ ⟨o1, es1, b2, b3, b4, b5, b6, b7⟩ ?_
  obtain ⟨gr₂, ow₂⟩ := grow_held F1.ownX (iobj d 0 kvv1.length ep .none .none) rfl
  have F2 := F1.grow gr₂ ow₂ fun p hp => by rw [List.mem_singleton.mp hp]; exact get?_size _
  have hlen := b8.length
  rw [hlen] at F2 ⊢
  generalize (s.heap.push { cls := .type "dict_items", data := .fields #[.ref d] }).objs.size = it at F2 ⊢
  refine codeAny_forLoop_any (fun n s' => ∃ pre post G' m' h' tk ok ov, kvs = pre ++ post ∧ n = post.length ∧ s' = { s with heap := h', toks := tk } ∧ Gle G G' ∧ Fm H G₀ G' env.locals m' [(x, pind C d ep (pre.map (fun q => (q.1, upd q)) ++ post))] ((it, iobj d pre.length kvs.length ep ok ov) :: X) h') ?_ kvs.length
    ⟨[], kvs, _, m, _, s.toks, .none, .none, rfl, rfl, rfl, leW.trans leV, F2⟩
  rintro n s' ⟨pre, post, G', m', h', tk, ok, ov, hkv, rfl, rfl, le, F'⟩
  obtain ⟨o', es', kvv', c1, c2, c3, c4, c5, c6, c7, c8⟩ := inv F'
  have hD' : h'.DictAt (keyKind C.prog C.w) d kvv' ep := ⟨o', es', c2, c3, c4, c5, c6, c7⟩
  have hl' : kvv'.length = kvs.length := by
    have := c8.length
    rw [this, List.length_append, List.length_map, hkv, List.length_append]
  have hiter : IsItemIter h' it d pre.length kvv'.length ep ok ov := by
    rw [hl']; exact F'.ownX.at_ (it, _) (.head _)
  have ownI : Own G' [(it, iobj d pre.length kvs.length ep ok ov)] h' := F'.ownX.le (List.sublist_append_left [_] X)
  cases post with
  | nil =>
    have hn : kvv'[pre.length]? = none := by
      rw [List.getElem?_eq_none_iff, hl', hkv]; simp
    refine wpAny_pyNext_items_end hh.room.1 hiter hD' hn fun h₃ hs₃ => ?_
    have F₃ : Fm H G₀ G' env.locals m' [(x, pind C d ep (pre.map (fun q => (q.1, upd q)) ++ []))] X h₃ := by
      have := Fm.step (ows := [(it, iobj d pre.length kvs.length ep ok ov)]) (ow := []) F' (Step.lose ownI hs₃)
      exact this
    refine wpAny_execs_nil (hQ m' h₃ tk G' le ?_)
    have e : kvs = pre := by simpa using hkv
    rw [e]
    rw [List.append_nil] at F₃
    exact F₃.imp fun v ow h => pind_dct h
  | cons kv post =>
    have hi : (pre.map (fun q => (q.1, upd q)) ++ kv :: post)[pre.length]? = some kv := by
      rw [List.getElem?_append_right (by simp)]; simp
    have hlt : pre.length < kvv'.length := by rw [hl', hkv]; simp
    obtain ⟨⟨xk, xv⟩, hxk⟩ : ∃ q, kvv'[pre.length]? = some q := ⟨kvv'[pre.length], List.getElem?_eq_getElem hlt⟩
    obtain ⟨ek, hrv⟩ := c8.get hxk hi
    dsimp only at ek hrv
    subst ek
    refine wpAny_pyNext_items_item hiter hD' hxk fun key h₃ hkey hit₃ ht₃ hz₃ hkeep => ?_
    refine wpAny_letOwnedTupleGo_items (x1 := j) hit₃ fun h₄ hit₄ hs₄ => ?_
    have nz : it ≠ h'.objs.size := Nat.ne_of_lt (Heap.lt_size hiter)
    have ht₄ := hs₄.extBut _ _ nz.symm ht₃
    have st := (Step.one ownI (o' := iobj d (pre.length + 1) kvv'.length ep key xv) (fun b o hb e => hs₄.extBut b o hb (hkeep b o hb e)) hit₄).newFrozen ht₄ (get?_size _) (by simpa using nz.symm) (by simpa using nz.symm) (ownI.none_of (get?_size _))
    have leS : Gle G' _ := st.gle (X := []) (by simpa using ownI)
    have F₄ := Fm.step (ows := [(it, iobj d pre.length kvs.length ep ok ov)]) F' st
    have hrt : Rep C (Gadd G' h'.objs.size { cls := .type "tuple", data := .seq #[key, xv] }) (.ref h'.objs.size) (.tup [kv.1.d, kv.2]) := rep_pair (Gadd_self _ _ _) (rep_key hkey) (hrv.mono leS)
    have hAs : As C k sc [(x, pind C d ep (pre.map (fun q => (q.1, upd q)) ++ kv :: post))] (.Tuple [.Name kx pk, .Name vx pv] j tp) (seqD true [kv.1.d, kv.2]) [(vx, dat C kv.2), (kx, dat C kv.1.d), (x, pind C d ep (pre.map (fun q => (q.1, upd q)) ++ kv :: post))] :=
      As_row (AsL_cons (As_name hkx (.skip h1 .nil)) (AsL_cons (As_name hvx (.skip h3 (.skip h2 .nil))) AsL_nil)) (fun _ => rfl) rfl
    refine hAs A env H G₀ _ m' _ _ _ _ _ hh F₄ hrt fun m₅ h₅ tk₅ G₅ le₅ F₅ => ?_
    have fin : ∀ m₆ ρ₆ h₆ tk₆ G₆, Wk ρ₆ [(x, pind C d ep (pre.map (fun q => (q.1, upd q)) ++ (kv.1, upd kv) :: post))] → Gle G₅ G₆ → Fm H G₀ G₆ env.locals m₆ ρ₆ ((it, iobj d (pre.length + 1) kvv'.length ep key xv) :: X) h₆ →
        ∃ mm, mm < (kv :: post).length ∧ ∃ pre post G' m' h' tk ok ov, kvs = pre ++ post ∧ mm = post.length ∧ ({ s with heap := h₆, toks := tk₆ } : Shared) = { s with heap := h', toks := tk } ∧ Gle G G' ∧ Fm H G₀ G' env.locals m' [(x, pind C d ep (pre.map (fun q => (q.1, upd q)) ++ post))] ((it, iobj d pre.length kvs.length ep ok ov) :: X) h' := by
      intro m₆ ρ₆ h₆ tk₆ G₆ w le₆ F₆
      obtain ⟨G₇, le₇, F₇⟩ := F₆.wk w
      refine ⟨post.length, by simp, pre ++ [kv], post, G₇, m₆, h₆, tk₆, key, xv, by simp [hkv], rfl, rfl, (((le.trans leS).trans le₅).trans le₆).trans le₇, ?_⟩
      rw [hl'] at F₇
      simpa using F₇
    refine step d ep pre kv post hkv A env H G₀ G₅ m₅ _ _ _ _ hh F₅ ?_ ?_ ?_
    · intro m₆ ρ₆ h₆ tk₆ G₆ w le₆ F₆; exact fin m₆ ρ₆ h₆ tk₆ G₆ w le₆ F₆
    · intro m₆ ρ₆ h₆ tk₆ G₆ w le₆ F₆; exact fin m₆ ρ₆ h₆ tk₆ G₆ w le₆ F₆
    · intro _ _ _ _ _ _ _ hf; exact hf.elim
end
end Mine

set_option maxRecDepth 100000
set_option autoImplicit false
set_option linter.unusedVariables false
namespace Mine
open PySem PySem.W PyProof.Rows

section
variable {C : Cx} {k : Nat} {sc sc' : Scope} {ρ ρ₁ ρ₂ ρ' : Ctx} {P : Post}

/-! [x] * n -/
theorem Ev_times {l r : Expr} {pos : Pos} {d : D} (h1 : Ev C k sc ρ l (lst C [d]) ρ₁) (h2 : Ev C k sc ρ₁ r (dat C (.int ((12 : Nat) : Int))) ρ₂) : Ev C k sc ρ (.BinOp l .Mult r pos) (dat C (.list (List.replicate 12 d))) ρ₂ := fun A env H G₀ G m X s Q E hh F hQ => by
  refine wpAny_BinOp (h1 A env H G₀ G m X s _ E hh F fun u ow h₁ tk₁ G₁ le₁ hu F₁ => ?_)
  obtain ⟨a, vs, c, rfl, rfl, hrs⟩ := hu
  cases hrs with
  | @cons x _ _ _ hx hn' =>
  cases hn'
  refine h2 A env H G₀ G₁ m _ _ _ E hh F₁ fun v ow h₂ tk₂ G₂ le₂ hv F₂ => ?_
  obtain ⟨rfl, hv⟩ := hv
  rw [List.nil_append] at F₂
  cases hv with
  | int _ t =>
  have hl : h₂.get? a = some { cls := .type "list", dict := none, data := .seq #[x] c, slots := #[] } := F₂.ownX.at_ (a, listObj [x] c) (.head _)
  have hT : Shared.TypeIs { s with heap := h₂, toks := tk₂ } (.ref a) "list" := ⟨_, hl, rfl⟩
  refine wpAny_binaryOp_repeat_ref (T := "list") (U := "int") (by decide) hT (fun s' => typeIs_int s' ((12 : Nat) : Int) t) noFill_list_mul PySem.F.fills_int_mul PySem.F.slot_int_rmul repeat_list PySem.F.slot_int_index.lookup
    (call_meets PySem.F.slot_int_rmul (typeIs_int _ ((12 : Nat) : Int) t) PySem.F.entry_int_rmul (PySem.F.args_int_rmul_2 _ _) (int___rmul___int_list ((12 : Nat) : Int) t a #[x] c)
      ⟨hl, rfl, hT, call_meets PySem.F.slot_list_mul hT PySem.F.entry_list_mul (PySem.F.args_list_mul_2 _ _) (AutoListH.list___mul___list_int_3 a #[x] c ((12 : Nat) : Int) t (by decide) (by show ¬ (1 * 12 > (2 ^ 63 - 1) / 8); decide) (by show ¬ Builtin.List.listTooLong (1 * 12) = true; rw [Builtin.List.listTooLong]; simp [sizeLine_eq])) ⟨hl, ?_⟩⟩)
  have ef : ∀ (n : Nat) (acc : Array Value), (List.foldl (fun x1 x2 => x1 ++ x2) acc (List.replicate n #[x])).toList = acc.toList ++ List.replicate n x := by
    intro n
    induction n with
    | zero => intro acc; simp
    | succ n ih => intro acc; rw [List.replicate_succ, List.foldl_cons, ih]; simp [List.replicate_succ]
  have e0 : (if (#[x] : Array Value).isEmpty = true then 0 else (((12 : Nat) : Int)).toNat) = 12 := by simp
  show Q (.ref h₂.objs.size) { heap := h₂.push { cls := .type "list", data := .seq (List.foldl (fun x1 x2 => x1 ++ x2) #[] (List.replicate (if (#[x] : Array Value).isEmpty = true then 0 else (((12 : Nat) : Int)).toNat) #[x])) }, gens := _, drawn := _, toks := _, os := _ }
  rw [e0]
  obtain ⟨gr, sub⟩ := grow_frozen F₂.ownX { cls := .type "list", data := .seq (List.foldl (fun x1 x2 => x1 ++ x2) #[] (List.replicate 12 #[x])) } rfl
  have le3 := gr.gle F₂.ownX
  have F₃ := (F₂.grow0 gr sub).dropX (Y := X) (List.sublist_cons_self _ _)
  refine hQ _ [] _ _ _ ((le₁.trans le₂).trans le3) ⟨rfl, Rep.list' (Gadd_self ..) rfl rfl ?_⟩ F₃
  rw [ef 12 #[]]
  have hx3 := (hx.mono le₂).mono le3
  exact .cons hx3 (.cons hx3 (.cons hx3 (.cons hx3 (.cons hx3 (.cons hx3 (.cons hx3 (.cons hx3 (.cons hx3 (.cons hx3 (.cons hx3 (.cons hx3 .nil)))))))))))

/-! arguments: one keyword into a dict of options; two defaults -/
theorem Binds_kw1 {fd : FuncData} {x y key : Str} {d e : D} (hb : ∀ v w, bindArgs fd ⟨[v], [(key, w)]⟩ = (alloc { cls := .type "dict", data := .dict #[] } >>= fun a => (forIn [(key, w)] PUnit.unit fun (p : Str × Value) (_ : PUnit) => nsSet a p.1 p.2 >>= fun _ => pure (ForInStep.yield PUnit.unit)) >>= fun _ => pure [(x, v), (y, .ref a)]))
    (hxy : (x == y) = false) (hx : sc.names.lookup x = some .local) (hy : sc.names.lookup y = some .local) : Binds C fd sc [d] [(key, e)] [(x, dat C d), (y, dat C (.dict [(.s key, e)]))] := by
  intro A G s vs kvs Q E hle sub hvs hkw hQ
  obtain ⟨h1, h2⟩ := hkw
  obtain ⟨w, rfl, h2⟩ : ∃ w, kvs = [(key, w)] ∧ Reps C G [w] [e] := by
    cases kvs with
    | nil => simp at h1
    | cons p r =>
      cases r with
      | nil =>
        obtain ⟨k', w⟩ := p
        have e1 : k' = key := by simpa using h1
        subst e1
        exact ⟨w, rfl, h2⟩
      | cons _ _ => simp at h1
  · skip
    cases h2 with
    | cons hw hn2 =>
    cases hvs with
    | @cons v _ _ _ hv hn =>
      cases hn
      rw [hb]
      refine wpAny_bind (wpAny_alloc ?_)
      obtain ⟨gr, ow⟩ := grow_held (Own.nil sub) dobj0 rfl
      have hm := notMods hle (get?_size s.heap)
      simp only [List.forIn_cons, List.forIn_nil]
      refine wpAny_bind (wpAny_bind (wpAny_bind (nsSet_one (C := C) (ow.at_ _ (.head _)) fun h' o' tk ho' hs' hi' => wpAny_pure (wpAny_pure (wpAny_pure ?_)))))
      have own' : Own G [] h' := .nil fun b o q => hs'.extBut _ _ (fun e => by have := (Own.nil sub).none_of (get?_size s.heap); rw [← e, q] at this; cases this) (Heap.get?_push_of_some _ (sub _ _ q))
      have hG : G s.heap.objs.size = none := (Own.nil sub).none_of (get?_size s.heap)
      have le : Gle G (Gadd G s.heap.objs.size o') := Gle.add hG
      refine hQ _ h' tk (Gadd G s.heap.objs.size o') ⟨fun b o q => ?_, fun b o q => hs'.extBut _ _ (Nat.ne_of_lt (Heap.lt_size q)) (Heap.get?_push_of_some _ q)⟩ (fun b o q => ?_) (Loc.cons (v := v) (ow := []) (own := []) ?_ ⟨rfl, hv.mono le⟩ (Loc.cons (v := .ref s.heap.objs.size) (ow := []) (own := []) ?_ ⟨rfl, Rep.dict' (Gadd_self ..) hm hi' (.cons (hw.mono le) .nil)⟩ .nil)) fun p hp => ?_
      · unfold Gadd; rw [if_neg (Nat.ne_of_lt (Heap.lt_size q))]
      · unfold Gadd at q
        split at q
        · rename_i e; subst e; cases q; exact ho'
        · exact own'.sub _ _ q
      · show List.lookup x [(y, Value.ref s.heap.objs.size), (x, v)] = some v
        rw [List.lookup_cons, hxy]
        simp
      · simp
      · rcases List.mem_cons.mp hp with rfl | hp
        · exact hx
        · rw [List.mem_singleton.mp hp]; exact hy

theorem Binds_d {fd : FuncData} {x y z : Str} {d : D} {kw : List (Str × D)} {kc : List (Str × Value)} {b1 b2 : Bool} {T : Addr} {o : Obj} {items : Array Value} {n : Nat} (hT : fd.defaults = .ref T) (ho : C.h.get? T = some o) (hs : o.data = .seq items n)
    (hkc : ∀ G kvs, RepK C G kvs kw → kvs = kc) (hb : ∀ v, ∃ kont : Option (Array Value) → Sem (List (Str × Value)), bindArgs fd ⟨[v], kc⟩ = (seqItems? fd.defaults >>= kont) ∧ kont (some items) = pure [(x, v), (y, .bool b1), (z, .bool b2)])
    (hxy : (x == y) = false) (hxz : (x == z) = false) (hyz : (y == z) = false) (hx : sc.names.lookup x = some .local) (hy : sc.names.lookup y = some .local) (hz : sc.names.lookup z = some .local) :
    Binds C fd sc [d] kw [(x, dat C d), (y, dat C (.bool b1)), (z, dat C (.bool b2))] := by
  intro A G s vs kvs Q E hle sub hvs hkw hQ
  rw [hkc G kvs hkw]
  cases hvs with
  | @cons v _ _ _ hv hn =>
    cases hn
    obtain ⟨kont, e1, e2⟩ := hb v
    rw [e1, hT]
    refine wpAny_bind (wpAny_seqItems (hle _ _ ho) hs ?_)
    rw [e2]
    refine wpAny_pure (hQ _ s.heap s.toks G (Grow.refl _ _) sub (Loc.cons (v := v) (ow := []) (own := []) ?_ ⟨rfl, hv⟩ (Loc.cons (v := .bool b1) (ow := []) (own := []) ?_ ⟨rfl, .bool _⟩ (Loc.cons (v := .bool b2) (ow := []) (own := []) ?_ ⟨rfl, .bool _⟩ .nil))) fun p hp => ?_)
    · show List.lookup x [(z, Value.bool b2), (y, Value.bool b1), (x, v)] = some v
      rw [List.lookup_cons, hxz, List.lookup_cons, hxy]; simp
    · show List.lookup y [(z, Value.bool b2), (y, Value.bool b1), (x, v)] = _
      rw [List.lookup_cons, hyz]; simp
    · simp
    · rcases List.mem_cons.mp hp with rfl | hp
      · exact hx
      · rcases List.mem_cons.mp hp with rfl | hp
        · exact hy
        · rw [List.mem_singleton.mp hp]; exact hz
end
end Mine

set_option maxRecDepth 100000
set_option autoImplicit false
set_option linter.unusedVariables false
namespace Mine
open PySem PySem.W PyProof.Rows

/-! the texts that the law's bytes tell -/
def known : List (List UInt8 × Str) :=
  [([97, 108, 112, 104, 97], "alpha"), ([102, 108, 97, 103, 115], "flags"), ([112, 114, 101, 102, 105, 120, 101, 115], "prefixes"), ([100, 98, 46, 55], "db.7"), ([], ""), ([195, 169, 32, 120], "é x"),
   ([111, 102, 102], "off"), ([111, 110], "on"), ([97, 58, 49], "a:1"), ([226, 130, 172], "€"), ([120, 255, 121], ⟨#[0x78, 0xfffd, 0x79]⟩), ([100, 98, 46, 48], "db.0"), ([100, 98], "db"), ([102, 117, 110, 99, 116, 105, 111, 110, 115], "functions")]
def decB (x : List UInt8) : Str := (known.lookup x).getD Str.empty
def sib : D → D
  | .bytes x => .str (decB x)
  | d => d
def OkB : D → Prop
  | .bytes x => x ∈ known.map (·.1)
  | _ => True

def FaultOk (C : Cx) : Prop := ∀ (id : String) (A : Around) (E : Value → Shared → Prop) (s : Shared) (Q : Builtin._codecs.Faults × Array Nat × Nat → Shared → Prop), A.handled = none → (∀ st h' tk, Hle s.heap h' → Q (st, #[0xfffd], 2) { s with heap := h', toks := tk }) →
      wpAny (model C.prog C.w) A (Builtin._codecs.decodeFault id {} (some sRep) Builtin._codecs.utf8Decoder.own Builtin._codecs.utf8Decoder.name Dc.bad3 1 2 "invalid start byte") Q E s

section
variable {C : Cx} {k : Nat}
theorem Fn_dec {c : UInt8} {cs : List UInt8} {y : Str} (hr : Dc.RunsTo C (c :: cs).toArray y) (hz : y.length ≤ 1000) : Fn C k (.builtin "bytes.decode") [.bytes (c :: cs), .str sUtf] [(sErr, .str sRep)] (dat C (.str y)) := by
  intro A G s vs kvs Q E hroom hle sub hvs hkw hQ
  obtain ⟨h1, h2⟩ := hkw
  obtain ⟨w, rfl, h2⟩ : ∃ w, kvs = [(sErr, w)] ∧ Reps C G [w] [.str sRep] := by
    cases kvs with
    | nil => simp at h1
    | cons p r =>
      cases r with
      | nil =>
        obtain ⟨k', w⟩ := p
        have e1 : k' = sErr := by simpa using h1
        subst e1
        exact ⟨w, rfl, h2⟩
      | cons _ _ => simp at h1
  cases h2 with
  | cons hw hn =>
  cases hw with
  | str _ t2 =>
  cases hvs with
  | cons ha hb =>
  cases ha with
  | bytes _ t =>
  cases hb with
  | cons hb hc =>
  cases hb with
  | str _ t1 =>
  cases hc
  refine Dc.decode hr hroom.1 (by rw [sizeLine_eq]; omega) fun t' h' tk le => ?_
  exact hQ _ [] h' tk G ⟨fun _ _ _ => rfl, le⟩ ⟨rfl, .str y t'⟩ (.nil fun b o e => le _ _ (sub _ _ e)) fun _ hp => (nomatch hp)
theorem Fn_dec0 : Fn C k (.builtin "bytes.decode") [.bytes [], .str sUtf] [(sErr, .str sRep)] (dat C (.str Str.empty)) := by
  intro A G s vs kvs Q E hroom hle sub hvs hkw hQ
  obtain ⟨h1, h2⟩ := hkw
  obtain ⟨w, rfl, h2⟩ : ∃ w, kvs = [(sErr, w)] ∧ Reps C G [w] [.str sRep] := by
    cases kvs with
    | nil => simp at h1
    | cons p r =>
      cases r with
      | nil =>
        obtain ⟨k', w⟩ := p
        have e1 : k' = sErr := by simpa using h1
        subst e1
        exact ⟨w, rfl, h2⟩
      | cons _ _ => simp at h1
  cases h2 with
  | cons hw hn =>
  cases hw with
  | str _ t2 =>
  cases hvs with
  | cons ha hb =>
  cases ha with
  | bytes _ t =>
  cases hb with
  | cons hb hc =>
  cases hb with
  | str _ t1 =>
  cases hc
  refine Dc.decode0 fun t' tk => ?_
  exact hQ _ [] s.heap tk G (Grow.refl _ _) ⟨rfl, .str Str.empty t'⟩ (.nil sub) fun _ hp => (nomatch hp)

theorem Fn_decode (hf : FaultOk C) {x : List UInt8} (hx : x ∈ known.map (·.1)) : Fn C k (.builtin "bytes.decode") [.bytes x, .str sUtf] [(sErr, .str sRep)] (dat C (.str (decB x))) := by
  have hx' : x = [97, 108, 112, 104, 97] ∨ x = [102, 108, 97, 103, 115] ∨ x = [112, 114, 101, 102, 105, 120, 101, 115] ∨ x = [100, 98, 46, 55] ∨ x = [] ∨ x = [195, 169, 32, 120] ∨ x = [111, 102, 102] ∨ x = [111, 110] ∨ x = [97, 58, 49] ∨ x = [226, 130, 172] ∨ x = [120, 255, 121] ∨ x = [100, 98, 46, 48] ∨ x = [100, 98] ∨ x = [102, 117, 110, 99, 116, 105, 111, 110, 115] := by
    simpa [known] using hx
  rcases hx' with rfl | rfl | rfl | rfl | rfl | rfl | rfl | rfl | rfl | rfl | rfl | rfl | rfl | rfl
  · exact Fn_dec (y := "alpha") (Dc.RunsTo.pure (n := 5) (by intro id; kernel_rfl)) (by decide)
  · exact Fn_dec (y := "flags") (Dc.RunsTo.pure (n := 5) (by intro id; kernel_rfl)) (by decide)
  · exact Fn_dec (y := "prefixes") (Dc.RunsTo.pure (n := 8) (by intro id; kernel_rfl)) (by decide)
  · exact Fn_dec (y := "db.7") (Dc.RunsTo.pure (n := 4) (by intro id; kernel_rfl)) (by decide)
  · exact Fn_dec0
  · exact Fn_dec (y := "é x") (Dc.RunsTo.pure (n := 4) (by intro id; kernel_rfl)) (by decide)
  · exact Fn_dec (y := "off") (Dc.RunsTo.pure (n := 3) (by intro id; kernel_rfl)) (by decide)
  · exact Fn_dec (y := "on") (Dc.RunsTo.pure (n := 2) (by intro id; kernel_rfl)) (by decide)
  · exact Fn_dec (y := "a:1") (Dc.RunsTo.pure (n := 3) (by intro id; kernel_rfl)) (by decide)
  · exact Fn_dec (y := "€") (Dc.RunsTo.pure (n := 3) (by intro id; kernel_rfl)) (by decide)
  · exact Fn_dec (y := ⟨#[0x78, 0xfffd, 0x79]⟩) (Dc.run_bad hf) (by decide)
  · exact Fn_dec (y := "db.0") (Dc.RunsTo.pure (n := 4) (by intro id; kernel_rfl)) (by decide)
  · exact Fn_dec (y := "db") (Dc.RunsTo.pure (n := 2) (by intro id; kernel_rfl)) (by decide)
  · exact Fn_dec (y := "functions") (Dc.RunsTo.pure (n := 9) (by intro id; kernel_rfl)) (by decide)
end

/-! the text: its defs by their places -/
abbrev prg : Program := PySem.Challenge.pw_fr0009_01
def stm (i : Nat) : Stmt := (prg.main.body[i]?).getD (.Pass ⟨0, 0, 0, 0⟩)
def fnBody (i : Nat) : List Stmt := match stm i with | .FunctionDef _ _ b _ _ _ _ _ _ _ => b | _ => []
def fnSc (i : Nat) : Scope := match stm i with | .FunctionDef _ _ _ _ _ _ s _ _ _ => s | _ => { kind := .function, names := [], isGenerator := false, isCoroutine := false, more := [] }
def fnArgs (i : Nat) : Arguments := match stm i with | .FunctionDef _ a _ _ _ _ _ _ _ _ => a | _ => { posonlyargs := [], args := [], vararg := none, kwonlyargs := [], kw_defaults := [], kwarg := none, defaults := [] }
def fnName (i : Nat) : Str := match stm i with | .FunctionDef n _ _ _ _ _ _ _ _ _ => n | _ => ""

/-- a def of the text without defaults stands at f -/
def FnAt (C : Cx) (i : Nat) (f : Addr) (pm code doc : Value) : Prop :=
  C.mg (fnName i) = some (.ref f) ∧ (∃ o, C.h.get? f = some o ∧ o.data = .func (Calls.docDef (fnName i) (fnArgs i) (fnBody i) (fnSc i) pm code doc)) ∧ C.h.CodeRec code (fnName i)
theorem FnAt.def {C : Cx} {i : Nat} {f : Addr} {pm code doc : Value} (h : FnAt C i f pm code doc) (hk : (fnSc i).kind = .function) (hc : (fnSc i).isCoroutine = false) (hg : (fnSc i).isGenerator = false) (hcell : ∀ x ∈ (fnSc i).names, x.2 ≠ .cell) :
    Def C f (Calls.docDef (fnName i) (fnArgs i) (fnBody i) (fnSc i) pm code doc) (fnBody i) (fnSc i) :=
  ⟨h.2.1, rfl, rfl, rfl, rfl, rfl, h.2.2, hk, hc, hg, hcell⟩
end Mine

set_option maxRecDepth 100000
set_option autoImplicit false
set_option linter.unusedVariables false
namespace Mine
open PySem PySem.W PyProof.Rows

def defs : List Nat := [1, 3, 4, 5, 6, 7, 8, 9, 10, 11, 12, 13, 14, 15, 16, 17, 18, 19, 20, 21, 22, 23, 27, 28, 29, 30, 31]
def nobs : List Str := ["isinstance", "bytes", "list", "dict", "int", "zip", "map", "iter", "range"]

/-- what stands ahead -/
structure Ok (C : Cx) where
  f : Nat → Addr
  fd : Nat → FuncData
  pm : Nat → Value
  code : Nat → Value
  doc : Nat → Value
  fault : FaultOk C
  nm : ∀ i ∈ defs, C.mg (fnName i) = some (.ref (f i))
  at_ : ∀ i ∈ defs, ∃ o, C.h.get? (f i) = some o ∧ o.data = .func (fd i)
  cd : ∀ i ∈ defs, C.h.CodeRec (code i) (fnName i)
  fde : ∀ i ∈ defs, i ≠ 7 → fd i = Calls.docDef (fnName i) (fnArgs i) (fnBody i) (fnSc i) (pm i) (code i) (doc i)
  T : Addr
  fde7 : fd 7 = { Calls.docDef (fnName 7) (fnArgs 7) (fnBody 7) (fnSc 7) (pm 7) (code 7) (doc 7) with defaults := .ref T }
  atT : ∃ o n, C.h.get? T = some o ∧ o.data = .seq #[.bool false, .bool false] n
  nob : ∀ x ∈ nobs, C.mg x = none

def scFine (i : Nat) : Bool := (fnSc i).kind == .function && !(fnSc i).isCoroutine && !(fnSc i).isGenerator && (fnSc i).names.all fun x => x.2 != .cell

section
variable {C : Cx} {k : Nat} {sc sc' : Scope} {ρ ρ₁ ρ₂ ρ' : Ctx} {P : Post}

theorem Ok.def (o : Ok C) {i : Nat} (hi : i ∈ defs) (h1 : (fnSc i).kind = .function) (h2 : (fnSc i).isCoroutine = false) (h3 : (fnSc i).isGenerator = false) (h4 : ((fnSc i).names.all fun x => x.2 != .cell) = true) : Def C (o.f i) (o.fd i) (fnBody i) (fnSc i) := by
  have hc : ∀ x ∈ (fnSc i).names, x.2 ≠ .cell := fun x hx e => by
    have := List.all_eq_true.mp h4 x hx
    rw [e] at this
    exact absurd this (by decide)
  by_cases h7 : i = 7
  · subst h7
    have e := o.fde7
    exact ⟨o.at_ 7 hi, by rw [e]; rfl, by rw [e]; rfl, by rw [e]; rfl, by rw [e]; rfl, by rw [e]; rfl, by rw [e]; exact o.cd 7 hi, h1, h2, h3, hc⟩
  · have e := o.fde i hi h7
    exact ⟨o.at_ i hi, by rw [e]; rfl, by rw [e]; rfl, by rw [e]; rfl, by rw [e]; rfl, by rw [e]; rfl, by rw [e]; exact o.cd i hi, h1, h2, h3, hc⟩

/-- a call of a def with data by place only -/
theorem Ok.call (o : Ok C) (i : Nat) (hi : i ∈ defs) {fx : Str} {fp pos : Pos} {e₁ : Expr} {es : List Expr} {ds : List D} {r : Res} {j : Nat} (hn : fnName i = fx) (hx : sc.names.lookup fx = some .globalImplicit) (hd : (fx == ("__debug__" : Str)) = false)
    (hs : Evs C k sc ρ (e₁ :: es) (ds.map (dat C)) ρ₁) (hst : ∀ env, backTo pos (starEach (e₁ :: es) env) = (e₁ :: es).map fun e => (false, eval e env)) (hfn : Fn C j (.ref (o.f i)) ds [] r) (hj : j ≤ k) : Ev C k sc ρ (.Call (.Name fx fp) (e₁ :: es) [] pos) r ρ₁ := by
  obtain ⟨fo, h1, h2⟩ := o.at_ i hi
  exact Ev_call (ke := []) (kw := []) (hn ▸ o.nm i hi) h1 h2 hx hd hs hst (fun _ => rfl) EvsA_nil rfl hfn hj
theorem Ok.call1 (o : Ok C) (i : Nat) (hi : i ∈ defs) {fx : Str} {fp pos : Pos} {e₁ : Expr} {d : D} {r : Res} {j : Nat} (hn : fnName i = fx) (hx : sc.names.lookup fx = some .globalImplicit) (hd : (fx == ("__debug__" : Str)) = false)
    (hs : Ev C k sc ρ e₁ (dat C d) ρ₁) (hst : ∀ env, backTo pos (starEach [e₁] env) = [e₁].map fun e => (false, eval e env)) (hfn : Fn C j (.ref (o.f i)) [d] [] r) (hj : j ≤ k) : Ev C k sc ρ (.Call (.Name fx fp) [e₁] [] pos) r ρ₁ :=
  o.call i hi hn hx hd (ds := [d]) (Evs_cons hs Evs_nil) hst hfn hj
/-- the def itself -/
theorem Ok.name (o : Ok C) (i : Nat) (hi : i ∈ defs) {fx : Str} {pos : Pos} (hn : fnName i = fx) (hx : sc.names.lookup fx = some .globalImplicit) (hd : (fx == ("__debug__" : Str)) = false) : Ev C k sc ρ (.Name fx pos) (val (.ref (o.f i))) ρ :=
  Ev_global (hn ▸ o.nm i hi) hx hd

/-! str_if_bytes -/
theorem Fn1 (o : Ok C) {d : D} (hd : OkB d) : Fn C (k + 1) (.ref (o.f 1)) [d] [] (dat C (sib d)) := by
  refine Fn_of (ρ := [("value", dat C d)]) (o.def (i := 1) (by decide) rfl rfl rfl rfl) ?_ ?_
  · rw [o.fde 1 (by decide) (by decide)]
    exact Binds_1 (fun v => by rfl) rfl
  · refine Ex_ret (ρ' := [("value", dat C d)]) (Ev_ifexp (T_isi (Ty := "bytes") (Ev_name .here rfl rfl) (.inr (.inl rfl)) (o.nob "isinstance" (by decide)) (o.nob "bytes" (by decide)) (by rfl) rfl rfl rfl (by decide) fun _ => rfl) ?_) rfl
    cases d with
    | bytes x =>
      refine Ev_method (j := k) (ds := [.str sUtf]) (kw := [(sErr, .str sRep)]) (ke := [(sErr, .Constant (.str sRep) _ _)]) (Ev_name .here rfl rfl) (Evs_cons Ev_str Evs_nil) (fun _ => rfl) (fun _ => rfl) (EvsA_cons Ev_str EvsA_nil) rfl (fun _ => rfl) rfl (by simp) (by simp [tyD]) FB.plainAttrs_bytes FB.slot_bytes_decode FB.type_bytes_decode (Fn_decode o.fault hd) (Nat.le_refl k)
    | _ => exact Ev_name .here rfl rfl
end
end Mine

set_option maxRecDepth 100000
set_option autoImplicit false
set_option linter.unusedVariables false
namespace Mine
open PySem PySem.W PyProof.Rows

/-! flat rows -/
def row (kvs : List (Key × D)) : List D := kvs.flatMap fun p => [p.1.d, p.2]
theorem row_cons (p : Key × D) (kvs : List (Key × D)) : row (p :: kvs) = p.1.d :: p.2 :: row kvs := rfl
theorem row_length : ∀ kvs : List (Key × D), (row kvs).length = 2 * kvs.length
  | [] => rfl
  | p :: kvs => by rw [row_cons]; simp [row_length kvs]; omega
theorem row_even : ∀ (kvs : List (Key × D)) (k : Nat), (row kvs)[2 * k]? = (kvs[k]?).map (·.1.d)
  | [], k => by simp [row]
  | p :: kvs, 0 => rfl
  | p :: kvs, k + 1 => by rw [row_cons]; show (p.1.d :: p.2 :: row kvs)[2 * k + 1 + 1]? = _; simp [row_even kvs k]
theorem row_odd : ∀ (kvs : List (Key × D)) (k : Nat), (row kvs)[2 * k + 1]? = (kvs[k]?).map (·.2)
  | [], k => by simp [row]
  | p :: kvs, 0 => rfl
  | p :: kvs, k + 1 => by rw [row_cons]; show (p.1.d :: p.2 :: row kvs)[2 * k + 1 + 1 + 1]? = _; simp [row_odd kvs k]
theorem range_pick {α β : Type} (f : α → β) : ∀ (l : List α), (List.range l.length).filterMap (fun k => (l[k]?).map f) = l.map f
  | [] => rfl
  | x :: l => by
    rw [List.length_cons, List.range_succ_eq_map, List.filterMap_cons]
    have ih := range_pick f l
    simp only [List.getElem?_cons_zero, Option.map_some, List.map_cons]
    congr 1
    rw [List.filterMap_map]
    simpa [Function.comp_def] using ih
theorem pairs_row : ∀ kvs : List (Key × D), pairs (row kvs) = kvs.map fun p => (p.1.d, p.2)
  | [] => rfl
  | p :: kvs => by rw [row_cons]; simp [pairs, pairs_row kvs]
theorem bounds_even (lo : Option Int) (h : lo = none ∨ lo = some 0) (n : Nat) : sliceBounds lo none (some 2) n = (0, (n : Int), 2) := by
  rcases h with rfl | rfl <;> simp [sliceBounds] <;> omega
theorem bounds_odd (n : Nat) : sliceBounds (some 1) none (some 2) n = (if (n : Int) < 1 then (n : Int) else 1, (n : Int), 2) := by
  simp [sliceBounds]; omega
theorem pick_even (kvs : List (Key × D)) (lo : Option Int) (h : lo = none ∨ lo = some 0) : pickD (row kvs) lo none (some 2) = kvs.map (·.1.d) := by
  unfold pickD
  rw [bounds_even lo h, row_length]
  dsimp only
  have e : sliceRange 0 ((2 * kvs.length : Nat) : Int) 2 = (List.range kvs.length).map fun k => 2 * k := by
    unfold sliceRange
    have e1 : (if (2 : Int) > 0 then (if (0 : Int) < ((2 * kvs.length : Nat) : Int) then (((2 * kvs.length : Nat) : Int) - 0 + 2 - 1) / 2 else 0) else (if (0 : Int) > ((2 * kvs.length : Nat) : Int) then (0 - ((2 * kvs.length : Nat) : Int) - 2 - 1) / (-2) else 0)).toNat = kvs.length := by
      rw [if_pos (by decide)]
      split <;> omega
    dsimp only
    rw [e1]
    refine List.map_congr_left fun k _ => ?_
    omega
  rw [e, List.filterMap_map]
  rw [← range_pick]
  exact congrArg (fun f => List.filterMap f (List.range kvs.length)) (funext fun k => row_even kvs k)
theorem pick_odd (kvs : List (Key × D)) : pickD (row kvs) (some 1) none (some 2) = kvs.map (·.2) := by
  unfold pickD
  rw [bounds_odd, row_length]
  dsimp only
  cases kvs with
  | nil => simp [row, sliceRange]
  | cons p kvs =>
    generalize hk : p :: kvs = kvs' 
    have hl : 0 < kvs'.length := by rw [← hk]; simp
    rw [if_neg (by omega)]
    have e : sliceRange 1 ((2 * kvs'.length : Nat) : Int) 2 = (List.range kvs'.length).map fun k => 2 * k + 1 := by
      unfold sliceRange
      have e1 : (if (2 : Int) > 0 then (if (1 : Int) < ((2 * kvs'.length : Nat) : Int) then (((2 * kvs'.length : Nat) : Int) - 1 + 2 - 1) / 2 else 0) else (if (1 : Int) > ((2 * kvs'.length : Nat) : Int) then (1 - ((2 * kvs'.length : Nat) : Int) - 2 - 1) / (-2) else 0)).toNat = kvs'.length := by
        rw [if_pos (by decide), if_pos (by omega)]
        omega
      dsimp only
      rw [e1]
      refine List.map_congr_left fun k _ => ?_
      omega
    rw [e, List.filterMap_map, ← range_pick]
    exact congrArg (fun f => List.filterMap f (List.range kvs'.length)) (funext fun k => row_odd kvs' k)

def sk : Key → Key
  | .b x => .s (decB x)
  | .s x => .s x
theorem sib_key (x : Key) : sib x.d = (sk x).d := by cases x <;> rfl
def OkKs (kvs : List (Key × D)) : Prop := ∀ p ∈ kvs, OkB p.1.d
def OkVs (kvs : List (Key × D)) : Prop := ∀ p ∈ kvs, OkB p.2

section
variable {C : Cx} {k : Nat} {sc sc' : Scope} {ρ ρ₁ ρ₂ ρ' : Ctx} {P : Post} {S : Src} {M : Mid}

theorem Ev.impR {e : Expr} {r r' : Res} (h : Ev C k sc ρ e r ρ') (hi : ∀ G v ow, r.P G v ow → r'.P G v ow) : Ev C k sc ρ e r' ρ' := fun A env H G₀ G m X s Q E hh F hQ =>
  h A env H G₀ G m X s Q E hh F fun v ow h' tk G' le hv F' => hQ v ow h' tk G' le (hi _ _ _ hv) F'
theorem zitT_zit {hm : MonoS S} {ds : List D} {G : Gm} {v : Value} {ow : List (Addr × Obj)} (h : (zitT C S hm ds).P G v ow) : (zit C S hm ds).P G v ow := by
  obtain ⟨z, TO, TI, f, a, b, v1, v2, ow', ps, e1, e2, e3, e4⟩ := h
  exact ⟨z, TO, TI, _, f, a, b, v1, v2, ow', ps, e1, e2, e3, e4, .inl rfl⟩

theorem Ev_zip_same {x : Str} {fp p1 p2 pos : Pos} {ds : List D} (hp : Pick (x, lit C ds) ρ ρ₁) (hx : sc.names.lookup x = some .local) (hdb : (x == ("__debug__" : Str)) = false) (hz : C.mg "zip" = none) (hzx : sc.names.lookup ("zip" : Str) = some .globalImplicit)
    (hst : ∀ env, backTo pos (starEach [.Name x p1, .Name x p2] env) = [.Name x p1, .Name x p2].map fun e => (false, eval e env)) :
    Ev C (k + 2) sc ρ (.Call (.Name "zip" fp) [.Name x p1, .Name x p2] [] pos) (zitT C (S1 (lit C)) (Draw2_same (k := k) Draw_list).monoS ((pairs ds).map pairD)) ρ₁ := by
  intro A env H G₀ G m X s Q E hh F hQ
  show wpAny _ A (eval (.Name "zip" fp) env >>= fun g => callWith pos g [] (backTo pos (starEach [.Name x p1, .Name x p2] env)) []) Q E s
  refine wpAny_bind (Ev_builtin (v := .type "zip") hz (by rfl) hzx (by rfl) (by decide) A env H G₀ G m X s _ E hh F fun v ow h₁ tk₁ G₁ le₁ hv F₁ => ?_)
  obtain ⟨rfl, rfl⟩ := hv
  rw [List.nil_append] at F₁
  rw [hst]
  obtain ⟨v, ow, hm, hr, F₂⟩ := F₁.take hp
  refine wp_callWith rfl (Calls.spliced_cons (eval_local hh F₁ hx hdb hm (Calls.spliced_cons (eval_local hh F₁ hx hdb hm (Calls.spliced_nil ?_)))))
  refine call_zip_same (k := k) hh.room (F₂.pre hh.base) hr Draw_list fun v' ow' h' st hv' => ?_
  exact hQ v' ow' h' _ G₁ le₁ hv' (F₂.step st)
end
end Mine

set_option maxRecDepth 100000
set_option autoImplicit false
set_option linter.unusedVariables false
namespace Mine
open PySem PySem.W PyProof.Rows

abbrev Ret (C : Cx) (r : Res) : Post := ⟨fun _ => r = dat C .none, fun _ => False, fun r' => r' = r⟩

section
variable {C : Cx} {k : Nat} {sc sc' : Scope} {ρ ρ₁ ρ₂ ρ' : Ctx} {P : Post} {S : Src} {M : Mid}

theorem Ex_if1 {t : Expr} {a b : List Stmt} {pos : Pos} {ss : List Stmt} (ht : T C k sc ρ t true) (h : Ex C k sc ρ a ⟨fun ρ' => Ex C k sc ρ' ss P, P.cont, P.ret⟩) : Ex C k sc ρ (.If t a b pos :: ss) P := Ex_if ht h
theorem Ex_if0 {t : Expr} {a b : List Stmt} {pos : Pos} {ss : List Stmt} (ht : T C k sc ρ t false) (h : Ex C k sc ρ b ⟨fun ρ' => Ex C k sc ρ' ss P, P.cont, P.ret⟩) : Ex C k sc ρ (.If t a b pos :: ss) P := Ex_if ht h
theorem Ex_skip {t : Expr} {a : List Stmt} {pos : Pos} {ss : List Stmt} (ht : T C k sc ρ t false) (h : Ex C k sc ρ ss P) : Ex C k sc ρ (.If t a [] pos :: ss) P := Ex_if0 ht (Ex_nil h)

theorem Del.sk {x : Str} {p : Str × Res} {ρ ρ' : Ctx} (h : (p.1 == x) = false) (d : Del x ρ ρ') : Del x (p :: ρ) (p :: ρ') := .skip (fun e => by rw [e] at h; simp at h) d
theorem Its_map' {j : Nat} {I : It} {f : Value} {g : D → D} {ds : List D} : Its C j (mit C k I f g ds) (mit C k I f g ds) := by
  rintro A G s v ow Q E hroom hpre ⟨z, TI, v1, ow', es, rfl, rfl, hI, rfl, hf⟩ hQ
  exact map_self (hpre.own.at_ (z, _) (.head _)) rfl (hQ _ _ s.heap s.toks G (Step.id hpre.own) ⟨z, TI, v1, ow', es, rfl, rfl, hI, rfl, hf⟩)

/-! pairs_to_dict -/
theorem zip_keys (kvs : List (Key × D)) (f : Key → Key) (g : D → D) : ((kvs.map fun p => (f p.1).d).zip (kvs.map fun p => g p.2)).map pairD = (kvs.map fun p => (f p.1, g p.2)).map kvD := by
  induction kvs with
  | nil => rfl
  | cons p kvs ih => simp [List.zip, pairD, kvD] at ih ⊢; try exact ih

theorem Ev_dictzip {I J : It} {r1 r2 : Res} {zp pos : Pos} {a b : Expr} {ds es : List D} {ps : List (Key × D)} (hI : Draw C k I) (hJ : Draw C k J) (h1 : Its C k r1 (I ds)) (h2 : Its C k r2 (J es)) (he : (ds.zip es).map pairD = ps.map kvD) (hsz : ps.length ≤ 1000)
    (ha : Ev C (k + 4) sc ρ a r1 ρ₁) (hb : Ev C (k + 4) sc ρ₁ b r2 ρ₂) (hdn : C.mg "dict" = none) (hzn : C.mg "zip" = none) (hdx : sc.names.lookup ("dict" : Str) = some .globalImplicit) (hzx : sc.names.lookup ("zip" : Str) = some .globalImplicit) {pz pd : Pos}
    (hst : ∀ env, backTo zp (starEach [a, b] env) = [a, b].map fun e => (false, eval e env)) (hst2 : ∀ env, backTo pos (starEach [.Call (.Name "zip" pz) [a, b] [] zp] env) = [.Call (.Name "zip" pz) [a, b] [] zp].map fun e => (false, eval e env)) :
    Ev C (k + 4) sc ρ (.Call (.Name "dict" pd) [.Call (.Name "zip" pz) [a, b] [] zp] [] pos) (dct C (dsets [] ps)) ρ₂ := by
  have hzip := Bf_zip hI hJ h1 h2
  rw [he] at hzip
  exact Ev_bcall (f := .type "dict") (j := k + 4) hdn (by rfl) rfl hdx (by rfl) (by decide) (Evs_cons (Ev_bcall (f := .type "zip") (j := k + 2) hzn (by rfl) rfl hzx (by rfl) (by decide) (Evs_cons ha (Evs_cons hb Evs_nil)) hst hzip (by omega)) Evs_nil) hst2 (Bf_dict (Walk_zip (Draw2_two hI hJ)) hsz) (Nat.le_refl _)

theorem Ev_zip_row {x : Str} {fp p1 p2 pos : Pos} {kvs : List (Key × D)} (hp : Pick (x, lit C (row kvs)) ρ ρ₁) (hx : sc.names.lookup x = some .local) (hdb : (x == ("__debug__" : Str)) = false) (hz : C.mg "zip" = none) (hzx : sc.names.lookup ("zip" : Str) = some .globalImplicit)
    (hst : ∀ env, backTo pos (starEach [.Name x p1, .Name x p2] env) = [.Name x p1, .Name x p2].map fun e => (false, eval e env)) :
    Ev C (k + 2) sc ρ (.Call (.Name "zip" fp) [.Name x p1, .Name x p2] [] pos) (zitT C (S1 (lit C)) (Draw2_same (k := k) Draw_list).monoS (kvs.map kvD)) ρ₁ := by
  have h := Ev_zip_same (k := k) hp hx hdb hz hzx hst (fp := fp)
  rw [pairs_row, List.map_map] at h
  exact h

theorem Ex7a (o : Ok C) {kvs : List (Key × D)} (hK : OkKs kvs) (hz : kvs.length ≤ 100) : Ex C 10 (fnSc 7) [("response", dat C (.list (row kvs))), ("decode_keys", dat C (.bool true)), ("decode_string_values", dat C (.bool false))] (fnBody 7) (Ret C (dct C (dsets [] (kvs.map fun p => (sk p.1, p.2))))) := by
  refine Ex_skip (T_is_none (Ev_name .here rfl rfl)) ?_
  refine Ex_if1 (T_or1 (T_tru (d := .bool true) (Ev_name (.there .here) rfl rfl) rfl trivial fun _ _ => rfl)) ?_
  refine Ex_step (Es_assign (r := dat C (.list (pickD (row kvs) none none (some 2)))) (Ev_slice (Ev_name .here rfl rfl) EvP_none EvP_none (EvP_some Ev_int) (by decide) (by rw [row_length]; omega)) (.sk rfl (.sk rfl (.sk rfl .nil))) rfl fun _ => rfl) ?_
  rw [pick_even kvs none (.inl rfl)]
  refine Ex_if1 (T_tru (d := .bool true) (Ev_name (.there (.there .here)) rfl rfl) rfl trivial fun _ _ => rfl) ?_
  refine Ex_step (Es_assign (Ev_bcall (f := .type "map") (rs := [val (.ref (o.f 1)), dat C (.list (kvs.map (·.1.d)))]) (j := 3) (o.nob "map" (by decide)) (by rfl) rfl rfl (by rfl) (by decide) (Evs_cons (o.name 1 (by decide) rfl rfl rfl) (Evs_cons (Ev_name .here rfl rfl) Evs_nil)) (fun _ => rfl) (Bf_map (k := 1) (g := sib) Its_list fun e he => ?_) (by decide)) (.hit (.sk rfl (.sk rfl (.sk rfl .nil)))) rfl fun _ => rfl) ?_
  · obtain ⟨p, hp, rfl⟩ := List.mem_map.mp he
    exact Fn1 o (hK p hp)
  refine Ex_nil ?_
  refine Ex_step (Es_assign (r := dat C (.list (pickD (row kvs) (some 1) none (some 2)))) (Ev_slice (Ev_name (.there .here) rfl rfl) (EvP_some Ev_int) EvP_none (EvP_some Ev_int) (by decide) (by rw [row_length]; omega)) (.sk rfl (.sk rfl (.sk rfl (.sk rfl .nil)))) rfl fun _ => rfl) ?_
  rw [pick_odd]
  refine Ex_skip (T_tru (d := .bool false) (Ev_name (.there (.there (.there (.there .here)))) rfl rfl) rfl trivial fun _ _ => rfl) ?_
  refine Ex_ret (Ev.le (Ev_dictzip (k := 2) (ps := kvs.map fun p => (sk p.1, p.2)) (Draw_map Draw_list) Draw_list Its_map' Its_list ?_ (by simpa using (by omega)) (Ev_take (.there .here) rfl rfl) (Ev_name .here rfl rfl) (o.nob "dict" (by decide)) (o.nob "zip" (by decide)) rfl rfl (fun _ => rfl) fun _ => rfl) (by decide)) rfl
  rw [List.map_map]
  have := zip_keys kvs sk id
  simpa [Function.comp_def, sib_key] using this

theorem Ex7b (o : Ok C) {kvs : List (Key × D)} (hK : OkKs kvs) (hV : OkVs kvs) (hz : kvs.length ≤ 100) : Ex C 10 (fnSc 7) [("response", dat C (.list (row kvs))), ("decode_keys", dat C (.bool true)), ("decode_string_values", dat C (.bool true))] (fnBody 7) (Ret C (dct C (dsets [] (kvs.map fun p => (sk p.1, sib p.2))))) := by
  refine Ex_skip (T_is_none (Ev_name .here rfl rfl)) ?_
  refine Ex_if1 (T_or1 (T_tru (d := .bool true) (Ev_name (.there .here) rfl rfl) rfl trivial fun _ _ => rfl)) ?_
  refine Ex_step (Es_assign (r := dat C (.list (pickD (row kvs) none none (some 2)))) (Ev_slice (Ev_name .here rfl rfl) EvP_none EvP_none (EvP_some Ev_int) (by decide) (by rw [row_length]; omega)) (.sk rfl (.sk rfl (.sk rfl .nil))) rfl fun _ => rfl) ?_
  rw [pick_even kvs none (.inl rfl)]
  refine Ex_if1 (T_tru (d := .bool true) (Ev_name (.there (.there .here)) rfl rfl) rfl trivial fun _ _ => rfl) ?_
  refine Ex_step (Es_assign (Ev_bcall (f := .type "map") (rs := [val (.ref (o.f 1)), dat C (.list (kvs.map (·.1.d)))]) (j := 3) (o.nob "map" (by decide)) (by rfl) rfl rfl (by rfl) (by decide) (Evs_cons (o.name 1 (by decide) rfl rfl rfl) (Evs_cons (Ev_name .here rfl rfl) Evs_nil)) (fun _ => rfl) (Bf_map (k := 1) (g := sib) Its_list fun e he => ?_) (by decide)) (.hit (.sk rfl (.sk rfl (.sk rfl .nil)))) rfl fun _ => rfl) ?_
  · obtain ⟨p, hp, rfl⟩ := List.mem_map.mp he
    exact Fn1 o (hK p hp)
  refine Ex_nil ?_
  refine Ex_step (Es_assign (r := dat C (.list (pickD (row kvs) (some 1) none (some 2)))) (Ev_slice (Ev_name (.there .here) rfl rfl) (EvP_some Ev_int) EvP_none (EvP_some Ev_int) (by decide) (by rw [row_length]; omega)) (.sk rfl (.sk rfl (.sk rfl (.sk rfl .nil)))) rfl fun _ => rfl) ?_
  rw [pick_odd]
  refine Ex_if1 (T_tru (d := .bool true) (Ev_name (.there (.there (.there (.there .here)))) rfl rfl) rfl trivial fun _ _ => rfl) ?_
  refine Ex_step (Es_assign (Ev_bcall (f := .type "map") (rs := [val (.ref (o.f 1)), dat C (.list (kvs.map (·.2)))]) (j := 3) (o.nob "map" (by decide)) (by rfl) rfl rfl (by rfl) (by decide) (Evs_cons (o.name 1 (by decide) rfl rfl rfl) (Evs_cons (Ev_name .here rfl rfl) Evs_nil)) (fun _ => rfl) (Bf_map (k := 1) (g := sib) Its_list fun e he => ?_) (by decide)) (.hit (.sk rfl (.sk rfl (.sk rfl (.sk rfl .nil))))) rfl fun _ => rfl) ?_
  · obtain ⟨p, hp, rfl⟩ := List.mem_map.mp he
    exact Fn1 o (hV p hp)
  refine Ex_nil ?_
  refine Ex_ret (Ev.le (Ev_dictzip (k := 2) (ps := kvs.map fun p => (sk p.1, sib p.2)) (Draw_map Draw_list) (Draw_map Draw_list) Its_map' Its_map' ?_ (by simpa using (by omega)) (Ev_take (.there .here) rfl rfl) (Ev_take .here rfl rfl) (o.nob "dict" (by decide)) (o.nob "zip" (by decide)) rfl rfl (fun _ => rfl) fun _ => rfl) (by decide)) rfl
  rw [List.map_map, List.map_map]
  have := zip_keys kvs sk sib
  simpa [Function.comp_def, sib_key] using this

theorem Ex7c (o : Ok C) {kvs : List (Key × D)} (hz : kvs.length ≤ 100) : Ex C 10 (fnSc 7) [("response", dat C (.list (row kvs))), ("decode_keys", dat C (.bool false)), ("decode_string_values", dat C (.bool false))] (fnBody 7) (Ret C (dct C (dsets [] kvs))) := by
  refine Ex_skip (T_is_none (Ev_name .here rfl rfl)) ?_
  refine Ex_if0 (T_or2 (T_tru (d := .bool false) (Ev_name (.there .here) rfl rfl) rfl trivial fun _ _ => rfl) (T_tru (d := .bool false) (Ev_name (.there (.there .here)) rfl rfl) rfl trivial fun _ _ => rfl)) ?_
  refine Ex_step (Es_assign (Ev_bcall (f := .builtin "iter") (rs := [dat C (.list (row kvs))]) (j := 2) (o.nob "iter" (by decide)) (by rfl) rfl rfl (by rfl) (by decide) (Evs_cons (Ev_name .here rfl rfl) Evs_nil) (fun _ => rfl) (Bf_iter (k := 1) Its_list) (by decide)) (.sk rfl (.sk rfl (.sk rfl .nil))) rfl fun _ => rfl) ?_
  refine Ex_ret (Ev_bcall (f := .type "dict") (j := 4) (o.nob "dict" (by decide)) (by rfl) rfl rfl (by rfl) (by decide) (Evs_cons ((Ev_zip_row (k := 8) .here rfl rfl (o.nob "zip" (by decide)) rfl (fun _ => rfl)).impR fun _ _ _ => zitT_zit) Evs_nil) (fun _ => rfl) (Bf_dict (ps := kvs) (Walk_zip (k := 0) (Draw2_same Draw_list)) (by omega)) (by decide)) rfl

theorem kc1 {C : Cx} {x : Str} {b : Bool} {G : Gm} {kvs : List (Str × Value)} (h : RepK C G kvs [(x, .bool b)]) : kvs = [(x, .bool b)] := by
  obtain ⟨h1, h2⟩ := h
  cases kvs with
  | nil => simp at h1
  | cons p r =>
    cases r with
    | nil =>
      obtain ⟨k', w⟩ := p
      cases h2 with
      | cons a _ => cases a; simp at h1; rw [h1]
    | cons _ _ => simp at h1
theorem kc2 {C : Cx} {x y : Str} {b c : Bool} {G : Gm} {kvs : List (Str × Value)} (h : RepK C G kvs [(x, .bool b), (y, .bool c)]) : kvs = [(x, .bool b), (y, .bool c)] := by
  obtain ⟨h1, h2⟩ := h
  cases kvs with
  | nil => simp at h1
  | cons p r =>
    obtain ⟨k', w⟩ := p
    cases h2 with
    | cons a h2 =>
    cases a
    cases r with
    | nil => simp at h1
    | cons q r =>
      obtain ⟨k'', w'⟩ := q
      cases h2 with
      | cons a h2 =>
      cases a
      cases r with
      | nil =>
        simp at h1
        simp_all
      | cons _ _ => simp at h1
theorem kc0 {C : Cx} {G : Gm} {kvs : List (Str × Value)} (h : RepK C G kvs []) : kvs = [] := by
  have := h.names
  simpa using this

theorem Fn7a (o : Ok C) {kvs : List (Key × D)} (hK : OkKs kvs) (hz : kvs.length ≤ 100) : Fn C 11 (.ref (o.f 7)) [.list (row kvs)] [("decode_keys", .bool true)] (dct C (dsets [] (kvs.map fun p => (sk p.1, p.2)))) := by
  refine Fn_of (o.def (i := 7) (by decide) rfl rfl rfl rfl) ?_ (Ex7a o hK hz)
  obtain ⟨ob, n, h1, h2⟩ := o.atT
  rw [o.fde7]
  exact Binds_d (T := o.T) rfl h1 h2 (fun G kvs h => kc1 h) (fun v => ⟨_, rfl, rfl⟩) rfl rfl rfl rfl rfl rfl
theorem Fn7b (o : Ok C) {kvs : List (Key × D)} (hK : OkKs kvs) (hV : OkVs kvs) (hz : kvs.length ≤ 100) : Fn C 11 (.ref (o.f 7)) [.list (row kvs)] [("decode_keys", .bool true), ("decode_string_values", .bool true)] (dct C (dsets [] (kvs.map fun p => (sk p.1, sib p.2)))) := by
  refine Fn_of (o.def (i := 7) (by decide) rfl rfl rfl rfl) ?_ (Ex7b o hK hV hz)
  obtain ⟨ob, n, h1, h2⟩ := o.atT
  rw [o.fde7]
  exact Binds_d (T := o.T) rfl h1 h2 (fun G kvs h => kc2 h) (fun v => ⟨_, rfl, rfl⟩) rfl rfl rfl rfl rfl rfl
theorem Fn7c (o : Ok C) {kvs : List (Key × D)} (hz : kvs.length ≤ 100) : Fn C 11 (.ref (o.f 7)) [.list (row kvs)] [] (dct C (dsets [] kvs)) := by
  refine Fn_of (o.def (i := 7) (by decide) rfl rfl rfl rfl) ?_ (Ex7c o hz)
  obtain ⟨ob, n, h1, h2⟩ := o.atT
  rw [o.fde7]
  exact Binds_d (T := o.T) rfl h1 h2 (fun G kvs h => kc0 h) (fun v => ⟨_, rfl, rfl⟩) rfl rfl rfl rfl rfl rfl
end
end Mine

set_option maxRecDepth 100000
set_option autoImplicit false
set_option linter.unusedVariables false
namespace Mine
open PySem PySem.W PyProof.Rows

def scB (sc : Scope) : Bool := sc.kind == .function && sc.names.all fun x => x.2 != .free && x.2 != .cell && (x.2 != .local || sc.names.lookup x.1 == some .local)
theorem ScOk.of {sc : Scope} (h : scB sc = true) : ScOk sc := by
  unfold scB at h
  rw [Bool.and_eq_true] at h
  obtain ⟨h1, h2⟩ := h
  have h2 := List.all_eq_true.mp h2
  refine ⟨fun x hx e => ?_, fun x hx e => ?_, by simpa using h1, fun x hx e => ?_⟩ <;> have := h2 x hx
  · rw [e] at this; simp at this
  · rw [e] at this; simp at this
  · rw [e] at this; simpa using this

def okv {α : Type} (f : Key × D → α) : D → Option α
  | .tup [.str x, b] => some (f (.s x, b))
  | .tup [.bytes x, b] => some (f (.b x, b))
  | _ => none
theorem okv_kv {α : Type} (f : Key × D → α) (p : Key × D) : okv f (kvD p) = some (f p) := by
  obtain ⟨k, v⟩ := p
  cases k <;> rfl
theorem okv_map {α : Type} (f : Key × D → α) (kvs : List (Key × D)) : (kvs.map kvD).filterMap (okv f) = kvs.map f := by
  induction kvs with
  | nil => rfl
  | cons p kvs ih => simp [okv_kv, ih]

abbrev sibs (kvs : List (Key × D)) : List (Key × D) := kvs.map fun p => (sk p.1, p.2)
abbrev sibsv (kvs : List (Key × D)) : List (Key × D) := kvs.map fun p => (sk p.1, sib p.2)

section
variable {C : Cx} {k : Nat} {sc sc' : Scope} {ρ ρ₁ ρ₂ ρ' : Ctx} {P : Post} {S : Src} {M : Mid}

/-- key, value out of a pair -/
theorem As_kv {kx vx : Str} {kp vp tp : Pos} {j : Nat} {p : Key × D} (hkx : sc'.names.lookup kx = some .local) (hvx : sc'.names.lookup vx = some .local) (hne : (kx == vx) = false) : As C k sc' [] (.Tuple [.Name kx kp, .Name vx vp] j tp) (kvD p) [(vx, dat C p.2), (kx, dat C p.1.d)] :=
  As_row (b := true) (ds := [p.1.d, p.2]) (AsL_cons (As_name hkx .nil) (AsL_cons (As_name hvx (.sk hne .nil)) AsL_nil)) (fun _ => rfl) rfl

theorem sib_step (o : Ok C) (hk : 1 ≤ k) {kx vx : Str} {kp vp kp' vp' fp cp tp : Pos} {j : Nat} {kvs : List (Key × D)} (hK : OkKs kvs) (hkx : sc'.names.lookup kx = some .local) (hvx : sc'.names.lookup vx = some .local) (hne : (kx == vx) = false) (hf : sc'.names.lookup ("str_if_bytes" : Str) = some .globalImplicit)
    (hdk : (kx == ("__debug__" : Str)) = false) (hdv : (vx == ("__debug__" : Str)) = false) (hst : ∀ env, backTo cp (starEach [.Name kx kp'] env) = [.Name kx kp'].map fun e => (false, eval e env)) :
    ∀ d ∈ kvs.map kvD, ∃ ρ₂ ρ₃, As C k sc' [] (.Tuple [.Name kx kp, .Name vx vp] j tp) d ρ₂ ∧ Tst C k sc' ρ₂ [] (okv (fun p => (sk p.1, p.2)) d).isSome ∧ ∀ e, okv (fun p => (sk p.1, p.2)) d = some e → ∃ ρ₄, Ev C k sc' ρ₂ (.Call (.Name "str_if_bytes" fp) [.Name kx kp'] [] cp) (dat C e.1.d) ρ₄ ∧ Ev C k sc' ρ₄ (.Name vx vp') (dat C e.2) ρ₃ := by
  intro d hd
  obtain ⟨p, hp, rfl⟩ := List.mem_map.mp hd
  refine ⟨_, [(vx, dat C p.2), (kx, dat C p.1.d)], As_kv hkx hvx hne, ?_, fun e he => ?_⟩
  · rw [okv_kv]; exact Tst_nil
  · rw [okv_kv] at he
    cases he
    refine ⟨_, ?_, Ev_name .here hvx hdv⟩
    have h1 := Fn1 (k := 0) o (hK p hp)
    rw [sib_key] at h1
    exact o.call1 1 (by decide) rfl hf rfl (Ev_name (.there .here) hkx hdk) hst h1 hk

/-- {str_if_bytes(key): value for key, value in ..} -/
theorem Ev_sibcomp (o : Ok C) (hk : 1 ≤ k) {I : It} {r : Res} {iter : Expr} {kx vx : Str} {kp vp kp' vp' fp cp tp pos : Pos} {j : Nat} {kvs : List (Key × D)} (hw : Wlk C k I (.Tuple [.Name kx kp, .Name vx vp] j tp)) (hi : Ev C k sc ρ iter r ρ₁) (hits : Its C k r (I (kvs.map kvD))) (hK : OkKs kvs) (hsz : kvs.length ≤ 1000)
    (hok : scB sc' = true) (hs : ∀ env x, foldedSetIterable iter env x = pure x) (hkx : sc'.names.lookup kx = some .local) (hvx : sc'.names.lookup vx = some .local) (hne : (kx == vx) = false) (hf : sc'.names.lookup ("str_if_bytes" : Str) = some .globalImplicit)
    (hdk : (kx == ("__debug__" : Str)) = false) (hdv : (vx == ("__debug__" : Str)) = false) (hst : ∀ env, backTo cp (starEach [.Name kx kp'] env) = [.Name kx kp'].map fun e => (false, eval e env)) :
    Ev C k sc ρ (.DictComp (.Call (.Name "str_if_bytes" fp) [.Name kx kp'] [] cp) (.Name vx vp') [⟨.Tuple [.Name kx kp, .Name vx vp] j tp, iter, [], 0⟩] sc' pos) (dct C (dsets [] (sibs kvs))) ρ₁ := by
  have := Ev_dictcomp (okv fun p => (sk p.1, p.2)) hw (ScOk.of hok) hi hits (by simpa using hsz) hs (sib_step (kp := kp) (vp := vp) (vp' := vp') (fp := fp) (tp := tp) (j := j) o hk hK hkx hvx hne hf hdk hdv hst) (pos := pos)
  rw [okv_map] at this
  exact this
theorem Es_sibcomp (o : Ok C) (hk : 1 ≤ k) {I : It} {r : Res} {iter : Expr} {kx vx y : Str} {kp vp kp' vp' fp cp tp pos spos py : Pos} {j : Nat} {kvs : List (Key × D)} (hw : Wlk C k I (.Tuple [.Name kx kp, .Name vx vp] j tp)) (hi : Ev C k sc ρ iter r ρ₁) (hits : Its C k r (I (kvs.map kvD))) (hK : OkKs kvs) (hsz : kvs.length ≤ 1000)
    (hok : scB sc' = true) (hs : ∀ env x, foldedSetIterable iter env x = pure x) (hkx : sc'.names.lookup kx = some .local) (hvx : sc'.names.lookup vx = some .local) (hne : (kx == vx) = false) (hf : sc'.names.lookup ("str_if_bytes" : Str) = some .globalImplicit)
    (hdk : (kx == ("__debug__" : Str)) = false) (hdv : (vx == ("__debug__" : Str)) = false) (hst : ∀ env, backTo cp (starEach [.Name kx kp'] env) = [.Name kx kp'].map fun e => (false, eval e env))
    (hsw : ∀ env, EnvOk sc env → swapsWith (.DictComp (.Call (.Name "str_if_bytes" fp) [.Name kx kp'] [] cp) (.Name vx vp') [⟨.Tuple [.Name kx kp, .Name vx vp] j tp, iter, [], 0⟩] sc' pos) (some (.Name y py)) spos.line env = pure true) (hy : sc.names.lookup y = some .local) (hd : Del y ρ₁ ρ') :
    Es C k sc ρ (.Assign [.Name y py] (.DictComp (.Call (.Name "str_if_bytes" fp) [.Name kx kp'] [] cp) (.Name vx vp') [⟨.Tuple [.Name kx kp, .Name vx vp] j tp, iter, [], 0⟩] sc' pos) spos) ((y, dct C (dsets [] (sibs kvs))) :: ρ') := by
  have := Es_assign_dictcomp (okv fun p => (sk p.1, p.2)) hw (ScOk.of hok) hi hits (by simpa using hsz) hs (sib_step (kp := kp) (vp := vp) (vp' := vp') (fp := fp) (tp := tp) (j := j) o hk hK hkx hvx hne hf hdk hdv hst) hsw hy hd
  rw [okv_map] at this
  exact this

/-! the def with a dict of options -/
theorem Ok.fn0 (o : Ok C) (i : Nat) (hi : i ∈ defs) (h7 : i ≠ 7) {x y : Str} {d : D} {r : Res} (h1 : (fnSc i).kind = .function) (h2 : (fnSc i).isCoroutine = false) (h3 : (fnSc i).isGenerator = false) (h4 : ((fnSc i).names.all fun x => x.2 != .cell) = true)
    (hb : ∀ pm code doc v, bindArgs (Calls.docDef (fnName i) (fnArgs i) (fnBody i) (fnSc i) pm code doc) ⟨[v], []⟩ = (alloc { cls := .type "dict", data := .dict #[] } >>= fun a => pure [(x, v), (y, .ref a)])) (hxy : (x == y) = false) (hx : (fnSc i).names.lookup x = some .local) (hy : (fnSc i).names.lookup y = some .local)
    (h : Ex C k (fnSc i) [(x, dat C d), (y, dat C (.dict []))] (fnBody i) (Ret C r)) : Fn C (k + 1) (.ref (o.f i)) [d] [] r := by
  refine Fn_of (o.def hi h1 h2 h3 h4) ?_ h
  rw [o.fde i hi h7]
  exact Binds_kw0 (hb _ _ _) hxy hx hy
theorem Ok.fn1 (o : Ok C) (i : Nat) (hi : i ∈ defs) (h7 : i ≠ 7) {x : Str} {d : D} {r : Res} (h1 : (fnSc i).kind = .function) (h2 : (fnSc i).isCoroutine = false) (h3 : (fnSc i).isGenerator = false) (h4 : ((fnSc i).names.all fun x => x.2 != .cell) = true)
    (hb : ∀ pm code doc v, bindArgs (Calls.docDef (fnName i) (fnArgs i) (fnBody i) (fnSc i) pm code doc) ⟨[v], []⟩ = pure [(x, v)]) (hx : (fnSc i).names.lookup x = some .local)
    (h : Ex C k (fnSc i) [(x, dat C d)] (fnBody i) (Ret C r)) : Fn C (k + 1) (.ref (o.f i)) [d] [] r := by
  refine Fn_of (o.def hi h1 h2 h3 h4) ?_ h
  rw [o.fde i hi h7]
  exact Binds_1 (hb _ _ _) hx

/-! parse_arinfo -/
theorem Ev_isi (o : Ok C) {fp tp pos : Pos} {e : Expr} {d : D} {nm : Str} {Ty : String} (h : Ev C k sc ρ e (dat C d) ρ) (hT : Ty = "int" ∨ Ty = "bytes" ∨ Ty = "list" ∨ Ty = "dict") (hnm : nm ∈ nobs) (hb : bootBuiltins nm = some (.type Ty))
    (hx1 : sc.names.lookup ("isinstance" : Str) = some .globalImplicit) (hx2 : sc.names.lookup nm = some .globalImplicit) (hd : (nm == ("__debug__" : Str)) = false) (hn : nm ≠ "__name__") (hst : ∀ env, backTo pos (starEach [e, .Name nm tp] env) = [e, .Name nm tp].map fun e => (false, eval e env)) :
    T C k sc ρ (.Call (.Name "isinstance" fp) [e, .Name nm tp] [] pos) (isiD d Ty) := T_isi h hT (o.nob "isinstance" (by decide)) (o.nob nm hnm) hb hx1 hx2 hd hn hst

/-- pairs_to_dict(x, decode_keys=True) -/
theorem Ev_ptd1 (o : Ok C) (hk : 11 ≤ k) {e : Expr} {fp cp pos : Pos} {jj : Nat} {kvs : List (Key × D)} (he : Ev C k sc ρ e (dat C (.list (row kvs))) ρ₁) (hK : OkKs kvs) (hz : kvs.length ≤ 100) (hx : sc.names.lookup ("pairs_to_dict" : Str) = some .globalImplicit) (hst : ∀ env, backTo pos (starEach [e] env) = [e].map fun e => (false, eval e env)) {kw : Keyword}
    (hkw : ∀ env, backToKw pos (keywordEach [kw] env) = [(("decode_keys" : Str), Expr.Constant (.bool true) jj cp)].map fun p => (some p.1, do let v ← eval p.2 env; standAt pos; pure v)) :
    Ev C k sc ρ (.Call (.Name "pairs_to_dict" fp) [e] [kw] pos) (dct C (dsets [] (sibs kvs))) ρ₁ := by
  obtain ⟨fo, h1, h2⟩ := o.at_ 7 (by decide)
  exact Ev_call (ds := [.list (row kvs)]) (kw := [("decode_keys", .bool true)]) (o.nm 7 (by decide)) h1 h2 hx rfl (Evs_cons he Evs_nil) hst hkw (EvsA_cons Ev_bool EvsA_nil) rfl (Fn7a o hK hz) hk

theorem Fn16l (o : Ok C) {kvs : List (Key × D)} (hK : OkKs kvs) (hz : kvs.length ≤ 100) : Fn C 13 (.ref (o.f 16)) [.list (row kvs)] [] (dat C (.dict (dsets [] (sibs kvs)))) := by
  refine o.fn0 16 (by decide) (by decide) (x := "response") (y := "options") rfl rfl rfl rfl (fun _ _ _ _ => by rfl) rfl rfl rfl ?_
  refine Ex_if1 (Ev_isi (Ty := "list") o (Ev_name .here rfl rfl) (.inr (.inr (.inl rfl))) (by decide) (by rfl) rfl rfl rfl (by decide) fun _ => rfl) ?_
  exact Ex_ret ((Ev_ptd1 o (by decide) (Ev_name .here rfl rfl) hK hz rfl (fun _ => rfl) fun _ => rfl).frz (.dct C _)) rfl
theorem Fn16d (o : Ok C) {kvs : List (Key × D)} (hK : OkKs kvs) (hz : kvs.length ≤ 100) : Fn C 13 (.ref (o.f 16)) [.dict kvs] [] (dat C (.dict (dsets [] (sibs kvs)))) := by
  refine o.fn0 16 (by decide) (by decide) (x := "response") (y := "options") rfl rfl rfl rfl (fun _ _ _ _ => by rfl) rfl rfl rfl ?_
  refine Ex_skip (Ev_isi (Ty := "list") o (Ev_name .here rfl rfl) (.inr (.inr (.inl rfl))) (by decide) (by rfl) rfl rfl rfl (by decide) fun _ => rfl) ?_
  refine Ex_ret ((Ev_sibcomp o (by decide) WalkT_items.by (Ev_items (Ev_name .here rfl rfl) (fun _ => rfl) rfl) Its_viewT hK (by omega) rfl (fun _ _ => rfl) rfl rfl rfl rfl rfl rfl fun _ => rfl).frz (.dct C _)) rfl
end
end Mine

set_option maxRecDepth 100000
set_option autoImplicit false
set_option linter.unusedVariables false
namespace Mine
open PySem PySem.W PyProof.Rows

/-! the other way: a row read as pairs -/
noncomputable def unrow : List D → List (Key × D)
  | .str x :: v :: r => (.s x, v) :: unrow r
  | .bytes x :: v :: r => (.b x, v) :: unrow r
  | _ => []
theorem unrow_row : ∀ kvs : List (Key × D), unrow (row kvs) = kvs
  | [] => rfl
  | (.s x, v) :: kvs => by rw [row_cons]; show (_ :: unrow (row kvs)) = _; rw [unrow_row kvs]
  | (.b x, v) :: kvs => by rw [row_cons]; show (_ :: unrow (row kvs)) = _; rw [unrow_row kvs]
/-- a row, or a map, read as a map with texts for names -/
noncomputable def rdD : D → D
  | .list ds => .dict (dsets [] (sibs (unrow ds)))
  | .dict kvs => .dict (dsets [] (sibs kvs))
  | d => d
theorem rdD_row (kvs : List (Key × D)) : rdD (.list (row kvs)) = .dict (dsets [] (sibs kvs)) := by show D.dict (dsets [] (sibs (unrow (row kvs)))) = _; rw [unrow_row]
/-- a row or a map that can be read -/
inductive Rd : D → Prop where
  | row (kvs : List (Key × D)) : OkKs kvs → kvs.length ≤ 100 → Rd (.list (row kvs))
  | map (kvs : List (Key × D)) : OkKs kvs → kvs.length ≤ 100 → Rd (.dict kvs)

section
variable {C : Cx} {k : Nat} {sc sc' : Scope} {ρ ρ₁ ρ₂ ρ' : Ctx} {P : Post} {S : Src} {M : Mid}

theorem Ex_retl {e : Expr} {pos : Pos} {ss : List Stmt} {ds : List D} (h : Ev C k sc ρ e (lst C ds) ρ) : Ex C k sc ρ (.Return (some e) pos :: ss) (Ret C (dat C (.list ds))) := Ex_ret (h.frz (.lst C _)) rfl
theorem Ex_retd {e : Expr} {pos : Pos} {ss : List Stmt} {ds : List (Key × D)} (h : Ev C k sc ρ e (dct C ds) ρ) : Ex C k sc ρ (.Return (some e) pos :: ss) (Ret C (dat C (.dict ds))) := Ex_ret (h.frz (.dct C _)) rfl
theorem Ev_lcomp (f : D → D) {I : It} {x : Str} {p pos : Pos} {elt iter : Expr} {r : Res} {ds : List D} (hw : Walk C k I) (hok : scB sc' = true) (hi : Ev C k sc ρ iter r ρ₁) (hits : Its C k r (I ds)) (hsz : ds.length ≤ 1000)
    (hs : ∀ env x, foldedSetIterable iter env x = pure x) (hx : sc'.names.lookup x = some .local) (step : ∀ d ∈ ds, Ev C k sc' [(x, dat C d)] elt (dat C (f d)) [(x, dat C d)]) :
    Ev C k sc ρ (.ListComp elt [⟨.Name x p, iter, [], 0⟩] sc' pos) (lst C (ds.map f)) ρ₁ := by
  have := Ev_listcomp (t := .Name x p) (ifs := []) (fun d => some (f d)) hw.by (ScOk.of hok) hi hits hsz hs (elt := elt) (pos := pos) (fun d hd => by
    have h := step d hd
    refine ⟨_, [(x, dat C d)], As_name hx .nil, Tst_nil, fun e he => ?_⟩
    cases he
    exact h)
  have e : ds.filterMap (fun d => some (f d)) = ds.map f := by induction ds with
    | nil => rfl
    | cons d ds ih => simp
  rw [e] at this
  exact this

theorem Es_forx {α : Type} (f : α → D) {xs : List α} (Inv : List α → Ctx) {I : It} {t iter : Expr} {body : List Stmt} {pos : Pos} {r : Res} (hw : Wlk C k I t) (hi : Ev C k sc ρ iter r ρ₁) (hits : Its C k r (I (xs.map f))) (h0 : Wk ρ₁ (Inv []))
    (hs : ∀ env x, foldedSetIterable iter env x = pure x)
    (step : ∀ pre x post, xs = pre ++ x :: post → ∃ ρ₂, As C k sc (Inv pre) t (f x) ρ₂ ∧ Ex C k sc ρ₂ body ⟨fun ρ' => Wk ρ' (Inv (pre ++ [x])), fun ρ' => Wk ρ' (Inv (pre ++ [x])), fun _ => False⟩) :
    Es C k sc ρ (.For t iter body [] pos) (Inv xs) := by
  have := Es_for (fun ds' => Inv (xs.take (xs.length - ds'.length))) hw hi hits (by simpa using h0) hs (body := body) (pos := pos) (fun pre d ds' hds => by
    obtain ⟨pa, pb, e1, e2, e3⟩ := List.map_eq_append_iff.mp hds
    obtain ⟨x, pc, e4, e5, e6⟩ := List.map_eq_cons_iff.mp e3
    subst e4 e5 e6 e2
    obtain ⟨ρ₂, h1, h2⟩ := step pa x pc e1
    have q1 : xs.take (xs.length - (f x :: pc.map f).length) = pa := by rw [e1]; simp
    have q2 : xs.take (xs.length - (pc.map f).length) = pa ++ [x] := by
      rw [e1, show (pa ++ x :: pc).length - (pc.map f).length = (pa ++ [x]).length by simp; omega, show pa ++ x :: pc = (pa ++ [x]) ++ pc by simp, List.take_left]
    refine ⟨ρ₂, by rw [q1]; exact h1, ?_⟩
    rw [q2]; exact h2)
  simpa using this

/-! pairs_to_dict_with_str_keys, parse_list_of_dicts -/
theorem Fn14 (o : Ok C) {kvs : List (Key × D)} (hK : OkKs kvs) (hz : kvs.length ≤ 100) : Fn C 12 (.ref (o.f 14)) [.list (row kvs)] [] (dat C (rdD (.list (row kvs)))) := by
  rw [rdD_row]
  exact o.fn1 14 (by decide) (by decide) (x := "response") rfl rfl rfl rfl (fun _ _ _ _ => by rfl) rfl (Ex_ret ((Ev_ptd1 o (by decide) (Ev_name .here rfl rfl) hK hz rfl (fun _ => rfl) fun _ => rfl).frz (.dct C _)) rfl)
theorem Fn15 (o : Ok C) {ds : List D} (hd : ∀ d ∈ ds, ∃ kvs, d = .list (row kvs) ∧ OkKs kvs ∧ kvs.length ≤ 100) (hz : ds.length ≤ 100) : Fn C 20 (.ref (o.f 15)) [.list ds] [] (dat C (.list (ds.map rdD))) := by
  refine o.fn1 15 (by decide) (by decide) (x := "response") rfl rfl rfl rfl (fun _ _ _ _ => by rfl) rfl (Ex_retl ?_)
  refine Ev_bcall (f := .type "list") (j := 16) (o.nob "list" (by decide)) (by rfl) rfl rfl (by rfl) (by decide) (Evs_cons (Ev_bcall (f := .type "map") (rs := [val (.ref (o.f 14)), dat C (.list ds)]) (j := 14) (o.nob "map" (by decide)) (by rfl) rfl rfl (by rfl) (by decide) (Evs_cons (o.name 14 (by decide) rfl rfl rfl) (Evs_cons (Ev_name .here rfl rfl) Evs_nil)) (fun _ => rfl) (Bf_map (k := 12) (g := rdD) Its_list fun e he => ?_) (by decide)) Evs_nil) (fun _ => rfl) (Bf_list (k := 13) (Walk_map (k := 12) Draw_list) Plain_map (by simpa using (by omega))) (by decide)
  obtain ⟨kvs, rfl, hK, hz⟩ := hd e he
  exact Fn14 o hK hz

/-! parse_list_of_dicts_resp3, parse_cluster_links_unified -/
theorem Ev_rdmap (o : Ok C) (hk : 1 ≤ k) {e : Expr} {kvs : List (Key × D)} {apos cpos : Pos} {kx vx : Str} {kp vp kp' vp' fp cp tp pos : Pos} {j : Nat} (he : Ev C k sc ρ e (dat C (.dict kvs)) ρ₁) (hK : OkKs kvs) (hsz : kvs.length ≤ 1000) (hbase : ∀ env, attributeBase e "items" env (eval e env) = eval e env) (hline : (apos.endLine == cpos.line) = true)
    (hok : scB sc' = true) (hkx : sc'.names.lookup kx = some .local) (hvx : sc'.names.lookup vx = some .local) (hne : (kx == vx) = false) (hf : sc'.names.lookup ("str_if_bytes" : Str) = some .globalImplicit)
    (hdk : (kx == ("__debug__" : Str)) = false) (hdv : (vx == ("__debug__" : Str)) = false) (hst : ∀ env, backTo cp (starEach [.Name kx kp'] env) = [.Name kx kp'].map fun e => (false, eval e env)) :
    Ev C k sc ρ (.DictComp (.Call (.Name "str_if_bytes" fp) [.Name kx kp'] [] cp) (.Name vx vp') [⟨.Tuple [.Name kx kp, .Name vx vp] j tp, .Call (.Attribute e "items" apos) [] [] cpos, [], 0⟩] sc' pos) (dat C (rdD (.dict kvs))) ρ₁ :=
  (Ev_sibcomp o hk WalkT_items.by (Ev_items he hbase hline) Its_viewT hK hsz hok (fun _ _ => rfl) hkx hvx hne hf hdk hdv hst).frz (.dct C _)

theorem Fn6 (o : Ok C) {ds : List D} (hd : ∀ d ∈ ds, ∃ kvs, d = .dict kvs ∧ OkKs kvs ∧ kvs.length ≤ 100) (hz : ds.length ≤ 100) : Fn C 20 (.ref (o.f 6)) [.list ds] [] (dat C (.list (ds.map rdD))) := by
  refine o.fn0 6 (by decide) (by decide) (x := "response") (y := "kwargs") rfl rfl rfl rfl (fun _ _ _ _ => by rfl) rfl rfl rfl (Ex_retl ?_)
  refine Ev_lcomp rdD Walk_list rfl (Ev_name .here rfl rfl) Its_list (by omega) (fun _ _ => rfl) rfl fun d hdm => ?_
  obtain ⟨kvs, rfl, hK, hz⟩ := hd d hdm
  exact Ev_rdmap o (by decide) (Ev_name .here rfl rfl) hK (by omega) (fun _ => rfl) rfl rfl rfl rfl rfl rfl rfl rfl fun _ => rfl

theorem Fn22 (o : Ok C) {ds : List D} (hd : ∀ d ∈ ds, Rd d) (hz : ds.length ≤ 100) : Fn C 20 (.ref (o.f 22)) [.list ds] [] (dat C (.list (ds.map rdD))) := by
  refine o.fn0 22 (by decide) (by decide) (x := "response") (y := "options") rfl rfl rfl rfl (fun _ _ _ _ => by rfl) rfl rfl rfl ?_
  refine Ex_skip (T_is_none (Ev_name .here rfl rfl)) (Ex_retl ?_)
  refine Ev_lcomp rdD Walk_list rfl (Ev_name .here rfl rfl) Its_list (by omega) (fun _ _ => rfl) rfl fun d hdm => ?_
  cases hd d hdm with
  | row kvs hK hz =>
    refine Ev_ifexp (Ev_isi (Ty := "dict") o (Ev_name .here rfl rfl) (.inr (.inr (.inr rfl))) (by decide) (by rfl) rfl rfl rfl (by decide) fun _ => rfl) ?_
    rw [rdD_row]
    exact (Ev_ptd1 o (by decide) (Ev_name .here rfl rfl) hK hz rfl (fun _ => rfl) fun _ => rfl).frz (.dct C _)
  | map kvs hK hz =>
    refine Ev_ifexp (Ev_isi (Ty := "dict") o (Ev_name .here rfl rfl) (.inr (.inr (.inr rfl))) (by decide) (by rfl) rfl rfl rfl (by decide) fun _ => rfl) ?_
    exact Ev_rdmap o (by decide) (Ev_name .here rfl rfl) hK (by omega) (fun _ => rfl) rfl rfl rfl rfl rfl rfl rfl rfl fun _ => rfl
end
end Mine

set_option maxRecDepth 100000
set_option autoImplicit false
set_option linter.unusedVariables false
namespace Mine
open PySem PySem.W PyProof.Rows

theorem row_snoc (pre : List (Key × D)) (p : Key × D) : row (pre ++ [p]) = row pre ++ [p.1.d] ++ [p.2] := by simp [row]

section
variable {C : Cx} {k : Nat} {sc sc' : Scope} {ρ ρ₁ ρ₂ ρ' : Ctx} {P : Post} {S : Src} {M : Mid}

theorem As_kvr {kx vx : Str} {kp vp tp : Pos} {j : Nat} {p : Key × D} (hkx : sc.names.lookup kx = some .local) (hvx : sc.names.lookup vx = some .local) (h1 : Del kx ρ ρ₁) (h2 : Del vx ((kx, dat C p.1.d) :: ρ₁) ρ₂) : As C k sc ρ (.Tuple [.Name kx kp, .Name vx vp] j tp) (kvD p) ((vx, dat C p.2) :: ρ₂) :=
  As_row (b := true) (ds := [p.1.d, p.2]) (AsL_cons (As_name hkx h1) (AsL_cons (As_name hvx h2) AsL_nil)) (fun _ => rfl) rfl
theorem Ev_nil {pos : Pos} : Ev C k sc ρ (.List [] pos) (lst C []) ρ := Ev_List (ds := []) Evs_nil (fun _ => rfl) (by simp)

/-! parse_lcs_idx -/
theorem Fn10d (o : Ok C) {kvs : List (Key × D)} (hK : OkKs kvs) (hz : kvs.length ≤ 100) : Fn C 13 (.ref (o.f 10)) [.dict kvs] [] (dat C (rdD (.dict kvs))) := by
  refine o.fn0 10 (by decide) (by decide) (x := "response") (y := "options") rfl rfl rfl rfl (fun _ _ _ _ => by rfl) rfl rfl rfl ?_
  refine Ex_skip (Ev_isi (Ty := "list") o (Ev_name .here rfl rfl) (.inr (.inr (.inl rfl))) (by decide) (by rfl) rfl rfl rfl (by decide) fun _ => rfl) ?_
  refine Ex_if1 (Ev_isi (Ty := "dict") o (Ev_name .here rfl rfl) (.inr (.inr (.inr rfl))) (by decide) (by rfl) rfl rfl rfl (by decide) fun _ => rfl) ?_
  exact Ex_ret (Ev_rdmap o (by decide) (Ev_name .here rfl rfl) hK (by omega) (fun _ => rfl) rfl rfl rfl rfl rfl rfl rfl rfl fun _ => rfl) rfl
theorem Fn10b (o : Ok C) {x : List UInt8} : Fn C 13 (.ref (o.f 10)) [.bytes x] [] (dat C (.bytes x)) := by
  refine o.fn0 10 (by decide) (by decide) (x := "response") (y := "options") rfl rfl rfl rfl (fun _ _ _ _ => by rfl) rfl rfl rfl ?_
  refine Ex_skip (Ev_isi (Ty := "list") o (Ev_name .here rfl rfl) (.inr (.inr (.inl rfl))) (by decide) (by rfl) rfl rfl rfl (by decide) fun _ => rfl) ?_
  refine Ex_skip (Ev_isi (Ty := "dict") o (Ev_name .here rfl rfl) (.inr (.inr (.inr rfl))) (by decide) (by rfl) rfl rfl rfl (by decide) fun _ => rfl) ?_
  exact Ex_ret (Ev_name .here rfl rfl) rfl
theorem Fn10l (o : Ok C) {kvs : List (Key × D)} (hK : OkKs kvs) (hz : kvs.length ≤ 100) : Fn C 13 (.ref (o.f 10)) [.list (row kvs)] [] (dat C (rdD (.list (row kvs)))) := by
  refine o.fn0 10 (by decide) (by decide) (x := "response") (y := "options") rfl rfl rfl rfl (fun _ _ _ _ => by rfl) rfl rfl rfl ?_
  refine Ex_if1 (Ev_isi (Ty := "list") o (Ev_name .here rfl rfl) (.inr (.inr (.inl rfl))) (by decide) (by rfl) rfl rfl rfl (by decide) fun _ => rfl) ?_
  refine Ex_step (Es_assign (Ev_bcall (f := .builtin "iter") (rs := [dat C (.list (row kvs))]) (j := 2) (o.nob "iter" (by decide)) (by rfl) rfl rfl (by rfl) (by decide) (Evs_cons (Ev_name .here rfl rfl) Evs_nil) (fun _ => rfl) (Bf_iter (k := 1) Its_list) (by decide)) (.sk rfl (.sk rfl .nil)) rfl fun _ => rfl) ?_
  rw [rdD_row]
  refine Ex_ret ((Ev_sibcomp o (by decide) (WalkT_zip (k := 11) (Draw2_same Draw_list)).by (Ev_zip_row (k := 10) .here rfl rfl (o.nob "zip" (by decide)) rfl (fun _ => rfl)) ((WalkT_zip (k := 11) (Draw2_same Draw_list)).self _) hK (by omega) rfl (fun _ _ => rfl) rfl rfl rfl rfl rfl rfl fun _ => rfl).frz (.dct C _)) rfl
theorem Fn11 (o : Ok C) {kvs : List (Key × D)} (hz : kvs.length ≤ 100) : Fn C 13 (.ref (o.f 11)) [.dict kvs] [] (dat C (.list (row kvs))) := by
  refine o.fn0 11 (by decide) (by decide) (x := "response") (y := "options") rfl rfl rfl rfl (fun _ _ _ _ => by rfl) rfl rfl rfl ?_
  refine Ex_skip (T_not (b := true) (Ev_isi (Ty := "dict") o (Ev_name .here rfl rfl) (.inr (.inr (.inr rfl))) (by decide) (by rfl) rfl rfl rfl (by decide) fun _ => rfl)) ?_
  refine Ex_step (Es_assign Ev_nil (.sk rfl (.sk rfl .nil)) rfl fun _ => rfl) ?_
  refine Ex_step (Es_forx kvD (xs := kvs) (fun pre => [("out", lst C (row pre)), ("response", dat C (.dict kvs))]) WalkT_items.by (Ev_items (Ev_name (.there .here) rfl rfl) (fun _ => rfl) rfl) Its_viewT (.pick .here (.pick .here (.nil _))) (fun _ _ => rfl) fun pre p post hxs => ⟨_, As_kvr rfl rfl (.sk rfl (.sk rfl .nil)) (.sk rfl (.sk rfl (.sk rfl .nil))), ?_⟩) ?_
  · have hl : pre.length ≤ 100 := by have := congrArg List.length hxs; simp at this; omega
    refine Ex_step (Es_append (.there (.there .here)) rfl rfl (Ev_name (.there .here) rfl rfl) (fun _ => rfl) rfl (by rw [row_length]; omega)) ?_
    refine Ex_step (Es_append .here rfl rfl (Ev_name .here rfl rfl) (fun _ => rfl) rfl (by simp [row_length]; omega)) ?_
    refine Ex_nil ?_
    rw [row_snoc]
    exact .pick .here (.pick (.there (.there .here)) (.nil _))
  · exact Ex_ret ((Ev_take .here rfl rfl).frz (.lst C _)) rfl
theorem Fn13 (o : Ok C) {kvs : List (Key × D)} (hK : OkKs kvs) (hz : kvs.length ≤ 100) : Fn C 13 (.ref (o.f 13)) [.dict kvs] [] (dat C (.list (row (sibs kvs)))) := by
  refine o.fn0 13 (by decide) (by decide) (x := "response") (y := "options") rfl rfl rfl rfl (fun _ _ _ _ => by rfl) rfl rfl rfl ?_
  refine Ex_skip (T_not (b := true) (Ev_isi (Ty := "dict") o (Ev_name .here rfl rfl) (.inr (.inr (.inr rfl))) (by decide) (by rfl) rfl rfl rfl (by decide) fun _ => rfl)) ?_
  refine Ex_step (Es_assign Ev_nil (.sk rfl (.sk rfl .nil)) rfl fun _ => rfl) ?_
  refine Ex_step (Es_forx kvD (xs := kvs) (fun pre => [("out", lst C (row (sibs pre))), ("response", dat C (.dict kvs))]) WalkT_items.by (Ev_items (Ev_name (.there .here) rfl rfl) (fun _ => rfl) rfl) Its_viewT (.pick .here (.pick .here (.nil _))) (fun _ _ => rfl) fun pre p post hxs => ⟨_, As_kvr rfl rfl (.sk rfl (.sk rfl .nil)) (.sk rfl (.sk rfl (.sk rfl .nil))), ?_⟩) ?_
  · have hl : pre.length ≤ 100 := by have := congrArg List.length hxs; simp at this; omega
    have h1 := Fn1 (k := 0) o (hK p (by rw [hxs]; simp))
    rw [sib_key] at h1
    refine Ex_step (Es_append (.there (.there .here)) rfl rfl (o.call1 1 (by decide) rfl rfl rfl (Ev_name (.there .here) rfl rfl) (fun _ => rfl) h1 (by decide)) (fun _ => rfl) rfl (by rw [row_length]; simp; omega)) ?_
    refine Ex_step (Es_append .here rfl rfl (Ev_name .here rfl rfl) (fun _ => rfl) rfl (by simp [row_length]; omega)) ?_
    refine Ex_nil ?_
    have e : row (sibs (pre ++ [p])) = row (sibs pre) ++ [(sk p.1).d] ++ [p.2] := by rw [sibs, List.map_append]; exact row_snoc _ _
    rw [e]
    exact .pick .here (.pick (.there (.there .here)) (.nil _))
  · exact Ex_ret ((Ev_take .here rfl rfl).frz (.lst C _)) rfl

/-! parse_pubsub_numsub -/
theorem Fn19 (o : Ok C) {kvs : List (Key × D)} (hz : kvs.length ≤ 100) : Fn C 13 (.ref (o.f 19)) [.list (row kvs)] [] (dat C (.list (kvs.map kvD))) := by
  refine o.fn0 19 (by decide) (by decide) (x := "response") (y := "options") rfl rfl rfl rfl (fun _ _ _ _ => by rfl) rfl rfl rfl (Ex_retl ?_)
  have hzip := Bf_zip (C := C) (k := 5) Draw_list Draw_list (Its_list (ds := pickD (row kvs) (some 0) none (some 2))) (Its_list (ds := pickD (row kvs) (some 1) none (some 2)))
  have e : ((pickD (row kvs) (some 0) none (some 2)).zip (pickD (row kvs) (some 1) none (some 2))).map pairD = kvs.map kvD := by
    rw [pick_even kvs _ (.inr rfl), pick_odd]
    have := zip_keys kvs id id
    simpa using this
  rw [e] at hzip
  exact Ev_bcall (f := .type "list") (j := 9) (o.nob "list" (by decide)) (by rfl) rfl rfl (by rfl) (by decide) (Evs_cons (Ev_bcall (f := .type "zip") (j := 7) (o.nob "zip" (by decide)) (by rfl) rfl rfl (by rfl) (by decide)
    (Evs_cons (Ev_slice (Ev_name .here rfl rfl) (EvP_some Ev_int) EvP_none (EvP_some Ev_int) (by decide) (by rw [row_length]; omega)) (Evs_cons (Ev_slice (Ev_name .here rfl rfl) (EvP_some Ev_int) EvP_none (EvP_some Ev_int) (by decide) (by rw [row_length]; omega)) Evs_nil)) (fun _ => rfl) hzip (by decide)) Evs_nil) (fun _ => rfl)
    (Bf_list (k := 6) (Walk_zip (k := 5) (Draw2_two Draw_list Draw_list)) (Plain_zip _) (by simpa using (by omega))) (by decide)

/-! parse_cluster_links_resp3_to_resp2_legacy -/
def flD : D → D
  | .dict kvs => .list (row kvs)
  | d => d
def subD : D → List D
  | .tup ds => ds
  | _ => []
theorem row_sub (kvs : List (Key × D)) : ((kvs.map kvD).flatMap subD).map id = row kvs := by
  induction kvs with
  | nil => rfl
  | cons p kvs ih => rw [List.map_id] at ih ⊢; rw [row_cons, List.map_cons, List.flatMap_cons, ih]; rfl
theorem Ev_flat {e : Expr} {kvs : List (Key × D)} {x y : Str} {xp yp yp' xp' apos cpos pos : Pos} (he : Ev C k sc ρ e (dat C (.dict kvs)) ρ) (hsz : kvs.length ≤ 100) (hok : scB sc' = true) (hx : sc'.names.lookup x = some .local) (hy : sc'.names.lookup y = some .local) (hdx : (x == ("__debug__" : Str)) = false) (hdy : (y == ("__debug__" : Str)) = false)
    (hbase : ∀ env, attributeBase e "items" env (eval e env) = eval e env) (hline : (apos.endLine == cpos.line) = true) : Ev C k sc ρ (nestC (.Name y yp') (.Name x xp) (.Call (.Attribute e "items" apos) [] [] cpos) (.Name y yp) (.Name x xp') sc' pos) (dat C (.list (row kvs))) ρ := by
  have := Ev_nest (pos := pos) (elt := .Name y yp') subD id (fun d => dat C d) (Walk_items (C := C) (k := k)).by (Walk_tuple (C := C) (k := k)).by (ScOk.of hok) (t1 := .Name x xp) (t2 := .Name y yp) (i2 := .Name x xp') (Ev_items he hbase hline) Its_view (by
    have := congrArg List.length (row_sub kvs); rw [List.length_map, row_length] at this; omega) (fun _ _ => rfl) (fun _ _ => rfl) (fun d hd => by
    obtain ⟨p, hp, rfl⟩ := List.mem_map.mp hd
    refine ⟨[(x, dat C (kvD p))], [(x, dat C (kvD p))], As_name hx .nil, Ev_name .here hx hdx, Its_tuple, fun e he => ⟨[(y, dat C e)], [(y, dat C e)], As_name hy .nil, Ev_name .here hy hdy⟩⟩)
  rw [row_sub] at this
  exact this.frz (.lst C _)
theorem Fn23 (o : Ok C) {ds : List D} (hd : ∀ d ∈ ds, (∃ kvs, d = .dict kvs ∧ kvs.length ≤ 100) ∨ ∃ xs, d = .list xs) (hz : ds.length ≤ 100) : Fn C 20 (.ref (o.f 23)) [.list ds] [] (dat C (.list (ds.map flD))) := by
  refine o.fn0 23 (by decide) (by decide) (x := "response") (y := "options") rfl rfl rfl rfl (fun _ _ _ _ => by rfl) rfl rfl rfl ?_
  refine Ex_skip (T_is_none (Ev_name .here rfl rfl)) (Ex_retl ?_)
  refine Ev_lcomp flD Walk_list rfl (Ev_name .here rfl rfl) Its_list (by omega) (fun _ _ => rfl) rfl fun d hdm => ?_
  rcases hd d hdm with ⟨kvs, rfl, hz⟩ | ⟨xs, rfl⟩
  · refine Ev_ifexp (Ev_isi (Ty := "dict") o (Ev_name .here rfl rfl) (.inr (.inr (.inr rfl))) (by decide) (by rfl) rfl rfl rfl (by decide) fun _ => rfl) ?_
    exact Ev_flat (Ev_name .here rfl rfl) hz rfl rfl rfl rfl rfl (fun _ => rfl) rfl
  · refine Ev_ifexp (Ev_isi (Ty := "dict") o (Ev_name .here rfl rfl) (.inr (.inr (.inr rfl))) (by decide) (by rfl) rfl rfl rfl (by decide) fun _ => rfl) ?_
    exact Ev_name .here rfl rfl
end
end Mine

set_option maxRecDepth 100000
set_option autoImplicit false
set_option linter.unusedVariables false
namespace Mine
open PySem PySem.W PyProof.Rows

theorem dset_ne (kvs : List (Key × D)) (x : Key) (d : D) : dset kvs x d ≠ [] := by
  intro h
  unfold dset at h
  split at h
  · rename_i q
    have := congrArg List.length h
    simp at this
    subst this
    simp at q
  · simp at h
theorem dsets_ne : ∀ (ps kvs : List (Key × D)), kvs ≠ [] → dsets kvs ps ≠ []
  | [], kvs, h => h
  | p :: ps, kvs, h => by rw [dsets_cons]; exact dsets_ne ps _ (dset_ne _ _ _)
def cellD (p : Key × D) : D := .list [p.1.d, p.2]

section
variable {C : Cx} {k : Nat} {sc sc' : Scope} {ρ ρ₁ ρ₂ ρ' : Ctx} {P : Post} {S : Src} {M : Mid}

theorem Ok.fnk (o : Ok C) (i : Nat) (hi : i ∈ defs) (h7 : i ≠ 7) {x y key : Str} {d e : D} {r : Res} (h1 : (fnSc i).kind = .function) (h2 : (fnSc i).isCoroutine = false) (h3 : (fnSc i).isGenerator = false) (h4 : ((fnSc i).names.all fun x => x.2 != .cell) = true)
    (hb : ∀ pm code doc v w, bindArgs (Calls.docDef (fnName i) (fnArgs i) (fnBody i) (fnSc i) pm code doc) ⟨[v], [(key, w)]⟩ = (alloc { cls := .type "dict", data := .dict #[] } >>= fun a => (forIn [(key, w)] PUnit.unit fun (p : Str × Value) (_ : PUnit) => nsSet a p.1 p.2 >>= fun _ => pure (ForInStep.yield PUnit.unit)) >>= fun _ => pure [(x, v), (y, .ref a)])) (hxy : (x == y) = false) (hx : (fnSc i).names.lookup x = some .local) (hy : (fnSc i).names.lookup y = some .local)
    (h : Ex C k (fnSc i) [(x, dat C d), (y, dat C (.dict [(.s key, e)]))] (fnBody i) (Ret C r)) : Fn C (k + 1) (.ref (o.f i)) [d] [(key, e)] r := by
  refine Fn_of (o.def hi h1 h2 h3 h4) ?_ h
  rw [o.fde i hi h7]
  exact Binds_kw1 (hb _ _ _) hxy hx hy

/-- options.get('withvalues') -/
theorem Ev_opt {x : Str} {kvs : List (Key × D)} {p apos cpos kp : Pos} {j : Nat} {y : Str} (hp : Pick (x, dat C (.dict kvs)) ρ ρ') (hx : sc.names.lookup x = some .local) (hdb : (x == ("__debug__" : Str)) = false) (hline : (apos.endLine == cpos.line) = true) (hst : ∀ env, backTo cpos (starEach [.Constant (.str y) j kp] env) = [.Constant (.str y) j kp].map fun e => (false, eval e env)) :
    Ev C k sc ρ (.Call (.Attribute (.Name x p) "get" apos) [.Constant (.str y) j kp] [] cpos) (dat C ((dget kvs (.s y)).getD .none)) ρ :=
  Ev_method (j := 0) (ds := [.str y]) (kw := []) (ke := []) (Ev_name hp hx hdb) (Evs_cons Ev_str Evs_nil) hst (fun _ => rfl) EvsA_nil rfl (fun _ => rfl) hline (by simp) (by simp [tyD]) PySem.F.plainAttrs_dict PySem.F.slot_dict_get PySem.F.type_dict_get (Fn_get (x := .s y)) (Nat.zero_le k)

/-! hrandfield -/
theorem Fn8n (o : Ok C) {kvs : List (Key × D)} (hz : kvs.length ≤ 100) : Fn C 13 (.ref (o.f 8)) [.list (row kvs)] [] (dat C (.list (row kvs))) := by
  refine o.fn0 8 (by decide) (by decide) (x := "response") (y := "options") rfl rfl rfl rfl (fun _ _ _ _ => by rfl) rfl rfl rfl ?_
  have hf : fits (.list (row kvs)) := by show (row kvs).length ≤ 1000; rw [row_length]; omega
  have hr : ∀ {pos : Pos} {e : Expr} {q : Pos} {ss : List Stmt}, Ex C 12 (fnSc 8) [("response", dat C (.list (row kvs))), ("options", dat C (.dict []))] [.Return (some (.Name "response" q)) pos] ⟨fun ρ' => Ex C 12 (fnSc 8) ρ' ss (Ret C (dat C (.list (row kvs)))), fun _ => False, fun r => r = dat C (.list (row kvs))⟩ := fun {pos e q ss} => Ex_ret (Ev_name .here rfl rfl) rfl
  refine Ex_if1 (t := .BoolOp .Or [_, _] _) ?_ (Ex_ret (Ev_name .here rfl rfl) rfl)
  cases kvs with
  | nil => exact T_or1 (T_not (b := false) (T_tru (d := .list (row [])) (Ev_name .here rfl rfl) rfl hf fun _ _ => rfl))
  | cons p kvs =>
    refine T_or2 (T_not (b := true) (T_tru (d := .list (row (p :: kvs))) (Ev_name .here rfl rfl) rfl hf fun _ _ => rfl)) (T_not (b := false) (T_tru (d := .none) (Ev_opt (kvs := []) (.there .here) rfl rfl rfl fun _ => rfl) rfl trivial fun _ _ => rfl))
theorem Fn8w (o : Ok C) {kvs : List (Key × D)} (hb : ∀ p ∈ kvs, ∃ x, p.1 = .b x) (hz : kvs.length ≤ 100) : Fn C 13 (.ref (o.f 8)) [.list (row kvs)] [("withvalues", .bool true)] (dat C (.list (kvs.map cellD))) := by
  refine o.fnk 8 (by decide) (by decide) (x := "response") (y := "options") rfl rfl rfl rfl (fun _ _ _ _ _ => by rfl) rfl rfl rfl ?_
  have hf : fits (.list (row kvs)) := by show (row kvs).length ≤ 1000; rw [row_length]; omega
  cases kvs with
  | nil => exact Ex_if1 (T_or1 (T_not (b := false) (T_tru (d := .list (row [])) (Ev_name .here rfl rfl) rfl hf fun _ _ => rfl))) (Ex_ret (Ev_name .here rfl rfl) rfl)
  | cons p kvs =>
    obtain ⟨x, hpx⟩ := hb p (.head _)
    refine Ex_skip (T_or2 (T_not (b := true) (T_tru (d := .list (row (p :: kvs))) (Ev_name .here rfl rfl) rfl hf fun _ _ => rfl)) (T_not (b := true) (T_tru (d := .bool true) (Ev_opt (kvs := [(.s "withvalues", .bool true)]) (.there .here) rfl rfl rfl fun _ => rfl) rfl trivial fun _ _ => rfl))) ?_
    refine Ex_skip (Ev_isi (Ty := "list") (d := .bytes x) o (Ev_index (Ev_name (d := .list (row (p :: kvs))) .here rfl rfl) Ev_int (Gt_list (by decide) (by decide) ?_) (by simp [tyS]) fun _ _ => rfl) (.inr (.inr (.inl rfl))) (by decide) (by rfl) rfl rfl rfl (by decide) fun _ => rfl) ?_
    · rw [row_cons, hpx]; rfl
    refine Ex_step (Es_assign (Ev_bcall (f := .builtin "iter") (rs := [dat C (.list (row (p :: kvs)))]) (j := 2) (o.nob "iter" (by decide)) (by rfl) rfl rfl (by rfl) (by decide) (Evs_cons (Ev_name .here rfl rfl) Evs_nil) (fun _ => rfl) (Bf_iter (k := 1) Its_list) (by decide)) (.sk rfl (.sk rfl .nil)) rfl fun _ => rfl) ?_
    have e := okv_map cellD (p :: kvs)
    rw [← e]
    refine Ex_ret ((Ev_listcomp (ds := (p :: kvs).map kvD) (okv cellD) (WalkT_zip (k := 11) (Draw2_same Draw_list)).by (ScOk.of (by rfl)) (Ev_zip_row (k := 10) (kvs := p :: kvs) .here rfl rfl (o.nob "zip" (by decide)) rfl (fun _ => rfl)) ((WalkT_zip (k := 11) (Draw2_same Draw_list)).self _) (by simp at hz ⊢; omega) (fun _ _ => rfl) fun d hd => ?_).frz (.lst C _)) rfl
    obtain ⟨q, hq, rfl⟩ := List.mem_map.mp hd
    refine ⟨_, [("value", dat C q.2), ("field", dat C q.1.d)], As_kv rfl rfl rfl, ?_, fun e he => ?_⟩
    · rw [okv_kv]; exact Tst_nil
    · rw [okv_kv] at he
      cases he
      exact (Ev_List (ds := [q.1.d, q.2]) (Evs_cons (Ev_name (.there .here) rfl rfl) (Evs_cons (Ev_name .here rfl rfl) Evs_nil)) (fun _ => rfl) (by simp)).frz (.lst C _)
theorem Fn9 (o : Ok C) {kvs : List (Key × D)} (hz : kvs.length ≤ 100) : Fn C 13 (.ref (o.f 9)) [.list (kvs.map cellD)] [("withvalues", .bool true)] (dat C (.list (row kvs))) := by
  refine o.fnk 9 (by decide) (by decide) (x := "response") (y := "options") rfl rfl rfl rfl (fun _ _ _ _ _ => by rfl) rfl rfl rfl ?_
  have hf : fits (.list (kvs.map cellD)) := by show (kvs.map cellD).length ≤ 1000; simp; omega
  cases kvs with
  | nil => exact Ex_if1 (T_or1 (T_not (b := false) (T_tru (d := .list (List.map cellD [])) (Ev_name .here rfl rfl) rfl hf fun _ _ => rfl))) (Ex_ret (Ev_name .here rfl rfl) rfl)
  | cons p kvs =>
    refine Ex_skip (T_or2 (T_not (b := true) (T_tru (d := .list (List.map cellD (p :: kvs))) (Ev_name .here rfl rfl) rfl hf fun _ _ => rfl)) (T_not (b := true) (T_tru (d := .bool true) (Ev_opt (kvs := [(.s "withvalues", .bool true)]) (.there .here) rfl rfl rfl fun _ => rfl) rfl trivial fun _ _ => rfl))) ?_
    refine Ex_skip (T_not (b := true) (Ev_isi (Ty := "list") (d := cellD p) o (Ev_index (Ev_name (d := .list (List.map cellD (p :: kvs))) .here rfl rfl) Ev_int (Gt_list (by decide) (by decide) rfl) (by simp [tyS]) fun _ _ => rfl) (.inr (.inr (.inl rfl))) (by decide) (by rfl) rfl rfl rfl (by decide) fun _ => rfl)) ?_
    refine Ex_step (Es_assign Ev_nil (.sk rfl (.sk rfl .nil)) rfl fun _ => rfl) ?_
    refine Ex_step (Es_forx cellD (xs := p :: kvs) (fun pre => [("flat", lst C (row pre)), ("response", dat C (.list (List.map cellD (p :: kvs))))]) WalkT_list.by (Ev_name (.there .here) rfl rfl) Its_list (.pick .here (.pick .here (.nil _))) (fun _ _ => rfl) fun pre q post hxs => ⟨_, As_row (b := false) (ds := [q.1.d, q.2]) (AsL_cons (As_name rfl (.sk rfl (.sk rfl .nil))) (AsL_cons (As_name rfl (.sk rfl (.sk rfl (.sk rfl .nil)))) AsL_nil)) (fun _ => rfl) rfl, ?_⟩) ?_
    · have hl : pre.length ≤ 100 := by have := congrArg List.length hxs; simp at this hz; omega
      refine Ex_step (Es_append (.there (.there .here)) rfl rfl (Ev_name (.there .here) rfl rfl) (fun _ => rfl) rfl (by rw [row_length]; omega)) ?_
      refine Ex_step (Es_append .here rfl rfl (Ev_name .here rfl rfl) (fun _ => rfl) rfl (by simp [row_length]; omega)) ?_
      refine Ex_nil ?_
      rw [row_snoc]
      exact .pick .here (.pick (.there (.there .here)) (.nil _))
    · exact Ex_ret ((Ev_take .here rfl rfl).frz (.lst C _)) rfl
end
end Mine

set_option maxRecDepth 100000
set_option autoImplicit false
set_option linter.unusedVariables false
namespace Mine
open PySem PySem.W PyProof.Rows

theorem row_map_sib (kvs : List (Key × D)) : (row kvs).map sib = row (sibsv kvs) := by
  induction kvs with
  | nil => rfl
  | cons p kvs ih => rw [row_cons, List.map_cons, List.map_cons, ih, sib_key]; rfl
def cfgD (kvs : List (Key × D)) : D := .dict (dsets [] (sibsv kvs))

section
variable {C : Cx} {k : Nat} {sc sc' : Scope} {ρ ρ₁ ρ₂ ρ' : Ctx} {P : Post} {S : Src} {M : Mid}

theorem sw_list {env : Env} {elt : Expr} {gens : List Comprehension} {pos py : Pos} {y : Str} {l : Nat} (he : EnvOk sc env) (hy : sc.names.lookup y = some .local) (hl : (py.line == pos.line) = true) (hn : (sc'.names.any fun (n, k) => n == y && (k == .local || k == .cell)) = false) : swapsWith (.ListComp elt gens sc' pos) (some (.Name y py)) l env = pure true := by
  have hk : env.scope.kind = .function := by rw [he.isSc]; exact he.kind
  have hb : env.blockKind = .function := by unfold Env.blockKind; rw [hk]; rfl
  have hg : env.kindOf y = some .local := by rw [he.kindOf]; exact hy
  show (pure (env.blockKind == .function && env.kindOf y == some .local && py.line == pos.line && !(sc'.names.any fun (n, k) => n == y && (k == .local || k == .cell))) : Sem Bool) = pure true
  rw [hb, hg, hl, hn]
  rfl
theorem sw_dict {env : Env} {kx vx : Expr} {gens : List Comprehension} {pos py : Pos} {y : Str} {l : Nat} (he : EnvOk sc env) (hy : sc.names.lookup y = some .local) (hl : (py.line == pos.line) = true) (hn : (sc'.names.any fun (n, k) => n == y && (k == .local || k == .cell)) = false) : swapsWith (.DictComp kx vx gens sc' pos) (some (.Name y py)) l env = pure true := by
  have hk : env.scope.kind = .function := by rw [he.isSc]; exact he.kind
  have hb : env.blockKind = .function := by unfold Env.blockKind; rw [hk]; rfl
  have hg : env.kindOf y = some .local := by rw [he.kindOf]; exact hy
  show (pure (env.blockKind == .function && env.kindOf y == some .local && py.line == pos.line && !(sc'.names.any fun (n, k) => n == y && (k == .local || k == .cell))) : Sem Bool) = pure true
  rw [hb, hg, hl, hn]
  rfl

/-- str_if_bytes(x) if x is not None else None -/
theorem Ev_sibn (o : Ok C) (hk : 1 ≤ k) {x : Str} {d : D} {p1 p2 fp cp pos pn pm pt : Pos} {j1 j2 : Nat} (hp : Pick (x, dat C d) ρ ρ') (hd : OkB d) (hx : sc.names.lookup x = some .local) (hdb : (x == ("__debug__" : Str)) = false) (hf : sc.names.lookup ("str_if_bytes" : Str) = some .globalImplicit) (hst : ∀ env, backTo cp (starEach [.Name x p2] env) = [.Name x p2].map fun e => (false, eval e env)) :
    Ev C k sc ρ (.IfExp (.Compare (.Name x p1) [.IsNot] [.Constant .none j1 pn] pt) (.Call (.Name "str_if_bytes" fp) [.Name x p2] [] cp) (.Constant .none j2 pm) pos) (dat C (sib d)) ρ := by
  refine Ev_ifexp (T_isnot_none (Ev_name hp hx hdb)) ?_
  have h1 := o.call1 (sc := sc) (fp := fp) (pos := cp) 1 (by decide) rfl hf rfl (Ev_name (pos := p2) hp hx hdb) hst (Fn1 (k := 0) o hd) hk
  cases d with
  | none => exact Ev_none
  | _ => exact h1

theorem Ev_sibnk (o : Ok C) (hk : 1 ≤ k) {x : Str} {d : Key} {p1 p2 fp cp pos pn pm pt : Pos} {j1 j2 : Nat} (hp : Pick (x, dat C d.d) ρ ρ') (hd : OkB d.d) (hx : sc.names.lookup x = some .local) (hdb : (x == ("__debug__" : Str)) = false) (hf : sc.names.lookup ("str_if_bytes" : Str) = some .globalImplicit) (hst : ∀ env, backTo cp (starEach [.Name x p2] env) = [.Name x p2].map fun e => (false, eval e env)) :
    Ev C k sc ρ (.IfExp (.Compare (.Name x p1) [.IsNot] [.Constant .none j1 pn] pt) (.Call (.Name "str_if_bytes" fp) [.Name x p2] [] cp) (.Constant .none j2 pm) pos) (dat C (sk d).d) ρ := by
  rw [← sib_key]; exact Ev_sibn o hk hp hd hx hdb hf hst

theorem Fn17 (o : Ok C) {kvs : List (Key × D)} (hK : OkKs kvs) (hV : OkVs kvs) (hz : kvs.length ≤ 100) : Fn C 13 (.ref (o.f 17)) [.list (row kvs)] [] (dat C (cfgD kvs)) := by
  refine o.fn0 17 (by decide) (by decide) (x := "response") (y := "options") rfl rfl rfl rfl (fun _ _ _ _ => by rfl) rfl rfl rfl ?_
  have e : (row kvs).filterMap (fun d => some (sib d)) = row (sibsv kvs) := by rw [← row_map_sib]; simp
  refine Ex_step (Es_assign_listcomp (ds := row kvs) (t := .Name "i" _) (fun d => some (sib d)) Walk_list.by (ScOk.of (by rfl)) (Ev_name .here rfl rfl) Its_list (by rw [row_length]; omega) (fun _ _ => rfl) (fun d hd => ⟨_, [("i", dat C d)], As_name rfl .nil, Tst_nil, fun e he => ?_⟩) ?_ rfl (.hit (.sk rfl .nil))) ?_
  · cases he
    refine Ev_sibn o (by decide) .here ?_ rfl rfl rfl fun _ => rfl
    rw [row, List.mem_flatMap] at hd
    obtain ⟨p, hp, hd⟩ := hd
    simp only [List.mem_cons, List.not_mem_nil, or_false] at hd
    rcases hd with rfl | rfl
    · exact hK p hp
    · exact hV p hp
  · intro env he
    exact sw_list he rfl rfl rfl
  rw [e]
  refine Ex.wk (.frz .here (.lst C _) (.nil _)) ?_
  have hf : fits (.list (row (sibsv kvs))) := by show (row (sibsv kvs)).length ≤ 1000; rw [row_length]; simp; omega
  cases kvs with
  | nil => exact Ex_retd (Ev_or (d := .list (row [])) (b := false) (Ev_and (d := .list (row [])) (b := false) (Ev_name .here rfl rfl) rfl hf (fun h => by cases h) fun _ => rfl) rfl hf (fun _ => Ev_Dict0) fun h => by cases h)
  | cons p kvs => 
    have hn : tru (cfgD (p :: kvs)) = some true := by
      show some (!(dsets [] (sibsv (p :: kvs))).isEmpty) = some true
      cases h : dsets [] (sibsv (p :: kvs)) with
      | nil => exact absurd h (by rw [sibsv, List.map_cons, dsets_cons]; exact dsets_ne _ _ (dset_ne _ _ _))
      | cons _ _ => rfl
    have hl : fits (cfgD (p :: kvs)) := by
      show (dsets [] (sibsv (p :: kvs))).length ≤ 1000
      have := dsets_length (sibsv (p :: kvs)) []
      simp at this hz
      simp
      omega
    refine Ex_ret (Ev_or (d := cfgD (p :: kvs)) (b := true) (Ev_and (d := .list (row (sibsv (p :: kvs)))) (b := true) (Ev_name .here rfl rfl) rfl hf (fun _ => ?_) (fun h => by cases h)) hn hl (fun h => by cases h) fun _ => rfl) rfl
    exact (o.call1 7 (by decide) rfl rfl rfl (Ev_name .here rfl rfl) (fun _ => rfl) (Fn7c o (by simpa using hz)) (by decide)).frz (.dct C _)
theorem Fn18 (o : Ok C) {kvs : List (Key × D)} (hK : OkKs kvs) (hV : OkVs kvs) (hz : kvs.length ≤ 100) : Fn C 13 (.ref (o.f 18)) [.dict kvs] [] (dat C (cfgD kvs)) := by
  refine o.fn0 18 (by decide) (by decide) (x := "response") (y := "options") rfl rfl rfl rfl (fun _ _ _ _ => by rfl) rfl rfl rfl ?_
  have hf : fits (.dict kvs) := by show kvs.length ≤ 1000; omega
  cases kvs with
  | nil => exact Ex_if1 (T_not (b := false) (T_tru (d := .dict []) (Ev_name .here rfl rfl) rfl hf fun _ _ => rfl)) (Ex_ret (Ev_Dict0.frz (.dct C _)) rfl)
  | cons p kvs =>
    refine Ex_skip (T_not (b := true) (T_tru (d := .dict (p :: kvs)) (Ev_name .here rfl rfl) rfl hf fun _ _ => rfl)) ?_
    have e : ((p :: kvs).map kvD).filterMap (okv fun p => (sk p.1, sib p.2)) = sibsv (p :: kvs) := okv_map _ _
    unfold cfgD
    rw [← e]
    refine Ex_ret ((Ev_dictcomp (ds := (p :: kvs).map kvD) (okv fun p => (sk p.1, sib p.2)) WalkT_items.by (ScOk.of (by rfl)) (Ev_items (Ev_name .here rfl rfl) (fun _ => rfl) rfl) Its_viewT (by simp at hz ⊢; omega) (fun _ _ => rfl) fun d hd => ?_).frz (.dct C _)) rfl
    obtain ⟨q, hq, rfl⟩ := List.mem_map.mp hd
    refine ⟨_, [("value", dat C q.2), ("key", dat C q.1.d)], As_kv rfl rfl rfl, ?_, fun e he => ?_⟩
    · rw [okv_kv]; exact Tst_nil
    · rw [okv_kv] at he
      cases he
      exact ⟨_, Ev_sibnk o (by decide) (.there .here) (hK q hq) rfl rfl rfl fun _ => rfl, Ev_sibn o (by decide) .here (hV q hq) rfl rfl rfl fun _ => rfl⟩
end
end Mine

set_option maxRecDepth 100000
set_option autoImplicit false
set_option linter.unusedVariables false
namespace Mine
open PySem PySem.W PyProof.Rows

theorem dset_mid {pre post : List (Key × D)} {kv : Key × D} {v : D} (h : ((pre ++ kv :: post).map (·.1)).Nodup) : dset (pre ++ kv :: post) kv.1 v = pre ++ (kv.1, v) :: post := by
  rw [List.map_append, List.map_cons, List.nodup_append] at h
  obtain ⟨h1, h2, h3⟩ := h
  rw [List.nodup_cons] at h2
  have e : (pre ++ kv :: post).any (fun q => decide (q.1 = kv.1)) = true := by simp
  have f1 : ∀ q ∈ pre, (if q.1 = kv.1 then (q.1, v) else q) = q := fun q hq => if_neg fun e => h3 _ (List.mem_map_of_mem hq) _ (.head _) e
  have f2 : ∀ q ∈ post, (if q.1 = kv.1 then (q.1, v) else q) = q := fun q hq => if_neg fun e => h2.1 (by rw [← e]; exact List.mem_map_of_mem hq)
  unfold dset
  rw [e, if_pos rfl, List.map_append, List.map_cons, if_pos rfl]
  congr 1
  · conv => rhs; rw [← List.map_id pre]
    exact List.map_congr_left f1
  · congr 1
    conv => rhs; rw [← List.map_id post]
    exact List.map_congr_left f2

def isDb (x : Str) : Bool := 0 + ("db." : Str).length ≤ x.length && Builtin.Str.subAt x "db." 0
/-- the values of memory's databases, read alike within -/
def memD (g : D → D) (T : String) : Key × D → D
  | (.s x, d) => if isDb x && isiD d T then g d else d
  | (.b _, d) => d
noncomputable def rdv : D → D
  | .list ds => .dict (dsets [] (sibsv (unrow ds)))
  | d => d
theorem rdv_row (kvs : List (Key × D)) : rdv (.list (row kvs)) = .dict (dsets [] (sibsv kvs)) := by show D.dict (dsets [] (sibsv (unrow (row kvs)))) = _; rw [unrow_row]
abbrev memK (g : D → D) (T : String) (st : List (Key × D)) : List (Key × D) := st.map fun q => (q.1, memD g T q)
theorem memK_keys (g : D → D) (T : String) (st : List (Key × D)) : (memK g T st).map (·.1) = st.map (·.1) := by simp [memK]

section
variable {C : Cx} {k : Nat} {sc sc' : Scope} {ρ ρ₁ ρ₂ ρ' : Ctx} {P : Post} {S : Src} {M : Mid}

theorem T_and {x y : Expr} {pos : Pos} {b1 b2 : Bool} (h : T C k sc ρ x b1) (h2 : b1 = true → T C k sc ρ y b2) : T C k sc ρ (.BoolOp .And [x, y] pos) (b1 && b2) := by
  cases b1 with
  | true => exact T_and2 h (h2 rfl)
  | false => exact T_and0 h

theorem Es_for_mem (o : Ok C) {x kx vx : Str} {p pk pv tp apos cpos pos ip sp fp ap cp np kp2 dp bp ifp asp subp sp2 kp3 : Pos} {j j2 : Nat} {nm : Str} {val : Expr} {g : D → D} {Ty : String} {kvs : List (Key × D)} (hp : Pick (x, dct C kvs) ρ ρ') (hx : sc.names.lookup x = some .local) (hdb : (x == ("__debug__" : Str)) = false) (hkx : sc.names.lookup kx = some .local) (hvx : sc.names.lookup vx = some .local)
    (hdk : (kx == ("__debug__" : Str)) = false) (hdv : (vx == ("__debug__" : Str)) = false)
    (h1 : x ≠ kx) (h2 : x ≠ vx) (h3 : kx ≠ vx) (hline : (apos.endLine == cpos.line) = true) (hs : ∀ q ∈ kvs, ∃ y, q.1 = .s y) (hn : (kvs.map (·.1)).Nodup)
    (hT : Ty = "int" ∨ Ty = "bytes" ∨ Ty = "list" ∨ Ty = "dict") (hnm : nm ∈ nobs) (hb : bootBuiltins nm = some (.type Ty))
    (hx1 : sc.names.lookup ("isinstance" : Str) = some .globalImplicit) (hx2 : sc.names.lookup nm = some .globalImplicit) (hd : (nm == ("__debug__" : Str)) = false) (hnn : nm ≠ "__name__") (hst : ∀ env, backTo bp (starEach [.Name vx dp, .Name nm np] env) = [.Name vx dp, .Name nm np].map fun e => (false, eval e env))
    (hl2 : (ap.endLine == cp.line) = true) (hst2 : ∀ env, backTo cp (starEach [.Constant (.str "db.") j2 kp2] env) = [.Constant (.str "db.") j2 kp2].map fun e => (false, eval e env))
    (hsw : ∀ env, swapsWith val (some (.Subscript (.Name x sp) (.Name kx sp2) subp)) asp.line env = pure false)
    (hval : ∀ ρ d, (∃ y, (.s y, d) ∈ kvs ∧ isDb y = true) → isiD d Ty = true → Ev C k sc ((vx, dat C d) :: ρ) val (dat C (g d)) ((vx, dat C d) :: ρ)) :
    Es C k sc ρ (.For (.Tuple [.Name kx pk, .Name vx pv] j tp) (.Call (.Attribute (.Name x p) "items" apos) [] [] cpos)
      [.If (.BoolOp .And [.Call (.Attribute (.Name kx kp3) "startswith" ap) [.Constant (.str "db.") j2 kp2] [] cp, .Call (.Name "isinstance" fp) [.Name vx dp, .Name nm np] [] bp] ip) [.Assign [.Subscript (.Name x sp) (.Name kx sp2) subp] val asp] [] ifp] [] pos) [(x, dct C (memK g Ty kvs))] := by
  refine Es_for_own (memD g Ty) hp hx hdb hkx hvx h1 h2 h3 hline fun d ep pre kv post hxs => ?_
  obtain ⟨key, v⟩ := kv
  obtain ⟨y, hy⟩ := hs (key, v) (by rw [hxs]; simp)
  simp only at hy
  subst hy
  have hkeys : (((pre.map fun q => (q.1, memD g Ty q)) ++ (Key.s y, v) :: post).map (·.1)) = kvs.map (·.1) := by rw [hxs]; simp
  have hnd : (((pre.map fun q => (q.1, memD g Ty q)) ++ (Key.s y, v) :: post).map (·.1)).Nodup := by rw [hkeys]; exact hn
  have t : T C k sc [(vx, dat C v), (kx, dat C (D.str y)), (x, pind C d ep (pre.map (fun q => (q.1, memD g Ty q)) ++ (Key.s y, v) :: post))] (.BoolOp .And [.Call (.Attribute (.Name kx kp3) "startswith" ap) [.Constant (.str "db.") j2 kp2] [] cp, .Call (.Name "isinstance" fp) [.Name vx dp, .Name nm np] [] bp] ip) (isDb y && isiD v Ty) := by
    refine T_and (T_tru (d := .bool (isDb y)) (Ev_method (j := 0) (d₀ := .str y) (ds := [.str "db."]) (kw := []) (ke := []) (Ev_name (.there .here) hkx hdk) (Evs_cons Ev_str Evs_nil) hst2 (fun _ => rfl) EvsA_nil rfl (fun _ => rfl) hl2 (by simp) (by simp [tyD]) PySem.F.plainAttrs_str PySem.F.slot_str_startswith PySem.F.type_str_startswith Fn_startswith (Nat.zero_le k)) rfl trivial fun _ _ => rfl) fun _ => ?_
    exact Ev_isi o (Ev_name .here hvx hdv) hT hnm hb hx1 hx2 hd hnn hst
  cases hc : (isDb y && isiD v Ty) with
  | false =>
    rw [hc] at t
    refine Ex_skip t (Ex_nil ?_)
    have e : memD g Ty (Key.s y, v) = v := by show (if (isDb y && isiD v Ty) = true then _ else _) = _; rw [hc]; rfl
    show Wk _ _
    rw [e]
    exact .pick (.there (.there .here)) (.nil _)
  | true =>
    rw [hc] at t
    have e : memD g Ty (Key.s y, v) = g v := by show (if (isDb y && isiD v Ty) = true then _ else _) = _; rw [hc]; rfl
    rw [Bool.and_eq_true] at hc
    refine Ex_if1 t (Ex_step (Es_set_pind (key := .s y) (v := g v) (.there (.there .here)) hx hdb (hval _ v ⟨y, by rw [hxs]; simp, hc.1⟩ hc.2) (Ev_name (.there .here) hkx hdk) hsw (by simp)) (Ex_nil (Ex_nil ?_)))
    show Wk _ _
    rw [dset_mid hnd, e]
    exact .pick .here (.nil _)

/-! memory -/
theorem Fn4 (o : Ok C) {kvs : List (Key × D)} (hK : OkKs kvs) (hz : kvs.length ≤ 100) (hn : ((dsets [] (sibs kvs)).map (·.1)).Nodup) (hs : ∀ q ∈ dsets [] (sibs kvs), ∃ y, q.1 = .s y) (hin : ∀ q ∈ dsets [] (sibs kvs), ∀ y, q.1 = .s y → isDb y = true → isiD q.2 "list" = true → ∃ r, q.2 = .list (row r) ∧ OkKs r ∧ r.length ≤ 100) :
    Fn C 13 (.ref (o.f 4)) [.list (row kvs)] [] (dat C (.dict (memK rdD "list" (dsets [] (sibs kvs))))) := by
  refine o.fn0 4 (by decide) (by decide) (x := "response") (y := "kwargs") rfl rfl rfl rfl (fun _ _ _ _ => by rfl) rfl rfl rfl ?_
  refine Ex_step (Es_assign (Ev_ptd1 o (by decide) (Ev_name .here rfl rfl) hK hz rfl (fun _ => rfl) fun _ => rfl) (.sk rfl (.sk rfl .nil)) rfl fun _ => rfl) ?_
  refine Ex_step (Es_for_mem o .here rfl rfl rfl rfl rfl rfl (by decide) (by decide) (by decide) rfl hs hn (.inr (.inr (.inl rfl))) (by decide) (by rfl) rfl rfl rfl (by decide) (fun _ => rfl) rfl (fun _ => rfl) (fun _ => rfl) fun ρ d ⟨y, hm, hdb⟩ hi => ?_) (Ex_ret ((Ev_take .here rfl rfl).frz (.dct C _)) rfl)
  obtain ⟨r, e, h1, h2⟩ := hin _ hm y rfl hdb hi
  simp only at e
  subst e
  rw [rdD_row]
  exact (Ev_ptd1 o (by decide) (Ev_name .here rfl rfl) h1 h2 rfl (fun _ => rfl) fun _ => rfl).frz (.dct C _)
end
end Mine

set_option maxRecDepth 100000
set_option autoImplicit false
set_option linter.unusedVariables false
namespace Mine
open PySem PySem.W PyProof.Rows

/-- the flags and the prefixes of what is tracked -/
def lmap (f : D → D) : D → D
  | .list ws => .list (ws.map f)
  | d => d
def trk (f : D → D) (kvs : List (Key × D)) (x : Key) : List (Key × D) := match dget kvs x with
  | some d => dset kvs x (lmap f d)
  | none => kvs
noncomputable def fl1 : D → D
  | .list ds => .dict (dsets [] (unrow ds))
  | d => d
theorem fl1_row (kvs : List (Key × D)) : fl1 (.list (row kvs)) = .dict (dsets [] kvs) := by show D.dict (dsets [] (unrow (row kvs))) = _; rw [unrow_row]
/-- a library of functions -/
noncomputable def fluD : D → D
  | .list ds => .dict (trk fl1 (dsets [] (unrow ds)) (.b [102, 117, 110, 99, 116, 105, 111, 110, 115]))
  | d => d

section
variable {C : Cx} {k : Nat} {sc sc' : Scope} {ρ ρ₁ ρ₂ ρ' : Ctx} {P : Post} {S : Src} {M : Mid}

theorem Ev_ptd2 (o : Ok C) (hk : 11 ≤ k) {e : Expr} {fp cp cp2 pos : Pos} {jj j2 : Nat} {kvs : List (Key × D)} (he : Ev C k sc ρ e (dat C (.list (row kvs))) ρ₁) (hK : OkKs kvs) (hV : OkVs kvs) (hz : kvs.length ≤ 100) (hx : sc.names.lookup ("pairs_to_dict" : Str) = some .globalImplicit) (hst : ∀ env, backTo pos (starEach [e] env) = [e].map fun e => (false, eval e env)) {kws : List Keyword}
    (hkw : ∀ env, backToKw pos (keywordEach kws env) = [(("decode_keys" : Str), Expr.Constant (.bool true) jj cp), (("decode_string_values" : Str), Expr.Constant (.bool true) j2 cp2)].map fun p => (some p.1, do let v ← eval p.2 env; standAt pos; pure v)) :
    Ev C k sc ρ (.Call (.Name "pairs_to_dict" fp) [e] kws pos) (dct C (dsets [] (sibsv kvs))) ρ₁ := by
  obtain ⟨fo, h1, h2⟩ := o.at_ 7 (by decide)
  exact Ev_call (ds := [.list (row kvs)]) (kw := [("decode_keys", .bool true), ("decode_string_values", .bool true)]) (o.nm 7 (by decide)) h1 h2 hx rfl (Evs_cons he Evs_nil) hst hkw (EvsA_cons Ev_bool (EvsA_cons Ev_bool EvsA_nil)) rfl (Fn7b o hK hV hz) hk

theorem Fn3 (o : Ok C) {kvs : List (Key × D)} (hK : OkKs kvs) (hV : OkVs kvs) (hz : kvs.length ≤ 100) (hn : ((dsets [] (sibsv kvs)).map (·.1)).Nodup) (hs : ∀ q ∈ dsets [] (sibsv kvs), ∃ y, q.1 = .s y) (hin : ∀ q ∈ dsets [] (sibsv kvs), ∀ y, q.1 = .s y → isDb y = true → isiD q.2 "list" = true → ∃ r, q.2 = .list (row r) ∧ OkKs r ∧ OkVs r ∧ r.length ≤ 100) :
    Fn C 13 (.ref (o.f 3)) [.list (row kvs)] [] (dat C (.dict (memK rdv "list" (dsets [] (sibsv kvs))))) := by
  refine o.fn0 3 (by decide) (by decide) (x := "response") (y := "kwargs") rfl rfl rfl rfl (fun _ _ _ _ => by rfl) rfl rfl rfl ?_
  refine Ex_step (Es_assign (Ev_ptd2 o (by decide) (Ev_name .here rfl rfl) hK hV hz rfl (fun _ => rfl) fun _ => rfl) (.sk rfl (.sk rfl .nil)) rfl fun _ => rfl) ?_
  refine Ex_step (Es_for_mem o .here rfl rfl rfl rfl rfl rfl (by decide) (by decide) (by decide) rfl hs hn (.inr (.inr (.inl rfl))) (by decide) (by rfl) rfl rfl rfl (by decide) (fun _ => rfl) rfl (fun _ => rfl) (fun _ => rfl) fun ρ d ⟨y, hm, hdb⟩ hi => ?_) (Ex_ret ((Ev_take .here rfl rfl).frz (.dct C _)) rfl)
  obtain ⟨r, e, h1, h2, h3⟩ := hin _ hm y rfl hdb hi
  simp only at e
  subst e
  rw [rdv_row]
  exact (Ev_ptd2 o (by decide) (Ev_name .here rfl rfl) h1 h2 h3 rfl (fun _ => rfl) fun _ => rfl).frz (.dct C _)
theorem Fn5 (o : Ok C) {kvs : List (Key × D)} (hK : OkKs kvs) (hz : kvs.length ≤ 100) (hn : ((dsets [] (sibs kvs)).map (·.1)).Nodup) (hs : ∀ q ∈ dsets [] (sibs kvs), ∃ y, q.1 = .s y) (hin : ∀ q ∈ dsets [] (sibs kvs), ∀ y, q.1 = .s y → isDb y = true → isiD q.2 "dict" = true → ∃ r, q.2 = .dict r ∧ OkKs r ∧ r.length ≤ 100) :
    Fn C 13 (.ref (o.f 5)) [.dict kvs] [] (dat C (.dict (memK rdD "dict" (dsets [] (sibs kvs))))) := by
  refine o.fn0 5 (by decide) (by decide) (x := "response") (y := "kwargs") rfl rfl rfl rfl (fun _ _ _ _ => by rfl) rfl rfl rfl ?_
  refine Ex_step (Es_sibcomp o (by decide) WalkT_items.by (Ev_items (Ev_name .here rfl rfl) (fun _ => rfl) rfl) Its_viewT hK (by omega) rfl (fun _ _ => rfl) rfl rfl rfl rfl rfl rfl (fun _ => rfl) (fun env he => sw_dict he rfl rfl rfl) rfl (.sk rfl (.sk rfl .nil))) ?_
  refine Ex_step (Es_for_mem o .here rfl rfl rfl rfl rfl rfl (by decide) (by decide) (by decide) rfl hs hn (.inr (.inr (.inr rfl))) (by decide) (by rfl) rfl rfl rfl (by decide) (fun _ => rfl) rfl (fun _ => rfl) (fun _ => rfl) fun ρ d ⟨y, hm, hdb⟩ hi => ?_) (Ex_ret ((Ev_take .here rfl rfl).frz (.dct C _)) rfl)
  obtain ⟨r, e, h1, h2⟩ := hin _ hm y rfl hdb hi
  simp only at e
  subst e
  exact Ev_rdmap o (by decide) (Ev_name .here rfl rfl) h1 (by omega) (fun _ => rfl) rfl rfl rfl rfl rfl rfl rfl rfl fun _ => rfl

/-! what is tracked -/
theorem T_ownin' {x : Str} {p pos : Pos} {l : Expr} {kvs : List (Key × D)} {key : Key} {b : Bool} (hb : (dget kvs key).isSome = b) (hp : Pick (x, dct C kvs) ρ ρ') (hx : sc.names.lookup x = some .local) (hdb : (x == ("__debug__" : Str)) = false) (hs : Ev C k sc ρ l (dat C key.d) ρ) :
    T C k sc ρ (.Compare l [.In] [.Name x p] pos) b := hb ▸ T_ownin hp hx hdb hs

def WsOk (kvs : List (Key × D)) (x : Key) : Prop := ∀ d, dget kvs x = some d → ∃ ws, d = .list ws ∧ (∀ w ∈ ws, OkB w) ∧ ws.length ≤ 100
theorem Ex_trk (o : Ok C) (hk : 1 ≤ k) {y fx : Str} {kvs : List (Key × D)} {ss : List Stmt} {p1 p2 p3 p4 p5 p6 p7 p8 p9 p10 p11 p12 p13 p14 p15 ifp : Pos} {j1 j2 j3 : Nat} (hw : WsOk kvs (.s y)) (hz : kvs.length ≤ 100) (hx : sc.names.lookup ("data" : Str) = some .local) (hok : scB sc' = true) (hfx : sc'.names.lookup fx = some .local) (hdf : (fx == ("__debug__" : Str)) = false) (hsb : sc'.names.lookup ("str_if_bytes" : Str) = some .globalImplicit) (hst : ∀ env, backTo p12 (starEach [.Name fx p11] env) = [.Name fx p11].map fun e => (false, eval e env))
    (h : Ex C k sc (("data", dct C (trk sib kvs (.s y))) :: ρ) ss P) : Ex C k sc (("data", dct C kvs) :: ρ) (.If (.Compare (.Constant (.str y) j1 p1) [.In] [.Name "data" p2] p3)
      [.Assign [.Subscript (.Name "data" p4) (.Constant (.str y) j2 p5) p6] (.ListComp (.Call (.Name "str_if_bytes" p10) [.Name fx p11] [] p12) [⟨.Name fx p13, .Subscript (.Name "data" p7) (.Constant (.str y) j3 p8) p9, [], 0⟩] sc' p14) p15] [] ifp :: ss) P := by
  unfold trk at h
  cases e : dget kvs (.s y) with
  | none =>
    rw [e] at h
    exact Ex_skip (T_ownin' (key := .s y) (b := false) (by rw [e]; rfl) .here hx rfl Ev_str) h
  | some d =>
    rw [e] at h
    obtain ⟨ws, rfl, hb, hl⟩ := hw d e
    refine Ex_if1 (T_ownin' (key := .s y) (b := true) (by rw [e]; rfl) .here hx rfl Ev_str) ?_
    refine Ex_step (Es_ownset (key := .s y) (d := .list (ws.map sib)) .here hx rfl (Ev.frz (Ev_lcomp sib Walk_list hok (Ev_ownget (key := .s y) .here hx rfl Ev_str e fun _ _ => rfl) Its_list (by omega) (fun _ _ => rfl) hfx fun w hw => ?_) (.lst C _)) Ev_str (fun _ => rfl) (by omega)) (Ex_nil h)
    exact o.call1 1 (by decide) rfl hsb rfl (Ev_name .here hfx hdf) hst (Fn1 (k := 0) o (hb w hw)) hk
theorem trk_length {f : D → D} {kvs : List (Key × D)} {x : Key} : (trk f kvs x).length ≤ kvs.length + 1 := by
  unfold trk
  cases dget kvs x with
  | none => simp
  | some d => exact dset_length _ _ _

def trkD (D0 : List (Key × D)) : D := .dict (trk sib (trk sib D0 (.s "flags")) (.s "prefixes"))
theorem Ex12t (o : Ok C) {D0 : List (Key × D)} (h1 : WsOk D0 (.s "flags")) (h2 : WsOk (trk sib D0 (.s "flags")) (.s "prefixes")) (hz : D0.length ≤ 99) : Ex C 12 (fnSc 12) (("data", dct C D0) :: ρ) ((fnBody 12).drop 1) (Ret C (dat C (trkD D0))) := by
  refine Ex_trk o (by decide) h1 (by omega) rfl rfl rfl rfl rfl (fun _ => rfl) ?_
  refine Ex_trk o (by decide) h2 (by have := trk_length (f := sib) (kvs := D0) (x := .s "flags"); omega) rfl rfl rfl rfl rfl (fun _ => rfl) ?_
  exact Ex_ret ((Ev_take .here rfl rfl).frz (.dct C _)) rfl
theorem Fn12d (o : Ok C) {kvs : List (Key × D)} (hK : OkKs kvs) (hz : kvs.length ≤ 99) (h1 : WsOk (dsets [] (sibs kvs)) (.s "flags")) (h2 : WsOk (trk sib (dsets [] (sibs kvs)) (.s "flags")) (.s "prefixes")) : Fn C 13 (.ref (o.f 12)) [.dict kvs] [] (dat C (trkD (dsets [] (sibs kvs)))) := by
  refine o.fn0 12 (by decide) (by decide) (x := "response") (y := "options") rfl rfl rfl rfl (fun _ _ _ _ => by rfl) rfl rfl rfl ?_
  refine Ex_if1 (Ev_isi (Ty := "dict") o (Ev_name .here rfl rfl) (.inr (.inr (.inr rfl))) (by decide) (by rfl) rfl rfl rfl (by decide) fun _ => rfl) ?_
  refine Ex_step (Es_sibcomp o (by decide) WalkT_items.by (Ev_items (Ev_name .here rfl rfl) (fun _ => rfl) rfl) Its_viewT hK (by omega) rfl (fun _ _ => rfl) rfl rfl rfl rfl rfl rfl (fun _ => rfl) (fun env he => sw_dict he rfl rfl rfl) rfl (.sk rfl (.sk rfl .nil))) ?_
  exact Ex_nil (Ex12t o h1 h2 (by have := dsets_length (sibs kvs) []; simp at this; omega))
theorem Fn12l (o : Ok C) {kvs : List (Key × D)} (hK : OkKs kvs) (hz : kvs.length ≤ 99) (h1 : WsOk (dsets [] (sibs kvs)) (.s "flags")) (h2 : WsOk (trk sib (dsets [] (sibs kvs)) (.s "flags")) (.s "prefixes")) : Fn C 13 (.ref (o.f 12)) [.list (row kvs)] [] (dat C (trkD (dsets [] (sibs kvs)))) := by
  refine o.fn0 12 (by decide) (by decide) (x := "response") (y := "options") rfl rfl rfl rfl (fun _ _ _ _ => by rfl) rfl rfl rfl ?_
  refine Ex_if0 (Ev_isi (Ty := "dict") o (Ev_name .here rfl rfl) (.inr (.inr (.inr rfl))) (by decide) (by rfl) rfl rfl rfl (by decide) fun _ => rfl) ?_
  have hzip := Bf_zipT (C := C) (k := 5) Draw_list Draw_list (Its_list (ds := pickD (row kvs) none none (some 2))) (Its_list (ds := pickD (row kvs) (some 1) none (some 2)))
  have e : ((pickD (row kvs) none none (some 2)).zip (pickD (row kvs) (some 1) none (some 2))).map pairD = kvs.map kvD := by
    rw [pick_even kvs _ (.inl rfl), pick_odd]
    have := zip_keys kvs id id
    simpa using this
  rw [e] at hzip
  refine Ex_step (Es_sibcomp o (by decide) (WalkT_zip (k := 11) (Draw2_two Draw_list Draw_list)).by (Ev_bcall (f := .type "zip") (j := 7) (o.nob "zip" (by decide)) (by rfl) rfl rfl (by rfl) (by decide)
    (Evs_cons (Ev_slice (Ev_name .here rfl rfl) EvP_none EvP_none (EvP_some Ev_int) (by decide) (by rw [row_length]; omega)) (Evs_cons (Ev_slice (Ev_name .here rfl rfl) (EvP_some Ev_int) EvP_none (EvP_some Ev_int) (by decide) (by rw [row_length]; omega)) Evs_nil)) (fun _ => rfl) hzip (by decide))
    ((WalkT_zip (k := 11) (Draw2_two Draw_list Draw_list)).self _) hK (by omega) rfl (fun _ _ => rfl) rfl rfl rfl rfl rfl rfl (fun _ => rfl) (fun env he => sw_dict he rfl rfl rfl) rfl (.sk rfl (.sk rfl .nil))) ?_
  exact Ex_nil (Ex12t o h1 h2 (by have := dsets_length (sibs kvs) []; simp at this; omega))
end
end Mine

set_option maxRecDepth 100000
set_option autoImplicit false
set_option linter.unusedVariables false
namespace Mine
open PySem PySem.W PyProof.Rows

abbrev bF : List UInt8 := [102, 117, 110, 99, 116, 105, 111, 110, 115]
/-- a library that can be read -/
inductive Lib : D → Prop where
  | map (kvs : List (Key × D)) : Lib (.dict kvs)
  | row (kvs : List (Key × D)) : kvs.length ≤ 90 → dget (dsets [] kvs) (.s "functions") = none → (∀ d, dget (dsets [] kvs) (.b bF) = some d → ∃ fs, d = .list fs ∧ fs.length ≤ 100 ∧ ∀ f ∈ fs, (∃ r, f = .dict r) ∨ ∃ r, f = .list (row r) ∧ r.length ≤ 100) → Lib (.list (row kvs))
theorem fluD_row (kvs : List (Key × D)) : fluD (.list (row kvs)) = .dict (trk fl1 (dsets [] kvs) (.b bF)) := by show D.dict (trk fl1 (dsets [] (unrow (row kvs))) _) = _; rw [unrow_row]
def isF (k : Key) : Bool := decide (k = .b bF) || decide (k = .s "functions")
def fKv (p : Key × D) : Key × D := (p.1, if isF p.1 then lmap flD p.2 else p.2)
def fllD : D → D
  | .dict kvs => .list (row (kvs.map fKv))
  | d => d

section
variable {C : Cx} {k : Nat} {sc sc' : Scope} {ρ ρ₁ ρ₂ ρ' : Ctx} {P : Post} {S : Src} {M : Mid}

theorem Fn20 (o : Ok C) {ds : List D} (hd : ∀ d ∈ ds, Lib d) (hz : ds.length ≤ 100) : Fn C 20 (.ref (o.f 20)) [.list ds] [] (dat C (.list (ds.map fluD))) := by
  refine o.fn0 20 (by decide) (by decide) (x := "response") (y := "options") rfl rfl rfl rfl (fun _ _ _ _ => by rfl) rfl rfl rfl ?_
  refine Ex_skip (T_is_none (Ev_name .here rfl rfl)) ?_
  refine Ex_step (Es_assign Ev_nil (.sk rfl (.sk rfl .nil)) rfl fun _ => rfl) ?_
  refine Ex_step (Es_forx (fun d : D => d) (xs := ds) (fun pre => [("result", lst C (pre.map fluD)), ("response", dat C (.list ds))]) (I := lit C) Walk_list.by (Ev_name (.there .here) rfl rfl) (by simpa using Its_list) (.pick .here (.pick .here (.nil _))) (fun _ _ => rfl) fun pre d post hxs => ⟨_, As_name rfl (.sk rfl (.sk rfl .nil)), ?_⟩) (Ex_ret ((Ev_take .here rfl rfl).frz (.lst C _)) rfl)
  have hl : pre.length ≤ 100 := by have := congrArg List.length hxs; simp at this; omega
  have hm : (pre ++ [d]).map fluD = pre.map fluD ++ [fluD d] := by simp
  rw [hm]
  cases hd d (by rw [hxs]; simp) with
  | map kvs =>
    refine Ex_if1 (Ev_isi (Ty := "dict") (d := .dict kvs) o (Ev_name .here rfl rfl) (.inr (.inr (.inr rfl))) (by decide) (by rfl) rfl rfl rfl (by decide) fun _ => rfl) ?_
    exact Ex_step (Es_append (d := .dict kvs) (.there .here) rfl rfl (Ev_name .here rfl rfl) (fun _ => rfl) rfl (by simp; omega)) (Ex_continue (.pick .here (.pick (.there .here) (.nil _))))
  | row kvs hz hs hb =>
    refine Ex_skip (Ev_isi (Ty := "dict") (d := .list (row kvs)) o (Ev_name .here rfl rfl) (.inr (.inr (.inr rfl))) (by decide) (by rfl) rfl rfl rfl (by decide) fun _ => rfl) ?_
    refine Ex_step (Es_assign (o.call1 7 (by decide) rfl rfl rfl (Ev_name .here rfl rfl) (fun _ => rfl) (Fn7c o (kvs := kvs) (by omega)) (by decide)) (.sk rfl (.sk rfl (.sk rfl .nil))) rfl fun _ => rfl) ?_
    rw [fluD_row]
    unfold trk
    cases e : dget (dsets [] kvs) (.b bF) with
    | none =>
      refine Ex_step (Es_assign (Ev_ifexp (T_ownin' (key := .b bF) (b := false) (by rw [e]; rfl) .here rfl rfl Ev_bytes) Ev_str) (.sk rfl (.sk rfl (.sk rfl (.sk rfl .nil)))) rfl fun _ => rfl) ?_
      refine Ex_skip (T_ownin' (key := .s "functions") (b := false) (by rw [hs]; rfl) (.there .here) rfl rfl (Ev_name .here rfl rfl)) ?_
      exact Ex_step (Es_append (d := .dict (dsets [] kvs)) (.there (.there (.there .here))) rfl rfl ((Ev_take (.there .here) rfl rfl).frz (.dct C _)) (fun _ => rfl) rfl (by simp; omega)) (Ex_nil (.pick .here (.pick (.there (.there .here)) (.nil _))))
    | some d =>
      obtain ⟨fs, rfl, hfl, hf⟩ := hb d e
      refine Ex_step (Es_assign (Ev_ifexp (T_ownin' (key := .b bF) (b := true) (by rw [e]; rfl) .here rfl rfl Ev_bytes) Ev_bytes) (.sk rfl (.sk rfl (.sk rfl (.sk rfl .nil)))) rfl fun _ => rfl) ?_
      refine Ex_if1 (T_ownin' (key := .b bF) (b := true) (by rw [e]; rfl) (.there .here) rfl rfl (Ev_name .here rfl rfl)) ?_
      refine Ex_step (Es_assign (Ev_ownget (key := .b bF) (.there .here) rfl rfl (Ev_name .here rfl rfl) e fun _ _ => rfl) (.sk rfl (.sk rfl (.sk rfl (.sk rfl (.sk rfl .nil))))) rfl fun _ => rfl) ?_
      refine Ex_step (Es_ownset (key := .b bF) (d := .list (fs.map fl1)) (.there (.there .here)) rfl rfl (Ev.frz (Ev_lcomp fl1 Walk_list rfl (Ev_name .here rfl rfl) Its_list (by omega) (fun _ _ => rfl) rfl fun f hfm => ?_) (.lst C _)) (Ev_name (.there .here) rfl rfl) (fun _ => rfl) (by have := dsets_length kvs []; simp at this; omega)) (Ex_nil ?_)
      · rcases hf f hfm with ⟨r, rfl⟩ | ⟨r, rfl, hr⟩
        · refine Ev_ifexp (Ev_isi (Ty := "dict") o (Ev_name .here rfl rfl) (.inr (.inr (.inr rfl))) (by decide) (by rfl) rfl rfl rfl (by decide) fun _ => rfl) ?_
          exact Ev_name .here rfl rfl
        · refine Ev_ifexp (Ev_isi (Ty := "dict") o (Ev_name .here rfl rfl) (.inr (.inr (.inr rfl))) (by decide) (by rfl) rfl rfl rfl (by decide) fun _ => rfl) ?_
          rw [fl1_row]
          exact (o.call1 7 (by decide) rfl rfl rfl (Ev_name .here rfl rfl) (fun _ => rfl) (Fn7c o hr) (by decide)).frz (.dct C _)
      · exact Ex_step (Es_append (d := .dict (dset (dsets [] kvs) (.b bF) (.list (fs.map fl1)))) (.there (.there (.there (.there .here)))) rfl rfl ((Ev_take .here rfl rfl).frz (.dct C _)) (fun _ => rfl) rfl (by simp; omega)) (Ex_nil (.pick .here (.pick (.there (.there (.there .here))) (.nil _))))

theorem Fn21 (o : Ok C) {ds : List D} (hd : ∀ d ∈ ds, ∃ kvs, d = .dict kvs ∧ kvs.length ≤ 100 ∧ ∀ p ∈ kvs, isF p.1 = true → ∃ fs, p.2 = .list fs ∧ fs.length ≤ 100 ∧ ∀ f ∈ fs, (∃ r, f = .dict r ∧ r.length ≤ 100) ∨ ∃ xs, f = .list xs) (hz : ds.length ≤ 100) : Fn C 20 (.ref (o.f 21)) [.list ds] [] (dat C (.list (ds.map fllD))) := by
  refine o.fn0 21 (by decide) (by decide) (x := "response") (y := "options") rfl rfl rfl rfl (fun _ _ _ _ => by rfl) rfl rfl rfl ?_
  refine Ex_skip (T_is_none (Ev_name .here rfl rfl)) ?_
  refine Ex_step (Es_assign Ev_nil (.sk rfl (.sk rfl .nil)) rfl fun _ => rfl) ?_
  refine Ex_step (Es_forx (fun d : D => d) (xs := ds) (fun pre => [("result", lst C (pre.map fllD)), ("response", dat C (.list ds))]) (I := lit C) Walk_list.by (Ev_name (.there .here) rfl rfl) (by simpa using Its_list) (.pick .here (.pick .here (.nil _))) (fun _ _ => rfl) fun pre d post hxs => ⟨_, As_name rfl (.sk rfl (.sk rfl .nil)), ?_⟩) (Ex_ret ((Ev_take .here rfl rfl).frz (.lst C _)) rfl)
  have hl : pre.length ≤ 100 := by have := congrArg List.length hxs; simp at this; omega
  have hm : (pre ++ [d]).map fllD = pre.map fllD ++ [fllD d] := by simp
  rw [hm]
  obtain ⟨kvs, rfl, hzk, hf⟩ := hd d (by rw [hxs]; simp)
  refine Ex_skip (T_not (b := true) (Ev_isi (Ty := "dict") (d := .dict kvs) o (Ev_name .here rfl rfl) (.inr (.inr (.inr rfl))) (by decide) (by rfl) rfl rfl rfl (by decide) fun _ => rfl)) ?_
  refine Ex_step (Es_assign Ev_nil (.sk rfl (.sk rfl (.sk rfl .nil))) rfl fun _ => rfl) ?_
  refine Ex_step (Es_forx kvD (xs := kvs) (fun pr => [("flat", lst C (row (pr.map fKv))), ("result", lst C (pre.map fllD)), ("response", dat C (.list ds))]) WalkT_items.by (Ev_items (Ev_name (.there .here) rfl rfl) (fun _ => rfl) rfl) Its_viewT (.pick .here (.pick (.there .here) (.pick (.there .here) (.nil _)))) (fun _ _ => rfl) fun pr p post2 hxs2 => ⟨_, As_kvr rfl rfl (.sk rfl (.sk rfl (.sk rfl .nil))) (.sk rfl (.sk rfl (.sk rfl (.sk rfl .nil)))), ?_⟩) ?_
  · have hl2 : pr.length ≤ 100 := by have := congrArg List.length hxs2; simp at this; omega
    have e : row ((pr ++ [p]).map fKv) = row (pr.map fKv) ++ [p.1.d] ++ [(fKv p).2] := by rw [List.map_append]; exact row_snoc _ _
    rw [e]
    refine Ex_step (Es_append (.there (.there .here)) rfl rfl (Ev_name (.there .here) rfl rfl) (fun _ => rfl) rfl (by rw [row_length]; simp; omega)) ?_
    have t : ∀ {p1 p2 p3 p4 p5 p6 ip : Pos} {j1 j2 : Nat}, T C 19 (fnSc 21) [("flat", lst C (row (pr.map fKv) ++ [p.1.d])), ("value", dat C p.2), ("key", dat C p.1.d), ("result", lst C (pre.map fllD)), ("response", dat C (.list ds))] (.BoolOp .Or [.Compare (.Name "key" p1) [.Eq] [.Constant (.bytes bF) j1 p2] p3, .Compare (.Name "key" p4) [.Eq] [.Constant (.str "functions") j2 p5] p6] ip) (isF p.1) := by
      intro p1 p2 p3 p4 p5 p6 ip j1 j2
      have t1 := T_eqkey (C := C) (k := 19) (sc := fnSc 21) (ρ := [("flat", lst C (row (pr.map fKv) ++ [p.1.d])), ("value", dat C p.2), ("key", dat C p.1.d), ("result", lst C (pre.map fllD)), ("response", dat C (.list ds))]) (a := p.1) (b := .b bF) (pos := p3) (Ev_name (pos := p1) (.there (.there .here)) rfl rfl) (Ev_bytes (j := j1) (pos := p2))
      unfold isF
      cases hc : decide (p.1 = Key.b bF) with
      | true => rw [hc] at t1; exact T_or1 t1
      | false =>
        rw [hc] at t1
        exact T_or2 t1 (T_eqkey (a := p.1) (b := .s "functions") (Ev_name (.there (.there .here)) rfl rfl) Ev_str)
    cases hc : isF p.1 with
    | false =>
      rw [hc] at t
      have e2 : (fKv p).2 = p.2 := by show (if isF p.1 = true then _ else _) = _; rw [hc]; rfl
      rw [e2]
      refine Ex_if0 t (Ex_step (Es_append .here rfl rfl (Ev_name .here rfl rfl) (fun _ => rfl) rfl (by simp [row_length]; omega)) (Ex_nil (Ex_nil ?_)))
      exact .pick .here (.pick (.there (.there .here)) (.pick (.there (.there .here)) (.nil _)))
    | true =>
      rw [hc] at t
      obtain ⟨fs, hfs, hfl, hff⟩ := hf p (by rw [hxs2]; simp) hc
      have e2 : (fKv p).2 = .list (fs.map flD) := by show (if isF p.1 = true then _ else _) = _; rw [hc, hfs]; rfl
      rw [e2]
      refine Ex_if1 t ?_
      rw [hfs]
      refine Ex_step (Es_append (d := .list (fs.map flD)) .here rfl rfl (Ev.frz (Ev_lcomp flD Walk_list rfl (Ev_name .here rfl rfl) Its_list (by omega) (fun _ _ => rfl) rfl fun f hfm => ?_) (.lst C _)) (fun _ => rfl) rfl (by simp [row_length]; omega)) (Ex_nil (Ex_nil ?_))
      · rcases hff f hfm with ⟨r, rfl, hr⟩ | ⟨xs, rfl⟩
        · refine Ev_ifexp (Ev_isi (Ty := "dict") o (Ev_name .here rfl rfl) (.inr (.inr (.inr rfl))) (by decide) (by rfl) rfl rfl rfl (by decide) fun _ => rfl) ?_
          exact Ev_flat (Ev_name .here rfl rfl) hr rfl rfl rfl rfl rfl (fun _ => rfl) rfl
        · refine Ev_ifexp (Ev_isi (Ty := "dict") o (Ev_name .here rfl rfl) (.inr (.inr (.inr rfl))) (by decide) (by rfl) rfl rfl rfl (by decide) fun _ => rfl) ?_
          exact Ev_name .here rfl rfl
      · exact .pick .here (.pick (.there (.there .here)) (.pick (.there (.there .here)) (.nil _)))
  · exact Ex_step (Es_append (d := .list (row (kvs.map fKv))) (.there .here) rfl rfl ((Ev_take .here rfl rfl).frz (.lst C _)) (fun _ => rfl) rfl (by simp; omega)) (Ex_nil (.pick .here (.pick .here (.nil _))))
end
end Mine

set_option maxRecDepth 100000
set_option autoImplicit false
set_option linter.unusedVariables false
namespace Mine
open PySem PySem.W PyProof.Rows

/-! fields -/
structure Fld where
  n : List UInt8 × Str
  value : D
  text : D
  many : Bool
def nmD (n : List UInt8 × Str) : D := .tup [.bytes n.1, .str n.2]
def Fld.d (f : Fld) : D := .tup [nmD f.n, f.value, f.text, .bool f.many]
def unF : D → Option Fld
  | .tup [.tup [.bytes a, .str b], v, t, .bool m] => some ⟨(a, b), v, t, m⟩
  | _ => none
theorem unF_d (f : Fld) : unF f.d = some f := rfl
def ofl {α : Type} (g : Fld → Option α) (d : D) : Option α := (unF d).bind g
theorem ofl_d {α : Type} (g : Fld → Option α) (f : Fld) : ofl g f.d = g f := rfl
theorem ofl_map {α : Type} (g : Fld → Option α) (fs : List Fld) : (fs.map Fld.d).filterMap (ofl g) = fs.filterMap g := by
  rw [List.filterMap_map]; rfl
abbrev bvs (fs : List Fld) : List (Key × D) := fs.map fun f => (.b f.n.1, f.value)
abbrev svs (g : Fld → D) (fs : List Fld) : List (Key × D) := fs.map fun f => (.s f.n.2, g f)

section
variable {C : Cx} {k : Nat} {sc sc' : Scope} {ρ ρ₁ ρ₂ ρ₃ ρ₄ ρ' : Ctx} {P : Post} {S : Src} {M : Mid}

theorem As_fld {a b c e : Str} {p1 p2 p3 p4 tp : Pos} {j : Nat} {f : Fld} (ha : sc.names.lookup a = some .local) (hb : sc.names.lookup b = some .local) (hc : sc.names.lookup c = some .local) (he : sc.names.lookup e = some .local)
    (h1 : Del a ρ ρ₁) (h2 : Del b ((a, dat C (nmD f.n)) :: ρ₁) ρ₂) (h3 : Del c ((b, dat C f.value) :: ρ₂) ρ₃) (h4 : Del e ((c, dat C f.text) :: ρ₃) ρ₄) :
    As C k sc ρ (.Tuple [.Name a p1, .Name b p2, .Name c p3, .Name e p4] j tp) f.d ((e, dat C (.bool f.many)) :: ρ₄) :=
  As_row (b := true) (ds := [nmD f.n, f.value, f.text, .bool f.many]) (AsL_cons (As_name ha h1) (AsL_cons (As_name hb h2) (AsL_cons (As_name hc h3) (AsL_cons (As_name he h4) AsL_nil)))) (fun _ => rfl) rfl
theorem Ev_nm0 {x : Str} {n : List UInt8 × Str} {p q pos : Pos} {j : Nat} (hp : Pick (x, dat C (nmD n)) ρ ρ') (hx : sc.names.lookup x = some .local) (hdb : (x == ("__debug__" : Str)) = false) : Ev C k sc ρ (.Subscript (.Name x p) (.Constant (.int 0) j q) pos) (dat C (Key.b n.1).d) ρ :=
  Ev_index (Ev_name hp hx hdb) Ev_int (Gt_tup (j := 0) (by decide) (by decide) rfl rfl) (by simp [tyS, nmD]) fun _ _ => rfl
theorem Ev_nm1 {x : Str} {n : List UInt8 × Str} {p q pos : Pos} {j : Nat} (hp : Pick (x, dat C (nmD n)) ρ ρ') (hx : sc.names.lookup x = some .local) (hdb : (x == ("__debug__" : Str)) = false) : Ev C k sc ρ (.Subscript (.Name x p) (.Constant (.int 1) j q) pos) (dat C (Key.s n.2).d) ρ :=
  Ev_index (Ev_name hp hx hdb) Ev_int (Gt_tup (j := 1) (by decide) (by decide) rfl rfl) (by simp [tyS, nmD]) fun _ _ => rfl

/-- the names of a field's parts, as the comprehensions use them -/
abbrev fctx (C : Cx) (f : Fld) : Ctx := [("many", dat C (.bool f.many)), ("text", dat C f.text), ("value", dat C f.value), ("names", dat C (nmD f.n))]
theorem As_fld0 {p1 p2 p3 p4 tp : Pos} {j : Nat} {f : Fld} (ha : sc.names.lookup ("names" : Str) = some .local) (hb : sc.names.lookup ("value" : Str) = some .local) (hc : sc.names.lookup ("text" : Str) = some .local) (he : sc.names.lookup ("many" : Str) = some .local) :
    As C k sc [] (.Tuple [.Name "names" p1, .Name "value" p2, .Name "text" p3, .Name "many" p4] j tp) f.d (fctx C f) :=
  As_fld ha hb hc he .nil (.sk rfl .nil) (.sk rfl (.sk rfl .nil)) (.sk rfl (.sk rfl (.sk rfl .nil)))

/-- {K: V for names, value, text, many in ..} -/
theorem Ev_fcomp (g : Fld → Key × D) {iter kx vx : Expr} {fs : List Fld} {p1 p2 p3 p4 tp pos : Pos} {j : Nat} (hi : Ev C k sc ρ iter (dat C (.list (fs.map Fld.d))) ρ₁) (hz : fs.length ≤ 1000) (hs : ∀ env x, foldedSetIterable iter env x = pure x) (hok : scB sc' = true)
    (ha : sc'.names.lookup ("names" : Str) = some .local) (hb : sc'.names.lookup ("value" : Str) = some .local) (hc : sc'.names.lookup ("text" : Str) = some .local) (he : sc'.names.lookup ("many" : Str) = some .local)
    (hk : ∀ f ∈ fs, Ev C k sc' (fctx C f) kx (dat C (g f).1.d) (fctx C f) ∧ Ev C k sc' (fctx C f) vx (dat C (g f).2) (fctx C f)) :
    Ev C k sc ρ (.DictComp kx vx [⟨.Tuple [.Name "names" p1, .Name "value" p2, .Name "text" p3, .Name "many" p4] j tp, iter, [], 0⟩] sc' pos) (dct C (dsets [] (fs.map g))) ρ₁ := by
  have := Ev_dictcomp (pos := pos) (sc' := sc') (kx := kx) (vx := vx) (t := .Tuple [.Name "names" p1, .Name "value" p2, .Name "text" p3, .Name "many" p4] j tp) (ifs := []) (ofl fun f => some (g f)) WalkT_list.by (ScOk.of hok) hi Its_list (by simpa using hz) hs (fun d hd => by
    obtain ⟨f, hf, rfl⟩ := List.mem_map.mp hd
    refine ⟨_, fctx C f, As_fld0 ha hb hc he, Tst_nil, fun e he => ?_⟩
    rw [ofl_d] at he
    cases he
    exact ⟨_, hk f hf⟩)
  rw [ofl_map] at this
  have e : fs.filterMap (fun f => some (g f)) = fs.map g := by simp
  rw [e] at this
  exact this
theorem Es_fcomp (g : Fld → Key × D) {y : Str} {iter kx vx : Expr} {fs : List Fld} {p1 p2 p3 p4 tp pos py spos : Pos} {j : Nat} (hi : Ev C k sc ρ iter (dat C (.list (fs.map Fld.d))) ρ₁) (hz : fs.length ≤ 1000) (hs : ∀ env x, foldedSetIterable iter env x = pure x) (hok : scB sc' = true)
    (ha : sc'.names.lookup ("names" : Str) = some .local) (hb : sc'.names.lookup ("value" : Str) = some .local) (hc : sc'.names.lookup ("text" : Str) = some .local) (he : sc'.names.lookup ("many" : Str) = some .local)
    (hk : ∀ f ∈ fs, Ev C k sc' (fctx C f) kx (dat C (g f).1.d) (fctx C f) ∧ Ev C k sc' (fctx C f) vx (dat C (g f).2) (fctx C f))
    (hy : sc.names.lookup y = some .local) (hl : (py.line == pos.line) = true) (hn : (sc'.names.any fun (n, k) => n == y && (k == .local || k == .cell)) = false) (hd : Del y ρ₁ ρ') :
    Es C k sc ρ (.Assign [.Name y py] (.DictComp kx vx [⟨.Tuple [.Name "names" p1, .Name "value" p2, .Name "text" p3, .Name "many" p4] j tp, iter, [], 0⟩] sc' pos) spos) ((y, dct C (dsets [] (fs.map g))) :: ρ') := by
  have := Es_assign_dictcomp (pos := pos) (spos := spos) (py := py) (y := y) (sc' := sc') (kx := kx) (vx := vx) (t := .Tuple [.Name "names" p1, .Name "value" p2, .Name "text" p3, .Name "many" p4] j tp) (ifs := []) (ofl fun f => some (g f)) WalkT_list.by (ScOk.of hok) hi Its_list (by simpa using hz) hs (fun d hd => by
    obtain ⟨f, hf, rfl⟩ := List.mem_map.mp hd
    refine ⟨_, fctx C f, As_fld0 ha hb hc he, Tst_nil, fun e he => ?_⟩
    rw [ofl_d] at he
    cases he
    exact ⟨_, hk f hf⟩) (fun env he => sw_dict he hy hl hn) hy hd
  rw [ofl_map] at this
  have e : fs.filterMap (fun f => some (g f)) = fs.map g := by simp
  rw [e] at this
  exact this

/-! _law_flat, _law_map, _law_named -/
theorem Fn28 (o : Ok C) {fs : List Fld} (hz : fs.length ≤ 100) : Fn C 6 (.ref (o.f 28)) [.list (fs.map Fld.d)] [] (dat C (.list (row (bvs fs)))) := by
  refine o.fn1 28 (by decide) (by decide) (x := "fields") rfl rfl rfl rfl (fun _ _ _ _ => by rfl) rfl ?_
  refine Ex_step (Es_assign Ev_nil (.sk rfl .nil) rfl fun _ => rfl) ?_
  refine Ex_step (Es_forx Fld.d (xs := fs) (fun pre => [("row", lst C (row (bvs pre))), ("fields", dat C (.list (fs.map Fld.d)))]) WalkT_list.by (Ev_name (.there .here) rfl rfl) Its_list (.pick .here (.pick .here (.nil _))) (fun _ _ => rfl) fun pre f post hxs => ⟨_, As_fld rfl rfl rfl rfl (.sk rfl (.sk rfl .nil)) (.sk rfl (.sk rfl (.sk rfl .nil))) (.sk rfl (.sk rfl (.sk rfl (.sk rfl .nil)))) (.sk rfl (.sk rfl (.sk rfl (.sk rfl (.sk rfl .nil))))), ?_⟩) (Ex_ret ((Ev_take .here rfl rfl).frz (.lst C _)) rfl)
  have hl : pre.length ≤ 100 := by have := congrArg List.length hxs; simp at this; omega
  refine Ex_step (Es_append (.there (.there (.there (.there .here)))) rfl rfl (Ev_nm0 (.there (.there (.there .here))) rfl rfl) (fun _ => rfl) rfl (by rw [row_length]; simp; omega)) ?_
  refine Ex_step (Es_append .here rfl rfl (Ev_name (.there (.there .here)) rfl rfl) (fun _ => rfl) rfl (by simp [row_length]; omega)) ?_
  refine Ex_nil ?_
  have e : row (bvs (pre ++ [f])) = row (bvs pre) ++ [(Key.b f.n.1).d] ++ [f.value] := by rw [bvs, List.map_append]; exact row_snoc _ _
  rw [e]
  exact .pick .here (.pick (.there (.there (.there (.there .here)))) (.nil _))
theorem Fn29 (o : Ok C) {fs : List Fld} (hz : fs.length ≤ 100) : Fn C 6 (.ref (o.f 29)) [.list (fs.map Fld.d)] [] (dat C (.dict (dsets [] (bvs fs)))) :=
  o.fn1 29 (by decide) (by decide) (x := "fields") rfl rfl rfl rfl (fun _ _ _ _ => by rfl) rfl (Ex_retd (Ev_fcomp (fun f => (.b f.n.1, f.value)) (Ev_name .here rfl rfl) (by omega) (fun _ _ => rfl) rfl rfl rfl rfl rfl fun f hf => ⟨Ev_nm0 (.there (.there (.there .here))) rfl rfl, Ev_name (.there (.there .here)) rfl rfl⟩))
theorem Fn30 (o : Ok C) {fs : List Fld} (hz : fs.length ≤ 100) : Fn C 6 (.ref (o.f 30)) [.list (fs.map Fld.d)] [] (dat C (.dict (dsets [] (svs Fld.value fs)))) :=
  o.fn1 30 (by decide) (by decide) (x := "fields") rfl rfl rfl rfl (fun _ _ _ _ => by rfl) rfl (Ex_retd (Ev_fcomp (fun f => (.s f.n.2, f.value)) (Ev_name .here rfl rfl) (by omega) (fun _ _ => rfl) rfl rfl rfl rfl rfl fun f hf => ⟨Ev_nm1 (.there (.there (.there .here))) rfl rfl, Ev_name (.there (.there .here)) rfl rfl⟩))
end
end Mine

set_option maxRecDepth 100000
set_option autoImplicit false
set_option linter.unusedVariables false
namespace Mine
open PySem PySem.W PyProof.Rows

def namesL : List (List UInt8 × Str) := [([97, 108, 112, 104, 97], "alpha"), ([102, 108, 97, 103, 115], "flags"), ([112, 114, 101, 102, 105, 120, 101, 115], "prefixes"), ([100, 98, 46, 55], "db.7"), ([], ""), ([195, 169, 32, 120], "é x")]
def wordsL : List (List UInt8 × Str) := [([111, 102, 102], "off"), ([111, 110], "on"), ([], ""), ([97, 58, 49], "a:1"), ([226, 130, 172], "€"), ([120, 255, 121], ⟨#[0x78, 0xfffd, 0x79]⟩)]
def nm (p : Nat) : List UInt8 × Str := (namesL[p]?).getD ([], "")
def wd (w : Nat) : List UInt8 × Str := (wordsL[w]?).getD ([], "")
theorem nm_at {p : Nat} (h : p < 6) : (namesL.map nmD)[p]? = some (nmD (nm p)) := by
  rcases p with _ | _ | _ | _ | _ | _ | p <;> first | rfl | omega
theorem wd_at {p : Nat} (h : p < 6) : (wordsL.map nmD)[p]? = some (nmD (wd p)) := by
  rcases p with _ | _ | _ | _ | _ | _ | p <;> first | rfl | omega

structure OkL (C : Cx) extends Ok C where
  names : ∃ v, C.mg "_law_names" = some v ∧ Rep C (fun b => C.h.get? b) v (.tup (namesL.map nmD))
  words : ∃ v, C.mg "_law_words" = some v ∧ Rep C (fun b => C.h.get? b) v (.tup (wordsL.map nmD))

abbrev wsB (ws : List (List UInt8 × Str)) : D := .list (ws.map fun w => .bytes w.1)
abbrev wsS (ws : List (List UInt8 × Str)) : D := .list (ws.map fun w => .str w.2)
def mk2 (P K w1 : Nat) (ws : List (List UInt8 × Str)) (q : Int) : Option Fld := match K with
  | 1 => some ⟨nm P, .int q, .int q, false⟩
  | 2 => some ⟨nm P, .none, .none, false⟩
  | 3 => some ⟨nm P, wsB ws, wsB ws, true⟩
  | 4 => if P = 1 ∨ P = 2 then some ⟨nm P, wsB ws, wsS ws, true⟩ else some ⟨nm P, .bytes (wd w1).1, .str (wd w1).2, false⟩
  | _ => none

def forBody : List Stmt → List Stmt
  | .For _ _ b _ _ :: _ => b
  | _ => []
def body27 : List Stmt := forBody ((fnBody 27).drop 1)

section
variable {C : Cx} {k : Nat} {sc sc' : Scope} {ρ ρ₁ ρ₂ ρ₃ ρ₄ ρ' : Ctx} {P : Post} {S : Src} {M : Mid}

theorem seqIx {i : Nat} {n : Nat} (h : i < n) : seqIndex? (i : Int) n = some i := by
  unfold seqIndex?
  simp
  omega
theorem Ev_gnm (o : OkL C) {p q pos : Pos} {e : Expr} {i : Nat} (hi : i < 6) (he : Ev C k sc ρ e (dat C (.int (i : Int))) ρ) (hx : sc.names.lookup ("_law_names" : Str) = some .globalImplicit) (hsub : ∀ o i, subscripted e false o i = operate [o, i] (getItem o i)) : Ev C k sc ρ (.Subscript (.Name "_law_names" p) e pos) (dat C (nmD (nm i))) ρ := by
  obtain ⟨v, h1, h2⟩ := o.names
  exact Ev_index (Ev_gdata h1 h2 hx rfl) he (Gt_tup (by omega) (by omega) (seqIx (by simpa [namesL] using hi)) (nm_at hi)) (by simp [tyS]) hsub
theorem Ev_gwd (o : OkL C) {p q pos : Pos} {e : Expr} {i : Nat} (hi : i < 6) (he : Ev C k sc ρ e (dat C (.int (i : Int))) ρ) (hx : sc.names.lookup ("_law_words" : Str) = some .globalImplicit) (hsub : ∀ o i, subscripted e false o i = operate [o, i] (getItem o i)) : Ev C k sc ρ (.Subscript (.Name "_law_words" p) e pos) (dat C (nmD (wd i))) ρ := by
  obtain ⟨v, h1, h2⟩ := o.words
  exact Ev_index (Ev_gdata h1 h2 hx rfl) he (Gt_tup (by omega) (by omega) (seqIx (by simpa [wordsL] using hi)) (wd_at hi)) (by simp [tyS]) hsub
theorem Ev_p0 {e q : Expr} {n : List UInt8 × Str} {pos p : Pos} {j : Nat} (h : Ev C k sc ρ e (dat C (nmD n)) ρ) : Ev C k sc ρ (.Subscript e (.Constant (.int 0) j p) pos) (dat C (.bytes n.1)) ρ :=
  Ev_index h Ev_int (Gt_tup (j := 0) (by decide) (by decide) rfl rfl) (by simp [tyS, nmD]) fun _ _ => rfl
theorem Ev_p1 {e q : Expr} {n : List UInt8 × Str} {pos p : Pos} {j : Nat} (h : Ev C k sc ρ e (dat C (nmD n)) ρ) : Ev C k sc ρ (.Subscript e (.Constant (.int 1) j p) pos) (dat C (.str n.2)) ρ :=
  Ev_index h Ev_int (Gt_tup (j := 1) (by decide) (by decide) rfl rfl) (by simp [tyS, nmD]) fun _ _ => rfl
def fst0 : D → D
  | .tup (x :: _) => x
  | d => d
def snd0 : D → D
  | .tup (_ :: x :: _) => x
  | d => d
theorem Ev_ws0 {x : Str} {ws : List (List UInt8 × Str)} {iter : Expr} {p p1 p2 p3 pos : Pos} {j : Nat} (hi : Ev C k sc ρ iter (dat C (.list (ws.map nmD))) ρ) (hz : ws.length ≤ 1000) (hs : ∀ env x, foldedSetIterable iter env x = pure x) (hok : scB sc' = true) (hx : sc'.names.lookup x = some .local) (hdb : (x == ("__debug__" : Str)) = false) :
    Ev C k sc ρ (.ListComp (.Subscript (.Name x p) (.Constant (.int 0) j p1) p2) [⟨.Name x p3, iter, [], 0⟩] sc' pos) (dat C (wsB ws)) ρ := by
  have h := Ev_lcomp (pos := pos) (p := p3) (elt := .Subscript (.Name x p) (.Constant (.int 0) j p1) p2) fst0 Walk_list hok hi Its_list (by simpa using hz) hs hx (fun d hd => by
    obtain ⟨w, hw, rfl⟩ := List.mem_map.mp hd
    exact Ev_p0 (q := .Name x p) (Ev_name .here hx hdb))
  rw [List.map_map] at h
  exact h.frz (.lst C _)
theorem Ev_ws1 {x : Str} {ws : List (List UInt8 × Str)} {iter : Expr} {p p1 p2 p3 pos : Pos} {j : Nat} (hi : Ev C k sc ρ iter (dat C (.list (ws.map nmD))) ρ) (hz : ws.length ≤ 1000) (hs : ∀ env x, foldedSetIterable iter env x = pure x) (hok : scB sc' = true) (hx : sc'.names.lookup x = some .local) (hdb : (x == ("__debug__" : Str)) = false) :
    Ev C k sc ρ (.ListComp (.Subscript (.Name x p) (.Constant (.int 1) j p1) p2) [⟨.Name x p3, iter, [], 0⟩] sc' pos) (dat C (wsS ws)) ρ := by
  have h := Ev_lcomp (pos := pos) (p := p3) (elt := .Subscript (.Name x p) (.Constant (.int 1) j p1) p2) snd0 Walk_list hok hi Its_list (by simpa using hz) hs hx (fun d hd => by
    obtain ⟨w, hw, rfl⟩ := List.mem_map.mp hd
    exact Ev_p1 (q := .Name x p) (Ev_name .here hx hdb))
  rw [List.map_map] at h
  exact h.frz (.lst C _)

theorem T_eqint' {l r : Expr} {pos : Pos} {a b : Int} {c : Bool} (hc : (a == b) = c) (h1 : Ev C k sc ρ l (dat C (.int a)) ρ) (h2 : Ev C k sc ρ r (dat C (.int b)) ρ) : T C k sc ρ (.Compare l [.Eq] [r] pos) c := hc ▸ T_eqint h1 h2
theorem T_in12 {l : Expr} {pos tp p1 p2 : Pos} {j1 j2 jt : Nat} {i : Nat} (h : Ev C k sc ρ l (dat C (.int (i : Int))) ρ) : T C k sc ρ (.Compare l [.In] [.Tuple [.Constant (.int 1) j1 p1, .Constant (.int 2) j2 p2] jt tp] pos) (decide (i = 1 ∨ i = 2)) := by
  have := T_in_ints (C := C) (k := k) (sc := sc) (ρ := ρ) (pos := pos) (xs := [1, 2]) h (Ev_Tuple (ds := [.int 1, .int 2]) (es := [.Constant (.int 1) j1 p1, .Constant (.int 2) j2 p2]) (j := jt) (pos := tp) (Evs_cons Ev_int (Evs_cons Ev_int Evs_nil)) (fun _ => rfl) (by simp)) rfl
  have e : ([1, 2] : List Int).any (fun y => decide (y = (i : Int))) = decide (i = 1 ∨ i = 2) := by
    by_cases h1 : i = 1
    · subst h1; rfl
    · by_cases h2 : i = 2
      · subst h2; rfl
      · simp [h1, h2]; omega
  rw [e] at this
  exact this

theorem T_in12' {l : Expr} {pos tp p1 p2 : Pos} {j1 j2 jt : Nat} {i : Nat} {c : Bool} (hc : decide (i = 1 ∨ i = 2) = c) (h : Ev C k sc ρ l (dat C (.int (i : Int))) ρ) : T C k sc ρ (.Compare l [.In] [.Tuple [.Constant (.int 1) j1 p1, .Constant (.int 2) j2 p2] jt tp] pos) c := hc ▸ T_in12 h

/-- the ends of a turn -/
theorem Ex27v (o : OkL C) {p K w1 : Nat} (hp : p < 6) (hK : K < 5) (hw : w1 < 6) {y q : Int} (hw1 : y.fmod 6 = (w1 : Int)) (hq : y.fmod 1000 = q) {ws : List (List UInt8 × Str)} (hws : ws.length ≤ 100) {fs : List D} (hz : fs.length ≤ 100) {dn : D} :
    Ex C 6 (fnSc 27) [("kind", dat C (.int (K : Int))), ("words", dat C (.list (ws.map nmD))), ("y", dat C (.int y)), ("place", dat C (.int (p : Int))), ("fields", lst C fs), ("numbers", dat C dn)] (body27.drop 7)
      ⟨fun ρ' => Wk ρ' [("fields", lst C (fs ++ (mk2 p K w1 ws q).toList.map Fld.d)), ("numbers", dat C dn)], fun ρ' => Wk ρ' [("fields", lst C (fs ++ (mk2 p K w1 ws q).toList.map Fld.d)), ("numbers", dat C dn)], fun _ => False⟩ := by
  subst hq
  rcases K with _ | _ | _ | _ | _ | K
  · refine Ex_skip (T_eqint' (c := false) (by rfl) (Ev_name .here rfl rfl) Ev_int) ?_
    refine Ex_skip (T_eqint' (c := false) (by rfl) (Ev_name .here rfl rfl) Ev_int) ?_
    refine Ex_skip (T_eqint' (c := false) (by rfl) (Ev_name .here rfl rfl) Ev_int) ?_
    refine Ex_if0 (T_and0 (T_eqint' (c := false) (by rfl) (Ev_name .here rfl rfl) Ev_int)) (Ex_skip (T_eqint' (c := false) (by rfl) (Ev_name .here rfl rfl) Ev_int) (Ex_nil (Ex_nil ?_)))
    show Wk _ [("fields", lst C (fs ++ [])), _]
    rw [List.append_nil]
    exact .pick (.there (.there (.there (.there .here)))) (.pick (.there (.there (.there (.there .here)))) (.nil _))
  · refine Ex_if1 (T_eqint' (c := true) (by rfl) (Ev_name .here rfl rfl) Ev_int) (Ex_step (Es_append (d := Fld.d ⟨nm p, .int (y.fmod 1000), .int (y.fmod 1000), false⟩) (.there (.there (.there (.there .here)))) rfl rfl
      (Ev_Tuple (ds := [nmD (nm p), .int (y.fmod 1000), .int (y.fmod 1000), .bool false]) (Evs_cons (Ev_gnm (q := ⟨0, 0, 0, 0⟩) o hp (Ev_name (.there (.there (.there .here))) rfl rfl) rfl fun _ _ => rfl) (Evs_cons (Ev_mod (Ev_name (.there (.there .here)) rfl rfl) Ev_int (by decide)) (Evs_cons (Ev_mod (Ev_name (.there (.there .here)) rfl rfl) Ev_int (by decide)) (Evs_cons Ev_bool Evs_nil)))) (fun _ => rfl) (by simp)) (fun _ => rfl) rfl (by omega)) (Ex_nil ?_))
    refine Ex_skip (T_eqint' (c := false) (by rfl) (Ev_name (.there .here) rfl rfl) Ev_int) ?_
    refine Ex_skip (T_eqint' (c := false) (by rfl) (Ev_name (.there .here) rfl rfl) Ev_int) ?_
    refine Ex_if0 (T_and0 (T_eqint' (c := false) (by rfl) (Ev_name (.there .here) rfl rfl) Ev_int)) (Ex_skip (T_eqint' (c := false) (by rfl) (Ev_name (.there .here) rfl rfl) Ev_int) (Ex_nil (Ex_nil ?_)))
    exact .pick .here (.pick (.there (.there (.there (.there .here)))) (.nil _))
  · refine Ex_skip (T_eqint' (c := false) (by rfl) (Ev_name .here rfl rfl) Ev_int) ?_
    refine Ex_if1 (T_eqint' (c := true) (by rfl) (Ev_name .here rfl rfl) Ev_int) (Ex_step (Es_append (d := Fld.d ⟨nm p, .none, .none, false⟩) (.there (.there (.there (.there .here)))) rfl rfl
      (Ev_Tuple (ds := [nmD (nm p), .none, .none, .bool false]) (Evs_cons (Ev_gnm (q := ⟨0, 0, 0, 0⟩) o hp (Ev_name (.there (.there (.there .here))) rfl rfl) rfl fun _ _ => rfl) (Evs_cons Ev_none (Evs_cons Ev_none (Evs_cons Ev_bool Evs_nil)))) (fun _ => rfl) (by simp)) (fun _ => rfl) rfl (by omega)) (Ex_nil ?_))
    refine Ex_skip (T_eqint' (c := false) (by rfl) (Ev_name (.there .here) rfl rfl) Ev_int) ?_
    refine Ex_if0 (T_and0 (T_eqint' (c := false) (by rfl) (Ev_name (.there .here) rfl rfl) Ev_int)) (Ex_skip (T_eqint' (c := false) (by rfl) (Ev_name (.there .here) rfl rfl) Ev_int) (Ex_nil (Ex_nil ?_)))
    exact .pick .here (.pick (.there (.there (.there (.there .here)))) (.nil _))
  · refine Ex_skip (T_eqint' (c := false) (by rfl) (Ev_name .here rfl rfl) Ev_int) ?_
    refine Ex_skip (T_eqint' (c := false) (by rfl) (Ev_name .here rfl rfl) Ev_int) ?_
    refine Ex_if1 (T_eqint' (c := true) (by rfl) (Ev_name .here rfl rfl) Ev_int) (Ex_step (Es_append (d := Fld.d ⟨nm p, wsB ws, wsB ws, true⟩) (.there (.there (.there (.there .here)))) rfl rfl
      (Ev_Tuple (ds := [nmD (nm p), wsB ws, wsB ws, .bool true]) (Evs_cons (Ev_gnm (q := ⟨0, 0, 0, 0⟩) o hp (Ev_name (.there (.there (.there .here))) rfl rfl) rfl fun _ _ => rfl) (Evs_cons (Ev_ws0 (Ev_name (.there .here) rfl rfl) (by omega) (fun _ _ => rfl) rfl rfl rfl) (Evs_cons (Ev_ws0 (Ev_name (.there .here) rfl rfl) (by omega) (fun _ _ => rfl) rfl rfl rfl) (Evs_cons Ev_bool Evs_nil)))) (fun _ => rfl) (by simp)) (fun _ => rfl) rfl (by omega)) (Ex_nil ?_))
    refine Ex_if0 (T_and0 (T_eqint' (c := false) (by rfl) (Ev_name (.there .here) rfl rfl) Ev_int)) (Ex_skip (T_eqint' (c := false) (by rfl) (Ev_name (.there .here) rfl rfl) Ev_int) (Ex_nil (Ex_nil ?_)))
    exact .pick .here (.pick (.there (.there (.there (.there .here)))) (.nil _))
  · refine Ex_skip (T_eqint' (c := false) (by rfl) (Ev_name .here rfl rfl) Ev_int) ?_
    refine Ex_skip (T_eqint' (c := false) (by rfl) (Ev_name .here rfl rfl) Ev_int) ?_
    refine Ex_skip (T_eqint' (c := false) (by rfl) (Ev_name .here rfl rfl) Ev_int) ?_
    by_cases h12 : p = 1 ∨ p = 2
    · have e : mk2 p 4 w1 ws (y.fmod 1000) = some ⟨nm p, wsB ws, wsS ws, true⟩ := by show (if p = 1 ∨ p = 2 then _ else _) = _; rw [if_pos h12]
      rw [e]
      refine Ex_if1 (T_and2 (b := true) (T_eqint' (c := true) (by rfl) (Ev_name .here rfl rfl) Ev_int) ?_) (Ex_step (Es_append (d := Fld.d ⟨nm p, wsB ws, wsS ws, true⟩) (.there (.there (.there (.there .here)))) rfl rfl
        (Ev_Tuple (ds := [nmD (nm p), wsB ws, wsS ws, .bool true]) (Evs_cons (Ev_gnm (q := ⟨0, 0, 0, 0⟩) o hp (Ev_name (.there (.there (.there .here))) rfl rfl) rfl fun _ _ => rfl) (Evs_cons (Ev_ws0 (Ev_name (.there .here) rfl rfl) (by omega) (fun _ _ => rfl) rfl rfl rfl) (Evs_cons (Ev_ws1 (Ev_name (.there .here) rfl rfl) (by omega) (fun _ _ => rfl) rfl rfl rfl) (Evs_cons Ev_bool Evs_nil)))) (fun _ => rfl) (by simp)) (fun _ => rfl) rfl (by omega)) (Ex_nil ?_))
      · exact T_in12' (decide_eq_true h12) (Ev_name (.there (.there (.there .here))) rfl rfl)
      refine Ex_nil ?_
      exact .pick .here (.pick (.there (.there (.there (.there .here)))) (.nil _))
    · have e : mk2 p 4 w1 ws (y.fmod 1000) = some ⟨nm p, .bytes (wd w1).1, .str (wd w1).2, false⟩ := by show (if p = 1 ∨ p = 2 then _ else _) = _; rw [if_neg h12]
      rw [e]
      refine Ex_if0 (T_and2 (b := false) (T_eqint' (c := true) (by rfl) (Ev_name .here rfl rfl) Ev_int) ?_) ?_
      · exact T_in12' (decide_eq_false h12) (Ev_name (.there (.there (.there .here))) rfl rfl)
      refine Ex_if1 (T_eqint' (c := true) (by rfl) (Ev_name .here rfl rfl) Ev_int) (Ex_step (Es_append (d := Fld.d ⟨nm p, .bytes (wd w1).1, .str (wd w1).2, false⟩) (.there (.there (.there (.there .here)))) rfl rfl
        (Ev_Tuple (ds := [nmD (nm p), .bytes (wd w1).1, .str (wd w1).2, .bool false]) (Evs_cons (Ev_gnm (q := ⟨0, 0, 0, 0⟩) o hp (Ev_name (.there (.there (.there .here))) rfl rfl) rfl fun _ _ => rfl) (Evs_cons (Ev_p0 (q := .Name "y" ⟨0, 0, 0, 0⟩) (Ev_gwd (q := ⟨0, 0, 0, 0⟩) o hw (by rw [← hw1]; exact Ev_mod (Ev_name (.there (.there .here)) rfl rfl) Ev_int (by decide)) rfl fun _ _ => rfl)) (Evs_cons (Ev_p1 (q := .Name "y" ⟨0, 0, 0, 0⟩) (Ev_gwd (q := ⟨0, 0, 0, 0⟩) o hw (by rw [← hw1]; exact Ev_mod (Ev_name (.there (.there .here)) rfl rfl) Ev_int (by decide)) rfl fun _ _ => rfl)) (Evs_cons Ev_bool Evs_nil)))) (fun _ => rfl) (by simp)) (fun _ => rfl) rfl (by omega)) (Ex_nil (Ex_nil (Ex_nil ?_))))
      exact .pick .here (.pick (.there (.there (.there (.there .here)))) (.nil _))
  · omega
end
end Mine

set_option maxRecDepth 100000
set_option autoImplicit false
set_option linter.unusedVariables false
namespace Mine
open PySem PySem.W PyProof.Rows

def kd1 (p K : Nat) : Nat := if (decide (p = 1 ∨ p = 2) && ((K : Int) != 0)) = true then 4 else K
def kd2 (p K : Nat) : Nat := if (((p : Int) == 3) && ((K : Int) == 3)) = true then 1 else K
theorem kd1_lt {p K : Nat} (h : K < 5) : kd1 p K < 5 := by unfold kd1; split <;> omega
theorem kd2_lt {p K : Nat} (h : K < 5) : kd2 p K < 5 := by unfold kd2; split <;> omega
def plOf (n0 : Int) (j : Nat) : Nat := ((0 + (j : Int) + n0.fdiv 7).fmod 6).toNat
def fldOf (n0 x : Int) (j : Nat) : Option Fld :=
  mk2 (plOf n0 j) (kd2 (plOf n0 j) (kd1 (plOf n0 j) (x.fmod 5).toNat)) ((x.fdiv 5).fmod 6).toNat
    ([wd ((x.fdiv 5).fmod 6).toNat, wd (((x.fdiv 5).fdiv 6).fmod 6).toNat].take (((x.fdiv 5).fdiv 36).fmod 3).toNat) ((x.fdiv 5).fmod 1000)
theorem nat_of {i m : Int} (hm : 0 < m) : ((i.fmod m).toNat : Int) = i.fmod m ∧ (i.fmod m).toNat < m.toNat := by
  have h1 := Int.fmod_nonneg_of_pos i hm
  have h2 := Int.fmod_lt_of_pos i hm
  omega
theorem pick_take (a b : D) {c : Nat} (h : c < 3) : pickD [a, b] none (some (c : Int)) none = [a, b].take c := by
  rcases c with _ | _ | _ | c <;> first | rfl | omega
/-- the fields that six numbers tell -/
def fields (ns : List Int) : List Fld := (List.range 6).filterMap fun j => fldOf ((ns[0]?).getD 0) ((ns[j]?).getD 0) j

section
variable {C : Cx} {k : Nat} {sc sc' : Scope} {ρ ρ₁ ρ₂ ρ₃ ρ₄ ρ' : Ctx} {P : Post} {S : Src} {M : Mid}

theorem Ex27w (o : OkL C) {p K w1 : Nat} (hp : p < 6) (hK : K < 5) (hw : w1 < 6) {y q : Int} (hw1 : y.fmod 6 = (w1 : Int)) (hq : y.fmod 1000 = q) {ws : List (List UInt8 × Str)} (hws : ws.length ≤ 100) {fs : List D} (hz : fs.length ≤ 100) {dn : D} :
    Ex C 6 (fnSc 27) [("kind", dat C (.int (K : Int))), ("words", dat C (.list (ws.map nmD))), ("y", dat C (.int y)), ("place", dat C (.int (p : Int))), ("fields", lst C fs), ("numbers", dat C dn)] (body27.drop 6)
      ⟨fun ρ' => Wk ρ' [("fields", lst C (fs ++ (mk2 p (kd2 p K) w1 ws q).toList.map Fld.d)), ("numbers", dat C dn)], fun ρ' => Wk ρ' [("fields", lst C (fs ++ (mk2 p (kd2 p K) w1 ws q).toList.map Fld.d)), ("numbers", dat C dn)], fun _ => False⟩ := by
  cases hb : (((p : Int) == 3) && ((K : Int) == 3)) with
  | true =>
    have e : kd2 p K = 1 := by unfold kd2; rw [hb]; rfl
    rw [e]
    refine Ex_if1 (hb ▸ T_and (T_eqint (Ev_name (.there (.there (.there .here))) rfl rfl) Ev_int) fun _ => T_eqint (Ev_name .here rfl rfl) Ev_int) ?_
    refine Ex_step (Es_assign (r := dat C (.int ((1 : Nat) : Int))) Ev_int (.hit (.sk rfl (.sk rfl (.sk rfl (.sk rfl (.sk rfl .nil)))))) rfl fun _ => rfl) (Ex_nil ?_)
    exact Ex27v o hp (by decide) hw hw1 hq hws hz
  | false =>
    have e : kd2 p K = K := by unfold kd2; rw [hb]; rfl
    rw [e]
    refine Ex_skip (hb ▸ T_and (T_eqint (Ev_name (.there (.there (.there .here))) rfl rfl) Ev_int) fun _ => T_eqint (Ev_name .here rfl rfl) Ev_int) ?_
    exact Ex27v o hp hK hw hw1 hq hws hz

theorem Ex27b (o : OkL C) {ns : List Int} {n0 x : Int} {j : Nat} (hj : j < 6) (h0 : ns[0]? = some n0) (hx : ns[j]? = some x) {fs : List D} (hz : fs.length ≤ 100) :
    Ex C 6 (fnSc 27) [("k", dat C (.int (0 + (j : Int)))), ("fields", lst C fs), ("numbers", dat C (.list (ns.map D.int)))] body27
      ⟨fun ρ' => Wk ρ' [("fields", lst C (fs ++ (fldOf n0 x j).toList.map Fld.d)), ("numbers", dat C (.list (ns.map D.int)))], fun ρ' => Wk ρ' [("fields", lst C (fs ++ (fldOf n0 x j).toList.map Fld.d)), ("numbers", dat C (.list (ns.map D.int)))], fun _ => False⟩ := by
  obtain ⟨e1, l1⟩ := nat_of (i := 0 + (j : Int) + n0.fdiv 7) (m := 6) (by decide)
  obtain ⟨e2, l2⟩ := nat_of (i := x) (m := 5) (by decide)
  obtain ⟨e3, l3⟩ := nat_of (i := x.fdiv 5) (m := 6) (by decide)
  obtain ⟨e4, l4⟩ := nat_of (i := (x.fdiv 5).fdiv 6) (m := 6) (by decide)
  obtain ⟨e5, l5⟩ := nat_of (i := (x.fdiv 5).fdiv 36) (m := 3) (by decide)
  unfold fldOf
  have hpl : plOf n0 j = ((0 + (j : Int) + n0.fdiv 7).fmod 6).toNat := rfl
  generalize plOf n0 j = p at hpl ⊢
  rw [← hpl] at e1 l1
  generalize hK : (x.fmod 5).toNat = K0 at *
  generalize hw1 : ((x.fdiv 5).fmod 6).toNat = w1 at *
  generalize hw2 : (((x.fdiv 5).fdiv 6).fmod 6).toNat = w2 at *
  generalize hc : (((x.fdiv 5).fdiv 36).fmod 3).toNat = c at *
  have l1' : p < 6 := l1
  have l2' : K0 < 5 := l2
  have l3' : w1 < 6 := l3
  have l4' : w2 < 6 := l4
  have l5' : c < 3 := l5
  refine Ex_step (Es_assign (Ev_index (Ev_name (d := .list (ns.map D.int)) (.there (.there .here)) rfl rfl) (Ev_name .here rfl rfl) (Gt_list (d := .int x) (by omega) (by omega) (by simp [hx])) (by simp [tyS]) fun _ _ => rfl) (.sk rfl (.sk rfl (.sk rfl .nil))) rfl fun _ => rfl) ?_
  refine Ex_step (Es_assign (r := dat C (.int (p : Int))) (by
    rw [e1]
    exact Ev_mod (Ev_add (Ev_name (.there .here) rfl rfl) (Ev_fdiv (Ev_index (Ev_name (d := .list (ns.map D.int)) (.there (.there (.there .here))) rfl rfl) Ev_int (Gt_list (d := .int n0) (by decide) (by decide) (by simp [h0])) (by simp [tyS]) fun _ _ => rfl) Ev_int (by decide) (by decide))) Ev_int (by decide)) (.sk rfl (.sk rfl (.sk rfl (.sk rfl .nil)))) rfl fun _ => rfl) ?_
  refine Ex_step (Es_assign (r := dat C (.int (K0 : Int))) (by rw [e2]; exact Ev_mod (Ev_name (.there .here) rfl rfl) Ev_int (by decide)) (.sk rfl (.sk rfl (.sk rfl (.sk rfl (.sk rfl .nil))))) rfl fun _ => rfl) ?_
  refine Ex_step (Es_assign (Ev_fdiv (Ev_name (.there (.there .here)) rfl rfl) Ev_int (by decide) (by decide)) (.sk rfl (.sk rfl (.sk rfl (.sk rfl (.sk rfl (.sk rfl .nil)))))) rfl fun _ => rfl) ?_
  refine Ex_step (Es_assign (r := dat C (.list (pickD [nmD (wd w1), nmD (wd w2)] none (some (c : Int)) none))) (Ev_slice ((Ev_List (ds := [nmD (wd w1), nmD (wd w2)]) (Evs_cons (Ev_gwd (q := ⟨0, 0, 0, 0⟩) o l3' (by rw [e3]; exact Ev_mod (Ev_name .here rfl rfl) Ev_int (by decide)) rfl fun _ _ => rfl) (Evs_cons (Ev_gwd (q := ⟨0, 0, 0, 0⟩) o l4' (by rw [e4]; exact Ev_mod (Ev_fdiv (Ev_name .here rfl rfl) Ev_int (by decide) (by decide)) Ev_int (by decide)) rfl fun _ _ => rfl) Evs_nil)) (fun _ => rfl) (by simp)).frz (.lst C _)) EvP_none
    (EvP_some (by rw [e5]; exact Ev_mod (Ev_fdiv (Ev_name .here rfl rfl) Ev_int (by decide) (by decide)) Ev_int (by decide))) EvP_none (by decide) (by simp)) (.sk rfl (.sk rfl (.sk rfl (.sk rfl (.sk rfl (.sk rfl (.sk rfl .nil))))))) rfl fun _ => rfl) ?_
  have ew : pickD [nmD (wd w1), nmD (wd w2)] none (some (c : Int)) none = ([wd w1, wd w2].take c).map nmD := by
    rw [pick_take _ _ l5', List.map_take]; rfl
  rw [ew]
  have hws : ([wd w1, wd w2].take c).length ≤ 100 := by rw [List.length_take]; simp; omega
  cases hb : (decide (p = 1 ∨ p = 2) && ((K0 : Int) != 0)) with
  | true =>
    have e : kd1 p K0 = 4 := by unfold kd1; rw [hb]; rfl
    rw [e]
    refine Ex_if1 (hb ▸ T_and (T_in12 (Ev_name (.there (.there (.there .here))) rfl rfl)) fun _ => T_tru (d := .int (K0 : Int)) (Ev_name (.there (.there .here)) rfl rfl) rfl trivial fun _ _ => rfl) ?_
    refine Ex_step (Es_assign (r := dat C (.int ((4 : Nat) : Int))) Ev_int (.sk rfl (.sk rfl (.hit (.sk rfl (.sk rfl (.sk rfl (.sk rfl (.sk rfl .nil)))))))) rfl fun _ => rfl) (Ex_nil ?_)
    exact Ex.wk (.pick .here (.pick .here (.pick .here (.pick .here (.pick (.there (.there .here)) (.pick (.there (.there .here)) (.nil _))))))) (Ex27w o l1' (by decide) l3' e3.symm rfl hws hz)
  | false =>
    have e : kd1 p K0 = K0 := by unfold kd1; rw [hb]; rfl
    rw [e]
    refine Ex_skip (hb ▸ T_and (T_in12 (Ev_name (.there (.there (.there .here))) rfl rfl)) fun _ => T_tru (d := .int (K0 : Int)) (Ev_name (.there (.there .here)) rfl rfl) rfl trivial fun _ _ => rfl) ?_
    exact Ex.wk (.pick (.there (.there .here)) (.pick .here (.pick .here (.pick .here (.pick (.there (.there .here)) (.pick (.there (.there .here)) (.nil _))))))) (Ex27w o l1' l2' l3' e3.symm rfl hws hz)

theorem Fn27 (o : OkL C) {ns : List Int} (hl : ns.length = 6) : Fn C 7 (.ref (o.f 27)) [.list (ns.map D.int)] [] (dat C (.list ((fields ns).map Fld.d))) := by
  refine o.fn1 27 (by decide) (by decide) (x := "numbers") rfl rfl rfl rfl (fun _ _ _ _ => by rfl) rfl ?_
  refine Ex_step (Es_assign Ev_nil (.sk rfl .nil) rfl fun _ => rfl) ?_
  refine Ex_step (Es_forx (fun (j : Nat) => D.int (0 + (j : Int))) (xs := List.range 6) (fun pre => [("fields", lst C ((pre.filterMap fun j => fldOf ((ns[0]?).getD 0) ((ns[j]?).getD 0) j).map Fld.d)), ("numbers", dat C (.list (ns.map D.int)))]) (I := rit C) Walk_range.by (Ev_range Ev_int (o.nob "range" (by decide)) rfl fun _ => rfl) Its_range (.pick .here (.pick .here (.nil _))) (fun _ _ => rfl) fun pre j post hxs => ⟨_, As_name rfl (.sk rfl (.sk rfl .nil)), ?_⟩) (Ex_ret ((Ev_take .here rfl rfl).frz (.lst C _)) rfl)
  have hj : j < 6 := by
    have : j ∈ List.range 6 := by rw [hxs]; simp
    simpa using this
  have hpl : pre.length ≤ 6 := by have := congrArg List.length hxs; simp at this; omega
  have h0 : ns[0]? = some ((ns[0]?).getD 0) := by
    have : 0 < ns.length := by omega
    simp [List.getElem?_eq_getElem this]
  have hx : ns[j]? = some ((ns[j]?).getD 0) := by
    have : j < ns.length := by omega
    simp [List.getElem?_eq_getElem this]
  have e : ((pre ++ [j]).filterMap fun j => fldOf ((ns[0]?).getD 0) ((ns[j]?).getD 0) j).map Fld.d = (pre.filterMap fun j => fldOf ((ns[0]?).getD 0) ((ns[j]?).getD 0) j).map Fld.d ++ (fldOf ((ns[0]?).getD 0) ((ns[j]?).getD 0) j).toList.map Fld.d := by
    rw [List.filterMap_append, List.map_append]
    congr 2
  rw [e]
  refine Ex27b o hj h0 hx ?_
  have := List.length_filterMap_le (fun j => fldOf ((ns[0]?).getD 0) ((ns[j]?).getD 0) j) pre
  rw [List.length_map]
  omega
end
end Mine

set_option maxRecDepth 100000
set_option autoImplicit false
set_option linter.unusedVariables false
namespace Mine
open PySem PySem.W PyProof.Rows

/-! plain facts about names and fields -/
abbrev X0 : List UInt8 × Str := ([100, 98, 46, 48], "db.0")
abbrev X1 : List UInt8 × Str := ([100, 98], "db")
abbrev XF : List UInt8 × Str := (bF, "functions")
def namesX : List (List UInt8 × Str) := namesL ++ [X0, X1, XF]
theorem inj1 : ∀ a ∈ namesX, ∀ b ∈ namesX, a.1 = b.1 → a = b := by decide
theorem inj2 : ∀ a ∈ namesX, ∀ b ∈ namesX, a.2 = b.2 → a = b := by decide
theorem decX : ∀ a ∈ namesX, decB a.1 = a.2 := by decide
theorem decW : ∀ a ∈ wordsL, decB a.1 = a.2 := by decide
theorem okX : ∀ a ∈ namesX, a.1 ∈ known.map (·.1) := by decide
theorem okW : ∀ a ∈ wordsL, a.1 ∈ known.map (·.1) := by decide
theorem nm_mem {p : Nat} (h : p < 6) : nm p ∈ namesL := by
  rcases p with _ | _ | _ | _ | _ | _ | p <;> first | decide | omega
theorem wd_mem {p : Nat} (h : p < 6) : wd p ∈ wordsL := by
  rcases p with _ | _ | _ | _ | _ | _ | p <;> first | decide | omega
theorem nm_inj {p q : Nat} (hp : p < 6) (hq : q < 6) (h : nm p = nm q) : p = q := by
  rcases p with _ | _ | _ | _ | _ | _ | p <;> rcases q with _ | _ | _ | _ | _ | _ | q <;> first | rfl | omega | (exact absurd h (by decide))

inductive Gd : Nat → Fld → Prop where
  | int {p : Nat} {q : Int} : p < 6 → p ≠ 1 → p ≠ 2 → Gd p ⟨nm p, .int q, .int q, false⟩
  | none {p : Nat} : p < 6 → p ≠ 1 → p ≠ 2 → Gd p ⟨nm p, .none, .none, false⟩
  | same {p : Nat} {ws : List (List UInt8 × Str)} : p < 6 → p ≠ 1 → p ≠ 2 → p ≠ 3 → (∀ w ∈ ws, w ∈ wordsL) → ws.length ≤ 2 → Gd p ⟨nm p, wsB ws, wsB ws, true⟩
  | texts {p : Nat} {ws : List (List UInt8 × Str)} : p < 6 → (p = 1 ∨ p = 2) → (∀ w ∈ ws, w ∈ wordsL) → ws.length ≤ 2 → Gd p ⟨nm p, wsB ws, wsS ws, true⟩
  | word {p : Nat} {w : List UInt8 × Str} : p < 6 → p ≠ 1 → p ≠ 2 → w ∈ wordsL → Gd p ⟨nm p, .bytes w.1, .str w.2, false⟩
theorem Gd.name {p : Nat} {f : Fld} (h : Gd p f) : p < 6 ∧ f.n = nm p := by cases h <;> exact ⟨by assumption, rfl⟩

theorem fldOf_gd {n0 x : Int} {j : Nat} {f : Fld} (h : fldOf n0 x j = some f) : Gd (plOf n0 j) f := by
  unfold fldOf at h
  have hp : plOf n0 j < 6 := (nat_of (i := 0 + (j : Int) + n0.fdiv 7) (m := 6) (by decide)).2
  have hK : (x.fmod 5).toNat < 5 := (nat_of (i := x) (m := 5) (by decide)).2
  have hw1 : ((x.fdiv 5).fmod 6).toNat < 6 := (nat_of (i := x.fdiv 5) (m := 6) (by decide)).2
  have hw2 : (((x.fdiv 5).fdiv 6).fmod 6).toNat < 6 := (nat_of (i := (x.fdiv 5).fdiv 6) (m := 6) (by decide)).2
  have hws : ∀ w ∈ [wd ((x.fdiv 5).fmod 6).toNat, wd (((x.fdiv 5).fdiv 6).fmod 6).toNat].take (((x.fdiv 5).fdiv 36).fmod 3).toNat, w ∈ wordsL := fun w hw => by
    have := List.mem_of_mem_take hw
    simp only [List.mem_cons, List.not_mem_nil, or_false] at this
    rcases this with rfl | rfl
    · exact wd_mem hw1
    · exact wd_mem hw2
  have hwl : ([wd ((x.fdiv 5).fmod 6).toNat, wd (((x.fdiv 5).fdiv 6).fmod 6).toNat].take (((x.fdiv 5).fdiv 36).fmod 3).toNat).length ≤ 2 := by rw [List.length_take]; simp; omega
  generalize plOf n0 j = p at *
  generalize (x.fmod 5).toNat = K0 at *
  generalize ([wd ((x.fdiv 5).fmod 6).toNat, wd (((x.fdiv 5).fdiv 6).fmod 6).toNat].take (((x.fdiv 5).fdiv 36).fmod 3).toNat) = ws at *
  generalize ((x.fdiv 5).fmod 6).toNat = w1 at *
  generalize (x.fdiv 5).fmod 1000 = q at *
  have hk : (p = 1 ∨ p = 2) → kd2 p (kd1 p K0) = 4 ∨ kd2 p (kd1 p K0) = 0 := by
    intro hp12
    have h3 : ((p : Int) == 3) = false := by rcases hp12 with rfl | rfl <;> rfl
    have e2 : ∀ K, kd2 p K = K := fun K => by unfold kd2; rw [h3]; rfl
    rw [e2]
    unfold kd1
    by_cases hz : K0 = 0
    · subst hz; right; simp
    · left
      rw [if_pos]
      simp [hp12]; omega
  have hk3 : p = 3 → kd2 p (kd1 p K0) ≠ 3 := by
    rintro rfl
    unfold kd2
    by_cases h : (((3 : Nat) : Int) == 3 && ((kd1 3 K0 : Nat) : Int) == 3) = true
    · rw [if_pos h]; decide
    · rw [if_neg h]
      intro e
      rw [e] at h
      exact h rfl
  generalize kd2 p (kd1 p K0) = K at *
  rcases K with _ | _ | _ | _ | _ | K
  · cases h
  · cases h
    exact .int hp (fun e => by have := hk (.inl e); omega) (fun e => by have := hk (.inr e); omega)
  · cases h
    exact .none hp (fun e => by have := hk (.inl e); omega) (fun e => by have := hk (.inr e); omega)
  · cases h
    exact .same hp (fun e => by have := hk (.inl e); omega) (fun e => by have := hk (.inr e); omega) (fun e => hk3 e rfl) hws hwl
  · have h' : (if p = 1 ∨ p = 2 then some (⟨nm p, wsB ws, wsS ws, true⟩ : Fld) else some ⟨nm p, .bytes (wd w1).1, .str (wd w1).2, false⟩) = some f := h
    by_cases h12 : p = 1 ∨ p = 2
    · rw [if_pos h12] at h'; cases h'; exact .texts hp h12 hws hwl
    · rw [if_neg h12] at h'; cases h'
      exact .word hp (fun e => h12 (.inl e)) (fun e => h12 (.inr e)) (wd_mem hw1)
  · cases h

structure GL (fs : List Fld) : Prop where
  gd : ∀ f ∈ fs, ∃ p, Gd p f
  nd : (fs.map (·.n)).Nodup
  len : fs.length ≤ 6
theorem plOf_inj {n0 : Int} {i j : Nat} (hi : i < 6) (hj : j < 6) (h : plOf n0 i = plOf n0 j) : i = j := by
  obtain ⟨e1, _⟩ := nat_of (i := 0 + (i : Int) + n0.fdiv 7) (m := 6) (by decide)
  obtain ⟨e2, _⟩ := nat_of (i := 0 + (j : Int) + n0.fdiv 7) (m := 6) (by decide)
  unfold plOf at h
  rw [Int.fmod_eq_emod_of_nonneg _ (by decide)] at e1 e2 h
  rw [Int.fmod_eq_emod_of_nonneg _ (by decide)] at h
  omega
theorem fields_gl (ns : List Int) : GL (fields ns) := by
  refine ⟨fun f hf => ?_, ?_, ?_⟩
  · obtain ⟨j, _, h⟩ := List.mem_filterMap.mp hf
    exact ⟨_, fldOf_gd h⟩
  · unfold fields
    have key : ∀ (l : List Nat), l.Nodup → (∀ j ∈ l, j < 6) → ((l.filterMap fun j => fldOf ((ns[0]?).getD 0) ((ns[j]?).getD 0) j).map (·.n)).Nodup := by
      intro l
      induction l with
      | nil => intro _ _; simp
      | cons j l ih =>
        intro hn hl
        rw [List.nodup_cons] at hn
        have ih' := ih hn.2 fun j hj => hl j (.tail _ hj)
        rw [List.filterMap_cons]
        split
        · exact ih'
        · rename_i f hf
          rw [List.map_cons, List.nodup_cons]
          refine ⟨fun hm => ?_, ih'⟩
          obtain ⟨g, hg, e⟩ := List.mem_map.mp hm
          obtain ⟨i, hi, hg⟩ := List.mem_filterMap.mp hg
          have g1 := (fldOf_gd hf).name
          have g2 := (fldOf_gd hg).name
          have := nm_inj g2.1 g1.1 (by rw [← g2.2, ← g1.2]; exact e)
          have := plOf_inj (hl i (.tail _ hi)) (hl j (.head _)) this
          subst this
          exact hn.1 hi
    exact key _ List.nodup_range fun j hj => by simpa using hj
  · have := List.length_filterMap_le (fun j => fldOf ((ns[0]?).getD 0) ((ns[j]?).getD 0) j) (List.range 6)
    rw [List.length_range] at this
    exact this

/-! dicts built in turn -/
theorem dset_new {kvs : List (Key × D)} {k : Key} {v : D} (h : k ∉ kvs.map (·.1)) : dset kvs k v = kvs ++ [(k, v)] := by
  unfold dset
  rw [if_neg]
  intro hh
  obtain ⟨q, hq, e⟩ := List.any_eq_true.mp hh
  exact h (by rw [← of_decide_eq_true e]; exact List.mem_map_of_mem hq)
theorem dsets_new : ∀ (ps kvs : List (Key × D)), ((kvs ++ ps).map (·.1)).Nodup → dsets kvs ps = kvs ++ ps
  | [], kvs, _ => by simp [dsets]
  | p :: ps, kvs, h => by
    rw [dsets_cons, dset_new, dsets_new]
    · simp
    · simpa using h
    · rw [List.map_append, List.nodup_append] at h
      exact fun hm => h.2.2 _ hm _ (by simp) rfl
theorem dsets_nil {ps : List (Key × D)} (h : (ps.map (·.1)).Nodup) : dsets [] ps = ps := dsets_new ps [] h

theorem keysB {fs : List Fld} (hn : (fs.map (·.n)).Nodup) (hx : ∀ f ∈ fs, f.n ∈ namesX) : ((bvs fs).map (·.1)).Nodup := by
  rw [List.map_map]
  induction fs with
  | nil => simp
  | cons f fs ih =>
    rw [List.map_cons, List.nodup_cons] at hn ⊢
    refine ⟨fun hm => hn.1 ?_, ih hn.2 fun g hg => hx g (.tail _ hg)⟩
    obtain ⟨g, hg, e⟩ := List.mem_map.mp hm
    have e2 : g.n.1 = f.n.1 := by injection e
    rw [← inj1 _ (hx g (.tail _ hg)) _ (hx f (.head _)) e2]
    exact List.mem_map_of_mem hg
theorem keysS {fs : List Fld} (g : Fld → D) (hn : (fs.map (·.n)).Nodup) (hx : ∀ f ∈ fs, f.n ∈ namesX) : ((svs g fs).map (·.1)).Nodup := by
  rw [List.map_map]
  induction fs with
  | nil => simp
  | cons f fs ih =>
    rw [List.map_cons, List.nodup_cons] at hn ⊢
    refine ⟨fun hm => hn.1 ?_, ih hn.2 fun g hg => hx g (.tail _ hg)⟩
    obtain ⟨g, hg, e⟩ := List.mem_map.mp hm
    have e2 : g.n.2 = f.n.2 := by injection e
    rw [← inj2 _ (hx g (.tail _ hg)) _ (hx f (.head _)) e2]
    exact List.mem_map_of_mem hg
theorem sibs_bvs {fs : List Fld} (hx : ∀ f ∈ fs, f.n ∈ namesX) : sibs (bvs fs) = svs Fld.value fs := by
  rw [sibs, List.map_map]
  exact List.map_congr_left fun f hf => by show (Key.s (decB f.n.1), f.value) = _; rw [decX _ (hx f hf)]
theorem sibsv_bvs {fs : List Fld} (hx : ∀ f ∈ fs, f.n ∈ namesX) : sibsv (bvs fs) = svs (fun f => sib f.value) fs := by
  rw [sibsv, List.map_map]
  exact List.map_congr_left fun f hf => by show (Key.s (decB f.n.1), sib f.value) = _; rw [decX _ (hx f hf)]
theorem okks_bvs {fs : List Fld} (hx : ∀ f ∈ fs, f.n ∈ namesX) : OkKs (bvs fs) := fun p hp => by
  obtain ⟨f, hf, rfl⟩ := List.mem_map.mp hp
  exact okX _ (hx f hf)
theorem GL.x {fs : List Fld} (h : GL fs) : ∀ f ∈ fs, f.n ∈ namesX := fun f hf => by
  obtain ⟨p, g⟩ := h.gd f hf
  rw [g.name.2]
  exact List.mem_append_left _ (nm_mem g.name.1)
theorem GL.len2 {fs : List Fld} (h : GL fs) : (bvs fs).length ≤ 6 := by simpa using h.len
theorem GL.okv {fs : List Fld} (h : GL fs) : OkVs (bvs fs) := fun p hp => by
  obtain ⟨f, hf, rfl⟩ := List.mem_map.mp hp
  obtain ⟨q, g⟩ := h.gd f hf
  cases g with
  | word _ _ _ hw => exact okW _ hw
  | _ => exact trivial
end Mine

set_option maxRecDepth 100000
set_option autoImplicit false
set_option linter.unusedVariables false
namespace Mine
open PySem PySem.W PyProof.Rows

theorem dget_mem {kvs : List (Key × D)} {x : Key} {d : D} (h : dget kvs x = some d) : (x, d) ∈ kvs := by
  unfold dget at h
  obtain ⟨q, hq, e⟩ := Option.map_eq_some_iff.mp h
  have := List.find?_some hq
  have e1 : q.1 = x := by simpa using this
  subst e1 e
  exact List.mem_of_find?_eq_some hq
theorem dget_none {kvs : List (Key × D)} {x : Key} (h : dget kvs x = none) : ∀ p ∈ kvs, p.1 ≠ x := by
  unfold dget at h
  rw [Option.map_eq_none_iff, List.find?_eq_none] at h
  intro p hp e
  exact h p hp (by simpa using e)
theorem dget_no {kvs : List (Key × D)} {x : Key} (h : ∀ p ∈ kvs, p.1 ≠ x) : dget kvs x = none := by
  unfold dget
  rw [Option.map_eq_none_iff, List.find?_eq_none]
  intro p hp e
  exact h p hp (by simpa using e)
theorem nodup_val {kvs : List (Key × D)} (hn : (kvs.map (·.1)).Nodup) {x : Key} {d e : D} (h1 : (x, d) ∈ kvs) (h2 : (x, e) ∈ kvs) : d = e := by
  induction kvs with
  | nil => cases h1
  | cons p kvs ih =>
    rw [List.map_cons, List.nodup_cons] at hn
    cases h1 with
    | head =>
      cases h2 with
      | head => rfl
      | tail _ h2 => exact absurd (List.mem_map_of_mem (f := (·.1)) h2) hn.1
    | tail _ h1 =>
      cases h2 with
      | head => exact absurd (List.mem_map_of_mem (f := (·.1)) h1) hn.1
      | tail _ h2 => exact ih hn.2 h1 h2
theorem trk_map {f : D → D} {kvs : List (Key × D)} {x : Key} (hn : (kvs.map (·.1)).Nodup) : trk f kvs x = kvs.map fun p => if p.1 = x then (p.1, lmap f p.2) else p := by
  unfold trk
  cases h : dget kvs x with
  | none =>
    show kvs = _
    conv => lhs; rw [← List.map_id kvs]
    exact List.map_congr_left fun p hp => by rw [if_neg (dget_none h p hp)]; rfl
  | some d =>
    have hm := dget_mem h
    show dset kvs x (lmap f d) = _
    unfold dset
    rw [if_pos (List.any_eq_true.mpr ⟨_, hm, by simp⟩)]
    refine List.map_congr_left fun p hp => ?_
    by_cases e : p.1 = x
    · rw [if_pos e, if_pos e]
      obtain ⟨a, b⟩ := p
      simp only at e
      subst e
      rw [nodup_val hn hp hm]
    · rw [if_neg e, if_neg e]

/-! what is tracked -/
def trv (f : Fld) : D := if f.n.2 = "flags" ∨ f.n.2 = "prefixes" then f.text else f.value
theorem trk_svs {h : D → D} {g : Fld → D} {fs : List Fld} {y : Str} (hn : ((svs g fs).map (·.1)).Nodup) : trk h (svs g fs) (.s y) = svs (fun f => if f.n.2 = y then lmap h (g f) else g f) fs := by
  rw [trk_map hn, List.map_map]
  refine List.map_congr_left fun f hf => ?_
  show (if Key.s f.n.2 = Key.s y then (Key.s f.n.2, lmap h (g f)) else (Key.s f.n.2, g f)) = (Key.s f.n.2, if f.n.2 = y then lmap h (g f) else g f)
  by_cases e : f.n.2 = y
  · rw [if_pos (by rw [e]), if_pos e]
  · rw [if_neg (fun q => e (by injection q)), if_neg e]
theorem nm_flags {p : Nat} (h : p < 6) : ((nm p).2 = "flags" ↔ p = 1) ∧ ((nm p).2 = "prefixes" ↔ p = 2) ∧ ((nm p).2 = "functions" ↔ False) ∧ (isDb (nm p).2 = true ↔ p = 3) ∧ ((nm p).1 ≠ bF) := by
  rcases p with _ | _ | _ | _ | _ | _ | p <;> first | decide | omega
theorem lmap_ws {ws : List (List UInt8 × Str)} (h : ∀ w ∈ ws, w ∈ wordsL) : lmap sib (wsB ws) = wsS ws := by
  show D.list _ = _
  rw [List.map_map]
  congr 1
  exact List.map_congr_left fun w hw => by show D.str (decB w.1) = _; rw [decW _ (h w hw)]
theorem trkD_eq {fs : List Fld} (h : GL fs) : trkD (svs Fld.value fs) = .dict (svs trv fs) := by
  unfold trkD
  rw [trk_svs (keysS _ h.nd h.x), trk_svs (keysS _ h.nd h.x)]
  congr 1
  refine List.map_congr_left fun f hf => ?_
  congr 1
  obtain ⟨p, g⟩ := h.gd f hf
  have hp := nm_flags g.name.1
  have hnm := g.name.2
  show (if f.n.2 = ("prefixes" : Str) then lmap sib (if f.n.2 = ("flags" : Str) then lmap sib f.value else f.value) else (if f.n.2 = ("flags" : Str) then lmap sib f.value else f.value)) = trv f
  unfold trv
  rw [hnm]
  by_cases h1 : p = 1
  · subst h1
    cases g with
    | texts _ h12 hw _ => exact lmap_ws hw
    | int _ a b => exact absurd rfl a
    | none _ a b => exact absurd rfl a
    | same _ a b _ _ _ => exact absurd rfl a
    | word _ a b _ => exact absurd rfl a
  · by_cases h2 : p = 2
    · subst h2
      cases g with
      | texts _ h12 hw _ => exact lmap_ws hw
      | int _ a b => exact absurd rfl b
      | none _ a b => exact absurd rfl b
      | same _ a b _ _ _ => exact absurd rfl b
      | word _ a b _ => exact absurd rfl b
    · rw [if_neg (fun e => h2 (hp.2.1.mp e)), if_neg (fun e => h1 (hp.1.mp e)), if_neg (fun e => e.elim (fun e => h1 (hp.1.mp e)) fun e => h2 (hp.2.1.mp e))]
theorem ws_of {fs : List Fld} (h : GL fs) {f : Fld} (hf : f ∈ fs) (hn : f.n.2 = "flags" ∨ f.n.2 = "prefixes") : ∃ ws, f.value = .list ws ∧ (∀ w ∈ ws, OkB w) ∧ ws.length ≤ 100 := by
  obtain ⟨p, g⟩ := h.gd f hf
  have hp := nm_flags g.name.1
  have hnm := g.name.2
  rw [hnm, hp.1, hp.2.1] at hn
  cases g with
  | texts _ _ hw hl =>
    refine ⟨_, rfl, fun w hw' => ?_, by simp; omega⟩
    obtain ⟨x, hx, rfl⟩ := List.mem_map.mp hw'
    exact okW _ (hw x hx)
  | int _ a b => exact (hn.elim a b).elim
  | none _ a b => exact (hn.elim a b).elim
  | same _ a b _ _ _ => exact (hn.elim a b).elim
  | word _ a b _ => exact (hn.elim a b).elim
theorem ws1 {fs : List Fld} (h : GL fs) : WsOk (svs Fld.value fs) (.s "flags") := fun d hd => by
  obtain ⟨f, hf, e⟩ := List.mem_map.mp (dget_mem hd)
  injection e with e1 e2
  injection e1 with e1
  subst e2
  exact ws_of h hf (.inl e1)
theorem ws2 {fs : List Fld} (h : GL fs) : WsOk (trk sib (svs Fld.value fs) (.s "flags")) (.s "prefixes") := fun d hd => by
  rw [trk_svs (keysS _ h.nd h.x)] at hd
  obtain ⟨f, hf, e⟩ := List.mem_map.mp (dget_mem hd)
  injection e with e1 e2
  injection e1 with e1
  have e2 : (if f.n.2 = ("flags" : Str) then lmap sib f.value else f.value) = d := e2
  rw [if_neg (by rw [e1]; decide)] at e2
  subst e2
  exact ws_of h hf (.inr e1)

/-! memory -/
def txv (f : Fld) : D := if f.many then f.value else f.text
theorem sib_txv {fs : List Fld} (h : GL fs) : ∀ f ∈ fs, sib f.value = txv f := fun f hf => by
  obtain ⟨p, g⟩ := h.gd f hf
  cases g with
  | word _ _ _ hw => show D.str (decB _) = _; rw [decW _ hw]; rfl
  | _ => rfl
theorem memK_svs {g : D → D} {T : String} {v : Fld → D} {fs : List Fld} (h : ∀ f ∈ fs, isDb f.n.2 = true → isiD (v f) T = false) : memK g T (svs v fs) = svs v fs := by
  rw [memK, List.map_map]
  refine List.map_congr_left fun f hf => ?_
  show (Key.s f.n.2, if (isDb f.n.2 && isiD (v f) T) = true then _ else _) = _
  rw [if_neg]
  intro e
  rw [Bool.and_eq_true] at e
  rw [h f hf e.1] at e
  cases e.2
theorem db_list {fs : List Fld} (h : GL fs) : ∀ f ∈ fs, isDb f.n.2 = true → isiD f.value "list" = false := fun f hf hd => by
  obtain ⟨p, g⟩ := h.gd f hf
  have hp := nm_flags g.name.1
  rw [g.name.2, hp.2.2.2.1] at hd
  cases g with
  | texts _ h12 _ _ => omega
  | same _ _ _ h3 _ _ => exact absurd hd h3
  | _ => rfl
theorem db_sib {fs : List Fld} (h : GL fs) : ∀ f ∈ fs, isDb f.n.2 = true → isiD (sib f.value) "list" = false := fun f hf hd => by
  have := db_list h f hf hd
  cases hv : f.value <;> rw [hv] at this <;> first | rfl | exact this
theorem no_dict {fs : List Fld} (h : GL fs) : ∀ f ∈ fs, isiD f.value "dict" = false := fun f hf => by
  obtain ⟨p, g⟩ := h.gd f hf
  cases g <;> rfl
def F (fs : List Fld) : D := .list (row (bvs fs))
def m0 (d : D) : Fld := ⟨X0, d, d, true⟩
def m1 (d : D) : Fld := ⟨X1, d, d, true⟩
def mF (d : D) : Fld := ⟨XF, d, d, true⟩
theorem GL.notX {fs : List Fld} (h : GL fs) : ∀ f ∈ fs, f.n ≠ X0 ∧ f.n ≠ X1 ∧ f.n ≠ XF := fun f hf => by
  obtain ⟨p, g⟩ := h.gd f hf
  rw [g.name.2]
  have := nm_mem g.name.1
  have key : ∀ a ∈ namesL, a ≠ X0 ∧ a ≠ X1 ∧ a ≠ XF := by decide
  exact key _ this
theorem GL.memX {fs : List Fld} (h : GL fs) (d e : D) : ∀ f ∈ fs ++ [m0 d, m1 e], f.n ∈ namesX := fun f hf => by
  rcases List.mem_append.mp hf with hf | hf
  · exact h.x f hf
  · simp only [List.mem_cons, List.not_mem_nil, or_false] at hf
    rcases hf with rfl | rfl
    · show X0 ∈ namesX; decide
    · show X1 ∈ namesX; decide
theorem GL.memN {fs : List Fld} (h : GL fs) (d e : D) : ((fs ++ [m0 d, m1 e]).map (·.n)).Nodup := by
  rw [List.map_append, List.nodup_append]
  refine ⟨h.nd, ?_, fun a ha b hb e => ?_⟩
  · show [X0, X1].Nodup; decide
  · obtain ⟨f, hf, rfl⟩ := List.mem_map.mp ha
    have hb' : b = X0 ∨ b = X1 := by simpa [m0, m1] using hb
    rcases hb' with rfl | rfl
    · exact (h.notX f hf).1 e
    · exact (h.notX f hf).2.1 e
theorem GL.libX {fs : List Fld} (h : GL fs) (d : D) : ∀ f ∈ fs ++ [mF d], f.n ∈ namesX := fun f hf => by
  rcases List.mem_append.mp hf with hf | hf
  · exact h.x f hf
  · simp only [List.mem_cons, List.not_mem_nil, or_false] at hf
    subst hf
    show XF ∈ namesX; decide
theorem GL.libN {fs : List Fld} (h : GL fs) (d : D) : ((fs ++ [mF d]).map (·.n)).Nodup := by
  rw [List.map_append, List.nodup_append]
  refine ⟨h.nd, by simp, fun a ha b hb e => ?_⟩
  obtain ⟨f, hf, rfl⟩ := List.mem_map.mp ha
  have hb' : b = XF := by simpa [mF] using hb
  subst hb'
  exact (h.notX f hf).2.2 e

/-! a map read from a row, or from a map -/
theorem rd_row {fs : List Fld} (h : GL fs) : rdD (F fs) = .dict (svs Fld.value fs) := by
  show rdD (.list (row (bvs fs))) = _
  rw [rdD_row, sibs_bvs h.x, dsets_nil (keysS _ h.nd h.x)]
theorem rd_map {fs : List Fld} (h : GL fs) : rdD (.dict (bvs fs)) = .dict (svs Fld.value fs) := by
  show D.dict (dsets [] (sibs (bvs fs))) = _
  rw [sibs_bvs h.x, dsets_nil (keysS _ h.nd h.x)]
theorem fl_map (fs : List Fld) : flD (.dict (bvs fs)) = F fs := rfl

/-! what is read plainly -/
def plB (f : Fld) : Bool := !f.many && !isiD f.value "int"
theorem plain_sib {fs : List Fld} (h : GL fs) : ∀ f ∈ fs.filter plB, sib f.value = f.text := fun f hf => by
  rw [List.mem_filter] at hf
  have h1 := sib_txv h f hf.1
  have h2 : f.many = false := by
    have := hf.2
    unfold plB at this
    rw [Bool.and_eq_true] at this
    simpa using this.1
  rw [h1]
  unfold txv
  rw [h2]
  rfl
theorem GL.filter {fs : List Fld} (h : GL fs) (b : Fld → Bool) : GL (fs.filter b) :=
  ⟨fun f hf => h.gd f (List.mem_filter.mp hf).1, List.Sublist.nodup (List.Sublist.map _ List.filter_sublist) h.nd, Nat.le_trans (List.length_filter_le _ _) h.len⟩
theorem cfg_eq {fs : List Fld} (h : GL fs) : cfgD (bvs (fs.filter plB)) = .dict (svs Fld.text (fs.filter plB)) := by
  have h2 := h.filter plB
  unfold cfgD
  rw [sibsv_bvs h2.x, dsets_nil (keysS _ h2.nd h2.x)]
  congr 1
  exact List.map_congr_left fun f hf => by show (Key.s f.n.2, sib f.value) = _; rw [plain_sib h f hf]
end Mine

set_option maxRecDepth 100000
set_option autoImplicit false
set_option linter.unusedVariables false
namespace Mine
open PySem PySem.W PyProof.Rows

def B (fs : List Fld) : D := .dict (bvs fs)
def N (fs : List Fld) : D := .dict (svs Fld.value fs)
def Mem (a b : List Fld) : List Fld := a ++ [m0 (F b), m1 (F b)]
def Lib2 (a b : List Fld) : List Fld := a ++ [mF (.list [F a, F b])]
def Hd (a b : List Fld) : D := .dict (bvs a ++ [(.b bF, .list [B a, B b])])
def Near (a b : List Fld) : D := .dict (bvs a ++ [(.b X0.1, B b), (.b X1.1, F b)])

section
variable {C : Cx} {a b : List Fld}

theorem mem2 {P : D → Prop} {x y : D} (h1 : P x) (h2 : P y) : ∀ d ∈ [x, y], P d := fun d hd => by
  simp only [List.mem_cons, List.not_mem_nil, or_false] at hd
  rcases hd with rfl | rfl
  · exact h1
  · exact h2
theorem GL.le (h : GL a) {n : Nat} (hn : 6 ≤ n) : (bvs a).length ≤ n := by have := h.len2; omega

theorem L15 (o : Ok C) (ha : GL a) (hb : GL b) : Fn C 20 (.ref (o.f 15)) [.list [F a, F b]] [] (dat C (.list [N a, N b])) := by
  have h := Fn15 o (ds := [F a, F b]) (mem2 (P := fun d => ∃ kvs, d = .list (row kvs) ∧ OkKs kvs ∧ kvs.length ≤ 100) ⟨bvs a, rfl, okks_bvs ha.x, ha.le (by decide)⟩ ⟨bvs b, rfl, okks_bvs hb.x, hb.le (by decide)⟩) (by simp)
  rw [List.map_cons, List.map_cons, List.map_nil, rd_row ha, rd_row hb] at h
  exact h
theorem L6 (o : Ok C) (ha : GL a) (hb : GL b) : Fn C 20 (.ref (o.f 6)) [.list [B a, B b]] [] (dat C (.list [N a, N b])) := by
  have h := Fn6 o (ds := [B a, B b]) (mem2 (P := fun d => ∃ kvs, d = .dict kvs ∧ OkKs kvs ∧ kvs.length ≤ 100) ⟨bvs a, rfl, okks_bvs ha.x, ha.le (by decide)⟩ ⟨bvs b, rfl, okks_bvs hb.x, hb.le (by decide)⟩) (by simp)
  rw [List.map_cons, List.map_cons, List.map_nil, B, B, rd_map ha, rd_map hb] at h
  exact h
theorem L22f (o : Ok C) (ha : GL a) (hb : GL b) : Fn C 20 (.ref (o.f 22)) [.list [F a, F b]] [] (dat C (.list [N a, N b])) := by
  have h := Fn22 o (ds := [F a, F b]) (mem2 (.row _ (okks_bvs ha.x) (ha.le (by decide))) (.row _ (okks_bvs hb.x) (hb.le (by decide)))) (by simp)
  rw [List.map_cons, List.map_cons, List.map_nil, rd_row ha, rd_row hb] at h
  exact h
theorem L22m (o : Ok C) (ha : GL a) (hb : GL b) : Fn C 20 (.ref (o.f 22)) [.list [B a, B b]] [] (dat C (.list [N a, N b])) := by
  have h := Fn22 o (ds := [B a, B b]) (mem2 (.map _ (okks_bvs ha.x) (ha.le (by decide))) (.map _ (okks_bvs hb.x) (hb.le (by decide)))) (by simp)
  rw [List.map_cons, List.map_cons, List.map_nil, B, B, rd_map ha, rd_map hb] at h
  exact h
theorem L23m (o : Ok C) (ha : GL a) (hb : GL b) : Fn C 20 (.ref (o.f 23)) [.list [B a, B b]] [] (dat C (.list [F a, F b])) :=
  Fn23 o (ds := [B a, B b]) (mem2 (.inl ⟨_, rfl, ha.le (by decide)⟩) (.inl ⟨_, rfl, hb.le (by decide)⟩)) (by simp)
theorem L23f (o : Ok C) (ha : GL a) (hb : GL b) : Fn C 20 (.ref (o.f 23)) [.list [F a, F b]] [] (dat C (.list [F a, F b])) :=
  Fn23 o (ds := [F a, F b]) (mem2 (.inr ⟨_, rfl⟩) (.inr ⟨_, rfl⟩)) (by simp)
theorem L10f (o : Ok C) (ha : GL a) : Fn C 13 (.ref (o.f 10)) [F a] [] (dat C (N a)) := by
  have h := Fn10l o (okks_bvs ha.x) (ha.le (n := 100) (by decide))
  have e := rd_row ha
  unfold F at e
  rw [e] at h
  exact h
theorem L10m (o : Ok C) (ha : GL a) : Fn C 13 (.ref (o.f 10)) [B a] [] (dat C (N a)) := by
  have h := Fn10d o (okks_bvs ha.x) (ha.le (n := 100) (by decide))
  rw [rd_map ha] at h
  exact h
theorem L11 (o : Ok C) (ha : GL a) : Fn C 13 (.ref (o.f 11)) [B a] [] (dat C (F a)) := Fn11 o (ha.le (by decide))
theorem L16l (o : Ok C) (ha : GL a) : Fn C 13 (.ref (o.f 16)) [F a] [] (dat C (N a)) := by
  have h := Fn16l o (okks_bvs ha.x) (ha.le (n := 100) (by decide))
  rw [← rdD_row] at h
  have e := rd_row ha
  unfold F at e
  rw [e] at h
  exact h
theorem L16d (o : Ok C) (ha : GL a) : Fn C 13 (.ref (o.f 16)) [B a] [] (dat C (N a)) := by
  have h := Fn16d o (okks_bvs ha.x) (ha.le (n := 100) (by decide))
  have e : D.dict (dsets [] (sibs (bvs a))) = .dict (svs Fld.value a) := rd_map ha
  rw [e] at h
  exact h
theorem sN (ha : GL a) : dsets [] (sibs (bvs a)) = svs Fld.value a := by rw [sibs_bvs ha.x, dsets_nil (keysS _ ha.nd ha.x)]
theorem L12l (o : Ok C) (ha : GL a) : Fn C 13 (.ref (o.f 12)) [F a] [] (dat C (.dict (svs trv a))) := by
  have h := Fn12l o (okks_bvs ha.x) (ha.le (n := 99) (by decide)) (by rw [sN ha]; exact ws1 ha) (by rw [sN ha]; exact ws2 ha)
  rw [sN ha, trkD_eq ha] at h
  exact h
theorem L12d (o : Ok C) (ha : GL a) : Fn C 13 (.ref (o.f 12)) [B a] [] (dat C (.dict (svs trv a))) := by
  have h := Fn12d o (okks_bvs ha.x) (ha.le (n := 99) (by decide)) (by rw [sN ha]; exact ws1 ha) (by rw [sN ha]; exact ws2 ha)
  rw [sN ha, trkD_eq ha] at h
  exact h
theorem L13 (o : Ok C) (ha : GL a) : Fn C 13 (.ref (o.f 13)) [B a] [] (dat C (.list (row (svs Fld.value a)))) := by
  have h := Fn13 o (okks_bvs ha.x) (ha.le (n := 100) (by decide))
  rw [sibs_bvs ha.x] at h
  exact h
theorem L19 (o : Ok C) (ha : GL a) : Fn C 13 (.ref (o.f 19)) [F a] [] (dat C (.list ((bvs a).map kvD))) := Fn19 o (ha.le (by decide))
theorem L8n (o : Ok C) (ha : GL a) : Fn C 13 (.ref (o.f 8)) [F a] [] (dat C (F a)) := Fn8n o (ha.le (by decide))
theorem L8w (o : Ok C) (ha : GL a) : Fn C 13 (.ref (o.f 8)) [F a] [("withvalues", .bool true)] (dat C (.list ((bvs a).map cellD))) := Fn8w o (fun p hp => by obtain ⟨f, _, rfl⟩ := List.mem_map.mp hp; exact ⟨_, rfl⟩) (ha.le (by decide))
theorem L9 (o : Ok C) (ha : GL a) : Fn C 13 (.ref (o.f 9)) [.list ((bvs a).map cellD)] [("withvalues", .bool true)] (dat C (F a)) := Fn9 o (ha.le (by decide))
theorem L17 (o : Ok C) (ha : GL a) : Fn C 13 (.ref (o.f 17)) [F (a.filter plB)] [] (dat C (.dict (svs Fld.text (a.filter plB)))) := by
  have h2 := ha.filter plB
  have h := Fn17 o (okks_bvs h2.x) h2.okv (h2.le (n := 100) (by decide))
  rw [cfg_eq ha] at h
  exact h
theorem L18 (o : Ok C) (ha : GL a) : Fn C 13 (.ref (o.f 18)) [B (a.filter plB)] [] (dat C (.dict (svs Fld.text (a.filter plB)))) := by
  have h2 := ha.filter plB
  have h := Fn18 o (okks_bvs h2.x) h2.okv (h2.le (n := 100) (by decide))
  rw [cfg_eq ha] at h
  exact h

/-! memory -/
theorem svs_mem (g : Fld → D) (b : List Fld) : svs g (Mem a b) = svs g a ++ [(.s X0.2, g (m0 (F b))), (.s X1.2, g (m1 (F b)))] := by simp [svs, Mem, m0, m1]
theorem all_s (g : Fld → D) (fs : List Fld) : ∀ q ∈ svs g fs, ∃ y, q.1 = Key.s y := fun q hq => by
  obtain ⟨f, _, rfl⟩ := List.mem_map.mp hq
  exact ⟨_, rfl⟩
theorem memK_app (g : D → D) (T : String) (x y : List (Key × D)) : memK g T (x ++ y) = memK g T x ++ memK g T y := by simp [memK]
theorem isDb0 : isDb X0.2 = true := by decide
theorem isDb1 : isDb X1.2 = false := by decide
theorem memK_two (g : D → D) (T : String) (x y : D) : memK g T [(.s X0.2, x), (.s X1.2, y)] = [(.s X0.2, if isiD x T = true then g x else x), (.s X1.2, y)] := by
  show [(Key.s X0.2, if (isDb X0.2 && isiD x T) = true then g x else x), (Key.s X1.2, if (isDb X1.2 && isiD y T) = true then g y else y)] = _
  rw [isDb0, isDb1]
  simp
theorem Mem_x (ha : GL a) : ∀ f ∈ Mem a b, f.n ∈ namesX := ha.memX _ _
theorem Mem_n (ha : GL a) : ((Mem a b).map (·.n)).Nodup := ha.memN _ _
theorem Mem_l (ha : GL a) : (bvs (Mem a b)).length ≤ 100 := by have := ha.len; simp [Mem]; omega
theorem L4 (o : Ok C) (ha : GL a) (hb : GL b) : Fn C 13 (.ref (o.f 4)) [F (Mem a b)] [] (dat C (.dict (svs Fld.value a ++ [(.s X0.2, N b), (.s X1.2, F b)]))) := by
  have e1 : dsets [] (sibs (bvs (Mem a b))) = svs Fld.value (Mem a b) := by rw [sibs_bvs (Mem_x ha), dsets_nil (keysS _ (Mem_n ha) (Mem_x ha))]
  have h := Fn4 o (kvs := bvs (Mem a b)) (okks_bvs (Mem_x ha)) (Mem_l ha) (by rw [e1]; exact keysS _ (Mem_n ha) (Mem_x ha)) (by rw [e1]; exact all_s _ _) (by
    rw [e1]
    intro q hq y hy hd hi
    obtain ⟨f, hf, rfl⟩ := List.mem_map.mp hq
    injection hy with hy
    subst hy
    rcases List.mem_append.mp hf with hf | hf
    · exact absurd hi (by show ¬ isiD f.value "list" = true; rw [db_list ha f hf hd]; decide)
    · simp only [List.mem_cons, List.not_mem_nil, or_false] at hf
      rcases hf with rfl | rfl
      · exact ⟨bvs b, rfl, okks_bvs hb.x, hb.le (by decide)⟩
      · exact absurd hd (by show ¬ isDb X1.2 = true; rw [isDb1]; decide))
  rw [e1, svs_mem, memK_app, memK_svs (db_list ha), memK_two] at h
  have e2 : (if isiD (m0 (F b)).value "list" = true then rdD (m0 (F b)).value else (m0 (F b)).value) = N b := rd_row hb
  rw [e2] at h
  exact h
theorem L3 (o : Ok C) (ha : GL a) (hb : GL b) : Fn C 13 (.ref (o.f 3)) [F (Mem a b)] [] (dat C (.dict (svs txv a ++ [(.s X0.2, .dict (svs txv b)), (.s X1.2, F b)]))) := by
  have e0 : ∀ fs, GL fs → svs (fun f => sib f.value) fs = svs txv fs := fun fs h => List.map_congr_left fun f hf => by show (Key.s f.n.2, sib f.value) = _; rw [sib_txv h f hf]
  have e1 : dsets [] (sibsv (bvs (Mem a b))) = svs (fun f => sib f.value) (Mem a b) := by rw [sibsv_bvs (Mem_x ha), dsets_nil (keysS _ (Mem_n ha) (Mem_x ha))]
  have hv : OkVs (bvs (Mem a b)) := fun p hp => by
    obtain ⟨f, hf, rfl⟩ := List.mem_map.mp hp
    rcases List.mem_append.mp hf with hf | hf
    · exact ha.okv _ (List.mem_map_of_mem (f := fun f : Fld => (Key.b f.n.1, f.value)) hf)
    · simp only [List.mem_cons, List.not_mem_nil, or_false] at hf
      rcases hf with rfl | rfl <;> trivial
  have h := Fn3 o (kvs := bvs (Mem a b)) (okks_bvs (Mem_x ha)) hv (Mem_l ha) (by rw [e1]; exact keysS _ (Mem_n ha) (Mem_x ha)) (by rw [e1]; exact all_s _ _) (by
    rw [e1]
    intro q hq y hy hd hi
    obtain ⟨f, hf, rfl⟩ := List.mem_map.mp hq
    injection hy with hy
    subst hy
    rcases List.mem_append.mp hf with hf | hf
    · exact absurd hi (by show ¬ isiD (sib f.value) "list" = true; rw [db_sib ha f hf hd]; decide)
    · simp only [List.mem_cons, List.not_mem_nil, or_false] at hf
      rcases hf with rfl | rfl
      · exact ⟨bvs b, rfl, okks_bvs hb.x, hb.okv, hb.le (by decide)⟩
      · exact absurd hd (by show ¬ isDb X1.2 = true; rw [isDb1]; decide))
  rw [e1, svs_mem, memK_app, memK_svs (db_sib ha), memK_two, e0 a ha] at h
  have e2 : (if isiD (sib (m0 (F b)).value) "list" = true then rdv (sib (m0 (F b)).value) else (sib (m0 (F b)).value)) = .dict (svs txv b) := by
    show rdv (.list (row (bvs b))) = _
    rw [rdv_row, sibsv_bvs hb.x, dsets_nil (keysS _ hb.nd hb.x), e0 b hb]
  rw [e2] at h
  exact h
theorem L5 (o : Ok C) (ha : GL a) (hb : GL b) : Fn C 13 (.ref (o.f 5)) [Near a b] [] (dat C (.dict (svs Fld.value a ++ [(.s X0.2, N b), (.s X1.2, F b)]))) := by
  have hs : sibs (bvs a ++ [(.b X0.1, B b), (.b X1.1, F b)]) = svs Fld.value a ++ [(.s X0.2, B b), (.s X1.2, F b)] := by
    rw [sibs, List.map_append]
    have := sibs_bvs ha.x
    unfold sibs at this
    rw [this]
    rfl
  have hn : ((svs Fld.value a ++ [(Key.s X0.2, B b), (Key.s X1.2, F b)]).map (·.1)).Nodup := by
    have := keysS Fld.value (Mem_n ha (b := b)) (Mem_x ha)
    rw [svs_mem] at this
    simpa using this
  have e1 : dsets [] (sibs (bvs a ++ [(.b X0.1, B b), (.b X1.1, F b)])) = svs Fld.value a ++ [(.s X0.2, B b), (.s X1.2, F b)] := by rw [hs, dsets_nil hn]
  have h := Fn5 o (kvs := bvs a ++ [(.b X0.1, B b), (.b X1.1, F b)]) (fun p hp => by
    rcases List.mem_append.mp hp with hp | hp
    · exact okks_bvs ha.x p hp
    · simp only [List.mem_cons, List.not_mem_nil, or_false] at hp
      rcases hp with rfl | rfl
      · show X0.1 ∈ _; decide
      · show X1.1 ∈ _; decide) (by have := ha.len; simp; omega) (by rw [e1]; exact hn) (by
    rw [e1]
    intro q hq
    rcases List.mem_append.mp hq with hq | hq
    · exact all_s _ _ q hq
    · simp only [List.mem_cons, List.not_mem_nil, or_false] at hq
      rcases hq with rfl | rfl <;> exact ⟨_, rfl⟩) (by
    rw [e1]
    intro q hq y hy hd hi
    rcases List.mem_append.mp hq with hq | hq
    · obtain ⟨f, hf, rfl⟩ := List.mem_map.mp hq
      exact absurd hi (by show ¬ isiD f.value "dict" = true; rw [no_dict ha f hf]; decide)
    · simp only [List.mem_cons, List.not_mem_nil, or_false] at hq
      rcases hq with rfl | rfl
      · exact ⟨bvs b, rfl, okks_bvs hb.x, hb.le (by decide)⟩
      · cases hi)
  rw [e1, memK_app, memK_svs (fun f hf _ => no_dict ha f hf), memK_two] at h
  have e2 : (if isiD (B b) "dict" = true then rdD (B b) else B b) = N b := rd_map hb
  rw [e2] at h
  exact h

/-! libraries of functions -/
theorem Lib_x (ha : GL a) : ∀ f ∈ Lib2 a b, f.n ∈ namesX := ha.libX _
theorem Lib_n (ha : GL a) : ((Lib2 a b).map (·.n)).Nodup := ha.libN _
theorem bvs_lib : bvs (Lib2 a b) = bvs a ++ [(.b bF, .list [F a, F b])] := by simp [bvs, Lib2, mF]
theorem dB (ha : GL a) : dsets [] (bvs a) = bvs a := dsets_nil (keysB ha.nd ha.x)
theorem dL (ha : GL a) : dsets [] (bvs (Lib2 a b)) = bvs (Lib2 a b) := dsets_nil (keysB (Lib_n ha) (Lib_x ha))
theorem noF (ha : GL a) : ∀ p ∈ bvs a, p.1 ≠ .b bF := fun p hp e => by
  obtain ⟨f, hf, rfl⟩ := List.mem_map.mp hp
  injection e with e
  obtain ⟨q, g⟩ := ha.gd f hf
  rw [g.name.2] at e
  exact (nm_flags g.name.1).2.2.2.2 e
theorem noS (fs : List Fld) (y : Str) : ∀ p ∈ bvs fs, p.1 ≠ .s y := fun p hp e => by
  obtain ⟨f, hf, rfl⟩ := List.mem_map.mp hp
  cases e
theorem fl1_F (ha : GL a) : fl1 (F a) = B a := by
  show fl1 (.list (row (bvs a))) = _
  rw [fl1_row, dB ha]; rfl
theorem trk_no (ha : GL a) : trk fl1 (bvs a) (.b bF) = bvs a := by
  unfold trk
  rw [dget_no (noF ha)]
theorem fluF (ha : GL a) : fluD (F a) = B a := by
  show fluD (.list (row (bvs a))) = _
  rw [fluD_row, dB ha, trk_no ha]; rfl
theorem fluL (ha : GL a) (hb : GL b) : fluD (F (Lib2 a b)) = Hd a b := by
  show fluD (.list (row (bvs (Lib2 a b)))) = _
  rw [fluD_row, dL ha, trk_map (keysB (Lib_n ha) (Lib_x ha)), bvs_lib, List.map_append]
  have e1 : (bvs a).map (fun p => if p.1 = Key.b bF then (p.1, lmap fl1 p.2) else p) = bvs a := by
    conv => rhs; rw [← List.map_id (bvs a)]
    exact List.map_congr_left fun p hp => by rw [if_neg (noF ha p hp)]; rfl
  rw [e1]
  show D.dict (bvs a ++ [(Key.b bF, D.list [fl1 (F a), fl1 (F b)])]) = _
  rw [fl1_F ha, fl1_F hb]
  rfl
theorem Lib_F (ha : GL a) : Lib (F a) := .row _ (ha.le (by decide)) (by rw [dB ha]; exact dget_no (noS _ _)) fun d hd => by
  rw [dB ha, dget_no (noF ha)] at hd
  cases hd
theorem Lib_L (ha : GL a) (hb : GL b) : Lib (F (Lib2 a b)) := .row _ (by have := ha.len; rw [bvs_lib]; simp; omega) (by rw [dL ha]; exact dget_no (noS _ _)) fun d hd => by
  rw [dL ha] at hd
  have h1 := dget_mem hd
  have h2 : (Key.b bF, D.list [F a, F b]) ∈ bvs (Lib2 a b) := by rw [bvs_lib]; simp
  have := nodup_val (keysB (Lib_n ha) (Lib_x ha)) h1 h2
  subst this
  exact ⟨_, rfl, by simp, mem2 (.inr ⟨_, rfl, ha.le (by decide)⟩) (.inr ⟨_, rfl, hb.le (by decide)⟩)⟩
theorem L20a (o : Ok C) (ha : GL a) (hb : GL b) : Fn C 20 (.ref (o.f 20)) [.list [F (Lib2 a b), F b]] [] (dat C (.list [Hd a b, B b])) := by
  have h := Fn20 o (ds := [F (Lib2 a b), F b]) (mem2 (Lib_L ha hb) (Lib_F hb)) (by simp)
  rw [List.map_cons, List.map_cons, List.map_nil, fluL ha hb, fluF hb] at h
  exact h
theorem L20b (o : Ok C) (ha : GL a) (hb : GL b) : Fn C 20 (.ref (o.f 20)) [.list [Hd a b, B b]] [] (dat C (.list [Hd a b, B b])) :=
  Fn20 o (ds := [Hd a b, B b]) (mem2 (.map _) (.map _)) (by simp)
theorem isF_no (ha : GL a) : ∀ p ∈ bvs a, isF p.1 = false := fun p hp => by
  unfold isF
  rw [decide_eq_false (noF ha p hp), decide_eq_false (noS a "functions" p hp)]; rfl
theorem fKv_no (ha : GL a) : (bvs a).map fKv = bvs a := by
  conv => rhs; rw [← List.map_id (bvs a)]
  exact List.map_congr_left fun p hp => by unfold fKv; rw [isF_no ha p hp]; rfl
theorem L21 (o : Ok C) (ha : GL a) (hb : GL b) : Fn C 20 (.ref (o.f 21)) [.list [Hd a b, B b]] [] (dat C (.list [F (Lib2 a b), F b])) := by
  have h := Fn21 o (ds := [Hd a b, B b]) (mem2 (P := fun d => ∃ kvs, d = .dict kvs ∧ kvs.length ≤ 100 ∧ ∀ p ∈ kvs, isF p.1 = true → ∃ fs, p.2 = .list fs ∧ fs.length ≤ 100 ∧ ∀ f ∈ fs, (∃ r, f = .dict r ∧ r.length ≤ 100) ∨ ∃ xs, f = .list xs) ⟨_, rfl, by have := ha.len; simp; omega, fun p hp hi => by
      rcases List.mem_append.mp hp with hp | hp
      · rw [isF_no ha p hp] at hi; cases hi
      · simp only [List.mem_cons, List.not_mem_nil, or_false] at hp
        subst hp
        exact ⟨_, rfl, by simp, mem2 (.inl ⟨_, rfl, ha.le (by decide)⟩) (.inl ⟨_, rfl, hb.le (by decide)⟩)⟩⟩
    ⟨_, rfl, hb.le (by decide), fun p hp hi => by rw [isF_no hb p hp] at hi; cases hi⟩) (by simp)
  rw [List.map_cons, List.map_cons, List.map_nil] at h
  have e1 : fllD (Hd a b) = F (Lib2 a b) := by
    show D.list (row ((bvs a ++ [(Key.b bF, D.list [B a, B b])]).map fKv)) = _
    rw [List.map_append, fKv_no ha]
    show _ = D.list (row (bvs (Lib2 a b)))
    rw [bvs_lib]
    rfl
  have e2 : fllD (B b) = F b := by
    show D.list (row ((bvs b).map fKv)) = _
    rw [fKv_no hb]
    rfl
  rw [e1, e2] at h
  exact h
end
end Mine

set_option maxRecDepth 100000
set_option autoImplicit false
set_option linter.unusedVariables false
namespace Mine
open PySem PySem.W PyProof.Rows

/-! how deep -/
theorem dep_L {xs : List D} {n : Nat} (h : ∀ x ∈ xs, x.dep ≤ n) : D.depL xs ≤ n := by
  induction xs with
  | nil => rw [D.depL]; omega
  | cons x xs ih => rw [D.depL]; exact Nat.max_le.mpr ⟨h x (.head _), ih fun y hy => h y (.tail _ hy)⟩
theorem dep_K {xs : List (Key × D)} {n : Nat} (h : ∀ p ∈ xs, p.2.dep ≤ n) : D.depK xs ≤ n := by
  induction xs with
  | nil => rw [D.depK]; omega
  | cons x xs ih => obtain ⟨k, x⟩ := x; rw [D.depK]; exact Nat.max_le.mpr ⟨h _ (.head _), ih fun y hy => h y (.tail _ hy)⟩
theorem dep_list {xs : List D} {n : Nat} (h : ∀ x ∈ xs, x.dep ≤ n) : (D.list xs).dep ≤ n + 1 := by rw [D.dep]; exact Nat.succ_le_succ (dep_L h)
theorem dep_tup {xs : List D} {n : Nat} (h : ∀ x ∈ xs, x.dep ≤ n) : (D.tup xs).dep ≤ n + 1 := by rw [D.dep]; exact Nat.succ_le_succ (dep_L h)
theorem dep_dict {xs : List (Key × D)} {n : Nat} (h : ∀ p ∈ xs, p.2.dep ≤ n) : (D.dict xs).dep ≤ n + 1 := by rw [D.dep]; exact Nat.succ_le_succ (dep_K h)
theorem dep_key (k : Key) : k.d.dep = 0 := by cases k <;> rfl
theorem dep_ws {α : Type} (f : α → D) (h : ∀ x, (f x).dep = 0) (ws : List α) : (D.list (ws.map f)).dep ≤ 1 := dep_list fun x hx => by
  obtain ⟨w, _, rfl⟩ := List.mem_map.mp hx
  rw [h]; exact Nat.le_refl 0
theorem dep_val {a : List Fld} (h : GL a) : ∀ f ∈ a, f.value.dep ≤ 1 ∧ f.text.dep ≤ 1 := fun f hf => by
  obtain ⟨p, g⟩ := h.gd f hf
  cases g with
  | same _ _ _ _ _ _ => exact ⟨dep_ws _ (fun _ => rfl) _, dep_ws _ (fun _ => rfl) _⟩
  | texts _ _ _ _ => exact ⟨dep_ws _ (fun _ => rfl) _, dep_ws _ (fun _ => rfl) _⟩
  | int _ _ _ => exact ⟨Nat.zero_le _, Nat.zero_le _⟩
  | none _ _ _ => exact ⟨Nat.zero_le _, Nat.zero_le _⟩
  | word _ _ _ _ => exact ⟨Nat.zero_le _, Nat.zero_le _⟩
theorem dep_row {kvs : List (Key × D)} {n : Nat} (h : ∀ p ∈ kvs, p.2.dep ≤ n) : (D.list (row kvs)).dep ≤ n + 1 := dep_list fun x hx => by
  rw [row, List.mem_flatMap] at hx
  obtain ⟨p, hp, hx⟩ := hx
  simp only [List.mem_cons, List.not_mem_nil, or_false] at hx
  rcases hx with rfl | rfl
  · rw [dep_key]; exact Nat.zero_le _
  · exact h p hp
theorem dep_map {α : Type} {fs : List α} {k : α → Key} {g : α → D} {n : Nat} (h : ∀ f ∈ fs, (g f).dep ≤ n) : ∀ p ∈ fs.map (fun f => (k f, g f)), p.2.dep ≤ n := fun p hp => by
  obtain ⟨f, hf, rfl⟩ := List.mem_map.mp hp
  exact h f hf
section
variable {a b : List Fld}
theorem dpF (h : GL a) : (F a).dep ≤ 2 := dep_row (dep_map fun f hf => (dep_val h f hf).1)
theorem dpB (h : GL a) : (B a).dep ≤ 2 := dep_dict (dep_map fun f hf => (dep_val h f hf).1)
theorem dpS {g : Fld → D} (h : GL a) (hg : ∀ f ∈ a, g f = f.value ∨ g f = f.text) : (D.dict (svs g a)).dep ≤ 2 := dep_dict (dep_map fun f hf => by
  rcases hg f hf with e | e
  · rw [e]; exact (dep_val h f hf).1
  · rw [e]; exact (dep_val h f hf).2)
theorem dpN (h : GL a) : (N a).dep ≤ 2 := dpS h fun _ _ => .inl rfl
theorem dp2 {x y : D} {n : Nat} (h1 : x.dep ≤ n) (h2 : y.dep ≤ n) : (D.list [x, y]).dep ≤ n + 1 := dep_list (mem2 (P := fun d => d.dep ≤ n) h1 h2)
theorem dep_app2 {kvs : List (Key × D)} {k1 k2 : Key} {x y : D} {n : Nat} (h : ∀ p ∈ kvs, p.2.dep ≤ n) (h1 : x.dep ≤ n) (h2 : y.dep ≤ n) : (D.dict (kvs ++ [(k1, x), (k2, y)])).dep ≤ n + 1 := dep_dict fun p hp => by
  rcases List.mem_append.mp hp with hp | hp
  · exact h p hp
  · simp only [List.mem_cons, List.not_mem_nil, or_false] at hp
    rcases hp with rfl | rfl
    · exact h1
    · exact h2
end

/-! the first twelve numbers -/
theorem range_take {α : Type} (ds : List α) : ∀ n, (List.range n).filterMap (ds[·]?) = ds.take n
  | 0 => rfl
  | n + 1 => by
    rw [List.range_succ, List.filterMap_append, range_take ds n, List.take_add_one]
    congr 1
theorem pick_pre (ds : List D) {n : Nat} (h : n ≤ ds.length) : pickD ds none (some (n : Int)) none = ds.take n := by
  have e : sliceBounds none (some (n : Int)) none ds.length = (0, (n : Int), 1) := by simp [sliceBounds]; omega
  unfold pickD
  rw [e]
  dsimp only
  have e2 : sliceRange 0 (n : Int) 1 = List.range n := by
    unfold sliceRange
    have e1 : (if (1 : Int) > 0 then (if (0 : Int) < (n : Int) then ((n : Int) - 0 + 1 - 1) / 1 else 0) else (if (0 : Int) > (n : Int) then (0 - (n : Int) - 1 - 1) / (-1) else 0)).toNat = n := by
      rw [if_pos (by decide)]
      split <;> omega
    dsimp only
    rw [e1]
    conv => rhs; rw [← List.map_id (List.range n)]
    refine List.map_congr_left fun k _ => ?_
    simp
  rw [e2, range_take]
def nums (xs : List Int) : List Int := (xs ++ List.replicate 12 0).take 12
theorem nums_len (xs : List Int) : (nums xs).length = 12 := by simp [nums]
theorem pick_nums (xs : List Int) : pickD (xs.map D.int ++ List.replicate 12 (D.int 0)) none (some ((12 : Nat) : Int)) none = (nums xs).map D.int := by
  rw [pick_pre _ (by simp)]
  simp [nums, List.map_take]
theorem halves {ns : List Int} (h : ns.length = 12) : pickD (ns.map D.int) none (some ((6 : Nat) : Int)) none = (ns.take 6).map D.int ∧ pickD (ns.map D.int) (some ((6 : Nat) : Int)) none none = (ns.drop 6).map D.int := by
  refine ⟨by rw [pick_pre _ (by simp [h]), List.map_take], ?_⟩
  match ns, h with
  | [x0, x1, x2, x3, x4, x5, x6, x7, x8, x9, x10, x11], _ =>
    have e : sliceBounds (some ((6 : Nat) : Int)) none none 12 = (6, 12, 1) := by simp [sliceBounds]; decide
    have e2 : sliceRange 6 12 1 = [6, 7, 8, 9, 10, 11] := by decide
    unfold pickD
    show (sliceRange (sliceBounds (some ((6 : Nat) : Int)) none none 12).1 (sliceBounds (some ((6 : Nat) : Int)) none none 12).2.1 (sliceBounds (some ((6 : Nat) : Int)) none none 12).2.2).filterMap _ = _
    rw [e, e2]
    rfl

def fl (a : List Fld) : D := .list (a.map Fld.d)
abbrev base (C : Cx) (a b : List Fld) : Ctx := [("named", dat C (.list [N a, N b])), ("maps", dat C (.list [B a, B b])), ("flats", dat C (.list [F a, F b])), ("two", dat C (fl b)), ("one", dat C (fl a))]

section
variable {C : Cx} {k : Nat} {sc sc' : Scope} {ρ ρ₁ ρ₂ ρ₃ ρ₄ ρ' : Ctx} {P : Post} {a b : List Fld}

theorem L28 (o : Ok C) (h : a.length ≤ 100) : Fn C 6 (.ref (o.f 28)) [fl a] [] (dat C (F a)) := Fn28 o h
theorem L29 (o : Ok C) (h : GL a) : Fn C 6 (.ref (o.f 29)) [fl a] [] (dat C (B a)) := by
  have := Fn29 o (fs := a) (by have := h.len; omega)
  rw [dB h] at this
  exact this
theorem L30 (o : Ok C) (h : GL a) : Fn C 6 (.ref (o.f 30)) [fl a] [] (dat C (N a)) := by
  have := Fn30 o (fs := a) (by have := h.len; omega)
  rw [dsets_nil (keysS _ h.nd h.x)] at this
  exact this
theorem Ev_ix0 {e : Expr} {x y : D} {p pos : Pos} {j : Nat} (h : Ev C k sc ρ e (dat C (.list [x, y])) ρ) : Ev C k sc ρ (.Subscript e (.Constant (.int 0) j p) pos) (dat C x) ρ := Ev_index h Ev_int (Gt_list (by decide) (by decide) rfl) (by simp [tyS]) fun _ _ => rfl
theorem Ev_ix1 {e : Expr} {x y : D} {p pos : Pos} {j : Nat} (h : Ev C k sc ρ e (dat C (.list [x, y])) ρ) : Ev C k sc ρ (.Subscript e (.Constant (.int 1) j p) pos) (dat C y) ρ := Ev_index h Ev_int (Gt_list (by decide) (by decide) rfl) (by simp [tyS]) fun _ _ => rfl
theorem Ev_l2 {e1 e2 : Expr} {x y : D} {pos : Pos} (h1 : Ev C k sc ρ e1 (dat C x) ρ) (h2 : Ev C k sc ρ e2 (dat C y) ρ) (hst : ∀ env, backTo pos (starEach [e1, e2] env) = [e1, e2].map fun e => (false, eval e env)) : Ev C k sc ρ (.List [e1, e2] pos) (dat C (.list [x, y])) ρ :=
  (Ev_List (ds := [x, y]) (Evs_cons h1 (Evs_cons h2 Evs_nil)) hst (by simp)).frz (.lst C _)

/-- the head of the law: what is built -/
theorem ExLawA (o : OkL C) {xs : List Int} (hx : xs.length ≤ 63) (h : ∀ a b, GL a → GL b → Ex C 21 (fnSc 31) (base C a b) ((fnBody 31).drop 6) P) : Ex C 21 (fnSc 31) [("script", dat C (.list (xs.map D.int)))] (fnBody 31) P := by
  obtain ⟨e1, e2⟩ := halves (nums_len xs)
  refine Ex_step (Es_assign (r := dat C (.list ((nums xs).map D.int))) (by
    rw [← pick_nums]
    exact Ev_slice (Ev_addl (Ev_name .here rfl rfl) (Ev_times (Ev_List (ds := [.int 0]) (Evs_cons Ev_int Evs_nil) (fun _ => rfl) (by simp)) Ev_int) (by simp; omega)) EvP_none (EvP_some Ev_int) EvP_none (by decide) (by simp; omega)) (.sk rfl .nil) rfl fun _ => rfl) ?_
  refine Ex_step (Es_assign (o.call1 27 (by decide) rfl rfl rfl (d := .list (((nums xs).take 6).map D.int)) (by rw [← e1]; exact Ev_slice (Ev_name .here rfl rfl) EvP_none (EvP_some Ev_int) EvP_none (by decide) (by rw [List.length_map, nums_len]; decide)) (fun _ => rfl) (Fn27 o (by simp [nums_len])) (by decide)) (.sk rfl (.sk rfl .nil)) rfl fun _ => rfl) ?_
  refine Ex_step (Es_assign (o.call1 27 (by decide) rfl rfl rfl (d := .list (((nums xs).drop 6).map D.int)) (by rw [← e2]; exact Ev_slice (Ev_name (.there .here) rfl rfl) (EvP_some Ev_int) EvP_none EvP_none (by decide) (by rw [List.length_map, nums_len]; decide)) (fun _ => rfl) (Fn27 o (by simp [nums_len])) (by decide)) (.sk rfl (.sk rfl (.sk rfl .nil))) rfl fun _ => rfl) ?_
  have ha := fields_gl ((nums xs).take 6)
  have hb := fields_gl ((nums xs).drop 6)
  generalize fields ((nums xs).take 6) = a at ha ⊢
  generalize fields ((nums xs).drop 6) = b at hb ⊢
  have la : a.length ≤ 100 := by have := ha.len; omega
  have lb : b.length ≤ 100 := by have := hb.len; omega
  refine Ex_step (Es_assign (r := dat C (.list [F a, F b])) (Ev_l2 (o.call1 28 (by decide) rfl rfl rfl (d := fl a) (Ev_name (.there .here) rfl rfl) (fun _ => rfl) (L28 o.toOk la) (by decide)) (o.call1 28 (by decide) rfl rfl rfl (d := fl b) (Ev_name .here rfl rfl) (fun _ => rfl) (L28 o.toOk lb) (by decide)) fun _ => rfl) (.sk rfl (.sk rfl (.sk rfl (.sk rfl .nil)))) rfl fun _ => rfl) ?_
  refine Ex_step (Es_assign (r := dat C (.list [B a, B b])) (Ev_l2 (o.call1 29 (by decide) rfl rfl rfl (d := fl a) (Ev_name (.there (.there .here)) rfl rfl) (fun _ => rfl) (L29 o.toOk ha) (by decide)) (o.call1 29 (by decide) rfl rfl rfl (d := fl b) (Ev_name (.there .here) rfl rfl) (fun _ => rfl) (L29 o.toOk hb) (by decide)) fun _ => rfl) (.sk rfl (.sk rfl (.sk rfl (.sk rfl (.sk rfl .nil))))) rfl fun _ => rfl) ?_
  refine Ex_step (Es_assign (r := dat C (.list [N a, N b])) (Ev_l2 (o.call1 30 (by decide) rfl rfl rfl (d := fl a) (Ev_name (.there (.there (.there .here))) rfl rfl) (fun _ => rfl) (L30 o.toOk ha) (by decide)) (o.call1 30 (by decide) rfl rfl rfl (d := fl b) (Ev_name (.there (.there .here)) rfl rfl) (fun _ => rfl) (L30 o.toOk hb) (by decide)) fun _ => rfl) (.sk rfl (.sk rfl (.sk rfl (.sk rfl (.sk rfl (.sk rfl .nil)))))) rfl fun _ => rfl) ?_
  exact Ex.wk (.pick .here (.pick .here (.pick .here (.pick .here (.pick .here (.nil _)))))) (h a b ha hb)

theorem T_ne2 {l r : Expr} {pos : Pos} {d : D} {n : Nat} (h1 : Ev C 21 sc ρ l (dat C d) ρ) (h2 : Ev C 21 sc ρ r (dat C d) ρ) (hb : isBox d = true) (hk : d.dep ≤ n) (hn : n ≤ 168) : T C 21 sc ρ (.Compare l [.NotEq] [r] pos) false := T_ne h1 h2 hb (Nat.le_trans hk (by omega))

/-- the first checks -/
theorem ExLawB (o : OkL C) (ha : GL a) (hb : GL b) (h : Ex C 21 (fnSc 31) (base C a b) ((fnBody 31).drop 12) P) : Ex C 21 (fnSc 31) (base C a b) ((fnBody 31).drop 6) P := by
  refine Ex_skip (T_or2 (T_ne2 (d := .list [N a, N b]) (o.call1 15 (by decide) rfl rfl rfl (Ev_name (.there (.there .here)) rfl rfl) (fun _ => rfl) (L15 o.toOk ha hb) (by decide)) (Ev_name .here rfl rfl) rfl (dp2 (dpN ha) (dpN hb)) (by decide))
    (T_ne2 (d := .list [N a, N b]) (o.call1 6 (by decide) rfl rfl rfl (Ev_name (.there .here) rfl rfl) (fun _ => rfl) (L6 o.toOk ha hb) (by decide)) (Ev_name .here rfl rfl) rfl (dp2 (dpN ha) (dpN hb)) (by decide))) ?_
  refine Ex_skip (T_or2 (T_ne2 (d := .list [N a, N b]) (o.call1 22 (by decide) rfl rfl rfl (Ev_name (.there (.there .here)) rfl rfl) (fun _ => rfl) (L22f o.toOk ha hb) (by decide)) (Ev_name .here rfl rfl) rfl (dp2 (dpN ha) (dpN hb)) (by decide))
    (T_ne2 (d := .list [N a, N b]) (o.call1 22 (by decide) rfl rfl rfl (Ev_name (.there .here) rfl rfl) (fun _ => rfl) (L22m o.toOk ha hb) (by decide)) (Ev_name .here rfl rfl) rfl (dp2 (dpN ha) (dpN hb)) (by decide))) ?_
  refine Ex_skip (T_or2 (T_ne2 (d := .list [F a, F b]) (o.call1 23 (by decide) rfl rfl rfl (Ev_name (.there .here) rfl rfl) (fun _ => rfl) (L23m o.toOk ha hb) (by decide)) (Ev_name (.there (.there .here)) rfl rfl) rfl (dp2 (dpF ha) (dpF hb)) (by decide))
    (T_ne2 (d := .list [F a, F b]) (o.call1 23 (by decide) rfl rfl rfl (Ev_name (.there (.there .here)) rfl rfl) (fun _ => rfl) (L23f o.toOk ha hb) (by decide)) (Ev_name (.there (.there .here)) rfl rfl) rfl (dp2 (dpF ha) (dpF hb)) (by decide))) ?_
  refine Ex_skip (T_or2 (T_ne2 (d := N a) (o.call1 10 (by decide) rfl rfl rfl (Ev_ix0 (Ev_name (.there (.there .here)) rfl rfl)) (fun _ => rfl) (L10f o.toOk ha) (by decide)) (Ev_ix0 (Ev_name .here rfl rfl)) rfl (dpN ha) (by decide))
    (T_ne2 (d := N a) (o.call1 10 (by decide) rfl rfl rfl (Ev_ix0 (Ev_name (.there .here) rfl rfl)) (fun _ => rfl) (L10m o.toOk ha) (by decide)) (Ev_ix0 (Ev_name .here rfl rfl)) rfl (dpN ha) (by decide))) ?_
  refine Ex_skip (T_or2 (T_ne2 (d := F a) (o.call1 11 (by decide) rfl rfl rfl (Ev_ix0 (Ev_name (.there .here) rfl rfl)) (fun _ => rfl) (L11 o.toOk ha) (by decide)) (Ev_ix0 (Ev_name (.there (.there .here)) rfl rfl)) rfl (dpF ha) (by decide))
    (T_ne2 (d := .bytes [111, 102, 102]) (o.call1 10 (by decide) rfl rfl rfl Ev_bytes (fun _ => rfl) (Fn10b o.toOk) (by decide)) Ev_bytes rfl (Nat.le_refl 0) (by decide))) ?_
  refine Ex_skip (T_or2 (T_ne2 (d := N b) (o.call1 16 (by decide) rfl rfl rfl (Ev_ix1 (Ev_name (.there (.there .here)) rfl rfl)) (fun _ => rfl) (L16l o.toOk hb) (by decide)) (Ev_ix1 (Ev_name .here rfl rfl)) rfl (dpN hb) (by decide))
    (T_ne2 (d := N b) (o.call1 16 (by decide) rfl rfl rfl (Ev_ix1 (Ev_name (.there .here) rfl rfl)) (fun _ => rfl) (L16d o.toOk hb) (by decide)) (Ev_ix1 (Ev_name .here rfl rfl)) rfl (dpN hb) (by decide))) ?_
  exact h
end
end Mine

set_option maxRecDepth 100000
set_option autoImplicit false
set_option linter.unusedVariables false
namespace Mine
open PySem PySem.W PyProof.Rows

theorem trv_any (f : Fld) : trv f = if ((["flags", "prefixes"] : List Str).any fun y => decide (y = f.n.2)) = true then f.text else f.value := by
  unfold trv
  by_cases h1 : f.n.2 = "flags"
  · rw [if_pos (.inl h1), if_pos]; rw [h1]; rfl
  · by_cases h2 : f.n.2 = "prefixes"
    · rw [if_pos (.inr h2), if_pos]; rw [h2]; rfl
    · rw [if_neg (fun e => e.elim h1 h2), if_neg]
      intro e
      simp only [List.any_cons, List.any_nil, Bool.or_false, Bool.or_eq_true, decide_eq_true_eq] at e
      exact e.elim (fun e => h1 e.symm) fun e => h2 e.symm
abbrev cells (a : List Fld) : D := .list ((bvs a).map cellD)
theorem dpC {a : List Fld} (h : GL a) : (cells a).dep ≤ 3 := dep_list fun x hx => by
  obtain ⟨p, hp, rfl⟩ := List.mem_map.mp hx
  obtain ⟨f, hf, rfl⟩ := List.mem_map.mp hp
  exact dp2 (n := 1) (Nat.zero_le _) (dep_val h f hf).1
theorem dpK {a : List Fld} (h : GL a) : (D.list ((bvs a).map kvD)).dep ≤ 3 := dep_list fun x hx => by
  obtain ⟨p, hp, rfl⟩ := List.mem_map.mp hx
  obtain ⟨f, hf, rfl⟩ := List.mem_map.mp hp
  exact dep_tup (n := 1) (mem2 (P := fun d => d.dep ≤ 1) (Nat.zero_le _) (dep_val h f hf).1)

section
variable {C : Cx} {k : Nat} {sc sc' : Scope} {ρ ρ₁ ρ₂ ρ₃ ρ₄ ρ' : Ctx} {P : Post} {a b : List Fld}

theorem Ev_trv {f : Fld} {p1 p2 p3 p4 p5 p6 p7 p8 p9 p10 : Pos} {j1 j2 j3 jt : Nat} (hn : sc.names.lookup ("names" : Str) = some .local) (ht : sc.names.lookup ("text" : Str) = some .local) (hv : sc.names.lookup ("value" : Str) = some .local) :
    Ev C k sc (fctx C f) (.IfExp (.Compare (.Subscript (.Name "names" p1) (.Constant (.int 1) j1 p2) p3) [.In] [.Tuple [.Constant (.str "flags") j2 p4, .Constant (.str "prefixes") j3 p5] jt p6] p7) (.Name "text" p8) (.Name "value" p9) p10) (dat C (trv f)) (fctx C f) := by
  rw [trv_any]
  refine Ev_ifexp (T_in_strs (xs := ["flags", "prefixes"]) (Ev_nm1 (.there (.there (.there .here))) hn rfl) (Ev_Tuple (ds := [.str "flags", .str "prefixes"]) (Evs_cons Ev_str (Evs_cons Ev_str Evs_nil)) (fun _ => rfl) (by simp)) rfl) ?_
  cases (["flags", "prefixes"] : List Str).any fun y => decide (y = f.n.2) with
  | true => exact Ev_name (.there .here) ht rfl
  | false => exact Ev_name (.there (.there .here)) hv rfl
theorem Ev_txv {f : Fld} {p1 p2 p3 p4 : Pos} (hn : sc.names.lookup ("many" : Str) = some .local) (ht : sc.names.lookup ("text" : Str) = some .local) (hv : sc.names.lookup ("value" : Str) = some .local) :
    Ev C k sc (fctx C f) (.IfExp (.Name "many" p1) (.Name "value" p2) (.Name "text" p3) p4) (dat C (txv f)) (fctx C f) := by
  refine Ev_ifexp (T_tru (d := .bool f.many) (Ev_name .here hn rfl) rfl trivial fun _ _ => rfl) ?_
  unfold txv
  cases f.many with
  | true => exact Ev_name (.there (.there .here)) hv rfl
  | false => exact Ev_name (.there .here) ht rfl

/-- what is tracked; labels and pairs -/
theorem ExLawC (o : OkL C) (ha : GL a) (hb : GL b) (h : Ex C 21 (fnSc 31) (("pairs", dat C (cells a)) :: base C a b) ((fnBody 31).drop 18) P) : Ex C 21 (fnSc 31) (base C a b) ((fnBody 31).drop 12) P := by
  have la : a.length ≤ 100 := by have := ha.len; omega
  refine Ex_step (Es_fcomp (fun f => (.s f.n.2, trv f)) (Ev_name (.there (.there (.there (.there .here)))) rfl rfl) (by omega) (fun _ _ => rfl) rfl rfl rfl rfl rfl (fun f hf => ⟨Ev_nm1 (.there (.there (.there .here))) rfl rfl, Ev_trv rfl rfl rfl⟩) rfl rfl rfl (.sk rfl (.sk rfl (.sk rfl (.sk rfl (.sk rfl .nil)))))) ?_
  rw [dsets_nil (keysS trv ha.nd ha.x)]
  refine Ex.wk (.frz .here (.dct C _) (.refl _)) ?_
  refine Ex_skip (T_or2 (T_ne2 (d := .dict (svs trv a)) (o.call1 12 (by decide) rfl rfl rfl (Ev_ix0 (Ev_name (.there (.there (.there .here))) rfl rfl)) (fun _ => rfl) (L12l o.toOk ha) (by decide)) (Ev_name .here rfl rfl) rfl (dpS ha fun f _ => by unfold trv; split; exact .inr rfl; exact .inl rfl) (by decide))
    (T_ne2 (d := .dict (svs trv a)) (o.call1 12 (by decide) rfl rfl rfl (Ev_ix0 (Ev_name (.there (.there .here)) rfl rfl)) (fun _ => rfl) (L12d o.toOk ha) (by decide)) (Ev_name .here rfl rfl) rfl (dpS ha fun f _ => by unfold trv; split; exact .inr rfl; exact .inl rfl) (by decide))) ?_
  refine Ex_step (Es_assign Ev_nil (.sk rfl (.sk rfl (.sk rfl (.sk rfl (.sk rfl (.sk rfl .nil)))))) rfl fun _ => rfl) ?_
  refine Ex_step (Es_assign Ev_nil (.sk rfl (.sk rfl (.sk rfl (.sk rfl (.sk rfl (.sk rfl (.sk rfl .nil))))))) rfl fun _ => rfl) ?_
  refine Ex_step (Es_forx Fld.d (xs := a) (fun pre => ("pairs", lst C ((bvs pre).map cellD)) :: ("labels", lst C (row (svs Fld.value pre))) :: base C a b) WalkT_list.by (Ev_name (.there (.there (.there (.there (.there (.there (.there .here))))))) rfl rfl) Its_list (.pick .here (.pick .here (.pick (.there .here) (.pick (.there .here) (.pick (.there .here) (.pick (.there .here) (.pick (.there .here) (.nil _)))))))) (fun _ _ => rfl)
    fun pre f post hxs => ⟨_, As_fld rfl rfl rfl rfl (.sk rfl (.sk rfl (.sk rfl (.sk rfl (.sk rfl (.sk rfl (.sk rfl .nil))))))) (.sk rfl (.sk rfl (.sk rfl (.sk rfl (.sk rfl (.sk rfl (.sk rfl (.sk rfl .nil)))))))) (.sk rfl (.sk rfl (.sk rfl (.sk rfl (.sk rfl (.sk rfl (.sk rfl (.sk rfl (.sk rfl .nil))))))))) (.sk rfl (.sk rfl (.sk rfl (.sk rfl (.sk rfl (.sk rfl (.sk rfl (.sk rfl (.sk rfl (.sk rfl .nil)))))))))), ?_⟩) ?_
  · have hl : pre.length ≤ 100 := by have := congrArg List.length hxs; simp at this; omega
    refine Ex_step (Es_append (.there (.there (.there (.there (.there .here))))) rfl rfl (Ev_nm1 (.there (.there (.there .here))) rfl rfl) (fun _ => rfl) rfl (by rw [row_length]; simp; omega)) ?_
    refine Ex_step (Es_append .here rfl rfl (Ev_name (.there (.there .here)) rfl rfl) (fun _ => rfl) rfl (by simp [row_length]; omega)) ?_
    refine Ex_step (Es_append (d := cellD (.b f.n.1, f.value)) (.there (.there (.there (.there (.there .here))))) rfl rfl ((Ev_List (ds := [(Key.b f.n.1).d, f.value]) (Evs_cons (Ev_nm0 (.there (.there (.there (.there .here)))) rfl rfl) (Evs_cons (Ev_name (.there (.there (.there .here))) rfl rfl) Evs_nil)) (fun _ => rfl) (by simp)).frz (.lst C _)) (fun _ => rfl) rfl (by simp; omega)) ?_
    refine Ex_nil ?_
    have e1 : row (svs Fld.value (pre ++ [f])) = row (svs Fld.value pre) ++ [(Key.s f.n.2).d] ++ [f.value] := by rw [svs, List.map_append]; exact row_snoc _ _
    have e2 : (bvs (pre ++ [f])).map cellD = (bvs pre).map cellD ++ [cellD (.b f.n.1, f.value)] := by simp [bvs]
    show Wk _ _
    rw [e1, e2]
    exact .pick .here (.pick .here (.pick (.there (.there (.there (.there .here)))) (.pick (.there (.there (.there (.there .here)))) (.pick (.there (.there (.there (.there .here)))) (.pick (.there (.there (.there (.there .here)))) (.pick (.there (.there (.there (.there .here)))) (.nil _)))))))
  · refine Ex.wk (.frz (.there .here) (.lst C _) (.frz .here (.lst C _) (.refl _))) ?_
    refine Ex_skip (T_ne2 (d := .list (row (svs Fld.value a))) (o.call1 13 (by decide) rfl rfl rfl (Ev_ix0 (Ev_name (.there (.there (.there .here))) rfl rfl)) (fun _ => rfl) (L13 o.toOk ha) (by decide)) (Ev_name .here rfl rfl) rfl (dep_row (dep_map fun f hf => (dep_val ha f hf).1)) (by decide)) ?_
    exact Ex.wk (.pick (.there .here) (.pick (.there .here) (.pick (.there .here) (.pick (.there .here) (.pick (.there .here) (.pick (.there .here) (.nil _))))))) h
end
end Mine

set_option maxRecDepth 100000
set_option autoImplicit false
set_option linter.unusedVariables false
namespace Mine
open PySem PySem.W PyProof.Rows

section
variable {C : Cx} {k : Nat} {sc sc' : Scope} {ρ ρ₁ ρ₂ ρ₃ ρ₄ ρ' : Ctx} {P : Post} {a b : List Fld}

theorem star_eq {kvs out : List (Key × D)} (h : ((kvs ++ out).map (·.1)).Nodup) : dsets (dsets [] kvs) (dsets [] out) = kvs ++ out := by
  have h2 := h
  rw [List.map_append, List.nodup_append] at h2
  rw [dsets_nil h2.1, dsets_nil h2.2.1, dsets_new _ _ h]
theorem Ev_star2 {e0 k1 k2 v1 v2 : Expr} {pos : Pos} {kvs : List (Key × D)} {x1 x2 : Key} {d1 d2 : D} (h0 : Ev C k sc ρ e0 (dat C (.dict kvs)) ρ) (hk1 : Ev C k sc ρ k1 (dat C x1.d) ρ) (hv1 : Ev C k sc ρ v1 (dat C d1) ρ) (hk2 : Ev C k sc ρ k2 (dat C x2.d) ρ) (hv2 : Ev C k sc ρ v2 (dat C d2) ρ) (hz : kvs.length ≤ 500) (hn : ((kvs ++ [(x1, d1), (x2, d2)]).map (·.1)).Nodup) :
    Ev C k sc ρ (.Dict [none, some k1, some k2] [e0, v1, v2] pos) (dct C (kvs ++ [(x1, d1), (x2, d2)])) ρ := by
  have := Ev_DictStar2 (pos := pos) h0 (EvPr_cons hk1 hv1 (EvPr_cons hk2 hv2 EvPr_nil)) hz (by simp)
  rw [star_eq hn] at this
  exact this
theorem Ev_star1 {e0 k1 v1 : Expr} {pos : Pos} {kvs : List (Key × D)} {x1 : Key} {d1 : D} (h0 : Ev C k sc ρ e0 (dat C (.dict kvs)) ρ) (hk1 : Ev C k sc ρ k1 (dat C x1.d) ρ) (hv1 : Ev C k sc ρ v1 (dat C d1) ρ) (hz : kvs.length ≤ 500) (hn : ((kvs ++ [(x1, d1)]).map (·.1)).Nodup) :
    Ev C k sc ρ (.Dict [none, some k1] [e0, v1] pos) (dct C (kvs ++ [(x1, d1)])) ρ := by
  have := Ev_DictStar1 (pos := pos) h0 (EvPr_cons hk1 hv1 EvPr_nil) hz (by simp)
  rw [star_eq hn] at this
  exact this

theorem flMem : fl (Mem a b) = .list (a.map Fld.d ++ [(m0 (F b)).d, (m1 (F b)).d]) := by simp [fl, Mem]
theorem flLib : fl (Lib2 a b) = .list (a.map Fld.d ++ [(mF (.list [F a, F b])).d]) := by simp [fl, Lib2]
theorem kMem (g : Fld → D) (ha : GL a) (x y : D) : ((svs g a ++ [(Key.s X0.2, x), (Key.s X1.2, y)]).map (·.1)).Nodup := by
  have := keysS g (Mem_n ha (b := a)) (Mem_x ha)
  rw [svs_mem] at this
  simpa using this
theorem kNear (ha : GL a) (x y : D) : ((bvs a ++ [(Key.b X0.1, x), (Key.b X1.1, y)]).map (·.1)).Nodup := by
  have := keysB (Mem_n ha (b := a)) (Mem_x ha)
  simpa [Mem, m0, m1] using this
theorem kLib (ha : GL a) (x : D) : ((bvs a ++ [(Key.b bF, x)]).map (·.1)).Nodup := by
  have := keysB (Lib_n ha (b := a)) (Lib_x ha)
  simpa [Lib2, mF] using this
theorem Mem_len (ha : GL a) : (Mem a b).length ≤ 100 := by have := ha.len; simp [Mem]; omega
theorem Lib_len (ha : GL a) : (Lib2 a b).length ≤ 100 := by have := ha.len; simp [Lib2]; omega

/-- memory -/
theorem ExLawD (o : OkL C) (ha : GL a) (hb : GL b) (h : Ex C 21 (fnSc 31) (("pairs", dat C (cells a)) :: base C a b) ((fnBody 31).drop 25) P) : Ex C 21 (fnSc 31) (("pairs", dat C (cells a)) :: base C a b) ((fnBody 31).drop 18) P := by
  have la : a.length ≤ 100 := by have := ha.len; omega
  have lb : b.length ≤ 100 := by have := hb.len; omega
  have lk : ∀ g, (svs g a).length ≤ 500 := fun g => by simp; omega
  have lkb : (bvs a).length ≤ 500 := by simp; omega
  refine Ex_step (Es_assign (r := dat C (fl (Mem a b))) (by
    rw [flMem]
    exact Ev_addl (Ev_name (.there (.there (.there (.there (.there .here))))) rfl rfl) ((Ev_List (ds := [(m0 (F b)).d, (m1 (F b)).d]) (Evs_cons (Ev_Tuple (ds := [nmD X0, F b, F b, .bool true]) (Evs_cons (Ev_Tuple (ds := [.bytes X0.1, .str X0.2]) (Evs_cons Ev_bytes (Evs_cons Ev_str Evs_nil)) (fun _ => rfl) (by simp)) (Evs_cons (Ev_ix1 (Ev_name (.there (.there (.there .here))) rfl rfl)) (Evs_cons (Ev_ix1 (Ev_name (.there (.there (.there .here))) rfl rfl)) (Evs_cons Ev_bool Evs_nil)))) (fun _ => rfl) (by simp))
      (Evs_cons (Ev_Tuple (ds := [nmD X1, F b, F b, .bool true]) (Evs_cons (Ev_Tuple (ds := [.bytes X1.1, .str X1.2]) (Evs_cons Ev_bytes (Evs_cons Ev_str Evs_nil)) (fun _ => rfl) (by simp)) (Evs_cons (Ev_ix1 (Ev_name (.there (.there (.there .here))) rfl rfl)) (Evs_cons (Ev_ix1 (Ev_name (.there (.there (.there .here))) rfl rfl)) (Evs_cons Ev_bool Evs_nil)))) (fun _ => rfl) (by simp)) Evs_nil)) (fun _ => rfl) (by simp)).frz (.lst C _)) (by simp; omega)) (.sk rfl (.sk rfl (.sk rfl (.sk rfl (.sk rfl (.sk rfl .nil)))))) rfl fun _ => rfl) ?_
  refine Ex_skip (T_ne2 (d := .dict (svs Fld.value a ++ [(.s X0.2, N b), (.s X1.2, F b)])) (o.call1 4 (by decide) rfl rfl rfl (o.call1 28 (by decide) rfl rfl rfl (d := fl (Mem a b)) (Ev_name .here rfl rfl) (fun _ => rfl) (L28 o.toOk (Mem_len ha)) (by decide)) (fun _ => rfl) (L4 o.toOk ha hb) (by decide))
    ((Ev_star2 (x1 := .s X0.2) (x2 := .s X1.2) (Ev_ix0 (x := .dict (svs Fld.value a)) (y := N b) (Ev_name (.there (.there .here)) rfl rfl)) Ev_str (Ev_ix1 (Ev_name (.there (.there .here)) rfl rfl)) Ev_str (Ev_ix1 (Ev_name (.there (.there (.there (.there .here)))) rfl rfl)) (lk _) (kMem _ ha _ _)).frz (.dct C _)) rfl (dep_app2 (n := 2) (dep_map fun f hf => Nat.le_succ_of_le (dep_val ha f hf).1) (dpN hb) (dpF hb)) (by decide)) ?_
  refine Ex_step (Es_fcomp (fun f => (.s f.n.2, txv f)) (Ev_name (.there (.there (.there (.there (.there (.there .here)))))) rfl rfl) (by omega) (fun _ _ => rfl) rfl rfl rfl rfl rfl (fun f hf => ⟨Ev_nm1 (.there (.there (.there .here))) rfl rfl, Ev_txv rfl rfl rfl⟩) rfl rfl rfl (.sk rfl (.sk rfl (.sk rfl (.sk rfl (.sk rfl (.sk rfl (.sk rfl .nil)))))))) ?_
  rw [dsets_nil (keysS txv ha.nd ha.x)]
  refine Ex.wk (.frz .here (.dct C _) (.refl _)) ?_
  refine Ex_step (Es_fcomp (fun f => (.s f.n.2, txv f)) (Ev_name (.there (.there (.there (.there (.there (.there .here)))))) rfl rfl) (by omega) (fun _ _ => rfl) rfl rfl rfl rfl rfl (fun f hf => ⟨Ev_nm1 (.there (.there (.there .here))) rfl rfl, Ev_txv rfl rfl rfl⟩) rfl rfl rfl (.sk rfl (.sk rfl (.sk rfl (.sk rfl (.sk rfl (.sk rfl (.sk rfl (.sk rfl .nil))))))))) ?_
  rw [dsets_nil (keysS txv hb.nd hb.x)]
  refine Ex.wk (.frz .here (.dct C _) (.refl _)) ?_
  refine Ex_skip (T_ne2 (d := .dict (svs txv a ++ [(.s X0.2, .dict (svs txv b)), (.s X1.2, F b)])) (o.call1 3 (by decide) rfl rfl rfl (o.call1 28 (by decide) rfl rfl rfl (d := fl (Mem a b)) (Ev_name (.there (.there .here)) rfl rfl) (fun _ => rfl) (L28 o.toOk (Mem_len ha)) (by decide)) (fun _ => rfl) (L3 o.toOk ha hb) (by decide))
    ((Ev_star2 (x1 := .s X0.2) (x2 := .s X1.2) (Ev_name (.there .here) rfl rfl) Ev_str (Ev_name .here rfl rfl) Ev_str (Ev_ix1 (Ev_name (.there (.there (.there (.there (.there (.there .here)))))) rfl rfl)) (lk _) (kMem _ ha _ _)).frz (.dct C _)) rfl (dep_app2 (n := 2) (dep_map fun f hf => by
      have := dep_val ha f hf
      unfold txv; split <;> omega) (dpS hb fun f _ => by unfold txv; split; exact .inl rfl; exact .inr rfl) (dpF hb)) (by decide)) ?_
  refine Ex.wk (.pick (.there (.there (.there .here))) (.pick (.there (.there (.there .here))) (.pick (.there (.there (.there .here))) (.pick (.there (.there (.there .here))) (.pick (.there (.there (.there .here))) (.pick (.there (.there (.there .here))) (.nil _))))))) (ρ₁ := ("pairs", dat C (cells a)) :: base C a b) ?_
  refine Ex_step (Es_assign ((Ev_star2 (x1 := .b X0.1) (x2 := .b X1.1) (Ev_ix0 (x := .dict (bvs a)) (y := B b) (Ev_name (.there (.there .here)) rfl rfl)) Ev_bytes (Ev_ix1 (Ev_name (.there (.there .here)) rfl rfl)) Ev_bytes (Ev_ix1 (Ev_name (.there (.there (.there .here))) rfl rfl)) lkb (kNear ha _ _)).frz (.dct C _)) (.sk rfl (.sk rfl (.sk rfl (.sk rfl (.sk rfl (.sk rfl .nil)))))) rfl fun _ => rfl) ?_
  refine Ex_skip (T_ne2 (d := .dict (svs Fld.value a ++ [(.s X0.2, N b), (.s X1.2, F b)])) (o.call1 5 (by decide) rfl rfl rfl (d := Near a b) (Ev_name .here rfl rfl) (fun _ => rfl) (L5 o.toOk ha hb) (by decide))
    ((Ev_star2 (x1 := .s X0.2) (x2 := .s X1.2) (Ev_ix0 (x := .dict (svs Fld.value a)) (y := N b) (Ev_name (.there (.there .here)) rfl rfl)) Ev_str (Ev_ix1 (Ev_name (.there (.there .here)) rfl rfl)) Ev_str (Ev_ix1 (Ev_name (.there (.there (.there (.there .here)))) rfl rfl)) (lk _) (kMem _ ha _ _)).frz (.dct C _)) rfl (dep_app2 (n := 2) (dep_map fun f hf => Nat.le_succ_of_le (dep_val ha f hf).1) (dpN hb) (dpF hb)) (by decide)) ?_
  exact Ex.wk (.pick (.there .here) (.pick (.there .here) (.pick (.there .here) (.pick (.there .here) (.pick (.there .here) (.pick (.there .here) (.nil _))))))) h

theorem dpH (ha : GL a) (hb : GL b) : (Hd a b).dep ≤ 4 := dep_dict fun p hp => by
  rcases List.mem_append.mp hp with hp | hp
  · obtain ⟨f, hf, rfl⟩ := List.mem_map.mp hp
    exact Nat.le_trans (dep_val ha f hf).1 (by decide)
  · simp only [List.mem_cons, List.not_mem_nil, or_false] at hp
    subst hp
    exact dp2 (dpB ha) (dpB hb)
theorem dpL (ha : GL a) (hb : GL b) : (F (Lib2 a b)).dep ≤ 4 := dep_row (n := 3) fun p hp => by
  rw [bvs_lib] at hp
  rcases List.mem_append.mp hp with hp | hp
  · obtain ⟨f, hf, rfl⟩ := List.mem_map.mp hp
    exact Nat.le_trans (dep_val ha f hf).1 (by decide)
  · simp only [List.mem_cons, List.not_mem_nil, or_false] at hp
    subst hp
    exact dp2 (dpF ha) (dpF hb)
/-- libraries of functions -/
theorem ExLawE (o : OkL C) (ha : GL a) (hb : GL b) (h : Ex C 21 (fnSc 31) (("pairs", dat C (cells a)) :: base C a b) ((fnBody 31).drop 30) P) : Ex C 21 (fnSc 31) (("pairs", dat C (cells a)) :: base C a b) ((fnBody 31).drop 25) P := by
  have la : a.length ≤ 100 := by have := ha.len; omega
  have lkb : (bvs a).length ≤ 500 := by simp; omega
  refine Ex_step (Es_assign (r := dat C (fl (Lib2 a b))) (by
    rw [flLib]
    exact Ev_addl (Ev_name (.there (.there (.there (.there (.there .here))))) rfl rfl) ((Ev_List (ds := [(mF (.list [F a, F b])).d]) (Evs_cons (Ev_Tuple (ds := [nmD XF, .list [F a, F b], .list [F a, F b], .bool true]) (Evs_cons (Ev_Tuple (ds := [.bytes XF.1, .str XF.2]) (Evs_cons Ev_bytes (Evs_cons Ev_str Evs_nil)) (fun _ => rfl) (by simp)) (Evs_cons (Ev_name (.there (.there (.there .here))) rfl rfl) (Evs_cons (Ev_name (.there (.there (.there .here))) rfl rfl) (Evs_cons Ev_bool Evs_nil)))) (fun _ => rfl) (by simp))
      Evs_nil) (fun _ => rfl) (by simp)).frz (.lst C _)) (by simp; omega)) (.sk rfl (.sk rfl (.sk rfl (.sk rfl (.sk rfl (.sk rfl .nil)))))) rfl fun _ => rfl) ?_
  refine Ex_step (Es_assign (r := dat C (Hd a b)) ((Ev_star1 (x1 := .b bF) (Ev_ix0 (x := .dict (bvs a)) (y := B b) (Ev_name (.there (.there (.there .here))) rfl rfl)) Ev_bytes (Ev_name (.there (.there (.there .here))) rfl rfl) lkb (kLib ha _)).frz (.dct C _)) (.sk rfl (.sk rfl (.sk rfl (.sk rfl (.sk rfl (.sk rfl (.sk rfl .nil))))))) rfl fun _ => rfl) ?_
  refine Ex_skip (T_ne2 (d := .list [Hd a b, B b]) (o.call1 20 (by decide) rfl rfl rfl (d := .list [F (Lib2 a b), F b]) (Ev_l2 (o.call1 28 (by decide) rfl rfl rfl (d := fl (Lib2 a b)) (Ev_name (.there .here) rfl rfl) (fun _ => rfl) (L28 o.toOk (Lib_len ha)) (by decide)) (Ev_ix1 (Ev_name (.there (.there (.there (.there (.there .here))))) rfl rfl)) fun _ => rfl) (fun _ => rfl) (L20a o.toOk ha hb) (by decide))
    (Ev_l2 (Ev_name .here rfl rfl) (Ev_ix1 (Ev_name (.there (.there (.there (.there .here)))) rfl rfl)) fun _ => rfl) rfl (dp2 (dpH ha hb) (Nat.le_trans (dpB hb) (by decide))) (by decide)) ?_
  refine Ex_skip (T_ne2 (d := .list [Hd a b, B b]) (o.call1 20 (by decide) rfl rfl rfl (d := .list [Hd a b, B b]) (Ev_l2 (Ev_name .here rfl rfl) (Ev_ix1 (Ev_name (.there (.there (.there (.there .here)))) rfl rfl)) fun _ => rfl) (fun _ => rfl) (L20b o.toOk ha hb) (by decide))
    (Ev_l2 (Ev_name .here rfl rfl) (Ev_ix1 (Ev_name (.there (.there (.there (.there .here)))) rfl rfl)) fun _ => rfl) rfl (dp2 (dpH ha hb) (Nat.le_trans (dpB hb) (by decide))) (by decide)) ?_
  refine Ex_skip (T_ne2 (d := .list [F (Lib2 a b), F b]) (o.call1 21 (by decide) rfl rfl rfl (d := .list [Hd a b, B b]) (Ev_l2 (Ev_name .here rfl rfl) (Ev_ix1 (Ev_name (.there (.there (.there (.there .here)))) rfl rfl)) fun _ => rfl) (fun _ => rfl) (L21 o.toOk ha hb) (by decide))
    (Ev_l2 (o.call1 28 (by decide) rfl rfl rfl (d := fl (Lib2 a b)) (Ev_name (.there .here) rfl rfl) (fun _ => rfl) (L28 o.toOk (Lib_len ha)) (by decide)) (Ev_ix1 (Ev_name (.there (.there (.there (.there (.there .here))))) rfl rfl)) fun _ => rfl) rfl (dp2 (dpL ha hb) (Nat.le_trans (dpF hb) (by decide))) (by decide)) ?_
  exact Ex.wk (.pick (.there (.there .here)) (.pick (.there (.there .here)) (.pick (.there (.there .here)) (.pick (.there (.there .here)) (.pick (.there (.there .here)) (.pick (.there (.there .here)) (.nil _))))))) h
end
end Mine

set_option maxRecDepth 100000
set_option autoImplicit false
set_option linter.unusedVariables false
namespace Mine
open PySem PySem.W PyProof.Rows

theorem filt_eq (fs : List Fld) : fs.filterMap (fun f => if plB f = true then some f.d else none) = (fs.filter plB).map Fld.d := by
  induction fs with
  | nil => rfl
  | cons f fs ih =>
    rw [List.filterMap_cons]
    cases h : plB f with
    | true => rw [if_pos rfl, List.filter_cons, if_pos h, List.map_cons, ih]
    | false => rw [if_neg (by decide), List.filter_cons, if_neg (by rw [h]; decide), ih]

section
variable {C : Cx} {k : Nat} {sc sc' : Scope} {ρ ρ₁ ρ₂ ρ₃ ρ₄ ρ' : Ctx} {P : Post} {a b : List Fld}

/-- a call with withvalues=True -/
theorem Ok.callw (o : Ok C) (i : Nat) (hi : i ∈ defs) {fx : Str} {fp cp pos : Pos} {jj : Nat} {e₁ : Expr} {d : D} {r : Res} {j : Nat} {kw : Keyword} (hn : fnName i = fx) (hx : sc.names.lookup fx = some .globalImplicit) (hd : (fx == ("__debug__" : Str)) = false)
    (hs : Ev C k sc ρ e₁ (dat C d) ρ₁) (hst : ∀ env, backTo pos (starEach [e₁] env) = [e₁].map fun e => (false, eval e env))
    (hkw : ∀ env, backToKw pos (keywordEach [kw] env) = [(("withvalues" : Str), Expr.Constant (.bool true) jj cp)].map fun p => (some p.1, do let v ← eval p.2 env; standAt pos; pure v))
    (hfn : Fn C j (.ref (o.f i)) [d] [("withvalues", .bool true)] r) (hj : j ≤ k) : Ev C k sc ρ (.Call (.Name fx fp) [e₁] [kw] pos) r ρ₁ := by
  obtain ⟨fo, h1, h2⟩ := o.at_ i hi
  exact Ev_call (ds := [d]) (kw := [("withvalues", .bool true)]) (hn ▸ o.nm i hi) h1 h2 hx hd (Evs_cons hs Evs_nil) hst hkw (EvsA_cons Ev_bool EvsA_nil) rfl hfn hj

theorem dpT (h : GL a) : (D.dict (svs Fld.text (a.filter plB))).dep ≤ 2 := dpS (h.filter plB) fun f _ => .inr rfl
/-- what is read plainly; fields with values; numbers of listeners -/
theorem ExLawG (o : OkL C) (ha : GL a) (hb : GL b) : Ex C 21 (fnSc 31) (("pairs", dat C (cells a)) :: base C a b) ((fnBody 31).drop 30) (Ret C (dat C (.bool true))) := by
  have la : a.length ≤ 100 := by have := ha.len; omega
  have lb : b.length ≤ 100 := by have := hb.len; omega
  have hp := ha.filter plB
  have lp : (a.filter plB).length ≤ 100 := by have := hp.len; omega
  refine Ex_step (Es_assign_listcomp (ds := a.map Fld.d) (ofl fun f => if plB f = true then some f.d else none) WalkT_list.by (ScOk.of (by rfl)) (Ev_name (.there (.there (.there (.there (.there .here))))) rfl rfl) Its_list (by simpa using (by omega)) (fun _ _ => rfl) (fun d hd => ?_) (fun env he => sw_list he rfl rfl rfl) rfl (.sk rfl (.sk rfl (.sk rfl (.sk rfl (.sk rfl (.sk rfl .nil))))))) ?_
  · obtain ⟨f, hf, rfl⟩ := List.mem_map.mp hd
    refine ⟨_, fctx C f, As_fld0 rfl rfl rfl rfl, ?_, fun e he => ?_⟩
    · rw [ofl_d]
      have e : (if plB f = true then some f.d else none).isSome = plB f := by cases plB f <;> rfl
      rw [e]
      exact Tst_one (T_and (T_not (T_tru (d := .bool f.many) (Ev_name .here rfl rfl) rfl trivial fun _ _ => rfl)) fun _ => T_not (Ev_isi (Ty := "int") o.toOk (Ev_name (.there (.there .here)) rfl rfl) (.inl rfl) (by decide) (by rfl) rfl rfl rfl (by decide) fun _ => rfl))
    · rw [ofl_d] at he
      have e : e = f.d := by
        split at he
        · injection he with he; exact he.symm
        · cases he
      subst e
      exact Ev_Tuple (ds := [nmD f.n, f.value, f.text, .bool f.many]) (Evs_cons (Ev_name (.there (.there (.there .here))) rfl rfl) (Evs_cons (Ev_name (.there (.there .here)) rfl rfl) (Evs_cons (Ev_name (.there .here) rfl rfl) (Evs_cons (Ev_name .here rfl rfl) Evs_nil)))) (fun _ => rfl) (by simp)
  rw [ofl_map, filt_eq]
  refine Ex.wk (.frz .here (.lst C _) (.refl _)) ?_
  refine Ex_skip (T_ne2 (d := .dict (svs Fld.text (a.filter plB))) (o.call1 17 (by decide) rfl rfl rfl (o.call1 28 (by decide) rfl rfl rfl (d := fl (a.filter plB)) (Ev_name .here rfl rfl) (fun _ => rfl) (L28 o.toOk lp) (by decide)) (fun _ => rfl) (L17 o.toOk ha) (by decide))
    (o.call1 18 (by decide) rfl rfl rfl (o.call1 29 (by decide) rfl rfl rfl (d := fl (a.filter plB)) (Ev_name .here rfl rfl) (fun _ => rfl) (L29 o.toOk hp) (by decide)) (fun _ => rfl) (L18 o.toOk ha) (by decide)) rfl (dpT ha) (by decide)) ?_
  have en : dsets [] ((a.filter plB).map fun f => (Key.s f.n.2, f.text)) = svs Fld.text (a.filter plB) := dsets_nil (keysS Fld.text hp.nd hp.x)
  refine Ex_skip (T_ne2 (d := .dict (svs Fld.text (a.filter plB))) (o.call1 17 (by decide) rfl rfl rfl (o.call1 28 (by decide) rfl rfl rfl (d := fl (a.filter plB)) (Ev_name .here rfl rfl) (fun _ => rfl) (L28 o.toOk lp) (by decide)) (fun _ => rfl) (L17 o.toOk ha) (by decide))
    (by rw [← en]; exact (Ev_fcomp (fun f => (.s f.n.2, f.text)) (Ev_name .here rfl rfl) (by omega) (fun _ _ => rfl) rfl rfl rfl rfl rfl (fun f hf => ⟨Ev_nm1 (.there (.there (.there .here))) rfl rfl, Ev_name (.there .here) rfl rfl⟩)).frz (.dct C _)) rfl (dpT ha) (by decide)) ?_
  refine Ex_skip (T_or2 (T_ne2 (d := cells a) (o.callw 8 (by decide) rfl rfl rfl (Ev_ix0 (Ev_name (.there (.there (.there (.there .here)))) rfl rfl)) (fun _ => rfl) (fun _ => rfl) (L8w o.toOk ha) (by decide)) (Ev_name (.there .here) rfl rfl) rfl (dpC ha) (by decide))
    (T_ne2 (d := F a) (o.call1 8 (by decide) rfl rfl rfl (Ev_ix0 (Ev_name (.there (.there (.there (.there .here)))) rfl rfl)) (fun _ => rfl) (L8n o.toOk ha) (by decide)) (Ev_ix0 (Ev_name (.there (.there (.there (.there .here)))) rfl rfl)) rfl (dpF ha) (by decide))) ?_
  refine Ex_skip (T_ne2 (d := F a) (o.callw 9 (by decide) rfl rfl rfl (Ev_name (.there .here) rfl rfl) (fun _ => rfl) (fun _ => rfl) (L9 o.toOk ha) (by decide)) (Ev_ix0 (Ev_name (.there (.there (.there (.there .here)))) rfl rfl)) rfl (dpF ha) (by decide)) ?_
  have ek : (b.map Fld.d).filterMap (ofl fun f => some (kvD (Key.b f.n.1, f.value))) = (bvs b).map kvD := by
    rw [ofl_map, List.map_map]; simp [Function.comp_def]
  refine Ex_ret (Ev_eq (d := .list ((bvs b).map kvD)) (o.call1 19 (by decide) rfl rfl rfl (Ev_ix1 (Ev_name (.there (.there (.there (.there .here)))) rfl rfl)) (fun _ => rfl) (L19 o.toOk hb) (by decide)) (by
    rw [← ek]
    refine (Ev_listcomp (ds := b.map Fld.d) (ofl fun f => some (kvD (Key.b f.n.1, f.value))) WalkT_list.by (ScOk.of (by rfl)) (Ev_name (.there (.there (.there (.there (.there .here))))) rfl rfl) Its_list (by simpa using (by omega)) (fun _ _ => rfl) (fun d hd => ?_)).frz (.lst C _)
    obtain ⟨f, hf, rfl⟩ := List.mem_map.mp hd
    refine ⟨_, fctx C f, As_fld0 rfl rfl rfl rfl, Tst_nil, fun e he => ?_⟩
    rw [ofl_d] at he
    cases he
    exact Ev_Tuple (ds := [(Key.b f.n.1).d, f.value]) (Evs_cons (Ev_nm0 (.there (.there (.there .here))) rfl rfl) (Evs_cons (Ev_name (.there (.there .here)) rfl rfl) Evs_nil)) (fun _ => rfl) (by simp)) rfl (Nat.le_trans (dpK hb) (by decide))) rfl

/-- the law -/
theorem Fn31 (o : OkL C) {xs : List Int} (hx : xs.length ≤ 63) : Fn C 22 (.ref (o.f 31)) [.list (xs.map D.int)] [] (dat C (.bool true)) :=
  o.fn1 31 (by decide) (by decide) (x := "script") rfl rfl rfl rfl (fun _ _ _ _ => by rfl) rfl
    (ExLawA o hx fun a b ha hb => ExLawB o ha hb (ExLawC o ha hb (ExLawD o ha hb (ExLawE o ha hb (ExLawG o ha hb)))))
end
end Mine

set_option maxRecDepth 100000
set_option autoImplicit false
set_option linter.unusedVariables false
namespace Mine
open PySem PySem.W PyProof.Rows

namespace Fu
theorem entry_new : entryFor table "UnicodeDecodeError.__new__" = some Builtin.«BaseException.__new__» := entryFor_alias (id' := "BaseException.__new__") (by rw [fastTable_eq_tree]; kernel_rfl) (by first | rfl | decide +kernel) (by decide +kernel) (by rw [fastTable_eq_tree]; kernel_rfl)
theorem slot_init : Slot "UnicodeDecodeError" "__init__" "UnicodeDecodeError.__init__" := .of (owner := "UnicodeDecodeError") (n := "__init__") (by rw [typeLookup_type, builtinLookup_eq_fast]; kernel_rfl) (by decide +kernel) (by decide +kernel) (by decide +kernel)
    (by first | exact .inl (by decide +kernel) | exact .inr (by decide +kernel)) (by rw [isSubtype_type]; kernel_rfl)
theorem mro_ude : mroOf (.type "UnicodeDecodeError") = pure [.type "UnicodeDecodeError", .type "UnicodeError", .type "ValueError", .type "Exception", .type "BaseException", .type "object"] := by rw [mroOf_type]; kernel_rfl
theorem lookup_new : typeLookup (.type "UnicodeDecodeError") "__new__" = pure (some (.builtin "UnicodeDecodeError.__new__")) := by rw [typeLookup_type, builtinLookup_eq_fast]; kernel_rfl
theorem called : TypeCalled "UnicodeDecodeError" "UnicodeDecodeError.__new__" "UnicodeDecodeError.__init__" :=
  ⟨by decide +kernel, by decide +kernel, ⟨_, _, mro_ude⟩, madeBy_type mro_ude lookup_new (by decide +kernel), by decide +kernel, by rw [isSubtype_type]; kernel_rfl, slot_init⟩
theorem entry_init : entryFor table "UnicodeDecodeError.__init__" = some Builtin.«UnicodeDecodeError.__init__» := entryFor_of_tree (by kernel_rfl)
theorem typeCall (a b c d e : Value) : checkTypeCall "UnicodeDecodeError" ⟨[a, b, c, d, e], []⟩ = pure () := by kernel_rfl
theorem newCall (a b c d e : Value) : checkBuiltinCall "UnicodeDecodeError.__new__" ⟨[.type "UnicodeDecodeError", a, b, c, d, e], []⟩ = pure () := by kernel_rfl
theorem owner_ude : Manifest.owners.lookup (String.ofList ['r', 'o', 'r', 'r', 'E', 'e', 'd', 'o', 'c', 'e', 'D', 'e', 'd', 'o', 'c', 'i', 'n', 'U'].reverse) = some Manifest.sig_UnicodeDecodeError := by kernel_rfl
theorem args_init (s a b c d e : Value) : argsOk "UnicodeDecodeError.__init__" ⟨[s, a, b, c, d, e], []⟩ := by
  unfold argsOk; rw [signature?_of (id := "UnicodeDecodeError.__init__") (n := ['_', '_', 't', 'i', 'n', 'i', '_', '_']) (o := ['r', 'o', 'r', 'r', 'E', 'e', 'd', 'o', 'c', 'e', 'D', 'e', 'd', 'o', 'c', 'i', 'n', 'U']) (by kernel_rfl) owner_ude]; kernel_rfl
theorem facts : ExcNewFacts "UnicodeDecodeError" "UnicodeDecodeError.__new__" where
  ends := by decide +kernel
  owner := by decide +kernel
  entry := entry_new
  sub := by rw [isSubtype_type]; kernel_rfl
  notAttr := by rw [isSubtype_type]; kernel_rfl
  notName := by rw [isSubtype_type]; kernel_rfl
  made := by kernel_rfl
theorem quiet_new : ("UnicodeDecodeError.__new__").startsWith "lifetime." = false := by decide +kernel

def newO (t : Addr) : Obj := { cls := .type "UnicodeDecodeError", data := .fields #[.ref t, .none, .none, .none, .bool false, .none] }
def fullO (t : Addr) (a b c d e : Value) : Obj := { cls := .type "UnicodeDecodeError", data := .fields #[.ref t, .none, .none, .none, .bool false, .none, a, b, c, d, e] }
section
variable {prog : Program} {w : World} {A : Around} {E : Value → Shared → Prop} {s : Shared}
abbrev Xo (vs : Array Value) : Obj := { cls := .type "UnicodeDecodeError", data := .fields vs }
theorem wp_set {M : Model} {e : Addr} {vs : Array Value} {m : Builtin.UnicodeEncodeError.Members} {Q : Unit → Shared → Prop} (ho : s.heap.get? e = some (Xo vs)) (hz : vs.size ≤ 20)
    (hQ : ∀ h', Heap.ExtBut e s.heap h' → h'.get? e = some (Xo (vs.extract 0 6 ++ #[m.encoding, m.object, rawInt m.start, rawInt m.stop, m.reason])) → Q () { s with heap := h' }) : wpAny M A (Builtin.UnicodeEncodeError.setMembers (.ref e) m) Q E s := by
  refine wpAny_updateFields (o := Xo vs) ho rfl (hQ _ (Heap.SameBut.update ..).extBut ?_) (by rw [sizeLine_eq]; simp; omega)
  exact Heap.get?_update_self _ ho rfl
theorem wp_mem6 {M : Model} {e : Addr} {a b c d f g : Value} {Q : Builtin.UnicodeEncodeError.Members → Shared → Prop} (ho : s.heap.get? e = some (Xo #[a, b, c, d, f, g])) (h : Q {} s) : wpAny M A (Builtin.UnicodeEncodeError.members (.ref e)) Q E s := by
  unfold Builtin.UnicodeEncodeError.members
  exact wpAny_bind (wpAny_fieldsOf ho rfl (wpAny_pure h))
theorem wp_mem11 {M : Model} {e : Addr} {a b c d f g v1 v2 v5 : Value} {i j : Int} {t t' : Tok} {Q : Builtin.UnicodeEncodeError.Members → Shared → Prop} (ho : s.heap.get? e = some (Xo #[a, b, c, d, f, g, v1, v2, .int i t, .int j t', v5])) (h : Q ⟨v1, v2, i, j, v5⟩ s) : wpAny M A (Builtin.UnicodeEncodeError.members (.ref e)) Q E s := by
  unfold Builtin.UnicodeEncodeError.members
  exact wpAny_bind (wpAny_fieldsOf ho rfl (wpAny_pure h))
theorem ext6 (a b c d f g : Value) (x : Array Value) : (#[a, b, c, d, f, g] : Array Value).extract 0 6 ++ x = #[a, b, c, d, f, g] ++ x := by rfl
theorem wp_set6 {M : Model} {e : Addr} {a b c d f g : Value} {m : Builtin.UnicodeEncodeError.Members} {Q : Unit → Shared → Prop} (ho : s.heap.get? e = some (Xo #[a, b, c, d, f, g]))
    (hQ : ∀ h', Heap.ExtBut e s.heap h' → h'.get? e = some (Xo #[a, b, c, d, f, g, m.encoding, m.object, rawInt m.start, rawInt m.stop, m.reason]) → Q () { s with heap := h' }) : wpAny M A (Builtin.UnicodeEncodeError.setMembers (.ref e) m) Q E s :=
  wp_set ho (by simp) fun h' x y => hQ h' x (by rw [y]; rfl)
theorem wp_set11 {M : Model} {e : Addr} {a b c d f g v1 v2 v3 v4 v5 : Value} {m : Builtin.UnicodeEncodeError.Members} {Q : Unit → Shared → Prop} (ho : s.heap.get? e = some (Xo #[a, b, c, d, f, g, v1, v2, v3, v4, v5]))
    (hQ : ∀ h', Heap.ExtBut e s.heap h' → h'.get? e = some (Xo #[a, b, c, d, f, g, m.encoding, m.object, rawInt m.start, rawInt m.stop, m.reason]) → Q () { s with heap := h' }) : wpAny M A (Builtin.UnicodeEncodeError.setMembers (.ref e) m) Q E s :=
  wp_set ho (by simp) fun h' x y => hQ h' x (by rw [y]; rfl)
theorem ext_trans {e : Addr} {h h' h'' : Heap} (x : Heap.ExtBut e h h') (y : Heap.ExtBut e h' h'') : Heap.ExtBut e h h'' := fun b o hb hq => y b o hb (x b o hb hq)
theorem begin {M : Model} {e : Addr} {a b c d f g : Value} {rest : List Value} {Q : Value × List Value → Shared → Prop} (ho : s.heap.get? e = some (Xo #[a, b, c, d, f, g])) (hl : rest.length = 5)
    (hQ : ∀ t h', Heap.ExtBut e s.heap h' → h'.get? e = some (Xo #[.ref t, b, c, d, f, g, rawInt 0, rawInt 0, rawInt 0, rawInt 0, rawInt 0]) → Q (.ref e, rest) { s with heap := h' }) :
    wpAny M A (Builtin.UnicodeEncodeError.beginInit "UnicodeDecodeError.__init__" 5 ⟨.ref e :: rest, []⟩) Q E s := by
  unfold Builtin.UnicodeEncodeError.beginInit
  refine wpAny_bind (wpAny_field ho rfl rfl ?_)
  refine wpAny_bind (wpAny_newTuple ?_)
  refine wpAny_bind (wpAny_setField (o := Xo #[a, b, c, d, f, g]) (Heap.get?_push_of_some _ ho) rfl (by simp) ?_)
  refine wpAny_bind (wpAny_letGo ?_)
  have x0 : Heap.ExtBut e s.heap ((s.heap.push { cls := .type "tuple", data := .seq rest.toArray }).update e (Obj.mapFields (·.setIfInBounds 0 (.ref s.heap.objs.size)))) := fun b o hb hq => (Heap.SameBut.update ..).extBut b o hb (Heap.get?_push_of_some _ hq)
  have y0 : ((s.heap.push { cls := .type "tuple", data := .seq rest.toArray }).update e (Obj.mapFields (·.setIfInBounds 0 (.ref s.heap.objs.size)))).get? e = some (Xo #[.ref s.heap.objs.size, b, c, d, f, g]) := Heap.get?_update_self _ (Heap.get?_push_of_some _ ho) rfl
  generalize (s.heap.push { cls := .type "tuple", data := .seq rest.toArray }).update e (Obj.mapFields (·.setIfInBounds 0 (.ref s.heap.objs.size))) = h0 at x0 y0 ⊢
  rw [if_pos (by decide)]
  refine wpAny_bind (wp_mem6 y0 (wpAny_bind (wp_set6 y0 fun h1 x1 y1 => wpAny_bind (wpAny_letGo ?_))))
  refine wpAny_bind (wp_mem11 y1 (wpAny_bind (wp_set11 y1 fun h2 x2 y2 => wpAny_bind (wpAny_letGo ?_))))
  refine wpAny_bind (wp_mem11 y2 (wpAny_bind (wp_set11 y2 fun h3 x3 y3 => wpAny_bind (wpAny_letGo ?_))))
  dsimp only
  rw [if_neg (by rw [hl]; decide)]
  exact wpAny_pure (hQ _ h3 (ext_trans (ext_trans (ext_trans x0 x1) x2) x3) y3)
theorem asIndex_int (i : Int) (t : Tok) : asIndex (.int i t) = pure i := by rfl
theorem size_arg {M : Model} {i : Int} {t : Tok} {Q : Int → Shared → Prop} (hi : 0 ≤ i) (hj : i < 100) (h : Q i s) : wpAny M A (Builtin.UnicodeEncodeError.sizeArgument "UnicodeDecodeError.__init__" (.int i t)) Q E s := by
  unfold Builtin.UnicodeEncodeError.sizeArgument
  rw [asIndex_int]
  refine wpAny_bind (wpAny_pure ?_)
  dsimp only
  rw [if_neg (by simp; omega)]
  exact wpAny_pure h
theorem str_arg {M : Model} {id : String} {n : Nat} {x : Str} {t : Tok} {Q : Unit → Shared → Prop} (h : Q () s) : wpAny M A (Builtin.UnicodeEncodeError.strArgument id n (.str x t)) Q E s := by
  unfold Builtin.UnicodeEncodeError.strArgument
  have e : asStr? (.str x t) = pure (some x) := rfl
  rw [e]
  refine wpAny_bind (wpAny_pure ?_)
  rw [if_neg (by simp)]
  exact wpAny_pure h
theorem range_arg {M : Model} {e : Addr} {a b c d f g v1 v2 v5 : Value} {i j : Int} {t t' : Tok} {ti tj : Tok} {i0 j0 : Int} {Q : Unit → Shared → Prop} (ho : s.heap.get? e = some (Xo #[a, b, c, d, f, g, v1, v2, .int i0 ti, .int j0 tj, v5])) (h1 : 0 ≤ i) (h2 : i < 100) (h3 : 0 ≤ j) (h4 : j < 100)
    (hQ : ∀ h', Heap.ExtBut e s.heap h' → h'.get? e = some (Xo #[a, b, c, d, f, g, v1, v2, rawInt i, rawInt j, v5]) → Q () { s with heap := h' }) : wpAny M A (Builtin.UnicodeEncodeError.initRange "UnicodeDecodeError.__init__" (.ref e) (.int i t) (.int j t')) Q E s := by
  unfold Builtin.UnicodeEncodeError.initRange
  refine wpAny_bind (size_arg h1 h2 ?_)
  refine wpAny_bind (wp_mem11 ho (wpAny_bind (wp_set11 ho fun g1 x1 y1 => ?_)))
  refine wpAny_bind (size_arg h3 h4 ?_)
  refine wpAny_bind (wp_mem11 y1 (wp_set11 y1 fun g2 x2 y2 => ?_))
  exact hQ g2 (ext_trans x1 x2) y2
theorem call_ude {x y : Str} {b : Array UInt8} {t1 t2 t3 t4 t5 : Tok} {Q : Value → Shared → Prop} (h0 : A.handled = none)
    (h : ∀ e t h' tk, Hle s.heap h' → h'.get? e = some (fullO t (.str x t1) (.bytes b t2) (rawInt 1) (rawInt 2) (.str y t5)) → Q (.ref e) { s with heap := h', toks := tk }) :
    wpAny (model prog w) A (call (.type "UnicodeDecodeError") [.str x t1, .bytes b t2, .int 1 t3, .int 2 t4, .str y t5]) Q E s := by
  obtain ⟨hp, g, d, tk, os⟩ := s
  refine callType_codes (Q₁ := fun obj s₁ => obj = .ref (hp.objs.size + 1) ∧ s₁ = ⟨(hp.push { cls := .type "tuple", data := .seq [.str x t1, .bytes b t2, .int 1 t3, .int 2 t4, .str y t5].toArray }).push (newO hp.objs.size), g, d, tk, os⟩) called (typeCall _ _ _ _ _) entry_init ?_ ?_
  · refine codeAny_call_builtin_code (Code.quiet_builtin _ quiet_new) (wpAny_of_eq (newCall _ _ _ _ _) ?_)
    exact codeAny_exc_new facts ⟨rfl, rfl⟩
  · rintro obj s₁ ⟨rfl, rfl⟩
    have hget : ((hp.push { cls := .type "tuple", data := .seq [.str x t1, .bytes b t2, .int 1 t3, .int 2 t4, .str y t5].toArray }).push (newO hp.objs.size)).get? (hp.objs.size + 1) = some (newO hp.objs.size) := by heap_get
    refine ⟨⟨_, hget, rfl⟩, args_init _ _ _ _ _ _, ?_⟩
    unfold Builtin.«UnicodeDecodeError.__init__»
    refine wpAny_bind (begin hget rfl fun t h1 x1 x2 => ?_)
    dsimp only
    refine wpAny_bind (str_arg ?_)
    refine wpAny_bind (range_arg x2 (by decide) (by decide) (by decide) (by decide) fun h2 z1 z2 => ?_)
    refine wpAny_bind (str_arg ?_)
    have eb : Builtin.UnicodeDecodeError.bytesOf? (.bytes b t2) = pure (some b) := rfl
    rw [eb]
    refine wpAny_bind (wpAny_pure ?_)
    rw [if_pos (by rfl)]
    refine wpAny_bind (wpAny_pure ?_)
    rw [if_pos (by rfl)]
    refine wpAny_bind (wpAny_pure ?_)
    rw [if_neg (by simp [Builtin.UnicodeEncodeError.isUnset])]
    refine wpAny_bind (wp_mem11 z2 (wpAny_bind (wp_set11 z2 fun h3 w1 w2 => wpAny_pure ?_)))
    refine ⟨rfl, ?_⟩
    refine h _ t h3 _ (fun a o ha => ?_) w2
    have hlt : a < hp.objs.size := Heap.lt_size ha
    have hne : a ≠ hp.objs.size + 1 := fun e => by rw [e] at hlt; exact absurd hlt (Nat.not_lt.mpr (Nat.le_succ _))
    exact (ext_trans (ext_trans x1 z1) w1) a o hne (Heap.get?_push_of_some _ (Heap.get?_push_of_some _ ha))

theorem entry_rep : entryFor table "_codecs.lookup_error.replace_errors" = some Builtin.«_codecs.lookup_error.replace_errors» := entryFor_of_tree (by kernel_rfl)
theorem check_rep (v : Value) : checkBuiltinCall "_codecs.lookup_error.replace_errors" ⟨[v], []⟩ = pure () := by kernel_rfl
theorem sub_enc : isSubtype (.type "UnicodeDecodeError") (.type "UnicodeEncodeError") = pure false := by rw [isSubtype_type]; kernel_rfl
theorem sub_dec : isSubtype (.type "UnicodeDecodeError") (.type "UnicodeDecodeError") = pure true := by rw [isSubtype_type]; kernel_rfl
theorem sub_tra : isSubtype (.type "UnicodeDecodeError") (.type "UnicodeTranslateError") = pure false := by rw [isSubtype_type]; kernel_rfl
theorem plain_rep : plainId "_codecs.lookup_error.replace_errors" = true := by decide +kernel
theorem call_rep {e t : Addr} {v1 v5 : Value} {t2 : Tok} {Q : Value → Shared → Prop} (ho : s.heap.get? e = some (fullO t v1 (.bytes Dc.bad3 t2) (rawInt 1) (rawInt 2) v5))
    (h : ∀ T h' ta tb tk, Hle s.heap h' → h'.get? T = some { cls := .type "tuple", data := .seq #[.str ⟨#[0xfffd]⟩ ta, .int 2 tb] } → Q (.ref T) { s with heap := h', toks := tk }) :
    wpAny (model prog w) A (call (.builtin "_codecs.lookup_error.replace_errors") [.ref e]) Q E s := by
  have hT : s.TypeIs (.ref e) "UnicodeDecodeError" := ⟨_, ho, rfl⟩
  refine wpAny_call (codeAny_call_builtin plain_rep entry_rep (wpAny_of_eq (check_rep _) ?_))
  unfold Builtin.«_codecs.lookup_error.replace_errors»
  refine wpAny_bind (m := oneArg "replace_errors" _) (wpAny_of_eq (a := .ref e) (by first | rfl | kernel_rfl!) ?_)
  unfold Builtin._codecs.seen
  refine wpAny_bind (wpAny_bind (wpAny_isInstance hT sub_enc ?_))
  refine wpAny_bind (wpAny_isInstance hT sub_dec ?_)
  refine wpAny_bind (wpAny_isInstance hT sub_tra ?_)
  rw [if_neg (by decide), if_pos rfl]
  refine wpAny_bind (wpAny_pure ?_)
  dsimp only
  rw [if_neg (by decide)]
  refine wpAny_bind (wp_mem11 (i := 1) (j := 2) ho ?_)
  dsimp only
  rw [if_neg (by simp [Builtin.UnicodeEncodeError.isUnset]), if_pos (by decide)]
  refine wpAny_bind (wpAny_pure ?_)
  have em : Array.map (fun x : UInt8 => x.toNat) Dc.bad3 = #[0x78, 0xff, 0x79] := by simp [Dc.bad3]
  rw [em]
  rw [if_neg (by decide)]
  refine wpAny_pure ?_
  show wpAny _ _ (Builtin._codecs.answer #[65533] 2) _ _ _
  unfold Builtin._codecs.answer
  refine wpAny_bind (wpAny_mkStr ?_ (by rw [sizeLine_eq]; decide))
  refine wpAny_bind (wpAny_mkInt ?_)
  refine wpAny_bind (wpAny_newTuple ?_)
  refine wpAny_pure ?_
  exact h _ _ s.toks (s.toks + 1) _ (fun b o hb => Heap.get?_push_of_some _ hb) (Heap.get?_push_at rfl rfl)
end
end Fu

theorem faultOk (C : Cx) : FaultOk C := by
  intro id A E s Q h0 h
  unfold Builtin._codecs.decodeFault
  have key : ∀ {m : Sem Value} {v : Value} {Q : Value → Shared → Prop} {E : Value → Shared → Prop} {s : Shared}, m = pure v → Q v s → wpAny (model C.prog C.w) A m Q E s := fun e h => by rw [e]; exact wpAny_pure h
  have key2 : ∀ {α : Type} {m : Sem α} {v : α} {Q : α → Shared → Prop} {E : Value → Shared → Prop} {s : Shared}, m = pure v → Q v s → wpAny (model C.prog C.w) A m Q E s := fun e h => by rw [e]; exact wpAny_pure h
  refine wpAny_bind (key (v := .builtin "_codecs.lookup_error.replace_errors") (by kernel_rfl) ?_)
  refine wpAny_bind (wpAny_holding ?_)
  show wpAny _ A (mkStr (Str.ofString Builtin._codecs.utf8Decoder.name) >>= fun a => mkBytes Dc.bad3 >>= fun b => mkInt 1 >>= fun c => mkInt 2 >>= fun d => mkStr (Str.ofString "invalid start byte") >>= fun e => call (.type "UnicodeDecodeError") [a, b, c, d, e]) _ E s
  refine wpAny_bind (wpAny_mkStr ?_ (by rw [sizeLine_eq]; decide))
  refine wpAny_bind (wpAny_mkBytes ?_)
  refine wpAny_bind (wpAny_mkInt ?_)
  refine wpAny_bind (wpAny_mkInt ?_)
  refine wpAny_bind (wpAny_mkStr ?_ (by rw [sizeLine_eq]; decide))
  refine Fu.call_ude h0 fun e t h1 tk1 le1 he => ?_
  refine wpAny_bind ?_
  refine wpAny_bind (m := Builtin.UnicodeEncodeError.members (.ref e)) (Fu.wp_mem11 (i := 1) (j := 2) he ?_)
  refine wpAny_bind (m := holding _ _) (wpAny_holding ?_)
  rw [if_pos (by rfl)]
  refine Fu.call_rep he fun T h2 ta tb tk2 le2 hT => ?_
  refine wpAny_bind (m := Builtin.UnicodeEncodeError.members (.ref e)) (Fu.wp_mem11 (i := 1) (j := 2) (le2 _ _ he) ?_)
  dsimp only
  rw [if_neg (by show ¬ ((!((_ : Tok) == _ && (_ : Array UInt8) == _)) = true); simp)]
  refine wpAny_pure ?_
  refine wpAny_holding ?_
  have hTT : ∀ {g d k os}, Shared.TypeIs ⟨h2, g, d, k, os⟩ (.ref T) "tuple" := fun {g d k os} => ⟨_, hT, rfl⟩
  refine wpAny_bind ?_
  refine wpAny_bind (m := isInstance (.ref T) (.type "tuple")) (wpAny_isInstance hTT (b := true) (by rw [isSubtype_type]; kernel_rfl) ?_)
  rw [if_neg (by decide)]
  refine wpAny_bind (m := seqItems? (.ref T)) (wpAny_seqItems hT rfl ?_)
  refine wpAny_pure ?_
  refine wpAny_bind (m := asStr? _) (key2 (v := some ⟨#[0xfffd]⟩) (by rfl) ?_)
  refine wpAny_bind (key2 (v := (2 : Int)) (by first | rfl | kernel_rfl) ?_)
  refine wpAny_bind (key2 (v := (2 : Nat)) (by first | rfl | kernel_rfl) ?_)
  exact wpAny_pure (h _ _ _ (fun b o hb => le2 _ _ (le1 _ _ hb)))
end Mine

open PySem PySem.W PyProof.Rows
set_option Elab.async false
namespace Mine
set_option maxRecDepth 100000 in
set_option maxHeartbeats 8000000 in
open_top hd for PySem.Challenge.rw_fr0009_01
end Mine

set_option maxRecDepth 100000
set_option autoImplicit false
set_option linter.unusedVariables false
namespace Mine
open PySem PySem.W PyProof.Rows

/-- the addresses of the defs -/
def fa (i : Nat) : Addr := (([(1, 21), (3, 28), (4, 35), (5, 40), (6, 45), (7, 53), (8, 58), (9, 65), (10, 70), (11, 77), (12, 82), (13, 89), (14, 96), (15, 103), (16, 108), (17, 113), (18, 118), (19, 125), (20, 130), (21, 135), (22, 140), (23, 145), (27, 164), (28, 171), (29, 176), (30, 181), (31, 186)] : List (Nat × Nat)).lookup i).getD 0
def fdat (o : Option Obj) : FuncData := match o with
  | some o => (match o.data with | .func fd => fd | _ => default)
  | none => default

theorem mgIs {h : Heap} {P : Params} {mg : Str → Option Value} (K : (hd.heap_39 P).In h) (g : h.Ns mainGlobals mg) : ∃ es ep, ((hd.heap_39 P).lookup 3).map (·.data) = some (.dict es ep) ∧ ∀ x, mg x = nsFind es x := by
  obtain ⟨o, es, ep, h1, h2, _, h3⟩ := g
  have e : (hd.heap_39 P).lookup 3 = some o := by
    cases e : (hd.heap_39 P).lookup 3 with
    | none => cases e
    | some o' => have := K 3 o' e; rw [show mainGlobals = 3 from rfl] at h1; rw [h1] at this; exact this.symm
  exact ⟨es, ep, by rw [e]; simp [h2], fun x => (h3 x).symm⟩
noncomputable def gEs (P : Params) : Array DictEntry := match (hd.heap_39 P).lookup 3 with
  | some o => (match o.data with | .dict es _ => es | _ => #[])
  | none => #[]
theorem mgIs' {h : Heap} {P : Params} {mg : Str → Option Value} (K : (hd.heap_39 P).In h) (g : h.Ns mainGlobals mg) : ∀ x, mg x = nsFind (gEs P) x := by
  obtain ⟨es, ep, h1, h2⟩ := mgIs K g
  have e : gEs P = es := by
    unfold gEs
    cases e : (hd.heap_39 P).lookup 3 with
    | none => rw [e] at h1; cases h1
    | some o => rw [e] at h1; simp at h1; simp [h1]
  rw [e]; exact h2
theorem nsDefs (P : Params) : ∀ i ∈ defs, nsFind (gEs P) (fnName i) = some (.ref (fa i)) := by
  intro i hi
  simp only [defs, List.mem_cons, List.not_mem_nil, or_false] at hi
  rcases hi with rfl | rfl | rfl | rfl | rfl | rfl | rfl | rfl | rfl | rfl | rfl | rfl | rfl | rfl | rfl | rfl | rfl | rfl | rfl | rfl | rfl | rfl | rfl | rfl | rfl | rfl | rfl <;> kernel_rfl
theorem nsNobs (P : Params) : ∀ x ∈ nobs, nsFind (gEs P) x = none := by
  intro i hi
  simp only [nobs, List.mem_cons, List.not_mem_nil, or_false] at hi
  rcases hi with rfl | rfl | rfl | rfl | rfl | rfl | rfl | rfl | rfl <;> kernel_rfl
noncomputable def fdP (P : Params) (i : Nat) : FuncData := fdat ((hd.heap_39 P).lookup (fa i))
theorem atF (P : Params) : ∀ i ∈ defs, ∃ o, (hd.heap_39 P).lookup (fa i) = some o ∧ o.data = .func (fdP P i) := by
  intro i hi
  simp only [defs, List.mem_cons, List.not_mem_nil, or_false] at hi
  rcases hi with rfl | rfl | rfl | rfl | rfl | rfl | rfl | rfl | rfl | rfl | rfl | rfl | rfl | rfl | rfl | rfl | rfl | rfl | rfl | rfl | rfl | rfl | rfl | rfl | rfl | rfl | rfl <;> exact ⟨_, rfl, rfl⟩
theorem fdeP (P : Params) : ∀ i ∈ defs, i ≠ 7 → fdP P i = Calls.docDef (fnName i) (fnArgs i) (fnBody i) (fnSc i) (fdP P i).pyModule (fdP P i).code (fdP P i).doc := by
  intro i hi h7
  simp only [defs, List.mem_cons, List.not_mem_nil, or_false] at hi
  rcases hi with rfl | rfl | rfl | rfl | rfl | rfl | rfl | rfl | rfl | rfl | rfl | rfl | rfl | rfl | rfl | rfl | rfl | rfl | rfl | rfl | rfl | rfl | rfl | rfl | rfl | rfl | rfl <;> first | exact absurd rfl h7 | kernel_rfl
theorem fde7P (P : Params) : fdP P 7 = { Calls.docDef (fnName 7) (fnArgs 7) (fnBody 7) (fnSc 7) (fdP P 7).pyModule (fdP P 7).code (fdP P 7).doc with defaults := .ref 46 } := by kernel_rfl
theorem atTP (P : Params) : ∃ o n, (hd.heap_39 P).lookup 46 = some o ∧ o.data = .seq #[.bool false, .bool false] n := ⟨_, _, rfl, rfl⟩
theorem cdP (P : Params) : ∀ i ∈ defs, ∃ c o vs t, (fdP P i).code = .ref c ∧ (hd.heap_39 P).lookup c = some o ∧ o.data = .fields vs ∧ vs[1]? = some (.str (fnName i) t) := by
  intro i hi
  simp only [defs, List.mem_cons, List.not_mem_nil, or_false] at hi
  rcases hi with rfl | rfl | rfl | rfl | rfl | rfl | rfl | rfl | rfl | rfl | rfl | rfl | rfl | rfl | rfl | rfl | rfl | rfl | rfl | rfl | rfl | rfl | rfl | rfl | rfl | rfl | rfl <;> exact ⟨_, _, _, _, rfl, rfl, rfl, rfl⟩
theorem rp {C : Cx} {P : Params} (K : (hd.heap_39 P).In C.h) {a : Addr} {n : List UInt8 × Str} {t1 t2 : Tok} {m : Nat} (h : (hd.heap_39 P).lookup a = some { cls := .type "tuple", data := .seq #[.bytes n.1.toArray t1, .str n.2 t2] m }) : Rep C (fun b => C.h.get? b) (.ref a) (nmD n) :=
  .tup' (K a _ h) rfl rfl (.cons (.bytes _ _) (.cons (.str _ _) .nil))
theorem namesP {C : Cx} {P : Params} (K : (hd.heap_39 P).In C.h) : Rep C (fun b => C.h.get? b) (.ref 152) (.tup (namesL.map nmD)) :=
  .tup' (K 152 _ rfl) rfl rfl (.cons (rp K rfl) (.cons (rp K rfl) (.cons (rp K rfl) (.cons (rp K rfl) (.cons (rp K rfl) (.cons (rp K rfl) .nil))))))
theorem wordsP {C : Cx} {P : Params} (K : (hd.heap_39 P).In C.h) : Rep C (fun b => C.h.get? b) (.ref 159) (.tup (wordsL.map nmD)) :=
  .tup' (K 159 _ rfl) rfl rfl (.cons (rp K rfl) (.cons (rp K rfl) (.cons (rp K rfl) (.cons (rp K rfl) (.cons (rp K rfl) (.cons (rp K rfl) .nil))))))
theorem nsNames (P : Params) : nsFind (gEs P) "_law_names" = some (.ref 152) ∧ nsFind (gEs P) "_law_words" = some (.ref 159) := ⟨by kernel_rfl, by kernel_rfl⟩
end Mine

set_option maxRecDepth 100000
set_option autoImplicit false
set_option linter.unusedVariables false
namespace Mine
open PySem PySem.W PyProof.Rows

noncomputable def okL (C : Cx) (P : Params) (K : (hd.heap_39 P).In C.h) (hmg : ∀ x, C.mg x = nsFind (gEs P) x) : OkL C where
  f := fa
  fd := fdP P
  pm := fun i => (fdP P i).pyModule
  code := fun i => (fdP P i).code
  doc := fun i => (fdP P i).doc
  fault := faultOk C
  nm := fun i hi => by rw [hmg]; exact nsDefs P i hi
  at_ := fun i hi => by
    obtain ⟨o, h1, h2⟩ := atF P i hi
    exact ⟨o, K _ _ h1, h2⟩
  cd := fun i hi => by
    obtain ⟨c, o, vs, t, h1, h2, h3, h4⟩ := cdP P i hi
    exact ⟨c, o, vs, t, h1, K _ _ h2, h3, h4⟩
  fde := fdeP P
  T := 46
  fde7 := fde7P P
  atT := by
    obtain ⟨o, n, h1, h2⟩ := atTP P
    exact ⟨o, n, K _ _ h1, h2⟩
  nob := fun x hx => by rw [hmg]; exact nsNobs P x hx
  names := ⟨_, by rw [hmg]; exact (nsNames P).1, namesP K⟩
  words := ⟨_, by rw [hmg]; exact (nsNames P).2, wordsP K⟩
end Mine

set_option maxRecDepth 100000
set_option autoImplicit false
set_option linter.unusedVariables false
namespace Mine
open PySem PySem.W PyProof.Rows

theorem ints_reps {C : Cx} {G : Gm} {vs : List Value} {xs : List Int} (h : IntsAre vs xs) : Reps C G vs (xs.map D.int) := by
  induction h with
  | nil => exact .nil
  | cons _ _ _ ih => exact .cons (.int _ _) ih
theorem room22 : Room 22 callerA := ⟨rfl, by decide, by decide⟩
theorem law_end (C : Cx) (P : Params) (K : (hd.heap_39 P).In C.h) (hmg : ∀ x, C.mg x = nsFind (gEs P) x) {s : Shared} (hs : s.heap = C.h) {l : Addr} {vs : List Value} {xs : List Int} (hL : s.heap.IsList l vs.toArray) (hI : IntsAre vs xs) (hx : xs.length ≤ 63) {Q E : Value → Shared → Prop}
    (hQ : ∀ h' tk, Hle s.heap h' → Q (.bool true) { s with heap := h', toks := tk }) : wpAny (model C.prog C.w) callerA (call (.ref 186) [.ref l]) Q E s := by
  obtain ⟨o, h1, h2, n, h3⟩ := hL
  refine Fn31 (okL C P K hmg) hx callerA (fun b => s.heap.get? b) s [.ref l] [] Q E room22 ⟨by rw [hs]; exact Hle.refl _, by rw [hs]; exact Gle.refl _⟩ (fun _ _ e => e) (.cons (.list' h1 h2 h3 (ints_reps hI)) .nil) ⟨rfl, .nil⟩ fun v ow h' tk G' gr hv _ _ => ?_
  obtain ⟨rfl, hv⟩ := hv
  cases hv
  exact hQ h' tk gr.keep
end Mine

set_option maxRecDepth 100000
set_option autoImplicit false
set_option linter.unusedVariables false
open PySem PySem.W PyProof.Rows Mine in
theorem PySem.Challenge.cw_fr0009_01_holds : PySem.Challenge.rw_fr0009_01.Holds := by
  refine hd fun w s₀ s₁ mg mb G Y a o pm cd doc dV kV ho hdat hcode hdf hmg hgens args vals as hpre hlay hrd hwell hlow => ?_
  have K := kIn_of Y
  obtain ⟨mm, ⟨om, _, _, hm, _⟩, _⟩ := (G.T.seer (by rfl)).mods
  have hlaw : a = 186 := by
    have e := mgIs' K G.T.g "law"
    have e2 : nsFind (gEs w.params) "law" = some (.ref 186) := by kernel_rfl
    rw [e2] at e
    have e3 : mg "law" = some (.ref a) := hmg
    rw [e3] at e
    cases e
    rfl
  subst hlaw
  wrow_args hpre hlay hrd hwell hlow
  refine law_end ⟨_, w, s₁.heap, mg, mb, G.T.g, G.T.b, G.T.builtins, G.T.nolimit, ⟨om, hm⟩⟩ w.params K (mgIs' K G.T.g) rfl (by assumption) (by assumption) (by omega) fun h' tk le => ?_
  refine ⟨.inl ⟨_, _, [], rfl, fun _ => rfl, ReadsW.bool true, ?_, fun _ => ⟨List.nodup_nil, fun _ hm => (nomatch hm)⟩⟩, .of_keep le, rfl, .of_eq hgens⟩
  first | rfl | wrow_post
