import PyProof.Rows.All
import Wide.All
import OpenK.AllK
import Wide.FinOn
import Lean
import PySem.Challenge.RW_wn0019_02
set_option Elab.async false
set_option maxRecDepth 100000
set_option linter.unusedVariables false
section
open PySem PySem.W PySem.Calls PyProof.Rows

namespace Mine

def LstAt (h : Heap) (a : Addr) (items : Array Value) : Prop := ∃ o, h.get? a = some o ∧ o.cls = .type "list" ∧ o.dict = none ∧ ∃ n, o.data = .seq items n
theorem LstAt.at {h h' : Heap} {a items} (x : LstAt h a items) (e : ∀ o, h.get? a = some o → h'.get? a = some o) : LstAt h' a items := let ⟨o, ho, r⟩ := x; ⟨o, e _ ho, r⟩
theorem LstAt.isList {h : Heap} {a items} (x : LstAt h a items) : h.IsList a items := let ⟨o, ho, c, d, r⟩ := x; ⟨o, ho, c, r⟩
theorem LstAt.ofPlain {h : Heap} {a items} (x : h.PlainList a items) : LstAt h a items := let ⟨n, ho⟩ := x; ⟨_, ho, rfl, rfl, n, rfl⟩
inductive D where
  | none
  | bool (b : Bool)
  | int (i : Int)
  | str (s : PySem.Str)
  | tup (ds : List D)
  | lst (ds : List D)
  | dct (ks : List PySem.Str) (ds : List D)
  | rng (n : Nat)
  | items (ks : List PySem.Str) (ds : List D)
  | keys (ks : List PySem.Str) (ds : List D)
  | vals (ks : List PySem.Str) (ds : List D)
  deriving Inhabited

section
variable (prog : Program) (w : World)

mutual
def Rel (av : Addr → Prop) (h : Heap) : D → Value → Prop
  | .none, v => v = .none
  | .bool b, v => v = .bool b
  | .int i, v => ∃ t, v = .int i t
  | .str s, v => ∃ t, v = .str s t
  | .tup ds, v => ∃ a vs, v = .ref a ∧ ¬ av a ∧ h.IsTuple a vs.toArray ∧ RelL av h ds vs
  | .lst ds, v => ∃ a vs, v = .ref a ∧ ¬ av a ∧ LstAt h a vs.toArray ∧ RelL av h ds vs
  | .dct ks ds, v => ∃ a kvs ep, v = .ref a ∧ ¬ av a ∧ (a == sysModules) = false ∧ h.DictAt (PySem.strKind prog w) a kvs ep ∧ kvs.map (·.1) = ks ∧ RelL av h ds (kvs.map (·.2))
  | .rng n, v => ∃ a t u x, v = .ref a ∧ ¬ av a ∧ IsRange h a 0 n 1 t u x
  | .items ks ds, v => ∃ b a kvs ep, v = .ref b ∧ ¬ av b ∧ h.IsItemsView b a ∧ ¬ av a ∧ (a == sysModules) = false ∧ h.DictAt (PySem.strKind prog w) a kvs ep ∧ kvs.map (·.1) = ks ∧ RelL av h ds (kvs.map (·.2))
  | .keys ks ds, v => ∃ b a kvs ep, v = .ref b ∧ ¬ av b ∧ KdlKeysView h b a ∧ ¬ av a ∧ (a == sysModules) = false ∧ h.DictAt (PySem.strKind prog w) a kvs ep ∧ kvs.map (·.1) = ks ∧ RelL av h ds (kvs.map (·.2))
  | .vals ks ds, v => ∃ b a kvs ep, v = .ref b ∧ ¬ av b ∧ h.IsValuesView b a ∧ ¬ av a ∧ (a == sysModules) = false ∧ h.DictAt (PySem.strKind prog w) a kvs ep ∧ kvs.map (·.1) = ks ∧ RelL av h ds (kvs.map (·.2))
def RelL (av : Addr → Prop) (h : Heap) : List D → List Value → Prop
  | [], vs => vs = []
  | d :: ds, vs => ∃ v r, vs = v :: r ∧ Rel av h d v ∧ RelL av h ds r
end

theorem isItemsView_at {h h' : Heap} {v d} (x : h.IsItemsView v d) (e : ∀ o, h.get? v = some o → h'.get? v = some o) : h'.IsItemsView v d := let ⟨o, ho, r⟩ := x; ⟨o, e _ ho, r⟩
theorem isValuesView_at {h h' : Heap} {v d} (x : h.IsValuesView v d) (e : ∀ o, h.get? v = some o → h'.get? v = some o) : h'.IsValuesView v d := let ⟨o, ho, r⟩ := x; ⟨o, e _ ho, r⟩

section
variable {prog w} {av av' : Addr → Prop} {h h' : Heap}

mutual
theorem Rel.imp (hk : ∀ a o, ¬ av a → h.get? a = some o → ¬ av' a ∧ h'.get? a = some o) : ∀ (d : D) (v : Value), Rel prog w av h d v → Rel prog w av' h' d v
  | .none, _, e => e
  | .bool _, _, e => e
  | .int _, _, e => e
  | .str _, _, e => e
  | .tup ds, _, x => by
    obtain ⟨a, vs, e, n, t, r⟩ := x
    obtain ⟨o, ho, _⟩ := id t
    exact ⟨a, vs, e, (hk a o n ho).1, t.at fun o e => (hk a o n e).2, RelL.imp hk ds vs r⟩
  | .lst ds, _, x => by
    obtain ⟨a, vs, e, n, t, r⟩ := x
    obtain ⟨o, ho, _⟩ := id t
    exact ⟨a, vs, e, (hk a o n ho).1, t.at fun o e => (hk a o n e).2, RelL.imp hk ds vs r⟩
  | .dct ks ds, _, x => by
    obtain ⟨a, kvs, ep, e, n, y, t, z, r⟩ := x
    obtain ⟨o, _, ho, _⟩ := id t
    exact ⟨a, kvs, ep, e, (hk a o n ho).1, y, t.at' fun o e => (hk a o n e).2, z, RelL.imp hk ds _ r⟩
  | .rng _, _, x => by
    obtain ⟨a, t, u, y, e, n, i⟩ := x
    exact ⟨a, t, u, y, e, (hk a _ n i).1, (hk a _ n i).2⟩
  | .items ks ds, _, x => by
    obtain ⟨b, a, kvs, ep, e, m, i, n, y, t, z, r⟩ := x
    obtain ⟨o, _, ho, _⟩ := id t
    obtain ⟨o', ho', _⟩ := id i
    exact ⟨b, a, kvs, ep, e, (hk b o' m ho').1, isItemsView_at i fun o q => (hk b o m q).2, (hk a o n ho).1, y, t.at' fun o e => (hk a o n e).2, z, RelL.imp hk ds _ r⟩
  | .keys ks ds, _, x => by
    obtain ⟨b, a, kvs, ep, e, m, i, n, y, t, z, r⟩ := x
    obtain ⟨o, _, ho, _⟩ := id t
    obtain ⟨o', ho', q⟩ := id i
    exact ⟨b, a, kvs, ep, e, (hk b o' m ho').1, ⟨o', (hk b o' m ho').2, q⟩, (hk a o n ho).1, y, t.at' fun o e => (hk a o n e).2, z, RelL.imp hk ds _ r⟩
  | .vals ks ds, _, x => by
    obtain ⟨b, a, kvs, ep, e, m, i, n, y, t, z, r⟩ := x
    obtain ⟨o, _, ho, _⟩ := id t
    obtain ⟨o', ho', _⟩ := id i
    exact ⟨b, a, kvs, ep, e, (hk b o' m ho').1, isValuesView_at i fun o q => (hk b o m q).2, (hk a o n ho).1, y, t.at' fun o e => (hk a o n e).2, z, RelL.imp hk ds _ r⟩
theorem RelL.imp (hk : ∀ a o, ¬ av a → h.get? a = some o → ¬ av' a ∧ h'.get? a = some o) : ∀ (ds : List D) (vs : List Value), RelL prog w av h ds vs → RelL prog w av' h' ds vs
  | [], _, e => e
  | d :: ds, _, ⟨v, r, e, x, y⟩ => ⟨v, r, e, Rel.imp hk d v x, RelL.imp hk ds r y⟩
end

theorem Rel.keeps {d v} (x : Rel prog w av h d v) (hk : ∀ a o, h.get? a = some o → h'.get? a = some o) : Rel prog w av h' d v := x.imp (fun a o n e => ⟨n, hk a o e⟩)
theorem RelL.keeps {d v} (x : RelL prog w av h d v) (hk : ∀ a o, h.get? a = some o → h'.get? a = some o) : RelL prog w av h' d v := x.imp (fun a o n e => ⟨n, hk a o e⟩)
theorem Rel.weak {d v} (x : Rel prog w av h d v) (hk : ∀ a, av' a → av a) : Rel prog w av' h d v := x.imp (fun a o n e => ⟨fun q => n (hk a q), e⟩)
theorem RelL.weak {d v} (x : RelL prog w av h d v) (hk : ∀ a, av' a → av a) : RelL prog w av' h d v := x.imp (fun a o n e => ⟨fun q => n (hk a q), e⟩)

theorem RelL.length : ∀ {ds : List D} {vs : List Value}, RelL prog w av h ds vs → vs.length = ds.length
  | [], _, e => by rw [e]; rfl
  | _ :: _, _, ⟨_, _, e, _, y⟩ => by rw [e, List.length_cons, List.length_cons, y.length]
theorem RelL.get : ∀ {ds : List D} {vs : List Value} {i : Nat} {d : D}, RelL prog w av h ds vs → ds[i]? = some d → ∃ v, vs[i]? = some v ∧ Rel prog w av h d v
  | [], _, _, _, _, q => by simp at q
  | _ :: _, _, 0, _, ⟨v, r, e, x, y⟩, q => by
    subst e; simp at q; subst q; exact ⟨v, rfl, x⟩
  | _ :: _, _, i + 1, _, ⟨v, r, e, x, y⟩, q => by
    subst e; simp at q; simpa using y.get q
theorem RelL.get' : ∀ {ds : List D} {vs : List Value} {i : Nat} {v : Value}, RelL prog w av h ds vs → vs[i]? = some v → ∃ d, ds[i]? = some d ∧ Rel prog w av h d v := by
  intro ds vs i v x q
  have hl := x.length
  have hi : i < vs.length := (List.getElem?_eq_some_iff.mp q).1
  have e : ds[i]? = some (ds[i]'(hl ▸ hi)) := List.getElem?_eq_getElem (hl ▸ hi)
  obtain ⟨v', e', r⟩ := x.get e
  rw [q] at e'; cases e'
  exact ⟨_, e, r⟩
theorem RelL.append : ∀ {ds es : List D} {vs us : List Value}, RelL prog w av h ds vs → RelL prog w av h es us → RelL prog w av h (ds ++ es) (vs ++ us)
  | [], _, _, _, e, y => by rw [show _ = [] from e]; exact y
  | _ :: _, _, _, _, ⟨v, r, e, x, y⟩, z => by subst e; exact ⟨v, _, rfl, x, y.append z⟩
theorem RelL.one {d v} (x : Rel prog w av h d v) : RelL prog w av h [d] [v] := ⟨v, [], rfl, x, rfl⟩
theorem RelL.strs : ∀ {ss : List PySem.Str} {vs : List Value}, RelL prog w av h (ss.map D.str) vs → StrsAre vs ss
  | [], _, e => by rw [show _ = [] from e]; exact .nil
  | s :: ss, _, ⟨v, r, e, ⟨t, x⟩, y⟩ => by subst e x; exact .cons _ _ (y.strs)
theorem RelL.ints : ∀ {ns : List Int} {vs : List Value}, RelL prog w av h (ns.map D.int) vs → IntsAre vs ns
  | [], _, e => by rw [show _ = [] from e]; exact .nil
  | s :: ss, _, ⟨v, r, e, ⟨t, x⟩, y⟩ => by subst e x; exact .cons _ _ (y.ints)
theorem RelL.ofStrs : ∀ {ss : List PySem.Str} {vs : List Value}, StrsAre vs ss → RelL prog w av h (ss.map D.str) vs
  | _, _, .nil => rfl
  | _, _, .cons _ _ y => ⟨_, _, rfl, ⟨_, rfl⟩, RelL.ofStrs y⟩
theorem RelL.ofInts : ∀ {ss : List Int} {vs : List Value}, IntsAre vs ss → RelL prog w av h (ss.map D.int) vs
  | _, _, .nil => rfl
  | _, _, .cons _ _ y => ⟨_, _, rfl, ⟨_, rfl⟩, RelL.ofInts y⟩
end

inductive Slot where
  | val (d : D)
  | own (a : Addr) (ds : List D)
  | ownd (a : Addr) (ks : List PySem.Str) (ds : List D)
  deriving Inhabited

abbrev Store := PySem.Str → Option Slot

def upd (σ : Store) (x : PySem.Str) (s : Slot) : Store := fun y => if y = x then some s else σ y
theorem upd_same (σ : Store) (x : PySem.Str) (s : Slot) : upd σ x s x = some s := if_pos rfl
theorem upd_ne {σ : Store} {x y : PySem.Str} {s : Slot} (h : y ≠ x) : upd σ x s y = σ y := if_neg h

def SlotRel (av : Addr → Prop) (h : Heap) : Slot → Value → Prop
  | .val d, v => Rel prog w av h d v
  | .own a ds, v => v = .ref a ∧ ∃ vs, h.PlainList a vs.toArray ∧ RelL prog w av h ds vs
  | .ownd a ks ds, v => v = .ref a ∧ (a == sysModules) = false ∧ ∃ kvs ep, h.DictAt (PySem.strKind prog w) a kvs ep ∧ kvs.map (·.1) = ks ∧ RelL prog w av h ds (kvs.map (·.2))

variable {prog w} in
theorem SlotRel.keeps {av : Addr → Prop} {h h' : Heap} {sl : Slot} {v : Value} (x : SlotRel prog w av h sl v) (hk : ∀ a o, h.get? a = some o → h'.get? a = some o) : SlotRel prog w av h' sl v := by
  cases sl with
  | val d => exact Rel.keeps x hk
  | own a ds => exact ⟨x.1, let ⟨vs, l, r⟩ := x.2; ⟨vs, l.at fun o e => hk a o e, r.keeps hk⟩⟩
  | ownd a ks ds => exact ⟨x.1, x.2.1, let ⟨kvs, ep, l, z, r⟩ := x.2.2; ⟨kvs, ep, l.at' fun o e => hk a o e, z, r.keeps hk⟩⟩

def Reads (env : Env) (h : Heap) (x : PySem.Str) (v : Value) : Prop :=
  (env.kindOf x = some .local ∧ ∃ m, h.Ns env.locals m ∧ m x = some v) ∨
  ((env.kindOf x = some .cell ∨ env.kindOf x = some .free) ∧ ∃ c, env.cells.lookup x = some c ∧ h.IsCell c (some v))

theorem Reads.keeps {env : Env} {h h' : Heap} {x : PySem.Str} {v : Value} (r : Reads env h x v) (hk : ∀ a o, h.get? a = some o → h'.get? a = some o) : Reads env h' x v :=
  r.imp (fun ⟨k, m, n, e⟩ => ⟨k, m, n.keeps hk, e⟩) (fun ⟨k, c, n, e⟩ => ⟨k, c, n, e.keeps hk⟩)

structure Room (A : Around) (n : Nat) : Prop where
  hd : A.handled = none
  dep : A.depth + n < recursionLimit
  uni : A.units + 8 * n + 16 < cLine
theorem Room.le {A : Around} {m n : Nat} (r : Room A n) (h : m ≤ n) : Room A m := ⟨r.hd, by have := r.dep; omega, by have := r.uni; omega⟩

structure EnvOk (sc : Scope) (env : Env) : Prop where
  is : env.scope = sc
  kind : sc.kind = .function
  gl : env.globals = mainGlobals
  bi : env.builtins = builtinsNs
  cell : ∀ x, sc.names.lookup x = some .cell ∨ sc.names.lookup x = some .free → ∃ c, env.cells.lookup x = some c
  inj : ∀ x y c, env.cells.lookup x = some c → env.cells.lookup y = some c → x = y

variable (H₀ : Heap)

structure Rd (env : Env) (av : Addr → Prop) (σ : Store) (h : Heap) : Prop where
  base : ∀ a o, H₀.get? a = some o → h.get? a = some o
  live : ∀ a, av a → ∃ o, h.get? a = some o
  var : ∀ x s, σ x = some s → ∃ v, Reads env h x v ∧ SlotRel prog w av h s v
  cells : ∀ x c, env.cells.lookup x = some c → ∃ v, h.IsCell c v

variable {prog w H₀} in
theorem Rd.keeps {env : Env} {av : Addr → Prop} {σ : Store} {h h' : Heap} (r : Rd prog w H₀ env av σ h) (hk : ∀ a o, h.get? a = some o → h'.get? a = some o) : Rd prog w H₀ env av σ h' where
  base := fun a o e => hk a o (r.base a o e)
  live := fun a e => let ⟨o, q⟩ := r.live a e; ⟨o, hk a o q⟩
  var := fun x s e => let ⟨v, a, b⟩ := r.var x s e; ⟨v, a.keeps hk, b.keeps hk⟩
  cells := fun x c e => let ⟨v, q⟩ := r.cells x c e; ⟨v, q.keeps hk⟩

def Grow (s s' : Shared) : Prop := ∃ h' tk, s' = { s with heap := h', toks := tk } ∧ ∀ a o, s.heap.get? a = some o → h'.get? a = some o
theorem Grow.refl (s : Shared) : Grow s s := ⟨s.heap, s.toks, rfl, fun _ _ e => e⟩
theorem Grow.trans {a b c : Shared} (x : Grow a b) (y : Grow b c) : Grow a c := by
  obtain ⟨h, t, rfl, k⟩ := x
  obtain ⟨h', t', rfl, k'⟩ := y
  exact ⟨h', t', rfl, fun _ _ e => k' _ _ (k _ _ e)⟩
theorem Grow.get {s s' : Shared} (x : Grow s s') : ∀ a o, s.heap.get? a = some o → s'.heap.get? a = some o := by obtain ⟨h, t, rfl, k⟩ := x; exact k
theorem Grow.tok (s : Shared) (t : Tok) : Grow s { s with toks := t } := ⟨s.heap, t, rfl, fun _ _ e => e⟩
theorem Grow.mk (s : Shared) (h : Heap) (t : Tok) (k : ∀ a o, s.heap.get? a = some o → h.get? a = some o) : Grow s { s with heap := h, toks := t } := ⟨h, t, rfl, k⟩
theorem Grow.push (s : Shared) (o : Obj) (t : Tok) : Grow s { s with heap := s.heap.push o, toks := t } := ⟨_, t, rfl, fun _ _ e => Heap.get?_push_of_some _ e⟩

/-- an expression gives a datum -/
def Ev (sc : Scope) (n : Nat) (σ : Store) (e : Expr) (Q : D → Prop) : Prop :=
  ∀ (env : Env) (A : Around) (s : Shared) (av : Addr → Prop) (Q' : Value → Shared → Prop) (E : Value → Shared → Prop),
    EnvOk sc env → Room A n → Rd prog w H₀ env av σ s.heap →
    (∀ v s' d, Q d → Rel prog w av s'.heap d v → Grow s s' → Q' v s') → wpAny (model prog w) A (eval e env) Q' E s

end
end Mine
end
section
open PySem PySem.W PySem.Calls PyProof.Rows

namespace Mine
section
variable (prog : Program) (w : World) (H₀ : Heap)

/-- test of an expression -/
def EvB (sc : Scope) (n : Nat) (σ : Store) (e : Expr) (Q : Bool → Prop) : Prop :=
  ∀ (env : Env) (A : Around) (s : Shared) (av : Addr → Prop) (Q' : Bool → Shared → Prop) (E : Value → Shared → Prop),
    EnvOk sc env → Room A n → Rd prog w H₀ env av σ s.heap →
    (∀ b s', Q b → Grow s s' → Q' b s') → wpAny (model prog w) A (isTrue e env (eval e env)) Q' E s

/-- arguments, items of a display -/
def EvL (sc : Scope) (n : Nat) (σ : Store) (es : List Expr) (Q : List D → Prop) : Prop :=
  ∀ (env : Env) (A : Around) (s : Shared) (av : Addr → Prop) (pos : Pos) (Q' : List Value → Shared → Prop) (E : Value → Shared → Prop),
    EnvOk sc env → Room A n → Rd prog w H₀ env av σ s.heap →
    (∀ vs s' ds, Q ds → RelL prog w av s'.heap ds vs → Grow s s' → Q' vs s') → wpAny (model prog w) A (spliced (backTo pos (starEach es env))) Q' E s

/-- a heap at which values are read -/
structure Hp (av : Addr → Prop) (h : Heap) : Prop where
  base : ∀ a o, H₀.get? a = some o → h.get? a = some o
  live : ∀ a, av a → ∃ o, h.get? a = some o

/-- an operation on values -/
def Op1 (n : Nat) (t : Value → Sem Value) (a : D) (Q : D → Prop) : Prop :=
  ∀ (A : Around) (s : Shared) (av : Addr → Prop) (v : Value) (Q' : Value → Shared → Prop) (E : Value → Shared → Prop),
    Room A n → Hp H₀ av s.heap → Rel prog w av s.heap a v →
    (∀ r s' d, Q d → Rel prog w av s'.heap d r → Grow s s' → Q' r s') → wpAny (model prog w) A (t v) Q' E s
def Op2 (n : Nat) (t : Value → Value → Sem Value) (a b : D) (Q : D → Prop) : Prop :=
  ∀ (A : Around) (s : Shared) (av : Addr → Prop) (v u : Value) (Q' : Value → Shared → Prop) (E : Value → Shared → Prop),
    Room A n → Hp H₀ av s.heap → Rel prog w av s.heap a v → Rel prog w av s.heap b u →
    (∀ r s' d, Q d → Rel prog w av s'.heap d r → Grow s s' → Q' r s') → wpAny (model prog w) A (t v u) Q' E s
def OpL (n : Nat) (t : List Value → Sem Value) (ds : List D) (Q : D → Prop) : Prop :=
  ∀ (A : Around) (s : Shared) (av : Addr → Prop) (vs : List Value) (Q' : Value → Shared → Prop) (E : Value → Shared → Prop),
    Room A n → Hp H₀ av s.heap → RelL prog w av s.heap ds vs →
    (∀ r s' d, Q d → Rel prog w av s'.heap d r → Grow s s' → Q' r s') → wpAny (model prog w) A (t vs) Q' E s
/-- o[i] -/
def OpI (n : Nat) (a b : D) (Q : D → Prop) : Prop :=
  ∀ (A : Around) (s : Shared) (av : Addr → Prop) (v u : Value) (Q' : Value → Shared → Prop) (E : Value → Shared → Prop),
    Room A n → Hp H₀ av s.heap → Rel prog w av s.heap a v → Rel prog w av s.heap b u →
    (∀ r s' d, Q d → Rel prog w av s'.heap d r → Grow s s' → Q' r s') →
    ∃ T id, s.TypeIs v T ∧ typeLookup (.type T) "__getitem__" = pure (some (.builtin id)) ∧ wpAny (model prog w) A (getItem v u) Q' E s

/-- a global name's value -/
def Glob (f : PySem.Str) (v : Value) : Prop :=
  (∃ mg, H₀.Ns mainGlobals mg ∧ mg f = some v) ∨ (∃ mg mb, H₀.Ns mainGlobals mg ∧ mg f = none ∧ H₀.Ns builtinsNs mb ∧ mb f = some v)

def Callee (f : Value) : Prop := (∃ id, f = .builtin id) ∨ (∃ T, f = .type T) ∨ ∃ a o fd, f = .ref a ∧ H₀.get? a = some o ∧ o.data = .func fd

inductive Flat : D → Prop
  | none : Flat .none
  | bool (b) : Flat (.bool b)
  | int (i) : Flat (.int i)
  | str (s) : Flat (.str s)

section
variable {prog w H₀} {sc : Scope} {n : Nat} {σ : Store}

theorem Rd.hp {env : Env} {av : Addr → Prop} {h : Heap} (r : Rd prog w H₀ env av σ h) : Hp H₀ av h := ⟨r.base, r.live⟩

theorem Flat.rel {d : D} (f : Flat d) {av av' : Addr → Prop} {h h' : Heap} {v : Value} (x : Rel prog w av h d v) : Rel prog w av' h' d v := by
  cases f <;> exact x

theorem Reads.load {env : Env} {A : Around} {s : Shared} {x : PySem.Str} {v : Value} {Q : Value → Shared → Prop} {E : Value → Shared → Prop} {M : Model} (ok : EnvOk sc env) (r : Reads env s.heap x v) (h : Q v s)
    (hc : (x == ("__classdict__" : PySem.Str)) = false) : wpAny M A (loadName env x) Q E s := by
  have hk : env.scope.kind = .function := by rw [ok.is]; exact ok.kind
  rcases r with ⟨k, m, hn, e⟩ | ⟨k, c, hc', e⟩
  · exact wpAny_loadName_local hk k hn e h
  · rcases k with k | k
    · exact wpAny_loadName_cell hk k hc' e h
    · exact wpAny_loadName_free hk k hc' e h hc

theorem Ev.name {x : PySem.Str} {pos : Pos} {d : D} {Q : D → Prop} (hx : σ x = some (.val d)) (h : Q d)
    (hd : (x == ("__debug__" : PySem.Str)) = false := by decide) (hc : (x == ("__classdict__" : PySem.Str)) = false := by decide) : Ev prog w H₀ sc n σ (.Name x pos) Q := by
  intro env A s av Q' E ok rm rd k
  obtain ⟨v, r, z⟩ := rd.var x _ hx
  exact wpAny_Name (r.load ok (k v s d h z (Grow.refl s)) hc) hd

theorem Ev.int {i : Int} {k : Nat} {pos : Pos} {Q : D → Prop} (h : Q (.int i)) : Ev prog w H₀ sc n σ (.Constant (.int i) k pos) Q := by
  intro env A s av Q' E ok rm rd q
  exact wpAny_Constant_int (q _ _ _ h ⟨_, rfl⟩ (Grow.tok s _))
theorem Ev.str {x : PySem.Str} {k : Nat} {pos : Pos} {Q : D → Prop} (h : Q (.str x)) : Ev prog w H₀ sc n σ (.Constant (.str x) k pos) Q := by
  intro env A s av Q' E ok rm rd q
  exact wpAny_Constant_str (q _ _ _ h ⟨_, rfl⟩ (Grow.tok s _))
theorem Ev.none {k : Nat} {pos : Pos} {Q : D → Prop} (h : Q .none) : Ev prog w H₀ sc n σ (.Constant .none k pos) Q := by
  intro env A s av Q' E ok rm rd q
  exact wpAny_Constant_none (q _ _ _ h rfl (Grow.refl s))
theorem Ev.mono {e : Expr} {Q R : D → Prop} (h : Ev prog w H₀ sc n σ e Q) (hq : ∀ d, Q d → R d) : Ev prog w H₀ sc n σ e R :=
  fun env A s av Q' E ok rm rd k => h env A s av Q' E ok rm rd fun v s' d q => k v s' d (hq d q)
theorem EvB.mono {e : Expr} {Q R : Bool → Prop} (h : EvB prog w H₀ sc n σ e Q) (hq : ∀ d, Q d → R d) : EvB prog w H₀ sc n σ e R :=
  fun env A s av Q' E ok rm rd k => h env A s av Q' E ok rm rd fun v s' q => k v s' (hq v q)
theorem Ev.bin {l r : Expr} {op : Operator} {pos : Pos} {Q : D → Prop}
    (h : Ev prog w H₀ sc n σ l fun a => Ev prog w H₀ sc n σ r fun b => Op2 prog w H₀ n (binaryOp op) a b Q) : Ev prog w H₀ sc n σ (.BinOp l op r pos) Q := by
  intro env A s av Q' E ok rm rd k
  refine wpAny_BinOp (h env A s av _ E ok rm rd fun v s₁ a h₁ x g₁ => ?_)
  refine h₁ env A s₁ av _ E ok rm (rd.keeps g₁.get) fun u s₂ b h₂ y g₂ => ?_
  exact h₂ A s₂ av v u Q' E rm ((rd.keeps g₁.get).keeps g₂.get).hp (x.keeps g₂.get) y fun r s₃ d q z g₃ => k r s₃ d q z ((g₁.trans g₂).trans g₃)

theorem Ev.un {e : Expr} {op : UnaryOp} {pos : Pos} {Q : D → Prop} (h : Ev prog w H₀ sc n σ e fun a => Op1 prog w H₀ n (unaryOp op) a Q) : Ev prog w H₀ sc n σ (.UnaryOp op e pos) Q := by
  intro env A s av Q' E ok rm rd k
  refine UnaryOp_ (h env A s av _ E ok rm rd fun v s₁ a h₁ x g₁ => ?_)
  exact h₁ A s₁ av v Q' E rm (rd.keeps g₁.get).hp x fun r s₃ d q z g₃ => k r s₃ d q z (g₁.trans g₃)

theorem Ev.cmp {l r : Expr} {op : CmpOp} {pos : Pos} {Q : D → Prop}
    (h : Ev prog w H₀ sc n σ l fun a => Ev prog w H₀ sc n σ r fun b => Op2 prog w H₀ n (compareOp op) a b Q)
    (hm : behindInMarks op r = false := by with_unfolding_all rfl) : Ev prog w H₀ sc n σ (.Compare l [op] [r] pos) Q := by
  intro env A s av Q' E ok rm rd k
  refine wpAny_Compare1 (h env A s av _ E ok rm rd fun v s₁ a h₁ x g₁ => ?_) hm
  refine h₁ env A s₁ av _ E ok rm (rd.keeps g₁.get) fun u s₂ b h₂ y g₂ => ?_
  exact h₂ A s₂ av v u Q' E rm ((rd.keeps g₁.get).keeps g₂.get).hp (x.keeps g₂.get) y fun r s₃ d q z g₃ => k r s₃ d q z ((g₁.trans g₂).trans g₃)

theorem EvB.cmp {l r : Expr} {op : CmpOp} {pos : Pos} {Q : Bool → Prop}
    (h : Ev prog w H₀ sc n σ l fun a => Ev prog w H₀ sc n σ r fun b => Op2 prog w H₀ n (compareOp op) a b fun d => ∃ c, d = .bool c ∧ Q c)
    (hm : behindInMarks op r = false := by with_unfolding_all rfl) : EvB prog w H₀ sc n σ (.Compare l [op] [r] pos) Q := by
  intro env A s av Q' E ok rm rd k
  refine wpAny_isTrue_Compare1 (h env A s av _ E ok rm rd fun v s₁ a h₁ x g₁ => ?_) hm
  refine h₁ env A s₁ av _ E ok rm (rd.keeps g₁.get) fun u s₂ b h₂ y g₂ => ?_
  refine h₂ A s₂ av v u _ E rm ((rd.keeps g₁.get).keeps g₂.get).hp (x.keeps g₂.get) y fun r s₃ d q z g₃ => ?_
  obtain ⟨c, rfl, q⟩ := q
  rw [show r = .bool c from z]
  exact wpAny_truthy_bool (k c s₃ q ((g₁.trans g₂).trans g₃))

theorem EvB.val {e : Expr} {Q : Bool → Prop} (h : Ev prog w H₀ sc n σ e fun d => ∃ c, d = .bool c ∧ Q c)
    (he : ∀ env, isTrue e env (eval e env) = (do let v ← eval e env; standAt e.pos; holding [v] (truthy v)) := by intro _; rfl) : EvB prog w H₀ sc n σ e Q := by
  intro env A s av Q' E ok rm rd k
  refine isTrue_plain (h env A s av _ E ok rm rd fun r s₁ d q z g₁ => ?_) (he env)
  obtain ⟨c, rfl, q⟩ := q
  rw [show r = .bool c from z]
  exact wpAny_truthy_bool (k c s₁ q g₁)

theorem EvB.and_nil {pos : Pos} {Q : Bool → Prop} (h : Q true) : EvB prog w H₀ sc n σ (.BoolOp .And [] pos) Q :=
  fun env A s av Q' E ok rm rd k => isTrue_and_nil (k true s h (Grow.refl s))
theorem EvB.or_nil {pos : Pos} {Q : Bool → Prop} (h : Q false) : EvB prog w H₀ sc n σ (.BoolOp .Or [] pos) Q :=
  fun env A s av Q' E ok rm rd k => isTrue_or_nil (k false s h (Grow.refl s))
theorem EvB.and {e : Expr} {es : List Expr} {pos : Pos} {Q : Bool → Prop} (h : EvB prog w H₀ sc n σ e fun c => if c then EvB prog w H₀ sc n σ (.BoolOp .And es pos) Q else Q false) :
    EvB prog w H₀ sc n σ (.BoolOp .And (e :: es) pos) Q := by
  intro env A s av Q' E ok rm rd k
  refine isTrue_and (h env A s av _ E ok rm rd fun c s₁ q g₁ => ?_)
  cases c with
  | false => exact k false s₁ q g₁
  | true => exact q env A s₁ av Q' E ok rm (rd.keeps g₁.get) fun b s₂ q g₂ => k b s₂ q (g₁.trans g₂)
theorem EvB.or {e : Expr} {es : List Expr} {pos : Pos} {Q : Bool → Prop} (h : EvB prog w H₀ sc n σ e fun c => if c then Q true else EvB prog w H₀ sc n σ (.BoolOp .Or es pos) Q) :
    EvB prog w H₀ sc n σ (.BoolOp .Or (e :: es) pos) Q := by
  intro env A s av Q' E ok rm rd k
  refine isTrue_or (h env A s av _ E ok rm rd fun c s₁ q g₁ => ?_)
  cases c with
  | true => exact k true s₁ q g₁
  | false => exact q env A s₁ av Q' E ok rm (rd.keeps g₁.get) fun b s₂ q g₂ => k b s₂ q (g₁.trans g₂)
theorem Ev.ifexp {t b o : Expr} {pos : Pos} {Q : D → Prop} (h : EvB prog w H₀ sc n σ t fun c => if c then Ev prog w H₀ sc n σ b Q else Ev prog w H₀ sc n σ o Q) : Ev prog w H₀ sc n σ (.IfExp t b o pos) Q := by
  intro env A s av Q' E ok rm rd k
  refine IfExp_ (h env A s av _ E ok rm rd fun c s₁ q g₁ => ?_)
  cases c with
  | false => exact q env A s₁ av Q' E ok rm (rd.keeps g₁.get) fun r s₂ d q z g₂ => k r s₂ d q z (g₁.trans g₂)
  | true => exact q env A s₁ av Q' E ok rm (rd.keeps g₁.get) fun r s₂ d q z g₂ => k r s₂ d q z (g₁.trans g₂)

theorem EvL.nil {Q : List D → Prop} (h : Q []) : EvL prog w H₀ sc n σ [] Q :=
  fun env A s av pos Q' E ok rm rd k => args_nil (k [] s [] h rfl (Grow.refl s))
theorem EvL.cons {e : Expr} {es : List Expr} {Q : List D → Prop} (h : Ev prog w H₀ sc n σ e fun d => EvL prog w H₀ sc n σ es fun ds => Q (d :: ds))
    (he : ∀ env, starEach (e :: es) env = (false, eval e env) :: starEach es env := by intro _; rfl) : EvL prog w H₀ sc n σ (e :: es) Q := by
  intro env A s av pos Q' E ok rm rd k
  refine args_cons (h env A s av _ E ok rm rd fun v s₁ d h₁ x g₁ => ?_) (he env)
  exact h₁ env A s₁ av pos _ E ok rm (rd.keeps g₁.get) fun vs s₂ ds q y g₂ => k _ s₂ _ q ⟨v, vs, rfl, x.keeps g₂.get, y⟩ (g₁.trans g₂)

theorem Hp.fresh {av : Addr → Prop} {h : Heap} (x : Hp H₀ av h) {a : Addr} (e : h.get? a = Option.none) : ¬ av a := fun q => by
  obtain ⟨o, ho⟩ := x.live a q
  rw [e] at ho; cases ho
theorem get_size (h : Heap) : h.get? h.objs.size = Option.none := by
  cases e : h.get? h.objs.size with
  | none => rfl
  | some o => exact absurd (Heap.lt_size e) (Nat.lt_irrefl _)
theorem Ev.tuple {es : List Expr} {k : Nat} {pos : Pos} {Q : D → Prop} (h : EvL prog w H₀ sc n σ es fun ds => ds.length ≤ sizeLine ∧ Q (.tup ds)) : Ev prog w H₀ sc n σ (.Tuple es k pos) Q := by
  intro env A s av Q' E ok rm rd k
  refine Tuple_ (h env A s av pos _ E ok rm rd fun vs s₁ ds q x g₁ => ?_)
  refine wpAny_newObj_type ?_ (by show vs.toArray.size ≤ sizeLine; rw [List.size_toArray, x.length]; exact q.1)
  have kp : ∀ a o, s₁.heap.get? a = some o → (s₁.heap.push { cls := .type "tuple", data := .seq vs.toArray }).get? a = some o := fun a o e => Heap.get?_push_of_some _ e
  refine k _ _ (.tup ds) q.2 ⟨s₁.heap.objs.size, vs, rfl, (rd.keeps g₁.get).hp.fresh (get_size _), ⟨_, Heap.get?_push_size _ rfl, rfl, _, rfl⟩, x.keeps kp⟩ (g₁.trans (Grow.mk s₁ _ s₁.toks kp))
theorem Ev.list {es : List Expr} {pos : Pos} {Q : D → Prop} (h : EvL prog w H₀ sc n σ es fun ds => ds.length ≤ sizeLine ∧ Q (.lst ds)) : Ev prog w H₀ sc n σ (.List es pos) Q := by
  intro env A s av Q' E ok rm rd k
  refine List_ (h env A s av pos _ E ok rm rd fun vs s₁ ds q x g₁ => ?_)
  refine wpAny_newObj_type ?_ (by show vs.toArray.size ≤ sizeLine; rw [List.size_toArray, x.length]; exact q.1)
  have kp : ∀ a o, s₁.heap.get? a = some o → (s₁.heap.push { cls := .type "list", data := .seq vs.toArray }).get? a = some o := fun a o e => Heap.get?_push_of_some _ e
  refine k _ _ (.lst ds) q.2 ⟨s₁.heap.objs.size, vs, rfl, (rd.keeps g₁.get).hp.fresh (get_size _), ⟨_, Heap.get?_push_size _ rfl, rfl, rfl, _, rfl⟩, x.keeps kp⟩ (g₁.trans (Grow.mk s₁ _ s₁.toks kp))

/-- an expression that reads an owned list, and gives a plain datum -/
theorem Ev.borrow {x : PySem.Str} {a : Addr} {ds : List D} {e : Expr} {Q : D → Prop} (hx : σ x = some (.own a ds))
    (h : Ev prog w H₀ sc n (upd σ x (.val (.lst ds))) e fun d => Flat d ∧ Q d) : Ev prog w H₀ sc n σ e Q := by
  intro env A s av Q' E ok rm rd k
  refine h env A s (fun b => av b ∧ b ≠ a) Q' E ok rm ⟨rd.base, fun b q => rd.live b q.1, fun y sl e => ?_, rd.cells⟩ fun v s' d q z g => k v s' d q.2 (q.1.rel z) g
  by_cases hy : y = x
  · subst hy
    rw [upd_same] at e; cases e
    obtain ⟨v, r, e, vs, l, z⟩ := rd.var _ _ hx
    exact ⟨v, r, a, vs, e, fun q => q.2 rfl, LstAt.ofPlain l, z.weak fun b q => q.1⟩
  · rw [upd_ne hy] at e
    obtain ⟨v, r, z⟩ := rd.var y sl e
    refine ⟨v, r, ?_⟩
    cases sl with
    | val d => exact Rel.weak z fun b q => q.1
    | own a ds => exact ⟨z.1, let ⟨vs, l, r⟩ := z.2; ⟨vs, l, r.weak fun b q => q.1⟩⟩
    | ownd a ks ds => exact ⟨z.1, z.2.1, let ⟨kvs, ep, l, e, r⟩ := z.2.2; ⟨kvs, ep, l, e, r.weak fun b q => q.1⟩⟩
theorem EvB.borrow {x : PySem.Str} {a : Addr} {ds : List D} {e : Expr} {Q : Bool → Prop} (hx : σ x = some (.own a ds))
    (h : EvB prog w H₀ sc n (upd σ x (.val (.lst ds))) e Q) : EvB prog w H₀ sc n σ e Q := by
  intro env A s av Q' E ok rm rd k
  refine h env A s (fun b => av b ∧ b ≠ a) Q' E ok rm ⟨rd.base, fun b q => rd.live b q.1, fun y sl e => ?_, rd.cells⟩ k
  by_cases hy : y = x
  · subst hy
    rw [upd_same] at e; cases e
    obtain ⟨v, r, e, vs, l, z⟩ := rd.var _ _ hx
    exact ⟨v, r, a, vs, e, fun q => q.2 rfl, LstAt.ofPlain l, z.weak fun b q => q.1⟩
  · rw [upd_ne hy] at e
    obtain ⟨v, r, z⟩ := rd.var y sl e
    refine ⟨v, r, ?_⟩
    cases sl with
    | val d => exact Rel.weak z fun b q => q.1
    | own a ds => exact ⟨z.1, let ⟨vs, l, r⟩ := z.2; ⟨vs, l, r.weak fun b q => q.1⟩⟩
    | ownd a ks ds => exact ⟨z.1, z.2.1, let ⟨kvs, ep, l, e, r⟩ := z.2.2; ⟨kvs, ep, l, e, r.weak fun b q => q.1⟩⟩

theorem Ev.sub {v i : Expr} {pos : Pos} {Q : D → Prop} (h : Ev prog w H₀ sc n σ v fun a => Ev prog w H₀ sc n σ i fun b => OpI prog w H₀ n a b Q)
    (hs : ∀ o j, ∃ ops, subscripted i false o j = operate ops (getItem o j) := by intro _ _; exact ⟨_, by with_unfolding_all rfl⟩) : Ev prog w H₀ sc n σ (.Subscript v i pos) Q := by
  intro env A s av Q' E ok rm rd k
  refine Subscript_ (h env A s av _ E ok rm rd fun v s₁ a h₁ x g₁ => ?_)
  refine h₁ env A s₁ av _ E ok rm (rd.keeps g₁.get) fun u s₂ b h₂ y g₂ => ?_
  obtain ⟨ops, e⟩ := hs v u
  obtain ⟨T, id, hT, hl, hg⟩ := h₂ A s₂ av v u Q' E rm ((rd.keeps g₁.get).keeps g₂.get).hp (x.keeps g₂.get) y fun r s₃ d q z g₃ => k r s₃ d q z ((g₁.trans g₂).trans g₃)
  exact tail_any hT hl hg e

/-- a call of a method of a value: getMethod gives a built-in -/
def Meth (n : Nat) (name : PySem.Str) (a : D) (id : String) : Prop :=
  ∀ (A : Around) (s : Shared) (av : Addr → Prop) (v : Value) (pl : Sem Bool) (Q' : Value × List Value → Shared → Prop) (E : Value → Shared → Prop),
    Rel prog w av s.heap a v → Q' (.builtin id, [v]) s → wpAny (model prog w) A (getMethod v name pl) Q' E s

theorem Ev.meth {o : Expr} {name : PySem.Str} {apos pos : Pos} {es : List Expr} {Q : D → Prop} (id : D → String)
    (h : Ev prog w H₀ sc n σ o fun a => Meth (prog := prog) (w := w) n name a (id a) ∧ EvL prog w H₀ sc n σ es fun ds => OpL prog w H₀ n (fun vs => call (.builtin (id a)) vs) (a :: ds) Q)
    (he : ∀ env, ∃ pl, eval (.Call (.Attribute o name apos) es [] pos) env = (do
      let ov ← eval o env
      standAt apos.atName
      let (f, first) ← holding [ov] (getMethod ov name pl)
      callWith pos f first (backTo pos (starEach es env)) []) := by intro _; exact ⟨_, rfl⟩)
    (hpl : ∀ env, (backTo pos (starEach es env)).any (·.1) = false := by intro _; rfl) :
    Ev prog w H₀ sc n σ (.Call (.Attribute o name apos) es [] pos) Q := by
  intro env A s av Q' E ok rm rd k
  obtain ⟨pl, e⟩ := he env
  refine MethodCall_ (pl := pl) (h env A s av _ E ok rm rd fun v s₁ a h₁ x g₁ => ?_) e
  obtain ⟨m, h₁⟩ := h₁
  refine m A s₁ av v pl _ E x ?_
  have fin : ∀ vs s₂ ds, OpL prog w H₀ n (fun vs => call (.builtin (id a)) vs) (a :: ds) Q → RelL prog w av s₂.heap ds vs → Grow s₁ s₂ → wpAny (model prog w) A (call (.builtin (id a)) ([v] ++ vs)) Q' E s₂ :=
    fun vs s₂ ds q y g₂ => q A s₂ av ([v] ++ vs) Q' E rm ((rd.keeps g₁.get).keeps g₂.get).hp ⟨v, vs, rfl, x.keeps g₂.get, y⟩ fun r s₃ d q z g₃ => k r s₃ d q z ((g₁.trans g₂).trans g₃)
  have hev := fun Q'' => h₁ env A s₁ av pos Q'' E ok rm (rd.keeps g₁.get)
  have hp := hpl env
  show wpAny _ _ (callWith pos (.builtin (id a)) [v] (backTo pos (starEach es env)) []) _ _ _
  revert hev hp
  generalize backTo pos (starEach es env) = args
  intro hev hp
  refine callWith_builtin hp ?_
  cases args with
  | nil => exact PyProof.Rows.evalArgs_none (fun Γ p hΓ => hev (fun vs s₂ => wpAny (model prog w) A (call (.builtin (id a)) ([v] ++ vs)) Q' E s₂) (fun vs s₂ ds q y g₂ => fin vs s₂ ds q y g₂) Γ p hΓ Γ p hΓ)
  | cons p r =>
    obtain ⟨b, t⟩ := p
    have hb : b = false := by simp at hp; exact hp.1
    subst hb
    exact evalArgs_plain (hev _ fun vs s₂ ds q y g₂ => fin vs s₂ ds q y g₂)

theorem Glob.load {env : Env} {A : Around} {s : Shared} {f : PySem.Str} {v : Value} {pos : Pos} {Q : Value → Shared → Prop} {E : Value → Shared → Prop} {M : Model} (ok : EnvOk sc env) (base : ∀ a o, H₀.get? a = some o → s.heap.get? a = some o)
    (g : Glob H₀ f v) (hk : sc.names.lookup f = some .globalImplicit) (h : Q v s) (hd : (f == ("__debug__" : PySem.Str)) = false) : wpAny M A (eval (.Name f pos) env) Q E s := by
  have hk' : env.scope.kind = .function := by rw [ok.is]; exact ok.kind
  have hf : env.kindOf f = some .globalImplicit := by unfold Env.kindOf; rw [ok.is]; exact hk
  refine Name_function_global hk' hf ?_ hd
  rcases g with ⟨mg, hn, e⟩ | ⟨mg, mb, hn, e, hb, e'⟩
  · exact loadGlobal_global (by rw [ok.gl]; exact hn.keeps base) e h
  · exact loadGlobal_builtin (by rw [ok.gl]; exact hn.keeps base) e (by rw [ok.bi]; exact hb.keeps base) e' h

theorem callWith_any {M : Model} {A : Around} {E : Value → Shared → Prop} {s : Shared} {pos : Pos} {f : Value} {args : List (Bool × Sem Value)} {Q : Value → Shared → Prop} (hp : args.any (·.1) = false)
    (hf : Callee H₀ f) (R : List Value → Shared → Prop) (h : wpAny M A (spliced args) R E s) (hR : ∀ vs s', R vs s' → (∀ a o, H₀.get? a = some o → s'.heap.get? a = some o) ∧ wpAny M A (call f vs) Q E s') :
    wpAny M A (callWith pos f [] args []) Q E s := by
  have ev : ∀ (S : Args → Shared → Prop), (∀ vs s', R vs s' → S ⟨vs, []⟩ s') → wpAny M A (evalArgs f true args []) S E s := fun S hS => by
    cases args with
    | nil =>
      rcases Classical.em (R [] s) with r | r
      · exact PyProof.Rows.evalArgs_none (hS _ _ r)
      · intro Γ p hΓ
        exact absurd (h Γ p hΓ) r
    | cons p r =>
      obtain ⟨b, t⟩ := p
      have hb : b = false := by simp at hp; exact hp.1
      subst hb
      exact evalArgs_plain (wpAny_mono h (fun vs s' q => hS vs s' q) fun _ _ x => x)
  rcases hf with ⟨id, rfl⟩ | ⟨T, rfl⟩ | ⟨a, o, fd, rfl, ho, hd⟩
  · exact callWith_builtin hp (ev _ fun vs s' r => (hR vs s' r).2)
  · exact PySem.callWith_type hp (ev _ fun vs s' r => (hR vs s' r).2)
  · exact callWith_function (o := o) (fd := fd) (ev _ fun vs s' r => ⟨⟨(hR vs s' r).1 a o ho, hd⟩, (hR vs s' r).2⟩)

theorem Ev.call {f : PySem.Str} {fv : Value} {p pos : Pos} {es : List Expr} {Q : D → Prop} (hg : Glob H₀ f fv) (hc : Callee H₀ fv) (hk : sc.names.lookup f = some .globalImplicit)
    (h : EvL prog w H₀ sc n σ es fun ds => OpL prog w H₀ n (fun vs => PySem.call fv vs) ds Q)
    (hpl : ∀ env, (backTo pos (starEach es env)).any (·.1) = false := by intro _; rfl) (hd : (f == ("__debug__" : PySem.Str)) = false := by decide) : Ev prog w H₀ sc n σ (.Call (.Name f p) es [] pos) Q := by
  intro env A s av Q' E ok rm rd k
  refine Call_ (hg.load ok rd.base hk ?_ hd)
  refine callWith_any (hpl env) hc (fun vs s₁ => (∀ a o, H₀.get? a = some o → s₁.heap.get? a = some o) ∧ wpAny (model prog w) A (PySem.call fv vs) Q' E s₁) ?_ fun vs s' q => q
  refine h env A s av pos _ E ok rm rd fun vs s₁ ds q x g₁ => ⟨(rd.keeps g₁.get).base, ?_⟩
  exact q A s₁ av vs Q' E rm (rd.keeps g₁.get).hp x fun r s₃ d q z g₃ => k r s₃ d q z (g₁.trans g₃)

end
end
end Mine
end
section
open PySem PySem.W PySem.Calls PyProof.Rows

namespace Mine

inductive Fl where
  | next
  | brk
  | cont
  | ret (d : D)

def Slot.addr? : Slot → Option Addr
  | .val _ => none
  | .own a _ => some a
  | .ownd a _ _ => some a

theorem ns_unique {h : Heap} {a : Addr} {m m' : PySem.Str → Option Value} (x : h.Ns a m) (y : h.Ns a m') : m = m' := by
  obtain ⟨o, es, ep, ho, hd, hk, hm⟩ := x
  obtain ⟨o', es', ep', ho', hd', hk', hm'⟩ := y
  rw [ho] at ho'; cases ho'
  rw [hd] at hd'; cases hd'
  funext z
  rw [← hm z, ← hm' z]
theorem cell_unique {h : Heap} {c : Addr} {v v' : Option Value} (x : h.IsCell c v) (y : h.IsCell c v') : v = v' := by
  obtain ⟨o, ho, hd⟩ := x
  obtain ⟨o', ho', hd'⟩ := y
  rw [ho] at ho'; cases ho'
  rw [hd] at hd'; cases hd'; rfl

theorem Reads.unique {env : Env} {h : Heap} {x : PySem.Str} {v v' : Value} (r : Reads env h x v) (r' : Reads env h x v') : v = v' := by
  rcases r with ⟨k, m, n, e⟩ | ⟨k, c, n, e⟩ <;> rcases r' with ⟨k', m', n', e'⟩ | ⟨k', c', n', e'⟩
  · rw [ns_unique n n', e'] at e; exact (Option.some.inj e).symm
  · rcases k' with k' | k' <;> rw [k] at k' <;> cases k'
  · rcases k with k | k <;> rw [k'] at k <;> cases k
  · rw [n] at n'; cases n'
    exact Option.some.inj (cell_unique e e')

def Frame (tv : Addr → Prop) (s s' : Shared) : Prop := ∃ h' tk, s' = { s with heap := h', toks := tk } ∧ ∀ a o, ¬ tv a → s.heap.get? a = some o → h'.get? a = some o
theorem Frame.refl (tv : Addr → Prop) (s : Shared) : Frame tv s s := ⟨s.heap, s.toks, rfl, fun _ _ _ e => e⟩
theorem Frame.trans {tv tv' : Addr → Prop} {a b c : Shared} (x : Frame tv a b) (y : Frame tv' b c) (hs : ∀ i, tv' i → tv i ∨ a.heap.get? i = none) : Frame tv a c := by
  obtain ⟨h, t, rfl, k⟩ := x
  obtain ⟨h', t', rfl, k'⟩ := y
  exact ⟨h', t', rfl, fun i o n e => k' i o (fun q => (hs i q).elim n fun e' => by rw [e'] at e; cases e) (k i o n e)⟩
theorem Grow.frame {s s' : Shared} (g : Grow s s') (tv : Addr → Prop) : Frame tv s s' := let ⟨h, t, e, k⟩ := g; ⟨h, t, e, fun a o _ q => k a o q⟩
theorem Frame.get {tv : Addr → Prop} {s s' : Shared} (x : Frame tv s s') : ∀ a o, ¬ tv a → s.heap.get? a = some o → s'.heap.get? a = some o := by obtain ⟨h, t, rfl, k⟩ := x; exact k

section
variable (prog : Program) (w : World) (H₀ : Heap)

/-- cap: the names that stand in another's cells -/
structure Inv (cap : PySem.Str → Prop) (env : Env) (av tv : Addr → Prop) (σ : Store) (h : Heap) : Prop where
  rd : Rd prog w H₀ env (fun a => av a ∨ tv a) σ h
  tvH : ∀ a, tv a → H₀.get? a = none
  apart : ∀ a, tv a → ¬ av a
  loc : tv env.locals
  ns : ∃ m, h.Ns env.locals m
  cell : ∀ x c, env.cells.lookup x = some c → (¬ cap x → tv c) ∧ c ≠ env.locals ∧ ∃ v, h.IsCell c v
  capt : ∀ x c, env.cells.lookup x = some c → cap x → ¬ tv c
  inj : ∀ x y c, env.cells.lookup x = some c → env.cells.lookup y = some c → x = y
  own : ∀ x sl a, σ x = some sl → sl.addr? = some a → tv a ∧ a ≠ env.locals ∧ ∀ y, env.cells.lookup y ≠ some a
  sep : ∀ x y sl sl' a, σ x = some sl → sl.addr? = some a → σ y = some sl' → sl'.addr? = some a → x = y

abbrev NoCap : PySem.Str → Prop := fun _ => False

def FlRel (av : Addr → Prop) (h : Heap) : Fl → Flow → Prop
  | .next, f => f = .next
  | .brk, f => f = .brk
  | .cont, f => f = .cont
  | .ret d, f => ∃ v, f = .ret v ∧ Rel prog w av h d v

def Fl.isRet : Fl → Bool
  | .ret _ => true
  | _ => false

def Post (env : Env) (s : Shared) (av tv : Addr → Prop) (Q : Fl → Store → Prop) (f : Flow) (s' : Shared) : Prop :=
  ∃ fl σ' tv', Q fl σ' ∧ FlRel prog w av s'.heap fl f ∧ (fl.isRet = false → Inv prog w H₀ NoCap env av tv' σ' s'.heap) ∧ Frame tv s s' ∧ (∀ a, tv' a → tv a ∨ s.heap.get? a = none)

/-- statements -/
def Ex (sc : Scope) (n : Nat) (σ : Store) (ss : List Stmt) (Q : Fl → Store → Prop) : Prop :=
  ∀ (env : Env) (A : Around) (s : Shared) (av tv : Addr → Prop) (E : Value → Shared → Prop),
    EnvOk sc env → Room A n → Inv prog w H₀ NoCap env av tv σ s.heap → wpAny (model prog w) A (execs ss env) (Post prog w H₀ env s av tv Q) E s
def ExS (sc : Scope) (n : Nat) (σ : Store) (st : Stmt) (Q : Fl → Store → Prop) : Prop :=
  ∀ (env : Env) (A : Around) (s : Shared) (av tv : Addr → Prop) (E : Value → Shared → Prop),
    EnvOk sc env → Room A n → Inv prog w H₀ NoCap env av tv σ s.heap → wpAny (model prog w) A (exec st env) (Post prog w H₀ env s av tv Q) E s
/-- a target takes a datum -/
def AsOk (cap : PySem.Str → Prop) (sc : Scope) (n : Nat) (σ : Store) (t : Expr) (d : D) (Q : Store → Prop) : Prop :=
  ∀ (env : Env) (A : Around) (s : Shared) (av tv : Addr → Prop) (v : Value) (E : Value → Shared → Prop),
    EnvOk sc env → Room A n → Inv prog w H₀ cap env av tv σ s.heap → Rel prog w (fun a => av a ∨ tv a) s.heap d v →
    wpAny (model prog w) A (assign t env v) (fun _ s' => ∃ σ', Q σ' ∧ Inv prog w H₀ cap env av tv σ' s'.heap ∧ Frame tv s s') E s

section
variable {prog w H₀} {sc : Scope} {n : Nat} {σ : Store} {cap : PySem.Str → Prop}

theorem SlotRel.but {av : Addr → Prop} {h h' : Heap} {sl : Slot} {v : Value} (x : SlotRel prog w av h sl v) (b : Addr) (hb : av b) (hne : sl.addr? ≠ some b) (hk : ∀ a o, a ≠ b → h.get? a = some o → h'.get? a = some o) :
    SlotRel prog w av h' sl v := by
  have k : ∀ a o, ¬ av a → h.get? a = some o → ¬ av a ∧ h'.get? a = some o := fun a o n e => ⟨n, hk a o (fun q => n (q ▸ hb)) e⟩
  cases sl with
  | val d => exact Rel.imp k _ _ x
  | own a ds => exact ⟨x.1, let ⟨vs, l, r⟩ := x.2; ⟨vs, l.at fun o e => hk a o (fun q => hne (by rw [q]; rfl)) e, RelL.imp k _ _ r⟩⟩
  | ownd a ks ds => exact ⟨x.1, x.2.1, let ⟨kvs, ep, l, e, r⟩ := x.2.2; ⟨kvs, ep, l.at' fun o e => hk a o (fun q => hne (by rw [q]; rfl)) e, e, RelL.imp k _ _ r⟩⟩

theorem Inv.keeps {env : Env} {av tv : Addr → Prop} {h h' : Heap} (i : Inv prog w H₀ cap env av tv σ h) (hk : ∀ a o, h.get? a = some o → h'.get? a = some o) : Inv prog w H₀ cap env av tv σ h' :=
  ⟨i.rd.keeps hk, i.tvH, i.apart, i.loc, let ⟨m, x⟩ := i.ns; ⟨m, x.keeps hk⟩, fun x c e => let ⟨a, b, v, q⟩ := i.cell x c e; ⟨a, b, v, q.keeps hk⟩, i.capt, i.inj, i.own, i.sep⟩

/-- a store, of a plain datum or of a new owned object (its address b) -/
theorem Inv.put {env : Env} {av tv tv' : Addr → Prop} {h h' : Heap} (i : Inv prog w H₀ cap env av tv σ h) (x : PySem.Str) (sl : Slot) (v : Value)
    (ht : ∀ a, tv a → tv' a) (ht' : ∀ a, tv' a → tv a ∨ sl.addr? = some a) (hlive : ∀ a, tv' a → ∃ o, h.get? a = some o) (hH : ∀ a, tv' a → H₀.get? a = none) (hap : ∀ a, tv' a → ¬ av a) (hcap : ¬ cap x) (hct : ∀ y c, env.cells.lookup y = some c → cap y → ¬ tv' c)
    (hrel : SlotRel prog w (fun a => av a ∨ tv' a) h sl v) (hold : ∀ y s u, σ y = some s → Reads env h y u → SlotRel prog w (fun a => av a ∨ tv a) h s u → SlotRel prog w (fun a => av a ∨ tv' a) h s u)
    (hown : ∀ a, sl.addr? = some a → tv' a ∧ a ≠ env.locals ∧ (∀ y, env.cells.lookup y ≠ some a) ∧ ∀ y s, y ≠ x → σ y = some s → s.addr? ≠ some a)
    (hst : (env.kindOf x = some .local ∧ ∃ m m', h.Ns env.locals m ∧ h'.Ns env.locals m' ∧ (m' = fun y => if y = x then some v else m y) ∧ Heap.SameBut env.locals h h') ∨
      (env.kindOf x = some .cell ∧ ∃ c, env.cells.lookup x = some c ∧ h'.IsCell c (some v) ∧ Heap.SameBut c h h')) : Inv prog w H₀ cap env av tv' (upd σ x sl) h' := by
  -- the one object that turns
  have key : ∃ b, tv b ∧ (∀ s a, (∃ y, σ y = some s ∧ s.addr? = some a) ∨ sl.addr? = some a → a ≠ b) ∧ (∀ a o, a ≠ b → h.get? a = some o → h'.get? a = some o) ∧ (∀ o, h.get? b = some o → ∃ o', h'.get? b = some o') ∧
      (∃ m, h'.Ns env.locals m) ∧ (∀ y c, env.cells.lookup y = some c → ∃ v, h'.IsCell c v) ∧ Reads env h' x v ∧ ∀ y u, y ≠ x → Reads env h y u → Reads env h' y u := by
    rcases hst with ⟨hk, m, m', hn, hn', rfl, hs⟩ | ⟨hk, c, hc, hv, hs⟩
    · refine ⟨env.locals, i.loc, fun s a q => ?_, hs.extBut, fun o _ => let ⟨o', _, _, ho', _⟩ := hn'; ⟨o', ho'⟩, ⟨_, hn'⟩, fun y c e => ?_, .inl ⟨hk, _, hn', by simp⟩, fun y u hy r => ?_⟩
      · rcases q with ⟨y, q, e⟩ | q
        · exact (i.own y s a q e).2.1
        · exact (hown a q).2.1
      · obtain ⟨_, b, v, q⟩ := i.cell y c e
        exact ⟨v, q.sameBut hs b⟩
      · rcases r with ⟨k, m₂, n₂, e⟩ | ⟨k, c, e, q⟩
        · exact .inl ⟨k, _, hn', by rw [ns_unique n₂ hn] at e; simp only [if_neg hy]; exact e⟩
        · exact .inr ⟨k, c, e, q.sameBut hs (i.cell y c e).2.1⟩
    · obtain ⟨tc, cl, v₀, hc₀⟩ := i.cell x c hc
      refine ⟨c, tc hcap, fun s a q => ?_, hs.extBut, fun o _ => let ⟨o', ho', _⟩ := hv; ⟨o', ho'⟩, ?_, fun y c' e => ?_, .inr ⟨.inl hk, c, hc, hv⟩, fun y u hy r => ?_⟩
      · rcases q with ⟨y, q, e⟩ | q
        · exact fun w => (i.own y s a q e).2.2 x (w ▸ hc)
        · exact fun w => (hown a q).2.2.1 x (w ▸ hc)
      · obtain ⟨m, hm⟩ := i.ns; exact ⟨m, hm.sameBut hs (Ne.symm cl)⟩
      · by_cases hcc : c' = c
        · subst hcc; exact ⟨_, hv⟩
        · obtain ⟨_, _, v, q⟩ := i.cell y c' e; exact ⟨v, q.sameBut hs hcc⟩
      · rcases r with ⟨k, m₂, n₂, e⟩ | ⟨k, c', e, q⟩
        · exact .inl ⟨k, m₂, n₂.sameBut hs (Ne.symm cl), e⟩
        · exact .inr ⟨k, c', e, q.sameBut hs fun w => hy (i.inj y x c (w ▸ e) hc)⟩
  obtain ⟨b, tb, apart, keep, liveb, ns, cell, rx, ry⟩ := key
  have live' : ∀ a, (∃ o, h.get? a = some o) → ∃ o, h'.get? a = some o := fun a ⟨o, ho⟩ => by
    by_cases hab : a = b
    · subst hab; exact liveb o ho
    · exact ⟨o, keep a o hab ho⟩
  refine ⟨⟨fun a o e => ?_, fun a q => ?_, fun y s e => ?_, cell⟩, hH, hap, ht _ i.loc, ns, fun y c e => ?_, hct, i.inj, fun y s a e q => ?_, fun y z s s' a e q e' q' => ?_⟩
  · exact keep a o (fun w => by rw [w, i.tvH b tb] at e; cases e) (i.rd.base a o e)
  · rcases q with q | q
    · exact live' a (i.rd.live a (.inl q))
    · exact live' a (hlive a q)
  · by_cases hy : y = x
    · subst hy
      rw [upd_same] at e; cases e
      exact ⟨v, rx, hrel.but b (.inr (ht b tb)) (fun w => apart sl b (.inr w) rfl) keep⟩
    · rw [upd_ne hy] at e
      obtain ⟨u, r, z⟩ := i.rd.var y s e
      exact ⟨u, ry y u hy r, (hold y s u e r z).but b (.inr (ht b tb)) (fun w => apart s b (.inl ⟨y, e, w⟩) rfl) keep⟩
  · obtain ⟨a', b', _⟩ := i.cell y c e
    exact ⟨fun q => ht _ (a' q), b', cell y c e⟩
  · by_cases hy : y = x
    · subst hy
      rw [upd_same] at e; cases e
      exact ⟨(hown a q).1, (hown a q).2.1, (hown a q).2.2.1⟩
    · rw [upd_ne hy] at e
      obtain ⟨a', b', c'⟩ := i.own y s a e q
      exact ⟨ht _ a', b', c'⟩
  · by_cases hy : y = x <;> by_cases hz : z = x
    · rw [hy, hz]
    · subst hy
      rw [upd_same] at e; cases e
      rw [upd_ne hz] at e'
      exact absurd q' ((hown a q).2.2.2 z s' hz e')
    · subst hz
      rw [upd_same] at e'; cases e'
      rw [upd_ne hy] at e
      exact absurd q ((hown a q').2.2.2 y s hy e)
    · rw [upd_ne hy] at e; rw [upd_ne hz] at e'
      exact i.sep y z s s' a e q e' q'

theorem Inv.storeGen {env : Env} {A : Around} {s : Shared} {av tv tv' : Addr → Prop} {x : PySem.Str} {sl : Slot} {v : Value} {Q : Unit → Shared → Prop} {E : Value → Shared → Prop} (ok : EnvOk sc env)
    (i : Inv prog w H₀ cap env av tv σ s.heap) (hkind : sc.names.lookup x = some .local ∨ sc.names.lookup x = some .cell)
    (ht : ∀ a, tv a → tv' a) (ht' : ∀ a, tv' a → tv a ∨ sl.addr? = some a) (hlive : ∀ a, tv' a → ∃ o, s.heap.get? a = some o) (hH : ∀ a, tv' a → H₀.get? a = none) (hap : ∀ a, tv' a → ¬ av a) (hcap : ¬ cap x) (hct : ∀ y c, env.cells.lookup y = some c → cap y → ¬ tv' c)
    (hrel : SlotRel prog w (fun a => av a ∨ tv' a) s.heap sl v) (hold : ∀ y s' u, σ y = some s' → Reads env s.heap y u → SlotRel prog w (fun a => av a ∨ tv a) s.heap s' u → SlotRel prog w (fun a => av a ∨ tv' a) s.heap s' u)
    (hown : ∀ a, sl.addr? = some a → tv' a ∧ a ≠ env.locals ∧ (∀ y, env.cells.lookup y ≠ some a) ∧ ∀ y s, y ≠ x → σ y = some s → s.addr? ≠ some a)
    (h : ∀ s', Inv prog w H₀ cap env av tv' (upd σ x sl) s'.heap → Frame tv s s' → Q () s') : wpAny (model prog w) A (storeName env x v) Q E s := by
  have hk' : env.scope.kind = .function := by rw [ok.is]; exact ok.kind
  have kd : ∀ k, sc.names.lookup x = some k → env.kindOf x = some k := fun k e => by unfold Env.kindOf; rw [ok.is]; exact e
  rcases hkind with hl | hl
  · obtain ⟨m, hn⟩ := i.ns
    refine wpAny_storeName_local (kd _ hl) hn (fun h' hn' hs' => h _ (i.put x sl v ht ht' hlive hH hap hcap hct hrel hold hown (.inl ⟨kd _ hl, m, _, hn, hn', rfl, hs'⟩)) ?_) (by rw [hk']; rfl)
    exact ⟨h', _, rfl, fun a o n e => hs'.extBut a o (fun w => n (w ▸ i.loc)) e⟩
  · obtain ⟨c, hc⟩ := ok.cell x (.inl hl)
    obtain ⟨tc, cl, v₀, hc₀⟩ := i.cell x c hc
    refine wpAny_storeName_cell hk' (kd _ hl) hc hc₀ fun h' hv hs' => h _ (i.put x sl v ht ht' hlive hH hap hcap hct hrel hold hown (.inr ⟨kd _ hl, c, hc, hv, hs'⟩)) ?_
    exact ⟨h', s.toks, rfl, fun a o n e => hs'.extBut a o (fun w => n (w ▸ tc hcap)) e⟩


theorem Inv.store {env : Env} {A : Around} {s : Shared} {av tv : Addr → Prop} {x : PySem.Str} {d : D} {v : Value} {Q : Unit → Shared → Prop} {E : Value → Shared → Prop} (ok : EnvOk sc env)
    (i : Inv prog w H₀ cap env av tv σ s.heap) (hkind : sc.names.lookup x = some .local ∨ sc.names.lookup x = some .cell)
    (hcap : ¬ cap x) (hrel : Rel prog w (fun a => av a ∨ tv a) s.heap d v)
    (h : ∀ s', Inv prog w H₀ cap env av tv (upd σ x (.val d)) s'.heap → Frame tv s s' → Q () s') : wpAny (model prog w) A (storeName env x v) Q E s :=
  i.storeGen (sl := .val d) ok hkind (fun _ q => q) (fun _ q => .inl q) (fun a q => i.rd.live a (.inr q)) i.tvH i.apart hcap i.capt hrel (fun _ _ _ _ _ z => z) (fun a q => nomatch q) h

theorem SlotRel.fresh {av : Addr → Prop} {h : Heap} {sl : Slot} {v : Value} (x : SlotRel prog w av h sl v) (a : Addr) (ha : h.get? a = none) : SlotRel prog w (fun b => av b ∨ b = a) h sl v := by
  have k : ∀ b o, ¬ av b → h.get? b = some o → ¬ (av b ∨ b = a) ∧ h.get? b = some o := fun b o n e => ⟨fun q => q.elim n fun q => (by rw [q, ha] at e; cases e), e⟩
  cases sl with
  | val d => exact Rel.imp k _ _ x
  | own a ds => exact ⟨x.1, let ⟨vs, l, r⟩ := x.2; ⟨vs, l, RelL.imp k _ _ r⟩⟩
  | ownd a ks ds => exact ⟨x.1, x.2.1, let ⟨kvs, ep, l, e, r⟩ := x.2.2; ⟨kvs, ep, l, e, RelL.imp k _ _ r⟩⟩
theorem SlotRel.imp' {av av' : Addr → Prop} {h : Heap} {sl : Slot} {v : Value} (x : SlotRel prog w av h sl v) (k : ∀ b o, ¬ av b → h.get? b = some o → ¬ av' b) : SlotRel prog w av' h sl v := by
  have k : ∀ b o, ¬ av b → h.get? b = some o → ¬ av' b ∧ h.get? b = some o := fun b o n e => ⟨k b o n e, e⟩
  cases sl with
  | val d => exact Rel.imp k _ _ x
  | own a ds => exact ⟨x.1, let ⟨vs, l, r⟩ := x.2; ⟨vs, l, RelL.imp k _ _ r⟩⟩
  | ownd a ks ds => exact ⟨x.1, x.2.1, let ⟨kvs, ep, l, e, r⟩ := x.2.2; ⟨kvs, ep, l, e, RelL.imp k _ _ r⟩⟩

/-- a new object of one's own (made behind the heap s₀) goes into a name -/
theorem Inv.storeOwn {env : Env} {A : Around} {s₀ s : Shared} {av tv : Addr → Prop} {x : PySem.Str} {sl : Slot} {a : Addr} {v : Value} {Q : Unit → Shared → Prop} {E : Value → Shared → Prop} (ok : EnvOk sc env)
    (i : Inv prog w H₀ cap env av tv σ s₀.heap) (g : Grow s₀ s) (hkind : sc.names.lookup x = some .local ∨ sc.names.lookup x = some .cell) (hcap : ¬ cap x) (hsl : sl.addr? = some a) (hnew : s₀.heap.get? a = none) (hlive : ∃ o, s.heap.get? a = some o)
    (hrel : SlotRel prog w (fun b => (av b ∨ tv b) ∨ b = a) s.heap sl v)
    (h : ∀ s', Inv prog w H₀ cap env av (fun b => tv b ∨ b = a) (upd σ x sl) s'.heap → Frame tv s s' → Q () s') : wpAny (model prog w) A (storeName env x v) Q E s := by
  have i' := i.keeps g.get
  have nt : ∀ b, tv b → b ≠ a := fun b q w => by obtain ⟨o, e⟩ := i.rd.live b (.inr q); rw [w, hnew] at e; cases e
  refine i'.storeGen (tv' := fun b => tv b ∨ b = a) (sl := sl) ok hkind (fun _ q => .inl q) (fun b q => q.imp id fun q => by rw [hsl, q]) (fun b q => ?_) (fun b q => ?_) (fun b q w => ?_) hcap (fun y c e q w => ?_) (hrel.imp' fun b o n e q => n ?_) (fun y s' u e r z => ?_) (fun b q => ?_) h
  · rcases q with q | q
    · exact i'.rd.live b (.inr q)
    · rw [q]; exact hlive
  · rcases q with q | q
    · exact i.tvH b q
    · cases e : H₀.get? b with
      | none => rfl
      | some o => have := i.rd.base b o e; rw [q, hnew] at this; cases this
  · rcases q with q | q
    · exact i.apart b q w
    · obtain ⟨o, e⟩ := i.rd.live b (.inl w); rw [q, hnew] at e; cases e
  · rcases w with w | w
    · exact i.capt y c e q w
    · obtain ⟨_, _, v, o, ho, _⟩ := i.cell y c e; rw [w, hnew] at ho; cases ho
  · rcases q with q | q | q
    · exact .inl (.inl q)
    · exact .inl (.inr q)
    · exact .inr q
  · -- an elder value does not reach the new object
    obtain ⟨u₀, r₀, z₀⟩ := i.rd.var y s' e
    have hu := (r₀.keeps g.get).unique r
    subst hu
    exact ((z₀.fresh a hnew).keeps g.get).imp' fun b o n e q => n (by rcases q with q | q | q; exact .inl (.inl q); exact .inl (.inr q); exact .inr q)
  · rw [hsl] at q; cases q
    refine ⟨.inr rfl, fun w => nt _ i.loc w.symm, fun y e => (by obtain ⟨_, _, v, o, ho, _⟩ := i.cell y _ e; rw [hnew] at ho; cases ho), fun y s' hy e q => nt _ (i.own y s' _ e q).1 rfl⟩
end
end
end Mine
end
section
open PySem PySem.W PySem.Calls PyProof.Rows

namespace Mine

section
variable {prog : Program} {w : World} {H₀ : Heap} {sc : Scope} {n : Nat} {σ : Store} {cap : PySem.Str → Prop}

/-- the value of an expression whose result is a new list, for a name to own -/
def EvF (prog : Program) (w : World) (H₀ : Heap) (sc : Scope) (n : Nat) (σ : Store) (e : Expr) (Q : List D → Prop) : Prop :=
  ∀ (env : Env) (A : Around) (s : Shared) (av : Addr → Prop) (Q' : Value → Shared → Prop) (E : Value → Shared → Prop),
    EnvOk sc env → Room A n → Rd prog w H₀ env av σ s.heap →
    (∀ a vs s' ds, Q ds → s.heap.get? a = none → s'.heap.PlainList a vs.toArray → RelL prog w (fun b => av b ∨ b = a) s'.heap ds vs → Grow s s' → Q' (.ref a) s') → wpAny (model prog w) A (eval e env) Q' E s

theorem RelL.freshTo {av : Addr → Prop} {h h' : Heap} {ds : List D} {vs : List Value} (x : RelL prog w av h ds vs) (a : Addr) (ha : h.get? a = none) (hk : ∀ b o, h.get? b = some o → h'.get? b = some o) :
    RelL prog w (fun b => av b ∨ b = a) h' ds vs :=
  x.imp fun b o nb e => ⟨fun q => q.elim nb fun q => (by rw [q, ha] at e; cases e), hk b o e⟩

theorem EvF.list {es : List Expr} {pos : Pos} {Q : List D → Prop} (h : EvL prog w H₀ sc n σ es fun ds => ds.length ≤ sizeLine ∧ Q ds) : EvF prog w H₀ sc n σ (.List es pos) Q := by
  intro env A s av Q' E ok rm rd k
  refine List_ (h env A s av pos _ E ok rm rd fun vs s₁ ds q x g₁ => ?_)
  refine wpAny_newObj_type ?_ (by show vs.toArray.size ≤ sizeLine; rw [List.size_toArray, x.length]; exact q.1)
  have kp : ∀ a o, s₁.heap.get? a = some o → (s₁.heap.push { cls := .type "list", data := .seq vs.toArray }).get? a = some o := fun a o e => Heap.get?_push_of_some _ e
  refine k s₁.heap.objs.size vs _ ds q.2 ?_ ⟨_, Heap.get?_push_size _ rfl⟩ (x.freshTo _ (get_size _) kp) (g₁.trans (Grow.mk s₁ _ s₁.toks kp))
  cases e : s.heap.get? s₁.heap.objs.size with
  | none => rfl
  | some o => have := g₁.get _ _ e; rw [get_size] at this; cases this

theorem Post.from {env : Env} {s₀ s s' : Shared} {av tv tv₁ : Addr → Prop} {Q : Fl → Store → Prop} {f : Flow} (p : Post prog w H₀ env s av tv₁ Q f s') (fr : Frame tv s₀ s) (hs : ∀ a, tv₁ a → tv a ∨ s₀.heap.get? a = none) :
    Post prog w H₀ env s₀ av tv Q f s' := by
  obtain ⟨fl, σ', tv', q, r, i, f', t⟩ := p
  refine ⟨fl, σ', tv', q, r, i, fr.trans f' hs, fun a ha => ?_⟩
  rcases t a ha with h | h
  · exact hs a h
  · rcases Classical.em (tv a) with h' | h'
    · exact .inl h'
    · right
      cases e : s₀.heap.get? a with
      | none => rfl
      | some o => have := fr.get a o h' e; rw [h] at this; cases this

theorem Ex.nil {Q : Fl → Store → Prop} (h : Q .next σ) : Ex prog w H₀ sc n σ [] Q :=
  fun env A s av tv E ok rm i => wpAny_execs_nil ⟨.next, σ, tv, h, rfl, fun _ => i, Frame.refl tv s, fun _ q => .inl q⟩

theorem Ex.cons {st : Stmt} {ss : List Stmt} {Q : Fl → Store → Prop} (h : ExS prog w H₀ sc n σ st fun fl σ' => match fl with
    | .next => Ex prog w H₀ sc n σ' ss Q
    | fl => Q fl σ') : Ex prog w H₀ sc n σ (st :: ss) Q := by
  intro env A s av tv E ok rm i
  refine wpAny_execs_cons (wpAny_mono (h env A s av tv E ok rm i) (fun f s₁ p => ?_) fun _ _ x => x)
  obtain ⟨fl, σ', tv', q, r, i', f', t⟩ := p
  cases fl with
  | next =>
    obtain rfl : f = .next := r
    exact wpAny_mono (q env A s₁ av tv' E ok rm (i' rfl)) (fun f s₂ p => p.from f' t) fun _ _ x => x
  | brk => obtain rfl : f = .brk := r; exact ⟨.brk, σ', tv', q, rfl, i', f', t⟩
  | cont => obtain rfl : f = .cont := r; exact ⟨.cont, σ', tv', q, rfl, i', f', t⟩
  | ret d => obtain ⟨v, rfl, z⟩ := id r; exact ⟨.ret d, σ', tv', q, r, i', f', t⟩

theorem ExS.assign {x : PySem.Str} {xp pos : Pos} {e : Expr} {Q : Fl → Store → Prop} (h : Ev prog w H₀ sc n σ e fun d => Q .next (upd σ x (.val d)))
    (hkind : sc.names.lookup x = some .local ∨ sc.names.lookup x = some .cell := by first | exact .inl rfl | exact .inr rfl)
    (hs : ∀ env : Env, env.scope = sc → swapsWith e (some (.Name x xp)) pos.line env = pure false := by intro _ _; rfl) : ExS prog w H₀ sc n σ (.Assign [.Name x xp] e pos) Q := by
  intro env A s av tv E ok rm i
  refine wpAny_Assign_Name (h env A s _ _ E ok rm i.rd fun v s₁ d q z g => ?_) (hs env ok.is)
  exact (i.keeps g.get).store ok hkind id z fun s₂ i₂ f₂ => ⟨.next, _, tv, q, rfl, fun _ => i₂, (g.frame tv).trans f₂ fun a q => .inl q, fun _ q => .inl q⟩

theorem ExS.assignOwn {x : PySem.Str} {xp pos : Pos} {e : Expr} {Q : Fl → Store → Prop} (h : EvF prog w H₀ sc n σ e fun ds => ∀ a, Q .next (upd σ x (.own a ds)))
    (hkind : sc.names.lookup x = some .local ∨ sc.names.lookup x = some .cell := by first | exact .inl rfl | exact .inr rfl)
    (hs : ∀ env : Env, env.scope = sc → swapsWith e (some (.Name x xp)) pos.line env = pure false := by intro _ _; rfl) : ExS prog w H₀ sc n σ (.Assign [.Name x xp] e pos) Q := by
  intro env A s av tv E ok rm i
  refine wpAny_Assign_Name (h env A s _ _ E ok rm i.rd fun a vs s₁ ds q ha l z g => ?_) (hs env ok.is)
  have hlive : ∃ o, s₁.heap.get? a = some o := let ⟨n, ho⟩ := l; ⟨_, ho⟩
  refine i.storeOwn (sl := .own a ds) ok g hkind id rfl ha hlive ⟨rfl, vs, l, z⟩ fun s₂ i₂ f₂ => ⟨.next, _, _, q a, rfl, fun _ => i₂, (g.frame tv).trans f₂ fun a q => .inl q, fun b q => q.imp id fun q => by rw [q]; exact ha⟩

theorem AsOk.name {x : PySem.Str} {pos : Pos} {d : D} {Q : Store → Prop} (h : Q (upd σ x (.val d)))
    (hkind : sc.names.lookup x = some .local ∨ sc.names.lookup x = some .cell := by first | exact .inl rfl | exact .inr rfl) (hcap : ¬ cap x := by first | exact id | decide) : AsOk prog w H₀ cap sc n σ (.Name x pos) d Q := by
  intro env A s av tv v E ok rm i z
  exact wpAny_assign_Name (i.store ok hkind hcap z fun s₂ i₂ f₂ => ⟨_, h, i₂, f₂⟩)

theorem AsOk.pair {t₁ t₂ : Expr} {k : Nat} {pos : Pos} {d₁ d₂ : D} {Q : Store → Prop} (h : AsOk prog w H₀ cap sc n σ t₁ d₁ fun σ₁ => AsOk prog w H₀ cap sc n σ₁ t₂ d₂ Q)
    (he : ∀ env, assignEach [t₁, t₂] env = [(false, PySem.assign t₁ env), (false, PySem.assign t₂ env)] := by intro _; rfl) : AsOk prog w H₀ cap sc n σ (.Tuple [t₁, t₂] k pos) (.tup [d₁, d₂]) Q := by
  intro env A s av tv v E ok rm i z
  obtain ⟨a, vs, rfl, na, ht, v₁, r₁, e₁, z₁, v₂, r₂, e₂, z₂, e₃⟩ := z
  subst e₁ e₂ e₃
  refine wpAny_assign_Tuple rm.hd ht (by rw [he]; rfl) (by rw [he]; rfl) fun h' hx => ?_
  rw [he]
  have g : Grow s { s with heap := h' } := ⟨h', s.toks, rfl, fun b o e => hx b o (Nat.ne_of_lt (Heap.lt_size e)) e⟩
  show wpAny _ _ (do holding [v₂] (PySem.assign t₁ env v₁); holding [] (PySem.assign t₂ env v₂); pure ()) _ _ _
  refine wpAny_bind (wpAny_holding (wpAny_mono (h env A _ av tv v₁ E ok rm (i.keeps g.get) (z₁.keeps g.get)) (fun _ s₂ p => ?_) fun _ _ x => x))
  obtain ⟨σ₁, q, i₂, f₂⟩ := p
  have z₂' : Rel prog w (fun b => av b ∨ tv b) s₂.heap d₂ v₂ := Rel.imp (fun b o nb e => ⟨nb, f₂.get b o (fun q => nb (.inr q)) (g.get b o e)⟩) _ _ z₂
  refine wpAny_bind (wpAny_holding (wpAny_mono (q env A s₂ av tv v₂ E ok rm i₂ z₂') (fun _ s₃ p => ?_) fun _ _ x => x))
  obtain ⟨σ₂, q, i₃, f₃⟩ := p
  exact wpAny_pure ⟨σ₂, q, i₃, ((g.frame tv).trans f₂ fun a q => .inl q).trans f₃ fun a q => .inl q⟩

theorem ExS.assignT {es : List Expr} {k : Nat} {tp pos : Pos} {e : Expr} {Q : Fl → Store → Prop} (h : Ev prog w H₀ sc n σ e fun d => AsOk prog w H₀ NoCap sc n σ (.Tuple es k tp) d (Q .next))
    (hs : ∀ env : Env, env.scope = sc → swapsWithSole [.Tuple es k tp] e pos.line env = pure false := by intro _ _; rfl)
    (hw : ∀ env : Env, env.scope = sc → swappedStores [.Tuple es k tp] e env = pure none := by intro _ _; rfl) : ExS prog w H₀ sc n σ (.Assign [.Tuple es k tp] e pos) Q := by
  intro env A s av tv E ok rm i
  refine Assign_Tuple (h env A s _ _ E ok rm i.rd fun v s₁ d q z g => ?_) (hs env ok.is) (hw env ok.is)
  refine wpAny_mono (q env A s₁ av tv v E ok rm (i.keeps g.get) z) (fun _ s₂ p => ?_) fun _ _ x => x
  obtain ⟨σ', q, i₂, f₂⟩ := p
  exact ⟨.next, σ', tv, q, rfl, fun _ => i₂, (g.frame tv).trans f₂ fun a q => .inl q, fun _ q => .inl q⟩

theorem ExS.if {t : Expr} {b o : List Stmt} {pos : Pos} {Q : Fl → Store → Prop} (h : EvB prog w H₀ sc n σ t fun c => if c then Ex prog w H₀ sc n σ b Q else Ex prog w H₀ sc n σ o Q) : ExS prog w H₀ sc n σ (.If t b o pos) Q := by
  intro env A s av tv E ok rm i
  refine wpAny_If (h env A s _ _ E ok rm i.rd fun c s₁ q g => ?_)
  cases c with
  | true => exact wpAny_mono (q env A s₁ av tv E ok rm (i.keeps g.get)) (fun f s₂ p => p.from (g.frame tv) fun a q => .inl q) fun _ _ x => x
  | false => exact wpAny_mono (q env A s₁ av tv E ok rm (i.keeps g.get)) (fun f s₂ p => p.from (g.frame tv) fun a q => .inl q) fun _ _ x => x

def Slot.frozen : Slot → Slot
  | .val d => .val d
  | .own _ ds => .val (.lst ds)
  | .ownd _ ks ds => .val (.dct ks ds)
def Store.fz (σ : Store) : Store := fun x => (σ x).map Slot.frozen
theorem Store.fz_val {σ : Store} {x : PySem.Str} {d : D} (h : σ x = some (.val d)) : σ.fz x = some (.val d) := by unfold Store.fz; rw [h]; rfl
theorem Store.fz_own {σ : Store} {x : PySem.Str} {a ds} (h : σ x = some (.own a ds)) : σ.fz x = some (.val (.lst ds)) := by unfold Store.fz; rw [h]; rfl
theorem Store.fz_ownd {σ : Store} {x : PySem.Str} {a ks ds} (h : σ x = some (.ownd a ks ds)) : σ.fz x = some (.val (.dct ks ds)) := by unfold Store.fz; rw [h]; rfl

theorem SlotRel.freeze {av av' : Addr → Prop} {h : Heap} {sl : Slot} {v : Value} (x : SlotRel prog w av h sl v) (k : ∀ b, av' b → av b) (hn : ∀ a, sl.addr? = some a → ¬ av' a) : SlotRel prog w av' h sl.frozen v := by
  cases sl with
  | val d => exact Rel.weak x k
  | own a ds => obtain ⟨rfl, vs, l, r⟩ := x; exact ⟨a, vs, rfl, hn a rfl, LstAt.ofPlain l, r.weak k⟩
  | ownd a ks ds => obtain ⟨rfl, e, kvs, ep, l, e', r⟩ := x; exact ⟨a, kvs, ep, rfl, hn a rfl, e, l, e', r.weak k⟩

/-- the activation's own lists are handed over -/
theorem ExS.ret {e : Expr} {pos : Pos} {Q : Fl → Store → Prop} (h : Ev prog w H₀ sc n σ.fz e fun d => Q (.ret d) σ) : ExS prog w H₀ sc n σ (.Return (some e) pos) Q := by
  intro env A s av tv E ok rm i
  refine wpAny_Return_some (h env A s (fun a => av a ∧ ¬ tv a) _ E ok rm ⟨i.rd.base, fun a q => i.rd.live a (.inl q.1), fun x sl e => ?_, i.rd.cells⟩ fun v s₁ d q z g => ?_)
  · unfold Store.fz at e
    cases e' : σ x with
    | none => rw [e'] at e; cases e
    | some sl' =>
      rw [e'] at e; cases e
      obtain ⟨v, r, z⟩ := i.rd.var x sl' e'
      exact ⟨v, r, z.freeze (fun b q => .inl q.1) fun a q w => w.2 (i.own x sl' a e' q).1⟩
  · refine ⟨.ret d, σ, tv, q, ⟨v, rfl, Rel.weak z fun a q => ⟨q, fun w => i.apart a w q⟩⟩, fun q => (nomatch q), g.frame tv, fun _ q => .inl q⟩

theorem ExS.break {pos : Pos} {Q : Fl → Store → Prop} (h : Q .brk σ) : ExS prog w H₀ sc n σ (.Break pos) Q := by
  intro env A s av tv E ok rm i
  exact wpAny_bind (wpAny_standAt (wpAny_pure ⟨.brk, σ, tv, h, rfl, fun _ => i, Frame.refl tv s, fun _ q => .inl q⟩))

/-- x.append(e), x one's own list -/
theorem ExS.append {x : PySem.Str} {xp ap pos pos' : Pos} {a : Addr} {ds : List D} {e : Expr} {Q : Fl → Store → Prop} (hx : σ x = some (.own a ds))
    (h : Ev prog w H₀ sc n σ e fun d => ds.length ≤ sizeLine ∧ Q .next (upd σ x (.own a (ds ++ [d]))))
    (he : ∀ env, starEach [e] env = [(false, eval e env)] := by intro _; rfl)
    (hm : ∀ env, ∃ pl, eval (.Call (.Attribute (.Name x xp) ("append" : PySem.Str) ap) [e] [] pos) env = (do
      let ov ← eval (.Name x xp) env
      standAt ap.atName
      let (f, first) ← holding [ov] (getMethod ov ("append" : PySem.Str) pl)
      callWith pos f first (backTo pos (starEach [e] env)) []) := by intro _; exact ⟨_, rfl⟩)
    (hi : ∀ env : Env, env.scope = sc → interactive env = false := by intro _ h; unfold interactive; rw [h]; rfl) (hd : (x == ("__debug__" : PySem.Str)) = false := by decide) (hc : (x == ("__classdict__" : PySem.Str)) = false := by decide) :
    ExS prog w H₀ sc n σ (.Expr (.Call (.Attribute (.Name x xp) ("append" : PySem.Str) ap) [e] [] pos) pos') Q := by
  intro env A s av tv E ok rm i
  obtain ⟨pl, hm⟩ := hm env
  refine wpAny_Expr (MethodCall_ (pl := pl) ?_ hm) (hi env ok.is) (by rfl)
  obtain ⟨v, r, rfl, vs, l, z⟩ := i.rd.var x _ hx
  refine wpAny_Name (r.load ok ?_ hc) hd
  obtain ⟨n₀, ho⟩ := id l
  refine getMethod_list_append ho rfl rfl ?_
  refine callWith_builtin (by rw [he]; rfl) ?_
  rw [he]
  refine evalArgs_plain (spliced_cons (h env A s _ _ E ok rm i.rd fun u s₁ d q zu g => spliced_nil ?_))
  have l₁ : s₁.heap.PlainList a vs.toArray := l.at fun o e => g.get a o e
  refine wpAny_list_append_plain l₁ (fun h' l' hs' => ?_) (by rw [List.size_toArray, z.length]; exact q.1)
  obtain ⟨ta, la, ca⟩ := i.own x _ a hx rfl
  have kp : ∀ b o, b ≠ a → s₁.heap.get? b = some o → h'.get? b = some o := hs'.extBut
  have imp : ∀ b o, ¬ (av b ∨ tv b) → s₁.heap.get? b = some o → ¬ (av b ∨ tv b) ∧ h'.get? b = some o := fun b o nb e => ⟨nb, kp b o (fun w => nb (.inr (w ▸ ta))) e⟩
  have i₁ := i.keeps g.get
  refine ⟨.next, _, tv, q.2, rfl, fun _ => ⟨⟨fun b o e => ?_, fun b q => ?_, fun y sl e => ?_, fun y c e => let ⟨_, _, v, q⟩ := i₁.cell y c e; ⟨v, q.sameBut hs' fun w => ca y (w ▸ e)⟩⟩, i.tvH, i.apart, i.loc, ?_, fun y c e => ?_, i.capt, i.inj, fun y sl b e q => ?_, fun y z sl sl' b e q e' q' => ?_⟩, ?_, fun _ q => .inl q⟩
  · exact kp b o (fun w => by rw [w, i.tvH a ta] at e; cases e) (i₁.rd.base b o e)
  · obtain ⟨o, e⟩ := i₁.rd.live b q
    by_cases hb : b = a
    · subst hb; obtain ⟨n', ho'⟩ := l'; exact ⟨_, ho'⟩
    · exact ⟨o, kp b o hb e⟩
  · have rd' : ∀ u, Reads env s₁.heap y u → Reads env h' y u := fun u r => by
      rcases r with ⟨k, m, n, e⟩ | ⟨k, c, e, q⟩
      · exact .inl ⟨k, m, n.sameBut hs' (Ne.symm la), e⟩
      · exact .inr ⟨k, c, e, q.sameBut hs' fun w => ca y (w ▸ e)⟩
    by_cases hy : y = x
    · subst hy
      rw [upd_same] at e; cases e
      refine ⟨_, rd' _ (r.keeps g.get), rfl, vs ++ [u], ?_, ((RelL.imp imp _ _ (z.keeps g.get)).append (.one (Rel.imp imp _ _ zu)))⟩
      simpa using l'
    · rw [upd_ne hy] at e
      obtain ⟨u, r, z⟩ := i₁.rd.var y sl e
      exact ⟨u, rd' u r, z.but a (.inr ta) (fun w => hy (i.sep y x sl _ a e w hx rfl)) kp⟩
  · obtain ⟨m, hm⟩ := i₁.ns; exact ⟨m, hm.sameBut hs' (Ne.symm la)⟩
  · obtain ⟨a', b', v, q⟩ := i₁.cell y c e; exact ⟨a', b', v, q.sameBut hs' fun w => ca y (w ▸ e)⟩
  · by_cases hy : y = x
    · subst hy
      rw [upd_same] at e; cases e; cases q
      exact ⟨ta, la, ca⟩
    · rw [upd_ne hy] at e; exact i.own y sl b e q
  · by_cases hy : y = x <;> by_cases hz : z = x
    · rw [hy, hz]
    · subst hy
      rw [upd_same] at e; cases e; cases q
      rw [upd_ne hz] at e'
      exact i.sep y z _ sl' a hx rfl e' q'
    · subst hz
      rw [upd_same] at e'; cases e'; cases q'
      rw [upd_ne hy] at e
      exact i.sep y z sl _ a e q hx rfl
    · rw [upd_ne hy] at e; rw [upd_ne hz] at e'
      exact i.sep y z sl sl' b e q e' q'
  · exact (g.frame tv).trans ⟨h', s₁.toks, rfl, fun b o nb e => kp b o (fun w => nb (w ▸ ta)) e⟩ fun a q => .inl q

end
end Mine
end
section
open PySem PySem.W PySem.Calls PyProof.Rows

namespace Mine
section
variable (prog : Program) (w : World)

/-- an iterator at I over the data ds, made at the heap h₂; av: what may turn meanwhile -/
structure It (A : Around) (av : Addr → Prop) (h₂ : Heap) (I : Addr) (ds : List D) (tt : Expr → Prop) (P : Nat → Heap → Prop) (Mid : Nat → Value → Heap → Prop) : Prop where
  loc : ∀ i h h', P i h → (∀ o, h.get? I = some o → h'.get? I = some o) → P i h'
  live : ∀ i h, P i h → ∃ o, h.get? I = some o
  midlive : ∀ i v h, Mid i v h → ∃ o, h.get? I = some o
  next : ∀ i (s : Shared) (Q : Option Value → Shared → Prop) (E : Value → Shared → Prop) d (av' : Addr → Prop), ds[i]? = some d → P i s.heap →
    (∀ b o, b ≠ I → ¬ av b → h₂.get? b = some o → s.heap.get? b = some o) → (∀ b, av' b → av b ∨ h₂.get? b = none) → (∀ b, av' b → ∃ o, s.heap.get? b = some o) →
    (∀ v h' tk, Rel prog w av' h' d v → Mid i v h' → (∀ b o, b ≠ I → s.heap.get? b = some o → h'.get? b = some o) → Q (some v) { s with heap := h', toks := tk }) → wpAny (model prog w) A (pyNext (.ref I)) Q E s
  go : ∀ t i v (s : Shared) (Q : Unit → Shared → Prop) (E : Value → Shared → Prop), tt t → Mid i v s.heap →
    (∀ h', P (i + 1) h' → (∀ b o, b ≠ I → s.heap.get? b = some o → h'.get? b = some o) → Q () { s with heap := h' }) → wpAny (model prog w) A (letOwnedTupleGo t (.ref I) v) Q E s
  done : ∀ (s : Shared) (Q : Option Value → Shared → Prop) (E : Value → Shared → Prop), P ds.length s.heap → (∀ b o, b ≠ I → ¬ av b → h₂.get? b = some o → s.heap.get? b = some o) →
    (∀ h' tk, (∀ b o, b ≠ I → s.heap.get? b = some o → h'.get? b = some o) → Q none { s with heap := h', toks := tk }) → wpAny (model prog w) A (pyNext (.ref I)) Q E s
  self : ∀ i (s : Shared) (Q : Value → Shared → Prop) (E : Value → Shared → Prop), P i s.heap → Q (.ref I) s → wpAny (model prog w) A (pyIter (.ref I)) Q E s

variable (H₀ : Heap)
/-- the data that a datum hands out when it is walked -/
def PyIt (n : Nat) (d : D) (ds : List D) (tt : Expr → Prop := fun _ => True) : Prop :=
  ∀ (A : Around) (s : Shared) (av : Addr → Prop) (v : Value) (Q' : Value → Shared → Prop) (E : Value → Shared → Prop), Room A n → Hp H₀ av s.heap → Rel prog w av s.heap d v →
    (∀ I s' P Mid, It prog w A (fun b => av b ∨ b = I) s'.heap I ds tt P Mid → P 0 s'.heap → s.heap.get? I = none → Grow s s' → Q' (.ref I) s') → wpAny (model prog w) A (pyIter v) Q' E s

section
variable {prog w H₀} {n : Nat}

theorem Rel.turned {av av' : Addr → Prop} {h₂ h : Heap} {I : Addr} {d : D} {v : Value} (z : Rel prog w (fun b => av b ∨ b = I) h₂ d v) (hb : ∀ b o, b ≠ I → ¬ (av b ∨ b = I) → h₂.get? b = some o → h.get? b = some o)
    (hav : ∀ b, av' b → (av b ∨ b = I) ∨ h₂.get? b = none) : Rel prog w (fun b => av' b ∨ b = I) h d v :=
  Rel.imp (fun b o nb e => ⟨fun q => q.elim (fun q => (hav b q).elim nb fun q => (by rw [e] at q; cases q)) fun q => nb (.inr q), hb b o (fun q => nb (.inr q)) nb e⟩) _ _ z

theorem wpAny_letGo_cls {t : Expr} {I : Addr} {v : Value} {A : Around} {s : Shared} {E : Value → Shared → Prop} {Q : Unit → Shared → Prop} {o : Obj} {c : String} {vs : Array Value} (ho : s.heap.get? I = some o) (hc : o.cls = .type c) (hd : o.data = .fields vs)
    (hn : (["enumerate", "zip", "dict_itemiterator", "dict_reverseitemiterator", "odict_iterator", "itertools.zip_longest", "itertools.pairwise"].contains c) = false) (hQ : Q () s) :
    wpAny (model prog w) A (letOwnedTupleGo t (.ref I) v) Q E s := by
  have run : ∀ a, wpAny (model prog w) A (do
      let o ← load I
      match o.cls, o.data with
      | .type n, .fields vs =>
        if ["enumerate", "zip", "dict_itemiterator", "dict_reverseitemiterator", "odict_iterator", "itertools.zip_longest", "itertools.pairwise"].contains n && vs[0]? == some (rawInt a) then
          rule "for.unpacks-the-owned-tuple"
          updateField I 0 .none
      | _, _ => pure () : Sem Unit) Q E s := fun a => by
    refine wpAny_bind (wpAny_load ho ?_)
    rw [hc, hd]
    show wpAny _ A (if (["enumerate", "zip", "dict_itemiterator", "dict_reverseitemiterator", "odict_iterator", "itertools.zip_longest", "itertools.pairwise"].contains c && _) = true then _ else _) Q E s
    rw [if_neg (by
      intro h
      rw [hn, Bool.false_and] at h
      cases h)]
    exact wpAny_pure hQ
  unfold letOwnedTupleGo
  split
  · split
    · rename_i e; cases e; exact run _
    · exact wpAny_pure hQ
  · split
    · rename_i e; cases e; exact run _
    · exact wpAny_pure hQ
  · exact wpAny_pure hQ

theorem wpAny_letGo_list {t : Expr} {I l : Addr} {v : Value} {i : Nat} {A : Around} {s : Shared} {E : Value → Shared → Prop} {Q : Unit → Shared → Prop} (hit : s.heap.IsListIter I l i) (hQ : Q () s) :
    wpAny (model prog w) A (letOwnedTupleGo t (.ref I) v) Q E s := by
  obtain ⟨o, ho, hc, hd⟩ := hit
  exact wpAny_letGo_cls ho hc hd (by decide) hQ

theorem wpAny_letGo_val {t : Expr} {it v : Value} {A : Around} {s : Shared} {E : Value → Shared → Prop} {Q : Unit → Shared → Prop} (hv : ∀ a, v ≠ .ref a) (hQ : Q () s) :
    wpAny (model prog w) A (letOwnedTupleGo t it v) Q E s := by
  cases v with
  | ref a => exact absurd rfl (hv a)
  | _ => (unfold letOwnedTupleGo; split <;> first | exact wpAny_pure hQ | (split <;> first | exact wpAny_pure hQ | (rename_i e; cases e)))

theorem PyIt.list {ds : List D} : PyIt prog w H₀ n (.lst ds) ds := by
  intro A s av v Q' E rm hp z k
  obtain ⟨a, vs, rfl, na, l, r⟩ := z
  refine wpAny_pyIter_list l.isList ?_
  have kp : ∀ b o, s.heap.get? b = some o → (s.heap.push { cls := .type "list_iterator", data := .fields #[.ref a, .int 0 0] }).get? b = some o := fun b o e => Heap.get?_push_of_some _ e
  have hlt : a ≠ s.heap.objs.size := by obtain ⟨o, ho, _⟩ := l; exact Nat.ne_of_lt (Heap.lt_size ho)
  have fin := k s.heap.objs.size { s with heap := s.heap.push { cls := .type "list_iterator", data := .fields #[.ref a, .int 0 0] } } (fun i h => h.IsListIter s.heap.objs.size a i) (fun i v h => h.IsListIter s.heap.objs.size a (i + 1)) ?_
    ⟨_, Heap.get?_push_size _ rfl, rfl, rfl⟩ (get_size _) (Grow.mk s _ s.toks kp)
  · exact fin
  have r₂ := r.freshTo s.heap.objs.size (get_size _) kp
  have l₂ : ∀ h' : Heap, (∀ b o, b ≠ s.heap.objs.size → ¬ (av b ∨ b = s.heap.objs.size) → (s.heap.push { cls := .type "list_iterator", data := .fields #[.ref a, .int 0 0] }).get? b = some o → h'.get? b = some o) → h'.IsList a vs.toArray := fun h' hk => by
    obtain ⟨o, ho, hr⟩ := l.isList
    exact ⟨o, hk a o hlt (fun q => q.elim na hlt) (kp a o ho), hr⟩
  exact {
    loc := fun i h h' p e => p.at e
    live := fun i h p => let ⟨o, ho, _⟩ := p; ⟨o, ho⟩
    midlive := fun i v h p => let ⟨o, ho, _⟩ := p; ⟨o, ho⟩
    next := fun i s₁ Q E d av' hd hP hb hav hlv hQ => by
      obtain ⟨v, hv, z⟩ := r₂.get hd
      have z₁ := z.turned hb hav
      refine wpAny_pyNext_list_item hP (l₂ _ hb) (x := v) (by simpa using hv) fun h' hit' hs' => ?_
      exact hQ v h' s₁.toks (Rel.imp (fun b o nb e => ⟨fun q => nb (.inl q), hs'.extBut b o (fun q => nb (.inr q)) e⟩) _ _ z₁) hit' fun b o hb e => hs'.extBut b o hb e
    go := fun t i v s₁ Q E ht m hQ => wpAny_letGo_list m (hQ s₁.heap m fun _ _ _ e => e)
    done := fun s₁ Q E hP hb hQ => wpAny_pyNext_list_end rm.hd hP (l₂ _ hb) (by simp [r.length]) fun h' he' => hQ h' s₁.toks fun b o hb e => he' b o hb e
    self := fun i s₁ Q E hP hQ => wpAny_pyIter_listiter hP hQ }

theorem is_str {k : PySem.Str} {v : Value} (h : (PySem.strKind prog w).is k v = true) : ∃ t, v = .str k t := Value.isStrOf_shape h

/-- the keys of a dict: by itself or by its view -/
theorem It.keys {A : Around} (hh : A.handled = none) {av : Addr → Prop} {h₂ : Heap} {I a : Addr} {kvs : List (PySem.Str × Value)} {ep : Nat} (na : ¬ av a) (hne : a ≠ I) (m₂ : h₂.DictAt (PySem.strKind prog w) a kvs ep) :
    It prog w A (fun b => av b ∨ b = I) h₂ I (kvs.map fun p => D.str p.1) (fun _ => True) (fun i h => h.IsKeyIter I a i kvs.length ep) (fun i v h => h.IsKeyIter I a (i + 1) kvs.length ep ∧ ∃ k t, v = .str k t) := by
  have mm : ∀ h' : Heap, (∀ b o, b ≠ I → ¬ (av b ∨ b = I) → h₂.get? b = some o → h'.get? b = some o) → h'.DictAt (PySem.strKind prog w) a kvs ep := fun h' hk => by
    obtain ⟨o, es, ho, r⟩ := m₂
    exact ⟨o, es, hk a o hne (fun q => q.elim na hne) ho, r⟩
  exact {
    loc := fun i h h' p e => p.at e
    live := fun i h p => let ⟨o, ho, _⟩ := p; ⟨o, ho⟩
    midlive := fun i v h p => let ⟨⟨o, ho, _⟩, _⟩ := p; ⟨o, ho⟩
    next := fun i s₁ Q E d av' hd hP hb hav hlv hQ => by
      rw [List.getElem?_map] at hd
      cases q : kvs[i]? with
      | none => rw [q] at hd; cases hd
      | some p =>
        obtain ⟨k, v⟩ := p
        rw [q] at hd; cases hd
        refine wpAny_pyNext_dict_item hP (mm _ hb) q fun key h' hkey hit' hs' => ?_
        obtain ⟨t, rfl⟩ := is_str hkey
        exact hQ _ h' s₁.toks ⟨t, rfl⟩ ⟨hit', k, t, rfl⟩ fun b o hb e => hs'.extBut b o hb e
    go := fun t i v s₁ Q E ht m hQ => by
      obtain ⟨m, k, u, rfl⟩ := m
      exact wpAny_letGo_val (fun a e => nomatch e) (hQ s₁.heap m fun _ _ _ e => e)
    done := fun s₁ Q E hP hb hQ => wpAny_pyNext_dict_end hh (by simpa using hP) (mm _ hb) (by simp) fun h' he' => hQ h' s₁.toks fun b o hb e => he' b o hb e
    self := fun i s₁ Q E hP hQ => wpAny_pyIter_keyiter hP hQ }

theorem PyIt.dct {ks : List PySem.Str} {ds : List D} : PyIt prog w H₀ n (.dct ks ds) (ks.map D.str) := by
  intro A s av v Q' E rm hp z k
  obtain ⟨a, kvs, ep, rfl, na, y, m, hks, r⟩ := z
  refine wpAny_pyIter_dict y m ?_
  have kp : ∀ b o, s.heap.get? b = some o → (s.heap.push { cls := .type "dict_keyiterator", data := .fields #[.ref a, .int 0 0, .int kvs.length 0, .int ep 0] }).get? b = some o := fun b o e => Heap.get?_push_of_some _ e
  have hlt : a ≠ s.heap.objs.size := Nat.ne_of_lt m.lt_size
  have it := It.keys (prog := prog) (w := w) rm.hd (h₂ := s.heap.push { cls := .type "dict_keyiterator", data := .fields #[.ref a, .int 0 0, .int kvs.length 0, .int ep 0] }) na hlt (m.keep kp)
  rw [show (kvs.map fun p => D.str p.1) = ks.map D.str from by rw [← hks, List.map_map]; rfl] at it
  exact k s.heap.objs.size { s with heap := s.heap.push { cls := .type "dict_keyiterator", data := .fields #[.ref a, .int 0 0, .int kvs.length 0, .int ep 0] } } _ _ it ⟨_, Heap.get?_push_size _ rfl, rfl, rfl⟩ (get_size _) (Grow.mk s _ s.toks kp)

theorem PyIt.keys {ks : List PySem.Str} {ds : List D} : PyIt prog w H₀ n (.keys ks ds) (ks.map D.str) := by
  intro A s av v Q' E rm hp z k
  obtain ⟨b, a, kvs, ep, rfl, nb, hv, na, y, m, hks, r⟩ := z
  refine kdl_pyIter_keys hv m ?_
  have kp : ∀ b o, s.heap.get? b = some o → (s.heap.push { cls := .type "dict_keyiterator", data := .fields #[.ref a, .int 0 0, .int kvs.length 0, .int ep 0] }).get? b = some o := fun b o e => Heap.get?_push_of_some _ e
  have hlt : a ≠ s.heap.objs.size := Nat.ne_of_lt m.lt_size
  have it := It.keys (prog := prog) (w := w) rm.hd (h₂ := s.heap.push { cls := .type "dict_keyiterator", data := .fields #[.ref a, .int 0 0, .int kvs.length 0, .int ep 0] }) na hlt (m.keep kp)
  rw [show (kvs.map fun p => D.str p.1) = ks.map D.str from by rw [← hks, List.map_map]; rfl] at it
  exact k s.heap.objs.size { s with heap := s.heap.push { cls := .type "dict_keyiterator", data := .fields #[.ref a, .int 0 0, .int kvs.length 0, .int ep 0] } } _ _ it ⟨_, Heap.get?_push_size _ rfl, rfl, rfl⟩ (get_size _) (Grow.mk s _ s.toks kp)

theorem PyIt.vals {ks : List PySem.Str} {ds : List D} : PyIt prog w H₀ n (.vals ks ds) ds := by
  intro A s av v Q' E rm hp z k
  obtain ⟨b, a, kvs, ep, rfl, nb, hv, na, y, m, hks, r⟩ := z
  refine wpAny_pyIter_values hv m ?_
  have kp : ∀ b o, s.heap.get? b = some o → (s.heap.push { cls := .type "dict_valueiterator", data := .fields #[.ref a, .int 0 0, .int kvs.length 0, .int ep 0] }).get? b = some o := fun b o e => Heap.get?_push_of_some _ e
  have hlt : a ≠ s.heap.objs.size := Nat.ne_of_lt m.lt_size
  refine k s.heap.objs.size { s with heap := s.heap.push { cls := .type "dict_valueiterator", data := .fields #[.ref a, .int 0 0, .int kvs.length 0, .int ep 0] } } (fun i h => h.IsValIter s.heap.objs.size a i kvs.length ep) (fun i v h => h.IsValIter s.heap.objs.size a (i + 1) kvs.length ep ∧ ∃ d, ds[i]? = some d) ?_
    ⟨_, Heap.get?_push_size _ rfl, rfl, rfl⟩ (get_size _) (Grow.mk s _ s.toks kp)
  have kp2 : ∀ h' : Heap, (∀ b o, b ≠ s.heap.objs.size → ¬ (av b ∨ b = s.heap.objs.size) → (s.heap.push { cls := .type "dict_valueiterator", data := .fields #[.ref a, .int 0 0, .int kvs.length 0, .int ep 0] }).get? b = some o → h'.get? b = some o) → h'.DictAt (PySem.strKind prog w) a kvs ep := fun h' hk => by
    obtain ⟨o, es, ho, r⟩ := m
    exact ⟨o, es, hk a o hlt (fun q => q.elim na hlt) (kp a o ho), r⟩
  have r₂ := r.freshTo s.heap.objs.size (get_size _) kp
  exact {
    loc := fun i h h' p e => p.at e
    live := fun i h p => let ⟨o, ho, _⟩ := p; ⟨o, ho⟩
    midlive := fun i v h p => let ⟨⟨o, ho, _⟩, _⟩ := p; ⟨o, ho⟩
    next := fun i s₁ Q E d av' hd hP hb hav hlv hQ => by
      obtain ⟨v, hv, z⟩ := r₂.get hd
      have z₁ := z.turned hb hav
      rw [List.getElem?_map] at hv
      cases q : kvs[i]? with
      | none => rw [q] at hv; cases hv
      | some p =>
        obtain ⟨k, u⟩ := p
        rw [q] at hv; cases hv
        refine wpAny_pyNext_values_item hP (kp2 _ hb) q fun h' hit' hs' => ?_
        exact hQ _ h' s₁.toks (Rel.imp (fun b o nb e => ⟨fun q => nb (.inl q), hs'.extBut b o (fun q => nb (.inr q)) e⟩) _ _ z₁) ⟨hit', d, hd⟩ fun b o hb e => hs'.extBut b o hb e
    go := fun t i v s₁ Q E ht m hQ => by
      obtain ⟨m, _⟩ := m
      obtain ⟨o, ho, hc, hd⟩ := id m
      exact wpAny_letGo_cls ho hc hd (by decide) (hQ s₁.heap m fun _ _ _ e => e)
    done := fun s₁ Q E hP hb hQ => wpAny_pyNext_values_end rm.hd (by have e := r.length; rw [List.length_map] at e; rw [← e] at hP; exact hP) (kp2 _ hb) (by simp) fun h' he' => hQ h' s₁.toks fun b o hb e => he' b o hb e
    self := fun i s₁ Q E hP hQ => wpAny_pyIter_valiter hP hQ }

theorem PyIt.rng {m : Nat} (hm : m < 2 ^ 62) : PyIt prog w H₀ n (.rng m) ((List.range m).map fun i => D.int (i : Nat)) := by
  intro A s av v Q' E rm hp z k
  obtain ⟨a, t, u, x, rfl, na, hr⟩ := z
  have hsz : Builtin.Range.rangeSize 0 m 1 = m := by rw [rangeSize_nat]; omega
  refine wpAny_pyIter_range hr (small_one (by omega) (by omega) (by omega) (by omega)) ?_
  rw [hsz]
  have kp : ∀ b o, s.heap.get? b = some o → (s.heap.push { cls := .type "range_iterator", data := .fields #[rawInt 0, rawInt m, rawInt 1] }).get? b = some o := fun b o e => Heap.get?_push_of_some _ e
  refine k s.heap.objs.size { s with heap := s.heap.push { cls := .type "range_iterator", data := .fields #[rawInt 0, rawInt m, rawInt 1] } } (fun i h => IsRangeIter h s.heap.objs.size (i : Nat) ((m : Int) - (i : Nat)) 1) (fun i v h => IsRangeIter h s.heap.objs.size ((i + 1 : Nat) : Int) ((m : Int) - ((i + 1 : Nat) : Int)) 1 ∧ ∃ j t, v = .int j t) ?_
    ?_ (get_size _) (Grow.mk s _ s.toks kp)
  · exact {
      loc := fun i h h' p e => e _ p
      live := fun i h p => ⟨_, p⟩
      midlive := fun i v h p => ⟨_, p.1⟩
      next := fun i s₁ Q E d av' hd hP hb hav hlv hQ => by
        have hi : i < m := by
          have := (List.getElem?_eq_some_iff.mp hd).1
          simpa using this
        have hd' : d = .int i := by
          rw [List.getElem?_map, List.getElem?_range hi] at hd
          cases hd; rfl
        subst hd'
        refine wpAny_pyNext_range_item hP (by omega) fun h' hit' hs' => ?_
        refine hQ _ h' _ ⟨_, rfl⟩ ⟨?_, _, _, rfl⟩ fun b o hb e => hs'.extBut b o hb e
        have e1 : ((i + 1 : Nat) : Int) = (i : Int) + 1 := by push_cast; rfl
        have e2 : (m : Int) - ((i + 1 : Nat) : Int) = (m : Int) - (i : Int) - 1 := by push_cast; omega
        rw [e2, e1]; exact hit'
      go := fun t i v s₁ Q E ht m hQ => by
        obtain ⟨m, k, u, rfl⟩ := m
        exact wpAny_letGo_val (fun a e => nomatch e) (hQ s₁.heap m fun _ _ _ e => e)
      done := fun s₁ Q E hP hb hQ => wpAny_pyNext_range_end rm.hd hP (by simp) fun h' he' => hQ h' s₁.toks fun b o hb e => he' b o hb e
      self := fun i s₁ Q E hP hQ => wpAny_pyIter_rangeiter hP hQ }
  · have := Heap.get?_push_size s.heap (o := { cls := .type "range_iterator", data := .fields #[rawInt 0, rawInt m, rawInt 1] }) rfl
    simpa using this

/-- the pairs of a dict -/
theorem PyIt.items {ks : List PySem.Str} {ds : List D} : PyIt prog w H₀ n (.items ks ds) ((ks.zip ds).map fun p => D.tup [.str p.1, p.2]) (fun t => ∃ es k p, t = .Tuple es k p) := by
  intro A s av v Q' E rm hp z k
  obtain ⟨b, a, kvs, ep, rfl, nb, hv, na, y, m, hks, r⟩ := z
  refine wpAny_pyIter_items hv m ?_
  have kp : ∀ b o, s.heap.get? b = some o → (s.heap.push { cls := .type "dict_itemiterator", data := .fields #[.none, .bool false, .ref a, .int 0 0, .int kvs.length 0, .int ep 0, .none, .none] }).get? b = some o := fun b o e => Heap.get?_push_of_some _ e
  have hlt : a ≠ s.heap.objs.size := Nat.ne_of_lt m.lt_size
  have hlen : kvs.length = ds.length := by have e := r.length; rw [List.length_map] at e; exact e
  have hlen' : (ks.zip ds).length = kvs.length := by rw [List.length_zip, ← hks, List.length_map, ← hlen]; omega
  refine k s.heap.objs.size { s with heap := s.heap.push { cls := .type "dict_itemiterator", data := .fields #[.none, .bool false, .ref a, .int 0 0, .int kvs.length 0, .int ep 0, .none, .none] } }
    (fun i h => ∃ ok ov, IsItemIter h s.heap.objs.size a i kvs.length ep ok ov) (fun i v h => ∃ T ok ov, v = .ref T ∧ IsItemIterOut h s.heap.objs.size a (i + 1) kvs.length ep ok ov T) ?_
    ⟨_, _, Heap.get?_push_size _ rfl⟩ (get_size _) (Grow.mk s _ s.toks kp)
  have kp2 : ∀ h' : Heap, (∀ b o, b ≠ s.heap.objs.size → ¬ (av b ∨ b = s.heap.objs.size) → (s.heap.push { cls := .type "dict_itemiterator", data := .fields #[.none, .bool false, .ref a, .int 0 0, .int kvs.length 0, .int ep 0, .none, .none] }).get? b = some o → h'.get? b = some o) → h'.DictAt (PySem.strKind prog w) a kvs ep := fun h' hk => by
    obtain ⟨o, es, ho, r⟩ := m
    exact ⟨o, es, hk a o hlt (fun q => q.elim na hlt) (kp a o ho), r⟩
  have r₂ := r.freshTo s.heap.objs.size (get_size _) kp
  exact {
    loc := fun i h h' p e => let ⟨ok, ov, p⟩ := p; ⟨ok, ov, e _ p⟩
    live := fun i h p => let ⟨ok, ov, p⟩ := p; ⟨_, p⟩
    midlive := fun i v h p => let ⟨T, ok, ov, _, p⟩ := p; ⟨_, p⟩
    next := fun i s₁ Q E d av' hd hP hb hav hlv hQ => by
      rw [List.getElem?_map] at hd
      cases q : (ks.zip ds)[i]? with
      | none => rw [q] at hd; cases hd
      | some p =>
        obtain ⟨k, d'⟩ := p
        rw [q] at hd; cases hd
        obtain ⟨q1, q2⟩ := List.getElem?_zip_eq_some.mp q
        obtain ⟨v, hv, z⟩ := r₂.get q2
        have z₁ := z.turned hb hav
        rw [List.getElem?_map] at hv
        cases q' : kvs[i]? with
        | none => rw [q'] at hv; cases hv
        | some p =>
          obtain ⟨k', u⟩ := p
          rw [q'] at hv; cases hv
          have hk' : k' = k := by
            rw [← hks, List.getElem?_map, q'] at q1
            exact Option.some.inj q1
          subst hk'
          obtain ⟨ok, ov, hP⟩ := hP
          refine wpAny_pyNext_items_item hP (kp2 _ hb) q' fun key h' hkey hout hT hz hk => ?_
          obtain ⟨t, rfl⟩ := is_str hkey
          refine hQ _ h' s₁.toks ⟨s₁.heap.objs.size, _, rfl, fun q => ?_, ⟨_, hT, rfl, _, rfl⟩, _, _, rfl, ⟨t, rfl⟩, u, [], rfl, Rel.imp (fun b o nb e => ⟨fun q => nb (.inl q), hk b o (fun q => nb (.inr q)) e⟩) _ _ z₁, rfl⟩ ⟨_, _, _, rfl, hout⟩ hk
          obtain ⟨o, e⟩ := hlv _ q
          rw [get_size] at e; cases e
    go := fun t i v s₁ Q E ht m hQ => by
      obtain ⟨T, ok, ov, rfl, m⟩ := m
      obtain ⟨es, k, p, rfl⟩ := ht
      exact wpAny_letOwnedTupleGo_items m fun h' he' hs' => hQ h' ⟨_, _, he'⟩ fun b o hb e => hs'.extBut b o hb e
    done := fun s₁ Q E hP hb hQ => by
      obtain ⟨ok, ov, hP⟩ := hP
      rw [List.length_map, hlen'] at hP
      exact wpAny_pyNext_items_end rm.hd hP (kp2 _ hb) (by simp) fun h' he' => hQ h' s₁.toks fun b o hb e => he' b o hb e
    self := fun i s₁ Q E hP hQ => by
      obtain ⟨ok, ov, hP⟩ := hP
      have hT : s₁.TypeIs (.ref s.heap.objs.size) "dict_itemiterator" := ⟨_, hP, rfl⟩
      refine wpAny_pyIter_slot hT F.slot_dict_itemiterator_iter (wpAny_call_entry F.slot_dict_itemiterator_iter hT kcp_entry ?_ (F.args_dict_itemiterator_iter_1 _))
      exact wpAny_pure ⟨_, rfl, "dict_itemiterator", _, hT, F.slot_dict_itemiterator_next.lookup, hQ⟩ }
end
end
end Mine
end
section
open PySem PySem.W PySem.Calls PyProof.Rows

namespace Mine
section
variable {prog : Program} {w : World} {H₀ : Heap} {sc : Scope} {n : Nat} {σ : Store} {cap : PySem.Str → Prop}

theorem Inv.ofBut {env : Env} {av tv : Addr → Prop} {h h' : Heap} (i : Inv prog w H₀ cap env av tv σ h) (I : Addr) (hI : av I ∨ tv I) (hH : H₀.get? I = none) (hloc : I ≠ env.locals) (hcl : ∀ x c, env.cells.lookup x = some c → c ≠ I)
    (hown : ∀ x sl, σ x = some sl → sl.addr? ≠ some I) (hl : ∃ o, h'.get? I = some o)
    (hk : ∀ b o, b ≠ I → h.get? b = some o → h'.get? b = some o) : Inv prog w H₀ cap env av tv σ h' := by
  refine ⟨⟨fun b o e => hk b o (fun w => by rw [w, hH] at e; cases e) (i.rd.base b o e), fun b q => ?_, fun x sl e => ?_, fun x c e => let ⟨_, _, v, o, ho, hd⟩ := i.cell x c e; ⟨v, o, hk _ o (hcl x c e) ho, hd⟩⟩, i.tvH, i.apart, i.loc, ?_, fun x c e => ?_, i.capt, i.inj, i.own, i.sep⟩
  · by_cases hb : b = I
    · subst hb; exact hl
    · obtain ⟨o, e⟩ := i.rd.live b q; exact ⟨o, hk b o hb e⟩
  · obtain ⟨v, r, z⟩ := i.rd.var x sl e
    refine ⟨v, ?_, z.but I hI (hown x sl e) hk⟩
    rcases r with ⟨k, m, nn, e'⟩ | ⟨k, c, e', q⟩
    · exact .inl ⟨k, m, nn.at' fun o e => hk _ o (Ne.symm hloc) e, e'⟩
    · obtain ⟨o, ho, hd⟩ := q
      exact .inr ⟨k, c, e', o, hk _ o (hcl x c e') ho, hd⟩
  · obtain ⟨m, hm⟩ := i.ns; exact ⟨m, hm.at' fun o e => hk _ o (Ne.symm hloc) e⟩
  · obtain ⟨a, b, v, o, ho, hd⟩ := i.cell x c e
    exact ⟨a, b, v, o, hk _ o (hcl x c e) ho, hd⟩
theorem Inv.ofButI {env : Env} {av tv : Addr → Prop} {h h' : Heap} (i : Inv prog w H₀ NoCap env av tv σ h) (I : Addr) (hI : av I) (hH : H₀.get? I = none) (hl : ∃ o, h'.get? I = some o)
    (hk : ∀ b o, b ≠ I → h.get? b = some o → h'.get? b = some o) : Inv prog w H₀ NoCap env av tv σ h' :=
  have nt : ∀ b, tv b → b ≠ I := fun b q w => i.apart b q (w ▸ hI)
  i.ofBut I (.inl hI) hH (Ne.symm (nt _ i.loc)) (fun x c e => nt c ((i.cell x c e).1 id)) (fun x sl e w => nt I (i.own x sl I e w).1 rfl) hl hk

theorem Inv.widen {env : Env} {av tv : Addr → Prop} {h : Heap} {s s' : Shared} (i : Inv prog w H₀ cap env av tv σ s.heap) (g : Grow s s') (I : Addr) (hn : s.heap.get? I = none) (hl : ∃ o, s'.heap.get? I = some o) :
    Inv prog w H₀ cap env (fun b => av b ∨ b = I) tv σ s'.heap := by
  have i' := i.keeps g.get
  refine ⟨⟨i'.rd.base, fun b q => ?_, fun x sl e => ?_, i'.rd.cells⟩, i.tvH, fun b q q' => ?_, i.loc, i'.ns, i'.cell, i.capt, i.inj, i.own, i.sep⟩
  · rcases q with (q | q) | q
    · exact i'.rd.live b (.inl q)
    · rw [q]; exact hl
    · exact i'.rd.live b (.inr q)
  · obtain ⟨v, r, z⟩ := i.rd.var x sl e
    exact ⟨v, r.keeps g.get, ((z.fresh I hn).keeps g.get).imp' fun b o nb e q => nb (by rcases q with (q | q) | q; exact .inl (.inl q); exact .inr q; exact .inl (.inr q))⟩
  · rcases q' with q' | q'
    · exact i.apart b q q'
    · obtain ⟨o, e⟩ := i.rd.live b (.inr q); rw [q', hn] at e; cases e
theorem Inv.narrow {env : Env} {av av' tv : Addr → Prop} {h : Heap} (i : Inv prog w H₀ cap env av tv σ h) (hk : ∀ b, av' b → av b) : Inv prog w H₀ cap env av' tv σ h :=
  ⟨⟨i.rd.base, fun b q => i.rd.live b (q.imp (hk b) id), fun x sl e => let ⟨v, r, z⟩ := i.rd.var x sl e; ⟨v, r, z.imp' fun b o nb e q => nb (q.imp (hk b) id)⟩, i.rd.cells⟩, i.tvH, fun b q q' => i.apart b q (hk b q'), i.loc, i.ns, i.cell, i.capt, i.inj, i.own, i.sep⟩

/-- what a turn of a loop leaves -/
def Turn (J : Store → Prop) (Q : Fl → Store → Prop) : Fl → Store → Prop
  | .next, σ => J σ
  | .cont, σ => J σ
  | .brk, σ => Q .next σ
  | .ret d, σ => Q (.ret d) σ

theorem ExS.for {t e : Expr} {body : List Stmt} {pos : Pos} {Q : Fl → Store → Prop} (tt : Expr → Prop) (ht : tt t)
    (h : Ev prog w H₀ sc n σ e fun d => ∃ ds, PyIt prog w H₀ n d ds tt ∧ ∃ J : Nat → Store → Prop, J 0 σ ∧
      (∀ k x σ', ds[k]? = some x → J k σ' → AsOk prog w H₀ NoCap sc n σ' t x fun σ₁ => Ex prog w H₀ sc n σ₁ body (Turn (J (k + 1)) Q)) ∧ ∀ σ', J ds.length σ' → Q .next σ')
    (hs : ∀ env x, foldedSetIterable e env x = pure x := by intro _ _; rfl) : ExS prog w H₀ sc n σ (.For t e body [] pos) Q := by
  intro env A s av tv E ok rm i
  refine wpAny_For (h env A s _ _ E ok rm i.rd fun v s₁ d q z g₁ => ?_) (hs env)
  obtain ⟨ds, pit, J, h0, step, fin⟩ := q
  have i₁ := i.keeps g₁.get
  refine pit A s₁ (fun a => av a ∨ tv a) v _ E rm i₁.rd.hp z fun I s₂ P Mid it hP hI g₂ => ?_
  have hl₂ : ∃ o, s₂.heap.get? I = some o := it.live 0 _ hP
  have hIs : s.heap.get? I = none := by
    cases e : s.heap.get? I with
    | none => rfl
    | some o => have := g₁.get I o e; rw [hI] at this; cases this
  have hIH : H₀.get? I = none := by
    cases e : H₀.get? I with
    | none => rfl
    | some o => have := i.rd.base I o e; rw [hIs] at this; cases this
  have i₂ : Inv prog w H₀ NoCap env (fun b => av b ∨ b = I) tv σ s₂.heap := Inv.widen (h := s.heap) i₁ g₂ I hI hl₂
  have fr₂ : Frame tv s s₂ := (g₁.trans g₂).frame tv
  refine codeAny_forLoop_any
    (fun m s' => ∃ k σ' tv', m = ds.length - k ∧ k ≤ ds.length ∧ J k σ' ∧ Inv prog w H₀ NoCap env (fun b => av b ∨ b = I) tv' σ' s'.heap ∧ P k s'.heap ∧ Frame tv s s' ∧ (∀ a, tv' a → tv a ∨ s.heap.get? a = none) ∧
      (∀ a, tv' a → tv a ∨ s₂.heap.get? a = none) ∧ ∀ b o, b ≠ I → ¬ ((av b ∨ tv b) ∨ b = I) → s₂.heap.get? b = some o → s'.heap.get? b = some o) ?_ (ds.length)
    ⟨0, σ, tv, rfl, Nat.zero_le _, h0, i₂, hP, fr₂, fun _ q => .inl q, fun _ q => .inl q, fun _ _ _ _ e => e⟩
  rintro m s' ⟨k, σ', tv', rfl, hk, hJ, i', hP', fr, ht1, ht2, hb⟩
  have narrow : ∀ {σ' tv'} {h : Heap}, Inv prog w H₀ NoCap env (fun b => av b ∨ b = I) tv' σ' h → Inv prog w H₀ NoCap env av tv' σ' h := fun i => i.narrow fun _ q => .inl q
  have butFrame : ∀ (s₃ s₄ : Shared), Frame tv s s₃ → (∃ h' tk, s₄ = { s₃ with heap := h', toks := tk } ∧ ∀ b o, b ≠ I → s₃.heap.get? b = some o → h'.get? b = some o) → Frame tv s s₄ := fun s₃ s₄ f x => by
    obtain ⟨h', tk, rfl, hh⟩ := f
    obtain ⟨h'', tk', rfl, hh'⟩ := x
    exact ⟨h'', tk', rfl, fun b o nb e => hh' b o (fun w => by rw [w, hIs] at e; cases e) (hh b o nb e)⟩
  rcases Nat.lt_or_ge k ds.length with hlt | hge
  · have hx : ds[k]? = some ds[k] := List.getElem?_eq_getElem hlt
    refine it.next k s' _ _ ds[k] (fun b => (av b ∨ b = I) ∨ tv' b) hx hP' hb (fun b q => ?_) (fun b q => ?_) fun u h₃ tk hz hm hk₃ => ?_
    · rcases q with (q | q) | q
      · exact .inl (.inl (.inl q))
      · exact .inl (.inr q)
      · rcases ht2 b q with q | q
        · exact .inl (.inl (.inr q))
        · exact .inr q
    · exact i'.rd.live b q
    have i₃ : Inv prog w H₀ NoCap env (fun b => av b ∨ b = I) tv' σ' h₃ := i'.ofButI I (.inr rfl) hIH (it.midlive k u h₃ hm) hk₃
    have fr₃ : Frame tv s { s' with heap := h₃, toks := tk } := butFrame s' _ fr ⟨h₃, tk, rfl, hk₃⟩
    refine it.go t k u _ _ _ ht hm fun h₄ hP₄ hk₄ => ?_
    have i₄ : Inv prog w H₀ NoCap env (fun b => av b ∨ b = I) tv' σ' h₄ := i₃.ofButI I (.inr rfl) hIH (it.live _ _ hP₄) hk₄
    have fr₄ : Frame tv s { s' with heap := h₄, toks := tk } := butFrame _ _ fr₃ ⟨h₄, tk, rfl, hk₄⟩
    have hz₄ : Rel prog w (fun b => (av b ∨ b = I) ∨ tv' b) h₄ ds[k] u := Rel.imp (fun b o nb e => ⟨nb, hk₄ b o (fun w => nb (.inl (.inr w))) e⟩) _ _ hz
    have hb₄ : ∀ b o, b ≠ I → ¬ ((av b ∨ tv b) ∨ b = I) → s₂.heap.get? b = some o → h₄.get? b = some o := fun b o n1 n2 e => hk₄ b o n1 (hk₃ b o n1 (hb b o n1 n2 e))
    refine wpAny_mono (step k ds[k] σ' hx hJ env A { s' with heap := h₄, toks := tk } (fun b => av b ∨ b = I) tv' u _ ok rm i₄ hz₄) (fun _ s₅ p => ?_) fun _ _ x => x
    obtain ⟨σ₁, q, i₅, f₅⟩ := p
    have hIt : ¬ tv' I := fun q => i'.apart I q (.inr rfl)
    refine wpAny_mono (q env A s₅ (fun b => av b ∨ b = I) tv' _ ok rm i₅) (fun f s₆ p => ?_) fun _ _ x => x
    obtain ⟨fl, σ₂, tv₂, q, r, i₆, f₆, t₆⟩ := p
    have back : Frame tv s s₆ := ((fr₄.trans f₅ ht1).trans f₆ ht1)
    have ft : ∀ a, tv₂ a → tv a ∨ s.heap.get? a = none := fun a ha => by
      rcases t₆ a ha with h | h
      · exact ht1 a h
      · rcases Classical.em (tv a) with h' | h'
        · exact .inl h'
        · right
          cases e : s.heap.get? a with
          | none => rfl
          | some o => have := (fr₄.trans f₅ ht1).get a o h' e; rw [h] at this; cases this
    have ft2 : ∀ a, tv₂ a → tv a ∨ s₂.heap.get? a = none := fun a ha => by
      rcases t₆ a ha with h | h
      · exact ht2 a h
      · rcases Classical.em (tv a) with h' | h'
        · exact .inl h'
        · right
          cases e : s₂.heap.get? a with
          | none => rfl
          | some o =>
            -- a lived at the loop's start, so it lives now
            exfalso
            rcases Classical.em (tv' a) with w | w
            · obtain ⟨o', e'⟩ := i₅.rd.live a (.inr w); rw [h] at e'; cases e'
            · rcases Classical.em (av a ∨ a = I) with w' | w'
              · obtain ⟨o', e'⟩ := i₅.rd.live a (.inl w'); rw [h] at e'; cases e'
              · have e1 := hb₄ a o (fun q => w' (.inr q)) (fun q => q.elim (fun q => q.elim (fun q => w' (.inl q)) h') fun q => w' (.inr q)) e
                have := f₅.get a o w e1; rw [h] at this; cases this
    have hb₆ : ∀ b o, b ≠ I → ¬ ((av b ∨ tv b) ∨ b = I) → s₂.heap.get? b = some o → s₆.heap.get? b = some o := fun b o n1 n2 e => by
      have nt : ¬ tv' b := fun q => (ht2 b q).elim (fun q => n2 (.inl (.inr q))) fun q => by rw [q] at e; cases e
      exact f₆.get b o nt (f₅.get b o nt (hb₄ b o n1 n2 e))
    have hP₆ : P (k + 1) s₆.heap := it.loc _ _ _ hP₄ fun o e => f₆.get I o hIt (f₅.get I o hIt e)
    cases fl with
    | next =>
      obtain rfl : f = .next := r
      exact ⟨ds.length - (k + 1), by omega, k + 1, σ₂, tv₂, rfl, hlt, q, i₆ rfl, hP₆, back, ft, ft2, hb₆⟩
    | cont =>
      obtain rfl : f = .cont := r
      exact ⟨ds.length - (k + 1), by omega, k + 1, σ₂, tv₂, rfl, hlt, q, i₆ rfl, hP₆, back, ft, ft2, hb₆⟩
    | brk =>
      obtain rfl : f = .brk := r
      exact ⟨.next, σ₂, tv₂, q, rfl, fun _ => narrow (i₆ rfl), back, ft⟩
    | ret d =>
      obtain ⟨v, rfl, z⟩ := r
      exact ⟨.ret d, σ₂, tv₂, q, ⟨v, rfl, Rel.weak z fun b q => .inl q⟩, fun q => (nomatch q), back, ft⟩
  · have hkk : k = ds.length := by omega
    subst hkk
    refine it.done s' _ _ hP' hb fun h₃ tk hk₃ => ?_
    refine wpAny_execs_nil ?_
    have i₃ : Inv prog w H₀ NoCap env av tv' σ' h₃ := by
      -- the iterator may be gone: forget it first
      have j := narrow i'
      have nt : ∀ b, tv' b → b ≠ I := fun b q w => i'.apart b q (.inr w)
      refine ⟨⟨fun b o e => hk₃ b o (fun w => by rw [w, hIH] at e; cases e) (j.rd.base b o e), fun b q => ?_, fun x sl e => ?_, fun x c e => let ⟨a, _, v, o, ho, hd⟩ := j.cell x c e; ⟨v, o, hk₃ _ o (nt _ (a id)) ho, hd⟩⟩, j.tvH, j.apart, j.loc, ?_, fun x c e => ?_, j.capt, j.inj, j.own, j.sep⟩
      · obtain ⟨o, e⟩ := j.rd.live b q
        refine ⟨o, hk₃ b o (fun w => ?_) e⟩
        rcases q with q | q
        · obtain ⟨o', e'⟩ := i.rd.live b (.inl q); rw [w, hIs] at e'; cases e'
        · exact nt b q w
      · obtain ⟨v, r, z⟩ := i'.rd.var x sl e
        refine ⟨v, ?_, (z.but I (.inl (.inr rfl)) (fun w => nt I (j.own x sl I e w).1 rfl) hk₃).imp' fun b o nb e q => nb (q.imp .inl id)⟩
        rcases r with ⟨k, m, nn, e'⟩ | ⟨k, c, e', q⟩
        · exact .inl ⟨k, m, nn.at' fun o e => hk₃ _ o (nt _ j.loc) e, e'⟩
        · obtain ⟨o, ho, hd⟩ := q
          exact .inr ⟨k, c, e', o, hk₃ _ o (nt _ ((j.cell x c e').1 id)) ho, hd⟩
      · obtain ⟨m, hm⟩ := j.ns; exact ⟨m, hm.at' fun o e => hk₃ _ o (nt _ j.loc) e⟩
      · obtain ⟨a, b, v, o, ho, hd⟩ := j.cell x c e
        exact ⟨a, b, v, o, hk₃ _ o (nt _ (a id)) ho, hd⟩
    exact ⟨.next, σ', tv', fin σ' hJ, rfl, fun _ => i₃, butFrame s' _ fr ⟨h₃, tk, rfl, hk₃⟩, ht1⟩
end
end Mine
end
section
open PySem PySem.W PySem.Calls PyProof.Rows

namespace Mine

/-! ## the comprehension's own environment -/

def relabelS (scope sc : Scope) : Scope :=
  { scope with names := scope.names.map fun (n, k) => if (k == .free && sc.kind == .function && sc.names.lookup n == some .cell) then (n, .cell) else (n, k) }
theorem relabel_eq {scope sc : Scope} {env : Env} (h : env.scope = sc) : relabel scope env = relabelS scope sc := by
  subst h; rfl

theorem lookup_relabelS {scope sc : Scope} {x : PySem.Str} {k : NameKind} (h : (relabelS scope sc).names.lookup x = some k) :
    scope.names.lookup x = some k ∨ (k = .cell ∧ scope.names.lookup x = some .free ∧ sc.names.lookup x = some .cell) := by
  unfold relabelS at h
  dsimp only at h
  generalize scope.names = l at h ⊢
  induction l with
  | nil => cases h
  | cons p r ih =>
    obtain ⟨y, ky⟩ := p
    rw [List.map_cons] at h
    rw [List.lookup_cons]
    by_cases hc : (ky == .free && sc.kind == .function && sc.names.lookup y == some .cell) = true
    · simp only [hc, if_true] at h
      rw [List.lookup_cons] at h
      cases hxy : x == y with
      | true =>
        rw [hxy] at h
        simp only [Option.some.injEq] at h
        obtain rfl := eq_of_beq hxy
        simp only [Bool.and_eq_true, beq_iff_eq] at hc
        exact .inr ⟨h.symm, by rw [hc.1.1], hc.2⟩
      | false => rw [hxy] at h; exact ih h
    · simp only [hc, Bool.false_eq_true, if_false] at h
      rw [List.lookup_cons] at h
      cases hxy : x == y with
      | true => rw [hxy] at h; exact .inl h
      | false => rw [hxy] at h; exact ih h

theorem cellsFrom_app : ∀ (names : List (PySem.Str × NameKind)) (h : Heap) (acc : List (PySem.Str × Addr)),
    ∃ l, cellsFrom h.objs.size names acc = l ++ acc ∧ (∀ p ∈ l, h.objs.size ≤ p.2 ∧ (p.1, NameKind.cell) ∈ names ∧ (pushCells h names).IsCell p.2 none) ∧ l.Pairwise (fun a b => a.2 ≠ b.2) ∧
      (∀ x, (x, NameKind.cell) ∈ names → ∃ c, (x, c) ∈ l) ∧ ((names.map (·.1)).Nodup → (l.map (·.1)).Nodup)
  | [], _, _ => ⟨[], rfl, fun _ q => (nomatch q), List.Pairwise.nil, fun _ q => (nomatch q), fun _ => List.Pairwise.nil⟩
  | (y, k) :: r, h, acc => by
    unfold cellsFrom pushCells
    by_cases hk : (k == .cell) = true
    · rw [if_pos hk, if_pos hk]
      obtain ⟨l, e, hl, hp, ha, hn⟩ := cellsFrom_app r (h.push { cls := .type "cell", data := .cell none }) ((y, h.objs.size) :: acc)
      rw [Heap.size_push] at e hl
      refine ⟨l ++ [(y, h.objs.size)], by rw [e]; simp, fun p q => ?_, ?_, fun x q => ?_, fun q => ?_⟩
      · rcases List.mem_append.mp q with q | q
        · obtain ⟨a, b, c⟩ := hl p q
          exact ⟨by omega, List.mem_cons_of_mem _ b, c⟩
        · rw [List.mem_singleton] at q; subst q
          refine ⟨Nat.le_refl _, by rw [eq_of_beq hk]; exact List.mem_cons_self, ?_⟩
          exact ⟨_, pushCells_keeps _ _ _ _ (Heap.get?_push_size _ rfl), rfl⟩
      · refine List.pairwise_append.mpr ⟨hp, List.pairwise_singleton _ _, fun a ha b hb => ?_⟩
        rw [List.mem_singleton] at hb; subst hb
        have := (hl a ha).1
        exact Nat.ne_of_gt this
      · rcases List.mem_cons.mp q with q | q
        · cases q; exact ⟨_, List.mem_append_right _ (List.mem_singleton.mpr rfl)⟩
        · obtain ⟨c, q⟩ := ha x q; exact ⟨c, List.mem_append_left _ q⟩
      · rw [List.map_cons, List.nodup_cons] at q
        rw [List.map_append]
        refine List.nodup_append.mpr ⟨hn q.2, List.pairwise_singleton _ _, fun a ha b hb => ?_⟩
        obtain ⟨p, hp, rfl⟩ := List.mem_map.mp ha
        rw [List.map_singleton, List.mem_singleton] at hb; subst hb
        exact fun w => q.1 (w ▸ List.mem_map_of_mem (f := (·.1)) (hl p hp).2.1)
    · rw [if_neg hk, if_neg hk]
      obtain ⟨l, e, hl, hp, ha, hn⟩ := cellsFrom_app r h acc
      refine ⟨l, e, fun p q => let ⟨a, b, c⟩ := hl p q; ⟨a, List.mem_cons_of_mem _ b, c⟩, hp, fun x q => ?_, fun q => hn (List.nodup_cons.mp q).2⟩
      rcases List.mem_cons.mp q with q | q
      · cases q; exact absurd rfl hk
      · exact ha x q

theorem lookup_append {α : Type} {l r : List (PySem.Str × α)} {x : PySem.Str} : (l ++ r).lookup x = (l.lookup x).or (r.lookup x) := List.lookup_append ..

theorem newEnv_comp {M : Model} {A : Around} {E : Value → Shared → Prop} {s : Shared} {scope : Scope} {g : Addr} {cl : List (PySem.Str × Addr)} {q : PySem.Str} {outer : Env} {Q : Env → Shared → Prop}
    (h : Q { scope, locals := s.heap.objs.size, globals := g, cells := cellsFrom (s.heap.objs.size + 1) scope.names cl, qual := q, func := none, code := outer.code, frame := outer.frame, builtins := outer.builtins }
      { s with heap := pushCells (s.heap.push { cls := .type "dict", data := .dict #[] }) scope.names }) :
    wpAny M A (newFunctionEnv scope g cl [] q none .none (some outer)) Q E s := by
  simp only [newFunctionEnv, Option.isSome_some, if_true]
  refine wpAny_bind (wpAny_alloc ?_)
  refine wpAny_bind (wpAny_layCells _ (fun name kind cells => by cases hkc : kind == NameKind.cell <;> simp [hkc]) _ _ _ _ ?_)
  rw [show ({ s with heap := s.heap.push { cls := .type "dict", data := .dict #[] } } : Shared).heap.objs.size = s.heap.objs.size + 1 from Heap.size_push ..]
  exact wpAny_bind (wpAny_pure (wpAny_pure h))

theorem closure_loop {env : Env} (f : PySem.Str × NameKind → List (PySem.Str × Addr) → Sem (ForInStep (List (PySem.Str × Addr))))
    (hf : ∀ y k r, f (y, k) r = if (k == NameKind.free) = true then (do let a ← cellOf env y; pure (ForInStep.yield ((y, a) :: r))) else pure (ForInStep.yield r)) :
    ∀ (names : List (PySem.Str × NameKind)) (acc : List (PySem.Str × Addr)), (∀ x, (x, NameKind.free) ∈ names → ∃ c, env.cells.lookup x = some c) →
      ∃ l, (forIn names acc f : Sem (List (PySem.Str × Addr))) = pure (l ++ acc) ∧
        (∀ p ∈ l, env.cells.lookup p.1 = some p.2 ∧ (p.1, NameKind.free) ∈ names) ∧ ∀ x, (x, NameKind.free) ∈ names → ∃ c, (x, c) ∈ l := by
  intro names
  induction names with
  | nil => intro acc _; exact ⟨[], rfl, fun _ q => (nomatch q), fun _ q => (nomatch q)⟩
  | cons p r ih =>
    intro acc hh
    obtain ⟨y, k⟩ := p
    rw [List.forIn_cons, hf]
    by_cases hk : (k == .free) = true
    · obtain rfl := eq_of_beq hk
      obtain ⟨c, hc⟩ := hh y List.mem_cons_self
      obtain ⟨l, e, h1, h2⟩ := ih ((y, c) :: acc) fun x q => hh x (List.mem_cons_of_mem _ q)
      refine ⟨l ++ [(y, c)], ?_, fun p q => ?_, fun x q => ?_⟩
      · rw [if_pos hk]
        unfold cellOf
        rw [hc]
        show forIn r ((y, c) :: acc) f = _
        rw [e]; simp
      · rcases List.mem_append.mp q with q | q
        · exact ⟨(h1 p q).1, List.mem_cons_of_mem _ (h1 p q).2⟩
        · rw [List.mem_singleton] at q; subst q; exact ⟨hc, List.mem_cons_self⟩
      · rcases List.mem_cons.mp q with q | q
        · cases q; exact ⟨c, by simp⟩
        · obtain ⟨c', q⟩ := h2 x q; exact ⟨c', List.mem_append_left _ q⟩
    · obtain ⟨l, e, h1, h2⟩ := ih acc fun x q => hh x (List.mem_cons_of_mem _ q)
      refine ⟨l, ?_, fun p q => ⟨(h1 p q).1, List.mem_cons_of_mem _ (h1 p q).2⟩, fun x q => ?_⟩
      · rw [if_neg hk]
        show forIn r acc f = _
        exact e
      · rcases List.mem_cons.mp q with q | q
        · cases q; exact absurd rfl hk
        · exact h2 x q

/-- the closure of a comprehension -/
theorem closure_ok {scope : Scope} {env : Env} (h : ∀ x, (x, NameKind.free) ∈ scope.names → ∃ c, env.cells.lookup x = some c) :
    ∃ cl, closureFor scope env = pure cl ∧ (∀ x c, cl.lookup x = some c → env.cells.lookup x = some c ∧ (x, NameKind.free) ∈ scope.names) ∧ ∀ x, (x, NameKind.free) ∈ scope.names → cl.lookup x = env.cells.lookup x := by
  have gen := fun f hf => closure_loop (env := env) f hf
  obtain ⟨l, e, h1, h2⟩ := gen (fun x r => do
        match x with
        | (name, kind) =>
          if (kind == .free) = true then do let a ← cellOf env name; pure (ForInStep.yield ((name, a) :: r)) else pure (ForInStep.yield r)) (fun y k r => rfl) scope.names [] h
  have look : ∀ x c, (x, c) ∈ l → l.lookup x = some c := by
    intro x c hm
    have : ∀ l : List (PySem.Str × Addr), (∀ p ∈ l, env.cells.lookup p.1 = some p.2) → (x, c) ∈ l → l.lookup x = some c := by
      intro l
      induction l with
      | nil => intro _ q; cases q
      | cons p r ih =>
        intro hh q
        rw [List.lookup_cons]
        cases hx : x == p.1 with
        | true =>
          obtain rfl := eq_of_beq hx
          have a := hh p List.mem_cons_self
          have b := hh (p.1, c) q
          rw [a] at b; exact b
        | false =>
          rcases List.mem_cons.mp q with q | q
          · rw [← q] at hx; simp at hx
          · exact ih (fun p q => hh p (List.mem_cons_of_mem _ q)) q
    exact this l (fun p q => (h1 p q).1) hm
  refine ⟨l, ?_, fun x c q => ?_, fun x q => ?_⟩
  · rw [List.append_nil] at e
    have : closureFor scope env = (forIn scope.names [] (fun x r => do
        match x with
        | (name, kind) =>
          if (kind == .free) = true then do let a ← cellOf env name; pure (ForInStep.yield ((name, a) :: r)) else pure (ForInStep.yield r)) : Sem (List (PySem.Str × Addr))) := by
      unfold closureFor
      rw [bind_pure]
    rw [this]; exact e
  · exact h1 (x, c) (mem_of_lookup q)
  · obtain ⟨c, q⟩ := h2 x q
    rw [look x c q, (h1 (x, c) q).1]
end Mine
end
section
open PySem PySem.W PySem.Calls PyProof.Rows

namespace Mine
section
variable {prog : Program} {w : World} {H₀ : Heap} {n : Nat} {σ : Store}

/-- the tests of a comprehension -/
def EvT (prog : Program) (w : World) (H₀ : Heap) (sc : Scope) (n : Nat) (σ : Store) : List Expr → (Bool → Prop) → Prop
  | [], Q => Q true
  | c :: cs, Q => EvB prog w H₀ sc n σ c fun b => if b then EvT prog w H₀ sc n σ cs Q else Q false

theorem tests_false {env : Env} {A : Around} {s : Shared} {Q : Bool → Shared → Prop} {E : Value → Shared → Prop} (h : Q false s) : ∀ ifs : List Expr,
    wpAny (model prog w) A (forIn ifs false fun c r => if r = true then do let ok ← isTrue c env (eval c env); pure (ForInStep.yield ok) else pure (ForInStep.yield r)) Q E s
  | [] => by rw [List.forIn_nil]; exact wpAny_pure h
  | c :: cs => by
    rw [List.forIn_cons]
    simp only [Bool.false_eq_true, if_false]
    exact tests_false h cs
theorem EvT.run {sc : Scope} {env : Env} {A : Around} {av : Addr → Prop} {E : Value → Shared → Prop} (ok : EnvOk sc env) (rm : Room A n) : ∀ {ifs : List Expr} {Q : Bool → Prop} {s : Shared} {Q' : Bool → Shared → Prop}, EvT prog w H₀ sc n σ ifs Q →
    Rd prog w H₀ env av σ s.heap → (∀ b s', Q b → Grow s s' → Q' b s') →
    wpAny (model prog w) A (forIn ifs true fun c r => if r = true then do let ok ← isTrue c env (eval c env); pure (ForInStep.yield ok) else pure (ForInStep.yield r)) Q' E s
  | [], Q, s, Q', h, rd, k => by rw [List.forIn_nil]; exact wpAny_pure (k true s h (Grow.refl s))
  | c :: cs, Q, s, Q', h, rd, k => by
    rw [List.forIn_cons]
    simp only [if_true]
    refine wpAny_bind (wpAny_bind (h env A s av _ E ok rm rd fun b s₁ q g => wpAny_pure ?_))
    cases b with
    | false => exact tests_false (k false s₁ q g) cs
    | true => exact EvT.run ok rm q (rd.keeps g.get) fun b s' q g' => k b s' q (g.trans g')

theorem compLoop_go {A : Around} {R : Result → Shared → Prop} {s : Shared} {elt target iter : Expr} {ifs : List Expr} {scope : Scope} {pos : Pos} {it acc : Value} {env : Env} (I : Nat → Shared → Prop)
    (turn : ∀ n s (E : Value → Shared → Prop), I n s → wpAny (model prog w) A (pyNext it) (fun r s₁ => match r with
      | none => R (.ok .next) s₁
      | some v => wpAny (model prog w) A (letOwnedTupleGo target it v) (fun _ s₀ => wpAny (model prog w) A (assign target env v) (fun _ s₂ =>
          wpAny (model prog w) A (forIn ifs true fun c r => if r = true then do let ok ← isTrue c env (eval c env); pure (ForInStep.yield ok) else pure (ForInStep.yield r)) (fun ok s₃ =>
            if ok = true then wpAny (model prog w) A (eval elt env) (fun x s₄ => wpAny (model prog w) A (call (.builtin "list.append") [acc, x]) (fun _ s₅ => ∃ m, m < n ∧ I m s₅) E s₄) E s₃
            else ∃ m, m < n ∧ I m s₃) E s₂) E s₀) E s₁) E s)
    (n : Nat) (h : I n s) : codeAny (model prog w) A (.compLoop (.ListComp elt [⟨target, iter, ifs, 0⟩] scope pos) 0 it acc env) R s := by
  refine codeAny_loop rfl I (fun n s hI => ?_) n h
  show wpAny _ A ((compTurn (.ListComp elt [⟨target, iter, ifs, 0⟩] scope pos) 0 it acc env).onRaise (fun x => do noteFrame x env; theTreesLotGoes x)) _ _ s
  refine wpAny_noted ?_
  rw [compTurn_list]
  refine wpAny_bind (wpAny_standAt (wpAny_bind (wpAny_mono (turn n s _ hI) (fun r s₁ h₁ => ?_) fun _ _ h' => h')))
  cases r with
  | none => exact wpAny_pure h₁
  | some v =>
    refine wpAny_bind (wpAny_mono h₁ (fun _ s₀ h₀' => wpAny_bind (wpAny_mono h₀' (fun _ s₂ h₂ => wpAny_bind (wpAny_mono h₂ (fun ok s₃ h₃ => ?_) fun _ _ h' => h')) fun _ _ h' => h')) fun _ _ h' => h')
    cases ok with
    | false => exact wpAny_pure ⟨rfl, h₃⟩
    | true =>
      exact wpAny_bind (wpAny_bind (wpAny_mono h₃ (fun x s₄ h₄ => wpAny_bind (wpAny_mono h₄ (fun _ s₅ h₅ => wpAny_pure (wpAny_pure ⟨rfl, h₅⟩)) fun _ _ h' => h')) fun _ _ h' => h'))

/-- what a comprehension sees of the names around it -/
abbrev capOf (scope : Scope) (x : PySem.Str) : Prop := scope.names.lookup x = some .free

def Slot.plain : Slot → Option Slot
  | .val d => some (.val d)
  | _ => none
def inner (scope : Scope) (σ : Store) : Store := fun x => if scope.names.lookup x = some .free then (σ x).bind Slot.plain else none
theorem inner_some {scope : Scope} {σ : Store} {x : PySem.Str} {sl : Slot} (h : inner scope σ x = some sl) : scope.names.lookup x = some .free ∧ σ x = some sl ∧ ∃ d, sl = .val d := by
  unfold inner at h
  split at h
  · rename_i hf
    refine ⟨hf, ?_⟩
    cases e : σ x with
    | none => rw [e] at h; cases h
    | some s' =>
      rw [e] at h
      cases s' with
      | val d => cases h; exact ⟨rfl, d, rfl⟩
      | own a ds => cases h
      | ownd a ks ds => cases h
  · cases h
theorem inner_val {scope : Scope} {σ : Store} {x : PySem.Str} {d : D} (h : σ x = some (.val d)) (hf : scope.names.lookup x = some .free) : inner scope σ x = some (.val d) := by
  unfold inner; rw [if_pos hf, h]; rfl
theorem lookup_relabelS_free {scope sc : Scope} {x : PySem.Str} (h : scope.names.lookup x = some .free) : (relabelS scope sc).names.lookup x = some .cell ∨ (relabelS scope sc).names.lookup x = some .free := by
  unfold relabelS
  dsimp only
  generalize scope.names = l at h ⊢
  induction l with
  | nil => cases h
  | cons p r ih =>
    obtain ⟨y, ky⟩ := p
    rw [List.map_cons]
    rw [List.lookup_cons] at h
    by_cases hc : (ky == .free && sc.kind == .function && sc.names.lookup y == some .cell) = true
    · simp only [hc, if_true]
      rw [List.lookup_cons]
      cases hxy : x == y with
      | true => exact .inl rfl
      | false => rw [hxy] at h; exact ih h
    · simp only [hc, Bool.false_eq_true, if_false]
      rw [List.lookup_cons]
      cases hxy : x == y with
      | true => rw [hxy] at h; exact .inr h
      | false => rw [hxy] at h; exact ih h

theorem mem_lookup {α : Type} : ∀ {l : List (PySem.Str × α)} {x : PySem.Str} {k : α}, (l.map (·.1)).Nodup → (x, k) ∈ l → l.lookup x = some k
  | [], _, _, _, h => nomatch h
  | (y, k') :: r, x, k, hn, h => by
    rw [List.map_cons, List.nodup_cons] at hn
    rw [List.lookup_cons]
    rcases List.mem_cons.mp h with h | h
    · cases h; simp
    · cases hx : x == y with
      | true => exact absurd (List.mem_map_of_mem (f := (·.1)) h) (by rw [← eq_of_beq hx] at hn; exact hn.1)
      | false => exact mem_lookup hn.2 h

structure CompOk (scope sc : Scope) : Prop where
  kind : scope.kind = .function
  nodup : (scope.names.map (·.1)).Nodup
  free : ∀ x ∈ scope.names, x.2 = .free → sc.names.lookup x.1 = some .cell ∨ sc.names.lookup x.1 = some .free

/-- the comprehension's loop, from its iterator on -/
abbrev tvOf (C : Addr) (l : List (PySem.Str × Addr)) : Addr → Prop := fun b => b = C ∨ ∃ p ∈ l, p.2 = b
abbrev avOf (av : Addr → Prop) (I D : Addr) : Addr → Prop := fun b => (av b ∨ b = I) ∨ b = D
abbrev cenvOf (scope : Scope) (env : Env) (l cl : List (PySem.Str × Addr)) (C : Addr) : Env := { scope := relabel scope env, locals := C, globals := env.globals, cells := l ++ cl, qual := env.qual, func := none, code := env.code, frame := env.frame, builtins := env.builtins }
/-- a comprehension's new list and frame -/
theorem comp_set {sc scope : Scope} {env : Env} {A : Around} {s₂ : Shared} {av : Addr → Prop} {E : Value → Shared → Prop} {I : Addr} {cl : List (PySem.Str × Addr)} {G : Value → Env → Shared → Prop}
    (co : CompOk scope sc) (ok : EnvOk sc env) (rd : Rd prog w H₀ env (fun b => av b ∨ b = I) σ s₂.heap) (hIl : ∃ o, s₂.heap.get? I = some o)
    (hIc : ∀ x c, cl.lookup x = some c → c ≠ I) (hcs : ∀ x c, cl.lookup x = some c → ∃ v, s₂.heap.IsCell c v) (hIH : H₀.get? I = none)
    (hcl : ∀ x c, cl.lookup x = some c → env.cells.lookup x = some c ∧ (x, NameKind.free) ∈ scope.names) (hcl' : ∀ x, (x, NameKind.free) ∈ scope.names → cl.lookup x = env.cells.lookup x) (hinj : ∀ x y c, env.cells.lookup x = some c → env.cells.lookup y = some c → x = y)
    (body : ∀ (l : List (PySem.Str × Addr)) (H4 : Heap) (C : Addr), EnvOk (relabelS scope sc) (cenvOf scope env l cl C) → (∀ b o, s₂.heap.get? b = some o → H4.get? b = some o) → s₂.heap.get? s₂.heap.objs.size = none → s₂.heap.get? C = none →
      H4.PlainList s₂.heap.objs.size #[] → (H4.Ns C fun _ => none) → (∀ b, tvOf C l b → s₂.heap.get? b = none ∧ b ≠ s₂.heap.objs.size) → (∀ p ∈ l, ∃ v, H4.IsCell p.2 v) → I ≠ C → I ≠ s₂.heap.objs.size → s₂.heap.objs.size ≠ C → H₀.get? s₂.heap.objs.size = none →
      (∀ x c, (l ++ cl).lookup x = some c → c ≠ I) → (∀ x c, (l ++ cl).lookup x = some c → c ≠ s₂.heap.objs.size) →
      (∀ h' : Heap, (∀ b o, b ≠ I → s₂.heap.get? b = some o → h'.get? b = some o) → (∃ o, h'.get? I = some o) → (∃ o, h'.get? s₂.heap.objs.size = some o) → (∃ m, h'.Ns C m) → (∀ p ∈ l, ∃ v, h'.IsCell p.2 v) →
        Inv prog w H₀ (capOf scope) (cenvOf scope env l cl C) (avOf av I s₂.heap.objs.size) (tvOf C l) (inner scope σ) h') →
      (∀ p ∈ l, (l ++ cl).lookup p.1 = some p.2) → G (.ref s₂.heap.objs.size) (cenvOf scope env l cl C) { s₂ with heap := H4 }) :
    wpAny (model prog w) A (newList []) (fun acc s₃ => wpAny (model prog w) A (newFunctionEnv scope env.globals cl [] env.qual none .none (some env)) (fun cenv s₄ => G acc { cenv with scope := relabel scope env } s₄) E s₃) E s₂ := by
  refine wpAny_newObj_type (newEnv_comp ?_)
  dsimp only
  generalize hH2 : s₂.heap.push { cls := .type "list", dict := none, data := .seq ([] : List Value).toArray } = H2
  have hC : H2.objs.size = s₂.heap.objs.size + 1 := by rw [← hH2, Heap.size_push]
  obtain ⟨l, hl, hl1, hl2, hl3, hl4⟩ := cellsFrom_app scope.names (H2.push { cls := .type "dict", data := .dict #[] }) cl
  rw [Heap.size_push] at hl hl1
  rw [hl]
  generalize hH4 : pushCells (H2.push { cls := .type "dict", data := .dict #[] }) scope.names = H4 at hl1
  have k2 : ∀ b o, s₂.heap.get? b = some o → H2.get? b = some o := fun b o e => hH2 ▸ Heap.get?_push_of_some _ e
  have k4 : ∀ b o, H2.get? b = some o → H4.get? b = some o := fun b o e => hH4 ▸ pushCells_keeps _ _ _ _ (Heap.get?_push_of_some _ e)
  have k : ∀ b o, s₂.heap.get? b = some o → H4.get? b = some o := fun b o e => k4 b o (k2 b o e)
  have nD : s₂.heap.get? s₂.heap.objs.size = none := get_size _
  have above : ∀ b, s₂.heap.objs.size ≤ b → s₂.heap.get? b = none := fun b hb => by
    cases e : s₂.heap.get? b with
    | none => rfl
    | some o => exact absurd (Heap.lt_size e) (Nat.not_lt.mpr hb)
  have hD4 : H4.PlainList s₂.heap.objs.size #[] := ⟨_, k4 _ _ (hH2 ▸ Heap.get?_push_size _ rfl)⟩
  have hN4 : H4.Ns H2.objs.size fun _ => none := (Heap.Ns.new H2 (.type "dict")).keeps fun b o e => hH4 ▸ pushCells_keeps _ _ _ _ e
  -- the new addresses
  let tv : Addr → Prop := fun b => b = H2.objs.size ∨ ∃ p ∈ l, p.2 = b
  let av₂ : Addr → Prop := fun b => (av b ∨ b = I) ∨ b = s₂.heap.objs.size
  have tvnew : ∀ b, tv b → s₂.heap.get? b = none ∧ b ≠ s₂.heap.objs.size := fun b hb => by
    have : s₂.heap.objs.size < b := by
      rcases hb with h | ⟨p, hp, h⟩
      · rw [h, hC]; exact Nat.lt_succ_self _
      · have := (hl1 p hp).1; rw [hC] at this; rw [← h]; exact Nat.lt_of_lt_of_le (by omega) this
    exact ⟨above b (Nat.le_of_lt this), Nat.ne_of_gt this⟩
  have lk : ∀ x c, (l ++ cl).lookup x = some c → ((x, c) ∈ l ∧ (x, NameKind.cell) ∈ scope.names) ∨ (cl.lookup x = some c ∧ (x, NameKind.free) ∈ scope.names) := fun x c e => by
    rw [lookup_append] at e
    cases q : l.lookup x with
    | some c' => rw [q] at e; cases e; exact .inl ⟨mem_of_lookup q, (hl1 _ (mem_of_lookup q)).2.1⟩
    | none => rw [q] at e; exact .inr ⟨e, (hcl x c e).2⟩
  have capt_lk : ∀ x, capOf scope x → (l ++ cl).lookup x = env.cells.lookup x := fun x hx => by
    rw [lookup_append]
    cases q : l.lookup x with
    | some c' =>
      have := mem_lookup co.nodup (hl1 _ (mem_of_lookup q)).2.1
      rw [show scope.names.lookup x = some .free from hx] at this; cases this
    | none => exact hcl' x (mem_of_lookup hx)
  let cenv : Env := { scope := relabel scope env, locals := H2.objs.size, globals := env.globals, cells := l ++ cl, qual := env.qual, func := none, code := env.code, frame := env.frame, builtins := env.builtins }
  have okc : EnvOk (relabelS scope sc) cenv := {
    is := relabel_eq ok.is
    kind := co.kind
    gl := ok.gl
    bi := ok.bi
    cell := fun x hx => by
      show ∃ c, (l ++ cl).lookup x = some c
      have hfree : scope.names.lookup x = some .free → ∃ c, (l ++ cl).lookup x = some c := fun hf => by
        obtain ⟨c, hc⟩ := ok.cell x (co.free (x, .free) (mem_of_lookup hf) rfl)
        exact ⟨c, by rw [capt_lk x hf]; exact hc⟩
      rcases hx with hx | hx <;> rcases lookup_relabelS hx with h | ⟨_, h, _⟩
      · obtain ⟨c, hc⟩ := hl3 x (mem_of_lookup h)
        cases q : l.lookup x with
        | some c' => exact ⟨c', by rw [lookup_append, q]; rfl⟩
        | none => exact absurd (List.lookup_eq_none_iff.mp q (x, c) hc) (by simp)
      · exact hfree h
      · exact hfree h
      · exact hfree h
    inj := fun x y c e e' => by
      rcases lk x c e with ⟨m, hm⟩ | ⟨m, hm⟩ <;> rcases lk y c e' with ⟨m', hm'⟩ | ⟨m', hm'⟩
      · exact name_of_addr hl2 m m'
      · obtain ⟨v, o, ho, hd⟩ := hcs y c m'
        rw [(tvnew c (.inr ⟨_, m, rfl⟩)).1] at ho; cases ho
      · obtain ⟨v, o, ho, hd⟩ := hcs x c m
        rw [(tvnew c (.inr ⟨_, m', rfl⟩)).1] at ho; cases ho
      · exact hinj x y c (hcl x c m).1 (hcl y c m').1 }
  have live₂ : ∀ {b o}, s₂.heap.get? b = some o → ¬ tv b := fun e q => by rw [(tvnew _ q).1] at e; cases e
  have nIC : I ≠ H2.objs.size := fun q => by obtain ⟨o, e⟩ := hIl; exact live₂ e (.inl q)
  have nID : I ≠ s₂.heap.objs.size := fun q => by obtain ⟨o, e⟩ := hIl; rw [q, nD] at e; cases e
  have nDC : s₂.heap.objs.size ≠ H2.objs.size := by rw [hC]; exact Nat.ne_of_lt (Nat.lt_succ_self _)
  have hDH : H₀.get? s₂.heap.objs.size = none := by
    cases e : H₀.get? s₂.heap.objs.size with
    | none => rfl
    | some o => have := rd.base _ _ e; rw [nD] at this; cases this
  have cellI : ∀ x c, cenv.cells.lookup x = some c → c ≠ I := fun x c e => by
    rcases lk x c e with ⟨m, _⟩ | ⟨m, _⟩
    · exact fun q => by obtain ⟨o, e⟩ := hIl; exact live₂ e (.inr ⟨_, m, q⟩)
    · exact hIc x c m
  have cellD : ∀ x c, cenv.cells.lookup x = some c → c ≠ s₂.heap.objs.size := fun x c e => by
    rcases lk x c e with ⟨m, _⟩ | ⟨m, _⟩
    · exact (tvnew c (.inr ⟨_, m, rfl⟩)).2
    · obtain ⟨v, o, ho, _⟩ := hcs x c m
      exact fun q => by rw [q, nD] at ho; cases ho
  have mkInv : ∀ h' : Heap, (∀ b o, b ≠ I → s₂.heap.get? b = some o → h'.get? b = some o) → (∃ o, h'.get? I = some o) → (∃ o, h'.get? s₂.heap.objs.size = some o) → (∃ m, h'.Ns H2.objs.size m) → (∀ p ∈ l, ∃ v, h'.IsCell p.2 v) →
      Inv prog w H₀ (capOf scope) cenv av₂ tv (inner scope σ) h' := fun h' hk hI' hD' hN' hcel => by
    refine ⟨⟨fun b o e => hk b o (fun q => by rw [q, hIH] at e; cases e) (rd.base b o e), fun b q => ?_, fun x sl e => ?_, fun x c e => ?_⟩, fun b q => ?_, fun b q q' => ?_, .inl rfl, hN', fun x c e => ?_, fun x c e q q' => ?_, fun x y c e e' => ?_, fun x sl a e q => ?_, fun x y sl sl' a e q => ?_⟩
    · rcases q with ((q | q) | q) | (q | ⟨p, hp, q⟩)
      · obtain ⟨o, e⟩ := rd.live b (.inl q)
        by_cases hb : b = I
        · rw [hb]; exact hI'
        · exact ⟨o, hk b o hb e⟩
      · rw [q]; exact hI'
      · rw [q]; exact hD'
      · obtain ⟨m, o, _, _, ho, _⟩ := hN'; exact ⟨o, q ▸ ho⟩
      · obtain ⟨v, o, ho, _⟩ := hcel p hp; exact ⟨o, q ▸ ho⟩
    · obtain ⟨hf, hσ, d, rfl⟩ := inner_some e
      obtain ⟨v, r, z⟩ := rd.var x _ hσ
      have hcf := co.free (x, .free) (mem_of_lookup hf) rfl
      refine ⟨v, ?_, ?_⟩
      · rcases r with ⟨kk, _⟩ | ⟨kk, c, hc, hv⟩
        · unfold Env.kindOf at kk; rw [ok.is] at kk
          rcases hcf with hcf | hcf <;> rw [hcf] at kk <;> cases kk
        · refine .inr ⟨?_, c, ?_, ?_⟩
          · show List.lookup x (relabel scope env).names = some .cell ∨ List.lookup x (relabel scope env).names = some .free
            rw [relabel_eq ok.is]; exact lookup_relabelS_free hf
          · show (l ++ cl).lookup x = some c
            rw [capt_lk x hf]; exact hc
          · obtain ⟨o, ho, hd⟩ := hv
            have hcI : c ≠ I := hIc x c (by rw [hcl' x (mem_of_lookup hf)]; exact hc)
            exact ⟨o, hk c o hcI ho, hd⟩
      · refine Rel.imp (fun b o nb e => ⟨fun q => ?_, hk b o (fun q => nb (.inr q)) e⟩) _ _ z
        rcases q with (q | q) | q
        · exact nb q
        · rw [q, nD] at e; cases e
        · exact live₂ e q
    · rcases lk x c e with ⟨m, hm⟩ | ⟨m, hm⟩
      · exact hcel _ m
      · obtain ⟨v, o, ho, hd⟩ := hcs x c m
        exact ⟨v, o, hk c o (hIc x c m) ho, hd⟩
    · cases e : H₀.get? b with
      | none => rfl
      | some o => exact absurd q (live₂ (rd.base b o e))
    · rcases q' with q' | q'
      · obtain ⟨o, e⟩ := rd.live b q'; exact live₂ e q
      · exact (tvnew b q).2 q'
    · rcases lk x c e with ⟨m, hm⟩ | ⟨m, hm⟩
      · refine ⟨fun _ => .inr ⟨_, m, rfl⟩, ?_, hcel _ m⟩
        have := (hl1 _ m).1
        exact Nat.ne_of_gt this
      · obtain ⟨v, o, ho, hd⟩ := hcs x c m
        exact ⟨fun q => absurd (mem_lookup co.nodup hm) q, fun q => live₂ ho (.inl q), v, o, hk c o (hIc x c m) ho, hd⟩
    · rcases lk x c e with ⟨m, hm⟩ | ⟨m, hm⟩
      · have := mem_lookup co.nodup hm
        rw [show scope.names.lookup x = some .free from q] at this; cases this
      · obtain ⟨v, o, ho, hd⟩ := hcs x c m
        exact live₂ ho q'
    · rcases lk x c e with ⟨m, hm⟩ | ⟨m, hm⟩ <;> rcases lk y c e' with ⟨m', hm'⟩ | ⟨m', hm'⟩
      · exact name_of_addr hl2 m m'
      · obtain ⟨v, o, ho, hd⟩ := hcs y c m'
        exact absurd (.inr ⟨_, m, rfl⟩) (live₂ ho)
      · obtain ⟨v, o, ho, hd⟩ := hcs x c m
        exact absurd (.inr ⟨_, m', rfl⟩) (live₂ ho)
      · exact hinj x y c (hcl x c m).1 (hcl y c m').1
    · obtain ⟨_, _, d, rfl⟩ := inner_some e; cases q
    · obtain ⟨_, _, d, rfl⟩ := inner_some e; cases q
  exact body l H4 H2.objs.size okc k nD (above _ (by rw [hC]; exact Nat.le_succ _)) hD4 hN4 tvnew (fun p hp => ⟨_, (hl1 p hp).2.2⟩) nIC nID nDC hDH cellI cellD mkInv (fun p hp => by rw [lookup_append, mem_lookup (hl4 co.nodup) hp]; rfl)
theorem comp_core {sc scope : Scope} {elt t e : Expr} {ifs : List Expr} {pos : Pos} {env : Env} {A : Around} {s₂ : Shared} {av : Addr → Prop} {E : Value → Shared → Prop} {I : Addr} {ds : List D} {tt : Expr → Prop} {P : Nat → Heap → Prop} {Mid : Nat → Value → Heap → Prop}
    {RR : Value → Addr → Result → Shared → Prop} {cl : List (PySem.Str × Addr)}
    (co : CompOk scope sc) (ok : EnvOk sc env) (rm : Room A n) (rd : Rd prog w H₀ env (fun b => av b ∨ b = I) σ s₂.heap) (it : It prog w A (fun b => av b ∨ b = I) s₂.heap I ds tt P Mid) (hP : P 0 s₂.heap) (ht : tt t)
    (hIc : ∀ x c, cl.lookup x = some c → c ≠ I) (hcs : ∀ x c, cl.lookup x = some c → ∃ v, s₂.heap.IsCell c v) (hIH : H₀.get? I = none)
    (hcl : ∀ x c, cl.lookup x = some c → env.cells.lookup x = some c ∧ (x, NameKind.free) ∈ scope.names) (hcl' : ∀ x, (x, NameKind.free) ∈ scope.names → cl.lookup x = env.cells.lookup x) (hinj : ∀ x y c, env.cells.lookup x = some c → env.cells.lookup y = some c → x = y)
    (J : Nat → List D → Prop) (h0 : J 0 [])
    (step : ∀ k x ys, ds[k]? = some x → J k ys → AsOk prog w H₀ (capOf scope) (relabelS scope sc) n (inner scope σ) t x fun σ₁ =>
      EvT prog w H₀ (relabelS scope sc) n σ₁ ifs fun b => if b then Ev prog w H₀ (relabelS scope sc) n σ₁ elt (fun y => J (k + 1) (ys ++ [y])) else J (k + 1) ys)
    (hsz : ds.length ≤ sizeLine)
    (hRR : ∀ D C h' tk m' ys vs, s₂.heap.get? D = none → s₂.heap.get? C = none → D ≠ C → h'.Ns C m' → h'.PlainList D vs.toArray → RelL prog w (fun b => (av b ∨ b = D) ∨ b = C) h' ys vs → J ds.length ys →
      (∀ b o, b ≠ I → s₂.heap.get? b = some o → h'.get? b = some o) → RR (.ref D) C (.ok .next) { s₂ with heap := h', toks := tk }) :
    wpAny (model prog w) A (newList []) (fun acc s₃ => wpAny (model prog w) A (newFunctionEnv scope env.globals cl [] env.qual none .none (some env)) (fun cenv s₄ =>
      codeAny (model prog w) A (.compStart (.ListComp elt [⟨t, e, ifs, 0⟩] scope pos) 0 (.ref I) acc { cenv with scope := relabel scope env }) (RR acc cenv.locals) s₄) E s₃) E s₂ := by
  have hIl : ∃ o, s₂.heap.get? I = some o := it.live 0 _ hP
  refine comp_set (G := fun acc ce s₄ => codeAny (model prog w) A (.compStart (.ListComp elt [⟨t, e, ifs, 0⟩] scope pos) 0 (.ref I) acc ce) (RR acc ce.locals) s₄) co ok rd hIl hIc hcs hIH hcl hcl' hinj fun l H4 C okc k nD nC hD4 hN4 tvnew hcel4 nIC nID nDC hDH cellI cellD mkInv lkl => ?_
  let tv : Addr → Prop := tvOf C l
  let av₂ : Addr → Prop := avOf av I s₂.heap.objs.size
  let cenv : Env := cenvOf scope env l cl C
  have live₂ : ∀ {b o}, s₂.heap.get? b = some o → ¬ tv b := fun e q => by rw [(tvnew _ q).1] at e; cases e
  have loop : ∀ s₃ : Shared, s₃ = { s₂ with heap := H4 } →
      codeAny (model prog w) A (.compLoop (.ListComp elt [⟨t, e, ifs, 0⟩] scope pos) 0 (.ref I) (.ref s₂.heap.objs.size) cenv) (RR (.ref s₂.heap.objs.size) C) s₃ := by
    rintro s₃ rfl
    refine compLoop_go (fun m s' => ∃ kk ys vs h' tk, s' = { s₂ with heap := h', toks := tk } ∧ m = ds.length - kk ∧ kk ≤ ds.length ∧ ys.length ≤ kk ∧ J kk ys ∧ Inv prog w H₀ (capOf scope) cenv av₂ tv (inner scope σ) h' ∧ P kk h' ∧
        h'.PlainList s₂.heap.objs.size vs.toArray ∧ RelL prog w (fun b => av₂ b ∨ tv b) h' ys vs ∧ ∀ b o, b ≠ I → s₂.heap.get? b = some o → h'.get? b = some o) ?_ ds.length
      ⟨0, [], [], H4, s₂.toks, rfl, rfl, Nat.zero_le _, Nat.le_refl _, h0, mkInv H4 (fun b o _ e => k b o e) (let ⟨o, e⟩ := hIl; ⟨o, k _ _ e⟩) (let ⟨_, e⟩ := hD4; ⟨_, e⟩) ⟨_, hN4⟩ hcel4, it.loc 0 _ _ hP (fun o e => k I o e), hD4, rfl, fun b o _ e => k b o e⟩
    rintro m s' EE ⟨kk, ys, vs, h', tk, rfl, rfl, hkk, hys, hJ, inv, hPk, hDk, hrel, hkeep⟩
    rcases Nat.lt_or_ge kk ds.length with hlt | hge
    · have hx : ds[kk]? = some ds[kk] := List.getElem?_eq_getElem hlt
      refine it.next kk _ _ _ ds[kk] (fun b => av₂ b ∨ tv b) hx hPk (fun b o n1 _ e => hkeep b o n1 e) (fun b q => ?_) (fun b q => inv.rd.live b q) fun u h₃ tk₃ hz hm hk₃ => ?_
      · rcases q with (q | q) | q
        · exact .inl q
        · exact .inr (by rw [q]; exact nD)
        · exact .inr (tvnew b q).1
      have but : ∀ {σ' : Store} {ha hb : Heap}, Inv prog w H₀ (capOf scope) cenv av₂ tv σ' ha → (∀ x sl, σ' x = some sl → sl.addr? ≠ some I) → (∃ o, hb.get? I = some o) → (∀ b o, b ≠ I → ha.get? b = some o → hb.get? b = some o) → Inv prog w H₀ (capOf scope) cenv av₂ tv σ' hb :=
        fun i ho hl hk => i.ofBut I (.inl (.inl (.inr rfl))) hIH nIC cellI ho hl hk
      have noown : ∀ x sl, inner scope σ x = some sl → sl.addr? ≠ some I := fun x sl e => by obtain ⟨_, _, d, rfl⟩ := inner_some e; exact fun q => nomatch q
      have inv₃ := but inv noown (it.midlive kk u h₃ hm) hk₃
      refine it.go t kk u _ _ _ ht hm fun h₄ hP₄ hk₄ => ?_
      have inv₄ := but inv₃ noown (it.live _ _ hP₄) hk₄
      have hz₄ : Rel prog w (fun b => av₂ b ∨ tv b) h₄ ds[kk] u := Rel.imp (fun b o nb e => ⟨nb, hk₄ b o (fun q => nb (.inl (.inl (.inr q)))) e⟩) _ _ hz
      have keep₄ : ∀ b o, b ≠ I → s₂.heap.get? b = some o → h₄.get? b = some o := fun b o n1 e => hk₄ b o n1 (hk₃ b o n1 (hkeep b o n1 e))
      have hD₄ : h₄.PlainList s₂.heap.objs.size vs.toArray := hDk.at fun o e => hk₄ _ o (Ne.symm nID) (hk₃ _ o (Ne.symm nID) e)
      have hr₄ : RelL prog w (fun b => av₂ b ∨ tv b) h₄ ys vs := hrel.imp fun b o nb e => ⟨nb, hk₄ b o (fun q => nb (.inl (.inl (.inr q)))) (hk₃ b o (fun q => nb (.inl (.inl (.inr q)))) e)⟩
      refine wpAny_mono (step kk ds[kk] ys hx hJ cenv A { s₂ with heap := h₄, toks := tk₃ } av₂ tv u EE okc rm inv₄ hz₄) (fun _ s₅ p => ?_) fun _ _ x => x
      obtain ⟨σ₁, q, inv₅, f₅⟩ := p
      have tvI : ¬ tv I := fun q => by obtain ⟨o, e⟩ := hIl; exact live₂ e q
      have tvD : ¬ tv s₂.heap.objs.size := fun q => (tvnew _ q).2 rfl
      have keep₅ : ∀ b o, b ≠ I → s₂.heap.get? b = some o → s₅.heap.get? b = some o := fun b o n1 e => f₅.get b o (live₂ e) (keep₄ b o n1 e)
      have hD₅ : s₅.heap.PlainList s₂.heap.objs.size vs.toArray := hD₄.at fun o e => f₅.get _ o tvD e
      have hr₅ : RelL prog w (fun b => av₂ b ∨ tv b) s₅.heap ys vs := hr₄.imp fun b o nb e => ⟨nb, f₅.get b o (fun q => nb (.inr q)) e⟩
      have hP₅ : P (kk + 1) s₅.heap := it.loc _ _ _ hP₄ fun o e => f₅.get I o tvI e
      have fr₅ : ∃ h₅ tk₅, s₅ = { s₂ with heap := h₅, toks := tk₅ } := by obtain ⟨h₅, tk₅, rfl, _⟩ := f₅; exact ⟨h₅, tk₅, rfl⟩
      refine EvT.run okc rm q inv₅.rd fun ok' s₆ q₆ g₆ => ?_
      have inv₆ := inv₅.keeps g₆.get
      have celln : ∀ {σ' : Store} {hh : Heap}, Inv prog w H₀ (capOf scope) cenv av₂ tv σ' hh → ∀ p ∈ l, ∃ v, hh.IsCell p.2 v := fun i p hp => by
        have e : (l ++ cl).lookup p.1 = some p.2 := lkl p hp
        exact (i.cell _ _ e).2.2
      have liveI : ∃ o, s₅.heap.get? I = some o := it.live _ _ hP₅
      cases ok' with
      | false =>
        rw [if_neg (by decide)]
        obtain ⟨h₅, tk₅, rfl⟩ := fr₅
        obtain ⟨h₆, tk₆, rfl, g₆⟩ := g₆
        exact ⟨ds.length - (kk + 1), by omega, kk + 1, ys, vs, h₆, tk₆, rfl, rfl, hlt, Nat.le_succ_of_le hys, q₆,
          mkInv h₆ (fun b o n1 e => g₆ b o (keep₅ b o n1 e)) (let ⟨o, e⟩ := liveI; ⟨o, g₆ _ _ e⟩) (let ⟨_, e⟩ := hD₅; ⟨_, g₆ _ _ e⟩) inv₆.ns (celln inv₆), it.loc _ _ _ hP₅ fun o e => g₆ _ _ e, hD₅.at fun o e => g₆ _ _ e, hr₅.keeps g₆, fun b o n1 e => g₆ b o (keep₅ b o n1 e)⟩
      | true =>
        rw [if_pos rfl]
        have q₆ : Ev prog w H₀ (relabelS scope sc) n σ₁ elt (fun y => J (kk + 1) (ys ++ [y])) := q₆
        refine q₆ cenv A s₆ (fun b => av₂ b ∨ tv b) _ EE okc rm inv₆.rd fun yv s₇ y hJ' hy g₇ => ?_
        have g := g₆.trans g₇
        have gk := g.get
        have hD₇ : s₇.heap.PlainList s₂.heap.objs.size vs.toArray := hD₅.at fun o e => g.get _ o e
        have hvs : vs.length ≤ sizeLine := by rw [hrel.length]; omega
        refine wpAny_list_append_plain hD₇ (fun h₈ hD₈ hs₈ => ?_) (by rw [List.size_toArray]; exact hvs)
        have inv₇ := inv₅.keeps g.get
        have up : ∀ b o, b ≠ s₂.heap.objs.size → s₅.heap.get? b = some o → h₈.get? b = some o := fun b o n1 e => hs₈.extBut b o n1 (g.get b o e)
        have imp : ∀ b o, ¬ (av₂ b ∨ tv b) → s₇.heap.get? b = some o → ¬ (av₂ b ∨ tv b) ∧ h₈.get? b = some o := fun b o nb e => ⟨nb, hs₈.extBut b o (fun q => nb (.inl (.inr q))) e⟩
        have keep₈ : ∀ b o, b ≠ I → s₂.heap.get? b = some o → h₈.get? b = some o := fun b o n1 e => up b o (fun q => by rw [q, nD] at e; cases e) (keep₅ b o n1 e)
        obtain ⟨h₅, tk₅, rfl⟩ := fr₅
        obtain ⟨h₇, tk₇, rfl, _⟩ := g
        refine ⟨ds.length - (kk + 1), by omega, kk + 1, ys ++ [y], vs ++ [yv], h₈, tk₇, rfl, rfl, hlt, by rw [List.length_append]; exact Nat.add_le_add_right hys 1, hJ', mkInv h₈ keep₈ (let ⟨o, e⟩ := liveI; ⟨o, up _ _ nID e⟩) (let ⟨_, e⟩ := hD₈; ⟨_, e⟩) ?_ ?_,
          it.loc _ _ _ hP₅ fun o e => up _ o nID e, by simpa using hD₈, ?_, keep₈⟩
        · obtain ⟨m, hm⟩ := inv₇.ns; exact ⟨m, hm.sameBut hs₈ (Ne.symm nDC)⟩
        · intro p hp
          obtain ⟨v, hv⟩ := celln inv₇ p hp
          exact ⟨v, hv.sameBut hs₈ (tvnew p.2 (.inr ⟨p, hp, rfl⟩)).2⟩
        · exact (RelL.imp imp _ _ (hr₅.keeps gk)).append (.one (Rel.imp imp _ _ hy))
    · have hkk : kk = ds.length := by omega
      subst hkk
      refine it.done _ _ _ hPk (fun b o n1 _ e => hkeep b o n1 e) fun h₃ tk₃ hk₃ => ?_
      obtain ⟨m, hm⟩ := inv.ns
      exact hRR s₂.heap.objs.size C h₃ tk₃ m ys vs nD nC nDC (hm.at' fun o e => hk₃ _ o (Ne.symm nIC) e) (hDk.at fun o e => hk₃ _ o (Ne.symm nID) e)
        (hrel.imp fun b o nb e => ⟨fun q => nb (q.elim (fun q => q.elim (fun q => .inl (.inl (.inl q))) fun q => .inl (.inr q)) fun q => .inr (.inl q)), hk₃ b o (fun q => nb (.inl (.inl (.inr q)))) e⟩) hJ fun b o n1 e => hk₃ b o n1 (hkeep b o n1 e)
  exact codeAny_compStart_list (loop _ rfl) (it.self 0 _ _ _ (it.loc 0 _ _ hP fun o e => k I o e) (loop _ rfl))
end
end Mine
end
section
open PySem PySem.W PySem.Calls PyProof.Rows

namespace Mine
section
variable {prog : Program} {w : World} {H₀ : Heap} {n : Nat} {σ : Store} {sc : Scope}

theorem Rd.widen {env : Env} {av : Addr → Prop} {s s' : Shared} (rd : Rd prog w H₀ env av σ s.heap) (g : Grow s s') (I : Addr) (hn : s.heap.get? I = none) (hl : ∃ o, s'.heap.get? I = some o) :
    Rd prog w H₀ env (fun b => av b ∨ b = I) σ s'.heap := by
  have rd' := rd.keeps g.get
  refine ⟨rd'.base, fun b q => ?_, fun x sl e => ?_, rd'.cells⟩
  · rcases q with q | q
    · exact rd'.live b q
    · rw [q]; exact hl
  · obtain ⟨v, r, z⟩ := rd.var x sl e
    exact ⟨v, r.keeps g.get, (z.fresh I hn).keeps g.get⟩

theorem noneBelow {s s' : Shared} (g : Grow s s') {a : Addr} (h : s'.heap.get? a = none) : s.heap.get? a = none := by
  cases e : s.heap.get? a with
  | none => rfl
  | some o => have := g.get a o e; rw [h] at this; cases this
theorem Rd.noH {env : Env} {av : Addr → Prop} {h : Heap} (rd : Rd prog w H₀ env av σ h) {a : Addr} (e : h.get? a = none) : H₀.get? a = none := by
  cases q : H₀.get? a with
  | none => rfl
  | some o => have := rd.base a o q; rw [e] at this; cases this

/-- what is to be shown of a comprehension's turns -/
def CompStep (prog : Program) (w : World) (H₀ : Heap) (scope sc : Scope) (n : Nat) (σ : Store) (t : Expr) (ifs : List Expr) (elt : Expr) (ds : List D) (J : Nat → List D → Prop) : Prop :=
  ∀ k x ys, ds[k]? = some x → J k ys → AsOk prog w H₀ (capOf scope) (relabelS scope sc) n (inner scope σ) t x fun σ₁ =>
    EvT prog w H₀ (relabelS scope sc) n σ₁ ifs fun b => if b then Ev prog w H₀ (relabelS scope sc) n σ₁ elt (fun y => J (k + 1) (ys ++ [y])) else J (k + 1) ys

theorem Ev.comp {elt t e : Expr} {ifs : List Expr} {scope : Scope} {pos : Pos} {Q : D → Prop} (co : CompOk scope sc)
    (h : Ev prog w H₀ sc n σ e fun d => ∃ ds tt, PyIt prog w H₀ n d ds tt ∧ tt t ∧ ds.length ≤ sizeLine ∧ ∃ J : Nat → List D → Prop, J 0 [] ∧ CompStep prog w H₀ scope sc n σ t ifs elt ds J ∧ ∀ ys, J ds.length ys → Q (.lst ys))
    (hs : ∀ env x, foldedSetIterable e env x = pure x := by intro _ _; rfl) : Ev prog w H₀ sc n σ (.ListComp elt [⟨t, e, ifs, 0⟩] scope pos) Q := by
  intro env A s av Q' E ok rm rd k
  rw [eval_ListComp]
  obtain ⟨cl, hclos, hcl, hcl'⟩ := closure_ok (scope := scope) (env := env) fun x hx => ok.cell x (co.free (x, .free) hx rfl)
  refine wpAny_comprehension_free (e := .ListComp elt [⟨t, e, ifs, 0⟩] scope pos) (use := Option.none) (g := ⟨t, e, ifs, 0⟩) (gs := []) rfl (hs env) hclos co.kind (fun x hx hk => mem_lookup co.nodup (by rw [← hk]; exact hx)) ?_
  show wpAny _ _ (eval e env) _ _ _
  refine h env A s av _ E ok rm rd fun v s₁ d q z g₁ => ?_
  obtain ⟨ds, tt, pit, ht, hsz, J, h0, step, fin⟩ := q
  have rd₁ := rd.keeps g₁.get
  refine pit A s₁ av v _ E rm rd₁.hp z fun I s₂ P Mid it hP hI g₂ => ?_
  have rd₂ := rd₁.widen g₂ I hI (it.live 0 _ hP)
  have hcc : ∀ x c, cl.lookup x = some c → env.cells.lookup x = some c := fun x c e => (hcl x c e).1
  refine comp_core (RR := fun acc C => compPost (model prog w) A E Option.none Q' acc C) co ok rm rd₂ it hP ht (fun x c e q => ?_) (fun x c e => rd₂.cells x c (hcc x c e)) (rd₁.noH hI) hcl hcl' ok.inj J h0 step hsz ?_
  · obtain ⟨v, o, ho, _⟩ := rd₁.cells x c (hcc x c e)
    rw [q, hI] at ho; cases ho
  · intro D C h' tk m' ys vs hD hC hDC hN hL hr hJ hk
    refine ⟨m', hN, fun h'' hs'' => ?_⟩
    have g : Grow s { s₂ with heap := h'', toks := tk } := by
      have g₀ := g₁.trans g₂
      have nI : s.heap.get? I = Option.none := noneBelow g₁ hI
      have nC : s.heap.get? C = Option.none := noneBelow g₀ hC
      obtain ⟨h₂, tk₂, e₂, k₂⟩ := g₀
      subst e₂
      exact ⟨h'', tk, rfl, fun b o e => hs''.extBut b o (fun q => by rw [q, nC] at e; cases e) (hk b o (fun q => by rw [q, nI] at e; cases e) (k₂ b o e))⟩
    refine k (.ref D) { s₂ with heap := h'', toks := tk } (.lst ys) (fin ys hJ) ⟨D, vs, rfl, fun q => ?_, LstAt.ofPlain (hL.extBut hs''.extBut hDC), hr.imp fun b o nb e => ⟨fun q => nb (.inl (.inl q)), hs''.extBut b o (fun q => nb (.inr q)) e⟩⟩ g
    obtain ⟨o, e⟩ := rd₂.live D (.inl q); rw [hD] at e; cases e

theorem ExS.assignComp {x : PySem.Str} {xp apos : Pos} {elt t e : Expr} {ifs : List Expr} {scope : Scope} {pos : Pos} {Q : Fl → Store → Prop} (co : CompOk scope sc)
    (h : Ev prog w H₀ sc n σ e fun d => ∃ ds tt, PyIt prog w H₀ n d ds tt ∧ tt t ∧ ds.length ≤ sizeLine ∧ ∃ J : Nat → List D → Prop, J 0 [] ∧ CompStep prog w H₀ scope sc n σ t ifs elt ds J ∧ ∀ ys, J ds.length ys → Q .next (upd σ x (.val (.lst ys))))
    (hsw : ∀ env : Env, env.scope = sc → swapsWith (.ListComp elt [⟨t, e, ifs, 0⟩] scope pos) (some (.Name x xp)) apos.line env = pure true)
    (hkind : sc.names.lookup x = some .local ∨ sc.names.lookup x = some .cell := by first | exact .inl rfl | exact .inr rfl)
    (hs : ∀ env x, foldedSetIterable e env x = pure x := by intro _ _; rfl) : ExS prog w H₀ sc n σ (.Assign [.Name x xp] (.ListComp elt [⟨t, e, ifs, 0⟩] scope pos) apos) Q := by
  intro env A s av tv E ok rm i
  rw [exec_Assign_Name_used _ _ _ _ (hsw env ok.is)]
  refine wpAny_bind (wpAny_standAt (wpAny_bind ?_))
  show wpAny _ A (do let _ ← comprehension (.ListComp elt [⟨t, e, ifs, 0⟩] scope pos) scope env _ (newList []) false (eval e env) (some (PySem.assign (.Name x xp) env))) _ _ s
  obtain ⟨cl, hclos, hcl, hcl'⟩ := closure_ok (scope := scope) (env := env) fun x hx => ok.cell x (co.free (x, .free) hx rfl)
  let Q' : Value → Shared → Prop := fun _ s' => Post prog w H₀ env s av tv Q .next s'
  refine wpAny_bind (wpAny_mono (wpAny_comprehension_free (e := .ListComp elt [⟨t, e, ifs, 0⟩] scope pos) (use := some (PySem.assign (.Name x xp) env)) (Q := Q') (g := ⟨t, e, ifs, 0⟩) (gs := []) rfl (hs env) hclos co.kind (fun x hx hk => mem_lookup co.nodup (by rw [← hk]; exact hx)) ?_)
    (fun _ s' hq => wpAny_pure (wpAny_pure hq)) fun _ _ e => e)
  refine h env A s (fun a => av a ∨ tv a) _ E ok rm i.rd fun v s₁ d q z g₁ => ?_
  obtain ⟨ds, tt, pit, ht, hsz, J, h0, step, fin⟩ := q
  have i₁ := i.keeps g₁.get
  have rd₁ := i₁.rd
  refine pit A s₁ (fun a => av a ∨ tv a) v _ E rm rd₁.hp z fun I s₂ P Mid it hP hI g₂ => ?_
  have rd₂ := rd₁.widen g₂ I hI (it.live 0 _ hP)
  have hcc : ∀ x c, cl.lookup x = some c → env.cells.lookup x = some c := fun x c e => (hcl x c e).1
  refine comp_core (RR := fun acc C => compPost (model prog w) A E (some (PySem.assign (.Name x xp) env)) Q' acc C) co ok rm rd₂ it hP ht (fun x c e q => ?_) (fun x c e => rd₂.cells x c (hcc x c e)) (rd₁.noH hI) hcl hcl' ok.inj J h0 step hsz ?_
  · obtain ⟨v, o, ho, _⟩ := rd₁.cells x c (hcc x c e)
    rw [q, hI] at ho; cases ho
  · intro D C h' tk m' ys vs hD hC hDC hN hL hr hJ hk
    have g₀ := g₁.trans g₂
    have nI : s.heap.get? I = Option.none := noneBelow g₁ hI
    have nC : s.heap.get? C = Option.none := noneBelow g₀ hC
    have nD : s.heap.get? D = Option.none := noneBelow g₀ hD
    obtain ⟨h₂, tk₂, e₂, k₂⟩ := g₀
    subst e₂
    -- behind the loop: the outer names as they stood, none of them on C
    have gC : Grow s { s with heap := h', toks := tk } := ⟨h', tk, rfl, fun b o e => hk b o (fun q => by rw [q, nI] at e; cases e) (k₂ b o e)⟩
    have lC : ∃ o, h'.get? C = some o := let ⟨o, _, _, ho, _⟩ := hN; ⟨o, ho⟩
    have i' : Inv prog w H₀ NoCap env (fun b => av b ∨ b = C) tv σ h' := Inv.widen (h := s.heap) i gC C nC lC
    show wpAny _ A (PySem.assign (.Name x xp) env (.ref D)) _ _ _
    have zD : Rel prog w (fun b => (av b ∨ b = C) ∨ tv b) h' (.lst ys) (.ref D) := by
      refine ⟨D, vs, rfl, fun q => ?_, LstAt.ofPlain hL, hr.imp fun b o nb e => ⟨fun q => nb ?_, e⟩⟩
      · rcases q with (q | q) | q
        · obtain ⟨o, e⟩ := i.rd.live D (.inl q); rw [nD] at e; cases e
        · exact hDC q
        · obtain ⟨o, e⟩ := i.rd.live D (.inr q); rw [nD] at e; cases e
      · rcases q with (q | q) | q
        · exact .inl (.inl (.inl q))
        · exact .inr q
        · exact .inl (.inl (.inr q))
    refine wpAny_assign_Name (Inv.store (s := { s with heap := h', toks := tk }) ok i' hkind id zD fun s₄ i₄ f₄ => ?_)
    have tC : ¬ tv C := fun q => by obtain ⟨o, e⟩ := i.rd.live C (.inr q); rw [nC] at e; cases e
    obtain ⟨h₄, tk₄, rfl, f₄⟩ := f₄
    refine ⟨m', hN.at' fun o e => f₄ C o tC e, fun h₅ hs₅ => ?_⟩
    have hCH : H₀.get? C = none := i.rd.noH nC
    have i₅ : Inv prog w H₀ NoCap env av tv (upd σ x (.val (.lst ys))) h₅ := by
      have nt : ∀ b, tv b → b ≠ C := fun b q w => tC (w ▸ q)
      have lC₅ : ∃ o, h₅.get? C = some o ∨ True := ⟨default, .inr trivial⟩
      have kk := hs₅.extBut
      refine ⟨⟨fun b o e => kk b o (fun w => by rw [w, hCH] at e; cases e) (i₄.rd.base b o e), fun b q => ?_, fun y sl e => ?_, fun y c e => ?_⟩, i₄.tvH, i.apart, i₄.loc, ?_, fun y c e => ?_, i₄.capt, i₄.inj, i₄.own, i₄.sep⟩
      · obtain ⟨o, e⟩ := i₄.rd.live b (q.imp .inl id)
        refine ⟨o, kk b o (fun w => ?_) e⟩
        rcases q with q | q
        · obtain ⟨o', e'⟩ := i.rd.live b (.inl q); rw [w, nC] at e'; cases e'
        · exact nt b q w
      · obtain ⟨v, r, z⟩ := i₄.rd.var y sl e
        refine ⟨v, ?_, (z.but C (.inl (.inr rfl)) (fun w => nt C (i₄.own y sl C e w).1 rfl) kk).imp' fun b o nb e q => nb (q.imp .inl id)⟩
        rcases r with ⟨k, m, nn, e'⟩ | ⟨k, c, e', q⟩
        · exact .inl ⟨k, m, nn.at' fun o e => kk _ o (nt _ i₄.loc) e, e'⟩
        · obtain ⟨o, ho, hd⟩ := q
          exact .inr ⟨k, c, e', o, kk _ o (nt _ ((i₄.cell y c e').1 id)) ho, hd⟩
      · obtain ⟨a, b, v, o, ho, hd⟩ := i₄.cell y c e
        exact ⟨v, o, kk _ o (nt _ (a id)) ho, hd⟩
      · obtain ⟨m, hm⟩ := i₄.ns; exact ⟨m, hm.at' fun o e => kk _ o (nt _ i₄.loc) e⟩
      · obtain ⟨a, b, v, o, ho, hd⟩ := i₄.cell y c e
        exact ⟨a, b, v, o, kk _ o (nt _ (a id)) ho, hd⟩
    exact ⟨.next, _, tv, fin ys hJ, rfl, fun _ => i₅, ⟨h₅, tk₄, rfl, fun b o nb e => hs₅.extBut b o (fun q => by rw [q, nC] at e; cases e) (f₄ b o nb (gC.get b o e))⟩, fun _ q => .inl q⟩
end
end Mine
end
section
open PySem PySem.W PySem.Calls PyProof.Rows

namespace Mine
section
variable {prog : Program} {w : World} {H₀ : Heap} {n : Nat} {σ : Store} {sc : Scope}

def storeOf (ps : List PySem.Str) (ds : List D) : Store := fun x => ((ps.zip ds).lookup x).map Slot.val

theorem bindL_keep (kindOf : PySem.Str → Option NameKind) {x : PySem.Str} : ∀ (binds : List (PySem.Str × Value)) (m : PySem.Str → Option Value), x ∉ binds.map (·.1) → bindL kindOf binds m x = m x
  | [], _, _ => rfl
  | (y, v) :: r, m, h => by
    rw [List.map_cons, List.mem_cons, not_or] at h
    unfold bindL
    rw [bindL_keep kindOf r _ h.2]
    split
    · exact if_neg h.1
    · rfl
theorem bindC_keep (kindOf : PySem.Str → Option NameKind) {x : PySem.Str} : ∀ (binds : List (PySem.Str × Value)) (m : PySem.Str → Option Value), x ∉ binds.map (·.1) → bindC kindOf binds m x = m x
  | [], _, _ => rfl
  | (y, v) :: r, m, h => by
    rw [List.map_cons, List.mem_cons, not_or] at h
    unfold bindC
    rw [bindC_keep kindOf r _ h.2]
    split
    · rfl
    · exact if_neg h.1
theorem bindL_at (kindOf : PySem.Str → Option NameKind) {x : PySem.Str} {v : Value} (hk : kindOf x = some .local) : ∀ (binds : List (PySem.Str × Value)) (m : PySem.Str → Option Value), (binds.map (·.1)).Nodup → (x, v) ∈ binds → bindL kindOf binds m x = some v
  | (y, u) :: r, m, hn, h => by
    rw [List.map_cons, List.nodup_cons] at hn
    unfold bindL
    rcases List.mem_cons.mp h with h | h
    · cases h
      rw [bindL_keep kindOf r _ hn.1, if_pos hk]
      exact if_pos rfl
    · exact bindL_at kindOf hk r _ hn.2 h
theorem bindC_at (kindOf : PySem.Str → Option NameKind) {x : PySem.Str} {v : Value} (hk : ¬ kindOf x = some .local) : ∀ (binds : List (PySem.Str × Value)) (m : PySem.Str → Option Value), (binds.map (·.1)).Nodup → (x, v) ∈ binds → bindC kindOf binds m x = some v
  | (y, u) :: r, m, hn, h => by
    rw [List.map_cons, List.nodup_cons] at hn
    unfold bindC
    rcases List.mem_cons.mp h with h | h
    · cases h
      rw [bindC_keep kindOf r _ hn.1, if_neg hk]
      exact if_pos rfl
    · exact bindC_at kindOf hk r _ hn.2 h

theorem zip_rel {av : Addr → Prop} {h : Heap} {x : PySem.Str} {d : D} : ∀ {binds : List (PySem.Str × Value)} {ds : List D}, RelL prog w av h ds (binds.map (·.2)) → ((binds.map (·.1)).zip ds).lookup x = some d → ∃ v, (x, v) ∈ binds ∧ Rel prog w av h d v
  | [], _, _, e => by simp at e
  | (y, v) :: r, [], _, e => by simp at e
  | (y, v) :: r, d' :: ds, ⟨v', r', e', z, zs⟩, e => by
    rw [List.map_cons] at e'
    obtain ⟨rfl, rfl⟩ := List.cons.inj e'
    rw [List.map_cons, List.zip_cons_cons, List.lookup_cons] at e
    cases q : x == y with
    | true =>
      rw [q] at e; cases e
      exact ⟨v, by rw [eq_of_beq q]; exact List.mem_cons_self, z⟩
    | false =>
      rw [q] at e
      obtain ⟨u, hu, zu⟩ := zip_rel zs e
      exact ⟨u, List.mem_cons_of_mem _ hu, zu⟩

def RetOf (Q : D → Prop) : Fl → Store → Prop
  | .ret d, _ => Q d
  | .next, _ => Q .none
  | _, _ => False

/-- a def of the text -/
structure DefOk (H₀ : Heap) (fa : Addr) (fd : FuncData) (body : List Stmt) : Prop where
  here : ∃ o, H₀.get? fa = some o ∧ o.data = .func fd
  code : H₀.CodeRec fd.code fd.qualname
  lim : H₀.NoLimit
  gl : fd.globals = mainGlobals
  bi : fd.builtins = builtinsNs
  body : fd.body = .stmts body
  clo : fd.closure = []
  co : fd.scope.isCoroutine = false
  gen : fd.scope.isGenerator = false
  kind : fd.scope.kind = .function
  nodup : (fd.scope.names.map (·.1)).Nodup
  nofree : ∀ x ∈ fd.scope.names, x.2 ≠ .free

theorem OpL.def {fa : Addr} {fd : FuncData} {body : List Stmt} {ds ds' : List D} {Q : D → Prop} (ok : DefOk H₀ fa fd body) (ps : List PySem.Str) (binds : List Value → List (PySem.Str × Value))
    (hps : ∀ vs, vs.length = ds.length → (binds vs).map (·.1) = ps) (hnd : ps.Nodup) (hkind : ∀ x ∈ ps, fd.scope.names.lookup x = some .local ∨ fd.scope.names.lookup x = some .cell)
    (hrel : ∀ av h vs, RelL prog w av h ds vs → RelL prog w av h ds' ((binds vs).map (·.2)))
    (hbind : ∀ (A : Around) (s : Shared) (vs : List Value) (Q : List (PySem.Str × Value) → Shared → Prop) (E : Value → Shared → Prop), (∀ a o, H₀.get? a = some o → s.heap.get? a = some o) → vs.length = ds.length → Q (binds vs) s →
      wpAny (model prog w) A (bindArgs fd ⟨vs, []⟩) Q E s)
    (h : Ex prog w H₀ fd.scope n (storeOf ps ds') body (RetOf Q)) : OpL prog w H₀ (n + 1) (fun vs => PySem.call (.ref fa) vs) ds Q := by
  intro A s av vs Q' E rm hp z k
  obtain ⟨o, ho, hd⟩ := ok.here
  refine wpAny_call ?_
  have hroom : A.depth < recursionLimit := by have := rm.dep; omega
  refine codeAny_call_function (fd := fd) hroom (hp.base fa o ho) hd ok.co ok.gen ok.body (ok.code.keeps hp.base) (hbind A.in1 s vs _ _ hp.base z.length ?_)
  rw [ok.clo]
  have hk2 : ∀ x ∈ binds vs, fd.scope.names.lookup x.1 = some .local ∨ (fd.scope.names.lookup x.1 = some .cell ∧ ((cellsFrom (s.heap.objs.size + 1) fd.scope.names []).lookup x.1).isSome = true) := fun x hx => by
    rcases hkind x.1 (by rw [← hps vs z.length]; exact List.mem_map_of_mem hx) with q | q
    · exact .inl q
    · refine .inr ⟨q, ?_⟩
      have := cellsFrom_app fd.scope.names (s.heap.push { cls := .type "frame", data := .dict #[] }) []
      rw [Heap.size_push] at this
      obtain ⟨l, e, _, _, hl, _⟩ := this
      rw [e, List.append_nil]
      obtain ⟨c, hc⟩ := hl x.1 (mem_of_lookup q)
      cases q' : l.lookup x.1 with
      | some c' => rfl
      | none => exact absurd (List.lookup_eq_none_iff.mp q' (x.1, c) hc) (by simp)
  refine wpAny_newFunctionEnv_cells ok.kind hk2 fun env he s' x => ?_
  have hcellsN : ∀ x c, env.cells.lookup x = some c → (x, NameKind.cell) ∈ fd.scope.names := fun x c e => by
    rw [he] at e
    have := cellsFrom_app fd.scope.names (s.heap.push { cls := .type "frame", data := .dict #[] }) []
    rw [Heap.size_push] at this
    obtain ⟨l, e', hl, _⟩ := this
    have e : (cellsFrom (s.heap.objs.size + 1) fd.scope.names []).lookup x = some c := e
    rw [e', List.append_nil] at e
    exact (hl _ (mem_of_lookup e)).2.1
  have hcellsE : ∀ x, (x, NameKind.cell) ∈ fd.scope.names → ∃ c, env.cells.lookup x = some c := fun x hx => by
    rw [he]
    have := cellsFrom_app fd.scope.names (s.heap.push { cls := .type "frame", data := .dict #[] }) []
    rw [Heap.size_push] at this
    obtain ⟨l, e', _, _, hl, _⟩ := this
    show ∃ c, (cellsFrom (s.heap.objs.size + 1) fd.scope.names []).lookup x = some c
    rw [e', List.append_nil]
    obtain ⟨c, hc⟩ := hl x hx
    cases q' : l.lookup x with
    | some c' => exact ⟨c', rfl⟩
    | none => exact absurd (List.lookup_eq_none_iff.mp q' (x, c) hc) (by simp)
  have hscope : env.scope = fd.scope := by rw [he]; rfl
  have hinj : ∀ x y c, env.cells.lookup x = some c → env.cells.lookup y = some c → x = y := fun a b c e e' => name_of_addr x.apart (mem_of_lookup e) (mem_of_lookup e')
  have okE : EnvOk fd.scope env := ⟨hscope, ok.kind, by rw [he]; exact ok.gl, by rw [he]; exact ok.bi, fun y hy => by
    rcases hy with hy | hy
    · exact hcellsE y (mem_of_lookup hy)
    · exact absurd rfl (ok.nofree _ (mem_of_lookup hy)), hinj⟩
  have keep := x.toInCall.keep
  obtain ⟨h₁, tk₁, hs'⟩ := x.toInCall.same
  refine ⟨ok.lim.keeps fun b o e => keep b o (hp.base b o e), codeAny_func ?_⟩
  let tv : Addr → Prop := fun b => b = env.locals ∨ ∃ y, env.cells.lookup y = some b
  have tvnew : ∀ b, tv b → s.heap.get? b = none := fun b hb => by
    have : s.heap.objs.size ≤ b := by
      rcases hb with q | ⟨y, q⟩
      · rw [q]; exact x.toInCall.fresh
      · exact Nat.le_trans x.toInCall.fresh (Nat.le_of_lt (x.above y b (mem_of_lookup q)))
    cases e : s.heap.get? b with
    | none => rfl
    | some o => exact absurd (Heap.lt_size e) (Nat.not_lt.mpr this)
  have live : ∀ {b o}, s.heap.get? b = some o → ¬ tv b := fun e q => by rw [tvnew _ q] at e; cases e
  have hbn : ((binds vs).map (·.1)).Nodup := by rw [hps vs z.length]; exact hnd
  have hr' := hrel av s.heap vs z
  have inv : Inv prog w H₀ NoCap env av tv (storeOf ps ds') s'.heap := by
    refine ⟨⟨fun b o e => keep b o (hp.base b o e), fun b q => ?_, fun y sl e => ?_, fun y c e => ⟨_, x.cell y c e⟩⟩, fun b q => ?_, fun b q q' => ?_, .inl rfl, ⟨_, x.toInCall.ns⟩, fun y c e => ⟨fun _ => .inr ⟨y, e⟩, Nat.ne_of_gt (x.above y c (mem_of_lookup e)), _, x.cell y c e⟩, fun _ _ _ q => q.elim, hinj, fun y sl a e q => ?_, fun y z sl sl' a e q => ?_⟩
    · rcases q with q | q | ⟨y, q⟩
      · obtain ⟨o, e⟩ := hp.live b q; exact ⟨o, keep b o e⟩
      · obtain ⟨o, _, _, e, _⟩ := x.toInCall.ns; exact ⟨o, q ▸ e⟩
      · obtain ⟨o, e, _⟩ := x.cell y b q; exact ⟨o, e⟩
    · unfold storeOf at e
      cases q : (ps.zip ds').lookup y with
      | none => rw [q] at e; cases e
      | some d =>
        rw [q] at e; cases e
        rw [← hps vs z.length] at q
        obtain ⟨v, hv, zv⟩ := zip_rel hr' q
        refine ⟨v, ?_, Rel.imp (fun b o nb e => ⟨fun q => q.elim nb (live e), keep b o e⟩) _ _ zv⟩
        have hke : ∀ k, fd.scope.names.lookup y = some k → env.kindOf y = some k := fun k e => by unfold Env.kindOf; rw [hscope]; exact e
        rcases hkind y (by rw [← hps vs z.length]; exact List.mem_map_of_mem (f := (·.1)) hv) with kk | kk
        · exact .inl ⟨hke _ kk, _, x.toInCall.ns, bindL_at _ (hke _ kk) _ _ hbn hv⟩
        · obtain ⟨c, hc⟩ := hcellsE y (mem_of_lookup kk)
          refine .inr ⟨.inl (hke _ kk), c, hc, ?_⟩
          have := x.cell y c hc
          rw [bindC_at _ (by rw [hke _ kk]; decide) _ _ hbn hv] at this
          exact this
    · cases e : H₀.get? b with
      | none => rfl
      | some o => exact absurd q (live (hp.base b o e))
    · obtain ⟨o, e⟩ := hp.live b q'; exact live e q
    · unfold storeOf at e
      cases q' : (ps.zip ds').lookup y with
      | none => rw [q'] at e; cases e
      | some d => rw [q'] at e; cases e; cases q
    · unfold storeOf at e
      cases q' : (ps.zip ds').lookup y with
      | none => rw [q'] at e; cases e
      | some d => rw [q'] at e; cases e; cases q
  have rm' : Room (A.deeper env) n := ⟨rm.hd, by have := rm.dep; show A.depth + 1 + n < _; omega, by have := rm.uni; show A.units + 3 + 8 * n + 16 < _; omega⟩
  refine wpAny_mono (h env (A.deeper env) s' av tv _ okE rm' inv) (fun f s'' p => ?_) fun _ _ e => e
  obtain ⟨fl, σ', tv', q, r, _, fr, _⟩ := p
  have g : Grow s s'' := by
    obtain ⟨h₂, tk₂, rfl, f₂⟩ := fr
    subst hs'
    exact ⟨h₂, tk₂, rfl, fun b o e => f₂ b o (live e) (keep b o e)⟩
  cases fl with
  | next =>
    obtain rfl : f = .next := r
    exact k .none s'' .none q rfl g
  | ret d =>
    obtain ⟨v, rfl, z⟩ := r
    exact k v s'' d q z g
  | brk => exact q.elim
  | cont => exact q.elim
end
end Mine
end
section
open PySem PySem.W PySem.Calls PyProof.Rows

namespace Mine
section
variable {prog : Program} {w : World} {H₀ : Heap} {n : Nat} {σ : Store} {sc : Scope} {Q : D → Prop}

/-- a text from its signs -/
def S (l : List Nat) : PySem.Str := ⟨l.toArray⟩
@[simp] theorem S_len (l : List Nat) : (S l).length = l.length := by show l.toArray.size = _; simp
@[simp] theorem S_cps (l : List Nat) : (S l).cps = l.toArray := rfl
theorem S_inj {a b : List Nat} (h : S a = S b) : a = b := by
  have := congrArg (fun x : PySem.Str => x.cps.toList) h
  simpa using this
theorem S_eta (x : PySem.Str) : S x.cps.toList = x := by cases x; simp [S]
theorem S_append (a b : List Nat) : S a ++ S b = S (a ++ b) := by
  show PySem.Str.append (S a) (S b) = _
  unfold PySem.Str.append S; simp
theorem S_beq (a b : List Nat) : (S a == S b) = decide (a = b) := by
  by_cases h : a = b
  · subst h; simp
  · rw [decide_eq_false h, beq_eq_false_iff_ne]; exact fun e => h (S_inj e)

theorem Op2.add {a b : Int} (h : Q (.int (a + b))) : Op2 prog w H₀ n (binaryOp .Add) (.int a) (.int b) Q := by
  rintro A s av v u Q' E rm hp ⟨t, rfl⟩ ⟨t', rfl⟩ k
  exact PySem.P.add_int (k _ _ _ h ⟨_, rfl⟩ (Grow.tok s _))
theorem Op2.iadd {a b : Int} (h : Q (.int (a + b))) : Op2 prog w H₀ n (inplaceOp .Add) (.int a) (.int b) Q := by
  rintro A s av v u Q' E rm hp ⟨t, rfl⟩ ⟨t', rfl⟩ k
  exact PySem.P.iadd_int (k _ _ _ h ⟨_, rfl⟩ (Grow.tok s _))
theorem Op2.sub {a b : Int} (h : Q (.int (a - b))) : Op2 prog w H₀ n (binaryOp .Sub) (.int a) (.int b) Q := by
  rintro A s av v u Q' E rm hp ⟨t, rfl⟩ ⟨t', rfl⟩ k
  exact PySem.P.sub_int (k _ _ _ h ⟨_, rfl⟩ (Grow.tok s _))
theorem Op2.mul {a b : Int} (hm : IntMulOk a b) (h : Q (.int (a * b))) : Op2 prog w H₀ n (binaryOp .Mult) (.int a) (.int b) Q := by
  rintro A s av v u Q' E rm hp ⟨t, rfl⟩ ⟨t', rfl⟩ k
  exact PySem.P.mul_int (k _ _ _ h ⟨_, rfl⟩ (Grow.tok s _)) hm
theorem Op2.floordiv {a b : Int} (hb : b ≠ 0) (hs : b.natAbs < 1073741824) (h : Q (.int (a.fdiv b))) : Op2 prog w H₀ n (binaryOp .FloorDiv) (.int a) (.int b) Q := by
  rintro A s av v u Q' E rm hp ⟨t, rfl⟩ ⟨t', rfl⟩ k
  exact PyProof.Rows.floordiv_int hb (k _ _ _ h ⟨_, rfl⟩ (Grow.tok s _)) (.inl (PyProof.noPylong_small hs))
theorem Op2.mod {a b : Int} (hb : b ≠ 0) (h : Q (.int (a.fmod b))) : Op2 prog w H₀ n (binaryOp .Mod) (.int a) (.int b) Q := by
  rintro A s av v u Q' E rm hp ⟨t, rfl⟩ ⟨t', rfl⟩ k
  exact PyProof.Rows.mod_int' hb (k _ _ _ h ⟨_, rfl⟩ (Grow.tok s _))
theorem Op2.pow {a b : Int} (hb : 0 ≤ b) (hs : (Builtin.Int.intBits a : Int) * b ≤ 2 ^ 27) (h : Q (.int (a ^ b.toNat))) : Op2 prog w H₀ n (binaryOp .Pow) (.int a) (.int b) Q := by
  rintro A s av v u Q' E rm hp ⟨t, rfl⟩ ⟨t', rfl⟩ k
  exact PyProof.Rows.pow_int hb hs (k _ _ _ h ⟨_, rfl⟩ (Grow.tok s _))
theorem Op1.neg {a : Int} (h : Q (.int (-a))) : Op1 prog w H₀ n (unaryOp .USub) (.int a) Q := by
  rintro A s av v Q' E rm hp ⟨t, rfl⟩ k
  exact PySem.P.neg_int (k _ _ _ h ⟨_, rfl⟩ (Grow.tok s _))
theorem Op2.eqI {a b : Int} (h : Q (.bool (a == b))) : Op2 prog w H₀ n (compareOp .Eq) (.int a) (.int b) Q := by
  rintro A s av v u Q' E rm hp ⟨t, rfl⟩ ⟨t', rfl⟩ k
  exact PySem.P.eq_int (k _ _ _ h rfl (Grow.refl s))
theorem Op2.neI {a b : Int} (h : Q (.bool (a != b))) : Op2 prog w H₀ n (compareOp .NotEq) (.int a) (.int b) Q := by
  rintro A s av v u Q' E rm hp ⟨t, rfl⟩ ⟨t', rfl⟩ k
  exact PySem.P.ne_int (k _ _ _ h rfl (Grow.refl s))
theorem Op2.gtI {a b : Int} (h : Q (.bool (decide (a > b)))) : Op2 prog w H₀ n (compareOp .Gt) (.int a) (.int b) Q := by
  rintro A s av v u Q' E rm hp ⟨t, rfl⟩ ⟨t', rfl⟩ k
  exact PySem.P.gt_int (k _ _ _ h rfl (Grow.refl s))

theorem Op2.eqS {a b : List Nat} (h : Q (.bool (decide (a = b)))) : Op2 prog w H₀ n (compareOp .Eq) (.str (S a)) (.str (S b)) Q := by
  rintro A s av v u Q' E rm hp ⟨t, rfl⟩ ⟨t', rfl⟩ k
  rw [← S_beq] at h
  exact PyProof.Rows.eq_str (k _ _ _ h rfl (Grow.refl s))
theorem Op2.neS {a b : List Nat} (h : Q (.bool (!decide (a = b)))) : Op2 prog w H₀ n (compareOp .NotEq) (.str (S a)) (.str (S b)) Q := by
  rintro A s av v u Q' E rm hp ⟨t, rfl⟩ ⟨t', rfl⟩ k
  rw [← S_beq] at h
  exact PyProof.Rows.ne_str (k _ _ _ h rfl (Grow.refl s))
theorem Op2.addS {a b : List Nat} (hs : a.length + b.length ≤ sizeLine) (h : Q (.str (S (a ++ b)))) : Op2 prog w H₀ n (binaryOp .Add) (.str (S a)) (.str (S b)) Q := by
  rintro A s av v u Q' E rm hp ⟨t, rfl⟩ ⟨t', rfl⟩ k
  rw [← S_append] at h
  exact PyProof.Rows.add_str (fun t' tk => k _ _ _ h ⟨_, rfl⟩ (Grow.tok s _)) (by simpa using hs)
theorem mul_S (a : List Nat) (m : Nat) : Txt.mul (S a) m = S (List.replicate m a).flatten := by
  unfold Txt.mul
  have key : ∀ (k : Nat) (acc : Array Nat), ((List.replicate k (S a).cps).foldl (· ++ ·) acc) = (acc.toList ++ (List.replicate k a).flatten).toArray := by
    intro k
    induction k with
    | zero => intro acc; simp
    | succ k ih => intro acc; rw [List.replicate_succ, List.foldl_cons, ih]; simp [List.replicate_succ, S]
  by_cases h1 : (m : Int) < 1
  · rw [if_pos h1]
    have : m = 0 := by omega
    subst this; rfl
  · rw [if_neg h1]
    split
    · rename_i h2
      rw [Bool.or_eq_true] at h2
      rcases h2 with h2 | h2
      · have : m = 1 := by have := eq_of_beq h2; omega
        subst this; simp
      · have h3 : a = [] := by have := eq_of_beq h2; simpa using this
        subst h3
        unfold S; congr 1; simp
    · unfold S; rw [Int.toNat_natCast]; congr 1
      have := key m #[]
      unfold S at this; rw [this]; simp
theorem Op2.mulS {a : List Nat} {m : Nat} (hs : a.length * m ≤ 2 ^ 20) (hm : m < 2 ^ 24) (h : Q (.str (S (List.replicate m a).flatten))) : Op2 prog w H₀ n (binaryOp .Mult) (.str (S a)) (.int m) Q := by
  rintro A s av v u Q' E rm hp ⟨t, rfl⟩ ⟨t', rfl⟩ k
  rw [← mul_S] at h
  refine SB.mul ⟨?_, fun h1 h2 => ?_, fun h1 h2 => ?_⟩ fun t' tk => k _ _ _ h ⟨_, rfl⟩ (Grow.tok s _)
  · rw [Bool.or_eq_false_iff]; constructor <;> (apply decide_eq_false; omega)
  · rw [S_len]
    have : (a.length : Int) * m ≤ 2 ^ 20 := by exact_mod_cast hs
    have hm1 : (1 : Int) ≤ m := by omega
    rw [gt_iff_lt, Int.not_lt]
    apply (Int.le_ediv_iff_mul_le (by omega)).mpr
    omega
  · rw [S_len, Int.toNat_natCast]; exact decide_eq_false (by rw [sizeLine_eq]; omega)

theorem seqIndex_nat {i m : Nat} (h : i < m) : seqIndex? (i : Int) m = some i := by
  unfold seqIndex?
  rw [if_neg (by omega : ¬ ((i : Int) < 0))]
  dsimp only
  rw [if_pos (by simp only [Bool.and_eq_true, decide_eq_true_eq]; omega)]
  rfl
theorem OpI.str {a : List Nat} {i : Int} {j c : Nat} (hj : seqIndex? i a.length = some j) (hc : a[j]? = some c) (hs : -(2 ^ 62) ≤ i ∧ i < 2 ^ 62) (h : Q (.str (S [c]))) : OpI prog w H₀ n (.str (S a)) (.int i) Q := by
  rintro A s av v u Q' E rm hp ⟨t, rfl⟩ ⟨t', rfl⟩ k
  refine ⟨"str", _, typeIs_str _ _ _, F.slot_str_getitem.lookup, PyProof.Rows.getItem_str (c := c) ?_ ?_ (k _ _ _ h ⟨_, rfl⟩ (Grow.tok s _))⟩
  · rw [Bool.or_eq_false_iff]; constructor <;> (apply decide_eq_false; omega)
  · rw [S_len, hj]; simpa using hc
theorem seqIndex_cases {i : Int} {m j : Nat} (h : seqIndex? i m = some j) : (0 ≤ i ∧ i.toNat = j ∧ j < m) ∨ (i < 0 ∧ -(m : Int) ≤ i ∧ (i + m).toNat = j ∧ j < m) := by
  unfold seqIndex? at h
  by_cases h0 : i < 0
  · rw [if_pos h0] at h
    dsimp only at h
    split at h
    · rename_i hc
      simp only [Bool.and_eq_true, decide_eq_true_eq] at hc
      cases h
      right; omega
    · cases h
  · rw [if_neg h0] at h
    dsimp only at h
    split at h
    · rename_i hc
      simp only [Bool.and_eq_true, decide_eq_true_eq] at hc
      cases h
      left; omega
    · cases h
theorem OpI.lst {ds : List D} {i : Int} {j : Nat} {d : D} (hj : seqIndex? i ds.length = some j) (hd : ds[j]? = some d) (hs : -(2 ^ 62) ≤ i ∧ i < 2 ^ 62) (h : Q d) : OpI prog w H₀ n (.lst ds) (.int i) Q := by
  rintro A s av v u Q' E rm hp ⟨a, vs, rfl, na, l, r⟩ ⟨t', rfl⟩ k
  obtain ⟨x, hx, z⟩ := r.get hd
  refine ⟨"list", _, l.isList.typeIs, PySem.list_getitem_lookup, ?_⟩
  have hl := r.length
  rcases seqIndex_cases hj with ⟨h0, h1, h2⟩ | ⟨h0, h1, h2, h3⟩
  · exact wpAny_getItem_list l.isList h0 (by omega) (x := x) (by rw [h1]; simpa using hx) (k _ _ _ h z (Grow.refl s))
  · exact wpAny_getItem_list_neg l.isList h0 (by rw [List.size_toArray, hl]; exact h1) (by omega) (x := x) (by rw [List.size_toArray, hl, h2]; simpa using hx) (k _ _ _ h z (Grow.refl s))
theorem OpI.tup {ds : List D} {i : Int} {j : Nat} {d : D} (hj : seqIndex? i ds.length = some j) (hd : ds[j]? = some d) (hs : -(2 ^ 62) ≤ i ∧ i < 2 ^ 62) (h : Q d) : OpI prog w H₀ n (.tup ds) (.int i) Q := by
  rintro A s av v u Q' E rm hp ⟨a, vs, rfl, na, ht, r⟩ ⟨t', rfl⟩ k
  obtain ⟨x, hx, z⟩ := r.get hd
  have hl := r.length
  refine ⟨"tuple", _, ht.typeIs, F.slot_tuple_getitem.lookup, ?_⟩
  exact PyProof.Rows.getItem_tuple (x := x) ht (by omega) (by omega) (by rw [List.size_toArray, hl]; exact hj) (by simpa using hx) (k _ _ _ h z (Grow.refl s))
theorem Op2.addL {ds es : List D} (hs : ds.length + es.length ≤ sizeLine) (h : Q (.lst (ds ++ es))) : Op2 prog w H₀ n (binaryOp .Add) (.lst ds) (.lst es) Q := by
  rintro A s av v u Q' E rm hp ⟨a, vs, rfl, na, l, r⟩ ⟨b, us, rfl, nb, l', r'⟩ k
  obtain ⟨⟨cls, dd, data, sl⟩, ho, hc, hdd, n1, hd⟩ := id l
  obtain ⟨⟨cls2, dd2, data2, sl2⟩, ho2, hc2, hdd2, n2, hd2⟩ := id l'
  simp only at hc hd hc2 hd2
  subst hc hd hc2 hd2
  have hsz : vs.toArray.size + us.toArray.size ≤ sizeLine := by rw [List.size_toArray, List.size_toArray, r.length, r'.length]; exact hs
  refine concat_meets l.isList.typeIs l'.isList.typeIs noFill_list_add seq_list_add F.slot_list_add F.entry_list_add (F.args_list_add_2 _ _) (list_addW a b _ _ _ _ _ _ _ _ hsz) ⟨ho, ho2, ?_⟩
  have kp : ∀ c o, s.heap.get? c = some o → (s.heap.push { cls := .type "list", data := .seq (vs.toArray ++ us.toArray) }).get? c = some o := fun c o e => Heap.get?_push_of_some _ e
  exact k _ { s with heap := s.heap.push { cls := .type "list", data := .seq (vs.toArray ++ us.toArray) } } _ h ⟨s.heap.objs.size, vs ++ us, rfl, hp.fresh (get_size _), ⟨_, Heap.get?_push_size _ rfl, rfl, rfl, 0, by simp⟩, (r.keeps kp).append (r'.keeps kp)⟩ (Grow.mk s _ s.toks kp)
theorem OpL.lenL {ds : List D} (hs : ds.length < 2 ^ 62) (h : Q (.int ds.length)) : OpL prog w H₀ n (fun vs => call (.builtin "len") vs) [.lst ds] Q := by
  rintro A s av vs Q' E rm hp ⟨v, _, rfl, ⟨a, us, rfl, na, l, r⟩, rfl⟩ k
  have e : us.toArray.size = ds.length := by rw [List.size_toArray, r.length]
  have fin := fun t => k (.int ds.length t) { s with toks := s.toks + 1 + 1 } (.int ds.length) h ⟨_, rfl⟩ (Grow.tok s _)
  exact call_len_list l.isList (by rw [e]; omega) (by rw [e]; exact fin _)
theorem strValues_is : ∀ (l : List (PySem.Str × Tok)), StrsAre (strValues l) (l.map (·.1))
  | [] => .nil
  | (x, t) :: r => .cons x t (strValues_is r)
theorem strsAre_values : ∀ {vs : List Value} {ss : List PySem.Str}, StrsAre vs ss → ∃ l : List (PySem.Str × Tok), vs = strValues l ∧ l.map (·.1) = ss
  | _, _, .nil => ⟨[], rfl, rfl⟩
  | _, _, .cons x t h => let ⟨l, e, e'⟩ := strsAre_values h; ⟨(x, t) :: l, by rw [e]; rfl, by rw [← e']; rfl⟩

theorem Meth.split {x : PySem.Str} : Meth (prog := prog) (w := w) n ("split" : PySem.Str) (.str x) "str.split" := by
  rintro A s av v pl Q' E ⟨t, rfl⟩ h; exact GM.split h
theorem Meth.join {x : PySem.Str} : Meth (prog := prog) (w := w) n ("join" : PySem.Str) (.str x) "str.join" := by
  rintro A s av v pl Q' E ⟨t, rfl⟩ h; exact GM.join h
theorem Meth.startswith {x : PySem.Str} : Meth (prog := prog) (w := w) n ("startswith" : PySem.Str) (.str x) "str.startswith" := by
  rintro A s av v pl Q' E ⟨t, rfl⟩ h; exact GM.startswith h
theorem Meth.endswith {x : PySem.Str} : Meth (prog := prog) (w := w) n ("endswith" : PySem.Str) (.str x) "str.endswith" := by
  rintro A s av v pl Q' E ⟨t, rfl⟩ h; exact GM.endswith h
theorem OpL.startswith {x y : PySem.Str} (h : Q (.bool (Txt.startswith x y))) : OpL prog w H₀ n (fun vs => call (.builtin "str.startswith") vs) [.str x, .str y] Q := by
  rintro A s av vs Q' E rm hp ⟨v, _, rfl, ⟨t, rfl⟩, u, _, rfl, ⟨t', rfl⟩, rfl⟩ k
  exact SC.startswith (k _ _ _ h rfl (Grow.refl s))
theorem OpL.endswith {x y : PySem.Str} (h : Q (.bool (Txt.endswith x y))) : OpL prog w H₀ n (fun vs => call (.builtin "str.endswith") vs) [.str x, .str y] Q := by
  rintro A s av vs Q' E rm hp ⟨v, _, rfl, ⟨t, rfl⟩, u, _, rfl, ⟨t', rfl⟩, rfl⟩ k
  exact SC.endswith (k _ _ _ h rfl (Grow.refl s))
theorem OpL.join {x : PySem.Str} {ss : List PySem.Str} (hok : JoinOk x ss = true) (h : Q (.str (Str.join x ss))) : OpL prog w H₀ n (fun vs => call (.builtin "str.join") vs) [.str x, .lst (ss.map D.str)] Q := by
  rintro A s av vs Q' E rm hp ⟨v, _, rfl, ⟨t, rfl⟩, u, _, rfl, ⟨a, us, rfl, na, l, r⟩, rfl⟩ k
  obtain ⟨l', e, e'⟩ := strsAre_values r.strs
  subst e
  refine SC.join l.isList e' hok fun t' tk => ?_
  exact k _ _ _ h ⟨t', by show Value.str (Builtin.Str.glued x ss) t' = _; rw [StrLaws.glued_eq_join]⟩ (Grow.tok s _)
theorem newStrs {s : Shared} {av : Addr → Prop} (hp : Hp H₀ av s.heap) (vs : List Value) (ss : List PySem.Str) (hv : StrsAre vs ss) :
    Rel prog w av (s.heap.push { cls := .type "list", data := .seq vs.toArray }) (.lst (ss.map D.str)) (.ref s.heap.objs.size) :=
  ⟨s.heap.objs.size, vs, rfl, hp.fresh (get_size _), ⟨_, Heap.get?_push_size _ rfl, rfl, rfl, _, rfl⟩, RelL.ofStrs hv⟩
theorem OpL.split {x y : PySem.Str} (hy : (y.length == 0) = false) (hsz : x.length ≤ sizeLine) (hsz2 : (Txt.split x y).length ≤ sizeLine) (h : Q (.lst ((Txt.split x y).map D.str))) : OpL prog w H₀ n (fun vs => call (.builtin "str.split") vs) [.str x, .str y] Q := by
  rintro A s av vs Q' E rm hp ⟨v, _, rfl, ⟨t, rfl⟩, u, _, rfl, ⟨t', rfl⟩, rfl⟩ k
  have self : Txt.split x y = [x] → ∀ tk, Q' (.ref s.heap.objs.size) { s with toks := tk, heap := s.heap.push { cls := .type "list", data := .seq #[.str x t] } } := fun e tk => by
    rw [e] at h
    exact k _ { s with toks := tk, heap := s.heap.push { cls := .type "list", data := .seq #[.str x t] } } _ h (newStrs hp [.str x t] [x] (.cons _ _ .nil)) (Grow.push s _ tk)
  cases h1 : (decide (x.length < y.length) || decide (Builtin.Str.strKind x < Builtin.Str.strKind y))
  · cases hf : (Builtin.Str.occurrences x y 0 x.length (x.length + 1)).isEmpty
    · have e : Txt.split x y = Builtin.Str.partsBetween x (Builtin.Str.occurrences x y 0 x.length (x.length + 1)) y.length := (if_neg (ne_true_of_eq_false h1)).trans (if_neg (ne_true_of_eq_false hf))
      rw [e] at hsz2
      refine call_meets F.slot_str_split (typeIs_str _ _ _) F.entry_str_split (F.args_str_split_2 _ _) (meets_str_split_sep x y t t' h1 hy hf hsz hsz2) ?_
      show wants Q' E _ { s with toks := _, heap := s.heap.push { cls := .type "list", data := .seq (strsFrom s.toks (Builtin.Str.partsBetween x (Builtin.Str.occurrences x y 0 x.length (x.length + 1)) y.length)).toArray } }
      rw [strsFrom_eq, ← e]
      have hn := strValues_is (numbered s.toks (Txt.split x y))
      rw [numbered_texts] at hn
      exact k _ { s with toks := _, heap := s.heap.push { cls := .type "list", data := .seq (strValues (numbered s.toks (Txt.split x y))).toArray } } _ h (newStrs hp _ _ hn) (Grow.push s _ _)
    · exact call_meets F.slot_str_split (typeIs_str _ _ _) F.entry_str_split (F.args_str_split_2 _ _) (meets_str_split_not_found x y t t' h1 hy hf) (self ((if_neg (ne_true_of_eq_false h1)).trans (if_pos hf)) _)
  · exact call_meets F.slot_str_split (typeIs_str _ _ _) F.entry_str_split (F.args_str_split_2 _ _) (meets_str_split_cannot_occur x y t t' h1) (self (if_pos h1) _)
end
end Mine
end
section
open PySem PySem.W PySem.Calls PyProof.Rows

namespace Mine
section
variable {prog : Program} {w : World} {H₀ : Heap} {n : Nat} {σ : Store} {sc : Scope} {Q : D → Prop}

/-- a part of a slice -/
def EvP (prog : Program) (w : World) (H₀ : Heap) (sc : Scope) (n : Nat) (σ : Store) : Option Expr → (Option Int → Prop) → Prop
  | none, Q => Q none
  | some e, Q => Ev prog w H₀ sc n σ e fun d => ∃ i, d = .int i ∧ Q (some i)

theorem EvP.run {e : Option Expr} {P : Option Int → Prop} (h : EvP prog w H₀ sc n σ e P) {env : Env} {A : Around} {s : Shared} {av : Addr → Prop} {Q' : Value → Shared → Prop} {E : Value → Shared → Prop}
    (ok : EnvOk sc env) (rm : Room A n) (rd : Rd prog w H₀ env av σ s.heap) (k : ∀ v s' i, P i → IsPart v i → Grow s s' → Q' v s') : wpAny (model prog w) A (evalPart e env) Q' E s := by
  cases e with
  | none => exact wpAny_pure (k _ _ _ h .none (Grow.refl s))
  | some e =>
    refine h env A s av _ E ok rm rd fun v s' d q z g => ?_
    obtain ⟨i, rfl, q⟩ := q
    obtain ⟨t, rfl⟩ := z
    exact k _ _ _ q (.int i t) g

/-- o[lo:hi:st] -/
def OpS (prog : Program) (w : World) (H₀ : Heap) (n : Nat) (a : D) (lo hi st : Option Int) (Q : D → Prop) : Prop :=
  ∀ (A : Around) (s : Shared) (av : Addr → Prop) (v vl vu vs : Value) (sl : Addr) (Q' : Value → Shared → Prop) (E : Value → Shared → Prop),
    Room A n → Hp H₀ av s.heap → Rel prog w av s.heap a v → IsPart vl lo → IsPart vu hi → IsPart vs st → s.heap.IsSliceOf sl vl vu vs →
    (∀ r s' d, Q d → Rel prog w av s'.heap d r → Grow s s' → Q' r s') →
    ∃ T id, s.TypeIs v T ∧ typeLookup (.type T) "__getitem__" = pure (some (.builtin id)) ∧ wpAny (model prog w) A (getItem v (.ref sl)) Q' E s

theorem Ev.slice {v : Expr} {l u st : Option Expr} {p pos : Pos} {Q : D → Prop}
    (h : Ev prog w H₀ sc n σ v fun a => EvP prog w H₀ sc n σ l fun lo => EvP prog w H₀ sc n σ u fun hi => EvP prog w H₀ sc n σ st fun ste => OpS prog w H₀ n a lo hi ste Q)
    (ht : ∀ o r, letTemporaryGo v o r = pure () := by intro _ _; rfl) : Ev prog w H₀ sc n σ (.Subscript v (.Slice l u st p) pos) Q := by
  intro env A s av Q' E ok rm rd k
  have main : ∀ Q'' : Value → Value → Shared → Prop, (∀ o i s₂, (∃ T id, s₂.TypeIs o T ∧ typeLookup (.type T) "__getitem__" = pure (some (.builtin id)) ∧ wpAny (model prog w) A (getItem o i) Q' E s₂) → Q'' o i s₂) →
      wpAny (model prog w) A (eval v env) (fun o s₁ => wpAny (model prog w) A (eval (.Slice l u st p) env) (fun i s₂ => Q'' o i s₂) E s₁) E s := fun Q'' hQ => by
    refine h env A s av _ E ok rm rd fun v s₁ a h₁ x g₁ => ?_
    refine wpAny_Slice (h₁.run ok rm (rd.keeps g₁.get) fun vl s₂ lo h₂ pl g₂ => ?_)
    refine h₂.run ok rm ((rd.keeps g₁.get).keeps g₂.get) fun vu s₃ hi h₃ pu g₃ => ?_
    refine h₃.run ok rm (((rd.keeps g₁.get).keeps g₂.get).keeps g₃.get) fun vs s₄ ste h₄ ps g₄ => hQ _ _ _ ?_
    have g₅ : Grow s₄ { s₄ with heap := s₄.heap.push { cls := .type "slice", data := .fields #[vl, vu, vs] } } := Grow.push s₄ _ s₄.toks
    have gg := ((g₂.trans g₃).trans g₄).trans g₅
    exact h₄ A _ av v vl vu vs _ Q' E rm (rd.keeps (g₁.trans gg).get).hp (x.keeps gg.get) pl pu ps (Heap.IsSliceOf.new ..) fun r s₆ d q z g₆ => k r s₆ d q z ((g₁.trans gg).trans g₆)
  rw [eval_Subscript]
  refine wpAny_bind (wpAny_mono (main (fun o i s₂ => ∃ T id, s₂.TypeIs o T ∧ typeLookup (.type T) "__getitem__" = pure (some (.builtin id)) ∧ wpAny (model prog w) A (getItem o i) Q' E s₂) fun _ _ _ x => x) (fun o s₁ h₁ => wpAny_bind (wpAny_holding (wpAny_mono h₁ (fun i s₂ h₂ => wpAny_bind (wpAny_standAt ?_)) fun _ _ x => x))) fun _ _ x => x)
  obtain ⟨T, id, hT, hl, hg⟩ := h₂
  have fin : ∀ ops, wpAny (model prog w) A (operate ops (getItem o i)) (fun r s₃ => wpAny (model prog w) A (letTemporaryGo v o r >>= fun _ => pure r) Q' E s₃) E s₂ := fun ops =>
    wpAny_operating (wpAny_mono hg (fun r s₃ h₃ => wpAny_bind (wpAny_of_eq (ht o r) (wpAny_pure h₃))) fun _ _ x => x)
  refine wpAny_bind ?_
  rw [getitemInPython_of_ne hT.not_modules]
  refine wpAny_bind (wpAny_specialOf hT hl ?_)
  cases st with
  | none => first | exact wpAny_pure (wpAny_bind (fin _)) | exact wpAny_bind (wpAny_pure (wpAny_bind (fin _))) | exact wpAny_bind (fin _)
  | some e => first | exact wpAny_pure (wpAny_bind (fin _)) | exact wpAny_bind (wpAny_pure (wpAny_bind (fin _))) | exact wpAny_bind (fin _)

/-- what a slice picks -/
def pick {α : Type} (l : List α) (lo hi st : Option Int) : List α :=
  (sliceRange (sliceBounds lo hi st l.length).1 (sliceBounds lo hi st l.length).2.1 (sliceBounds lo hi st l.length).2.2).filterMap (l[·]?)

theorem RelL.pick_ {av : Addr → Prop} {h : Heap} {ds : List D} {vs : List Value} (r : RelL prog w av h ds vs) : ∀ (is : List Nat), RelL prog w av h (is.filterMap (ds[·]?)) (is.filterMap (vs[·]?))
  | [] => rfl
  | i :: is => by
    rw [List.filterMap_cons, List.filterMap_cons]
    cases e : ds[i]? with
    | none =>
      have : vs[i]? = none := by
        rw [List.getElem?_eq_none_iff] at e ⊢
        rw [r.length]; exact e
      rw [this]; exact r.pick_ is
    | some d =>
      obtain ⟨v, hv, z⟩ := r.get e
      rw [hv]; exact ⟨v, _, rfl, z, r.pick_ is⟩

theorem OpS.lst {ds : List D} {lo hi st : Option Int} (h0 : st ≠ some 0) (hs : ds.length ≤ sizeLine) (h : Q (.lst (pick ds lo hi st))) : OpS prog w H₀ n (.lst ds) lo hi st Q := by
  rintro A s av v vl vu vs sl Q' E rm hp ⟨a, us, rfl, na, l, r⟩ pl pu ps hsl k
  refine ⟨"list", _, l.isList.typeIs, PySem.list_getitem_lookup, ?_⟩
  have hl := r.length
  have e : slicePick us.toArray lo hi st = (pick us lo hi st).toArray := by unfold slicePick pick; simp
  refine wpAny_getItem_list_slice l.isList hsl pl pu ps h0 ?_ (by rw [List.size_toArray, hl]; exact hs)
  rw [e]
  have kp : ∀ c o, s.heap.get? c = some o → (s.heap.push { cls := .type "list", data := .seq (pick us lo hi st).toArray }).get? c = some o := fun c o e => Heap.get?_push_of_some _ e
  refine k _ { s with heap := s.heap.push { cls := .type "list", data := .seq (pick us lo hi st).toArray } } _ h ⟨_, _, rfl, hp.fresh (get_size _), ⟨_, Heap.get?_push_size _ rfl, rfl, rfl, _, rfl⟩, ?_⟩ (Grow.push s _ s.toks)
  have r' := r.keeps kp
  unfold pick
  rw [← hl]
  exact r'.pick_ _

theorem isPart_value {v : Value} {i : Option Int} (p : IsPart v i) : ∃ q : Option (Int × Tok), v = partValue q ∧ q.map (·.1) = i := by
  cases p with
  | none => exact ⟨none, rfl, rfl⟩
  | int i t => exact ⟨some (i, t), rfl, rfl⟩

def clipN (v : Option Int) (dflt m : Nat) : Nat := match v with
  | none => dflt
  | some i => (max 0 (min (if i < 0 then i + m else i) m)).toNat
theorem clipN_le {v : Option Int} {d m : Nat} (h : d ≤ m) : clipN v d m ≤ m := by
  unfold clipN; cases v with
  | none => exact h
  | some i => dsimp only; omega
theorem pick_eq {α : Type} (l : List α) (lo hi : Option Int) : pick l lo hi none = (l.drop (clipN lo 0 l.length)).take (clipN hi l.length l.length - clipN lo 0 l.length) := by
  have eb : sliceBounds lo hi none l.length = (((clipN lo 0 l.length : Nat) : Int), ((clipN hi l.length l.length : Nat) : Int), (1 : Int)) := by
    unfold sliceBounds clipN
    cases lo <;> cases hi <;> simp <;> omega
  have h1 := clipN_le (v := lo) (d := 0) (m := l.length) (Nat.zero_le _)
  have h2 := clipN_le (v := hi) (d := l.length) (m := l.length) (Nat.le_refl _)
  unfold pick
  rw [eb]
  generalize clipN lo 0 l.length = a at *
  generalize clipN hi l.length l.length = b at *
  dsimp only
  unfold sliceRange
  simp only [show ((1 : Int) > 0) = True from by simp, if_true]
  by_cases hlt : (a : Int) < b
  · have e3 : (((b : Int) - a + 1 - 1) / 1).toNat = b - a := by first | omega | (simp; done) | (simp; omega)
    simp only [hlt, if_true, e3]
    have : (List.range (b - a)).map (fun (k : Nat) => ((a : Int) + 1 * (k : Int)).toNat) = (List.range (b - a)).map (fun k => a + k) := List.map_congr_left fun k _ => by omega
    rw [this]
    exact StrLaws.picks l (b - a) a (by omega)
  · have : b - a = 0 := by omega
    simp [hlt, this]
theorem pick_from {α : Type} (l : List α) (i : Nat) : pick l (some (i : Int)) none none = l.drop i := by
  rw [pick_eq]; simp only [clipN]
  rw [if_neg (by omega)]
  rcases Nat.le_total i l.length with h | h
  · have : (max 0 (min (i : Int) l.length)).toNat = i := by omega
    rw [this, List.take_of_length_le (by simp)]
  · have : (max 0 (min (i : Int) l.length)).toNat = l.length := by omega
    rw [this]; simp [List.drop_eq_nil_of_le h]
theorem pick_to {α : Type} (l : List α) (j : Nat) : pick l none (some (j : Int)) none = l.take j := by
  rw [pick_eq]; simp only [clipN]
  rw [if_neg (by omega)]
  simp only [List.drop_zero, Nat.sub_zero]
  rcases Nat.le_total j l.length with h | h
  · have : (max 0 (min (j : Int) l.length)).toNat = j := by omega
    rw [this]
  · have : (max 0 (min (j : Int) l.length)).toNat = l.length := by omega
    rw [this, List.take_of_length_le h]; simp
theorem OpS.str {a : List Nat} {lo hi : Option Int} (hs : a.length ≤ sizeLine) (h : Q (.str (S (pick a lo hi none)))) : OpS prog w H₀ n (.str (S a)) lo hi none Q := by
  rintro A s av v vl vu vs sl Q' E rm hp ⟨t, rfl⟩ pl pu ps hsl k
  cases ps
  obtain ⟨ql, rfl, el⟩ := isPart_value pl
  obtain ⟨qu, rfl, eu⟩ := isPart_value pu
  refine ⟨"str", _, typeIs_str _ _ _, F.slot_str_getitem.lookup, ?_⟩
  refine wpAny_getItem_str_slice (l := ql) (u := qu) (st := none) hsl rfl ?_
  have e : ((slicePicked (S a) ql qu none).filterMap ((S a).cps[·]?)) = pick a lo hi none := by
    have e1 : slicePicked (S a) ql qu none = sliceRange (sliceBounds lo hi none a.length).1 (sliceBounds lo hi none a.length).2.1 (sliceBounds lo hi none a.length).2.2 := by
      unfold slicePicked
      rw [el, eu, S_len]
      cases lo <;> cases hi <;> rfl
    rw [e1]; unfold pick
    simp
  have hl : (pick a lo hi none).length = a.length → pick a lo hi none = a := fun hl => by
    rw [pick_eq] at hl ⊢
    exact ((List.take_sublist _ _).trans (List.drop_sublist _ _)).eq_of_length hl
  have hle : (pick a lo hi none).length ≤ a.length := by
    rw [pick_eq]; exact ((List.take_sublist _ _).trans (List.drop_sublist _ _)).length_le
  have hlen : (slicePicked (S a) ql qu none).length = (pick a lo hi none).length := by
    rw [← e]
    have hall : ∀ i ∈ slicePicked (S a) ql qu none, i < a.length := fun i hi' => by
      have e1 : slicePicked (S a) ql qu none = sliceRange (clipN lo 0 a.length : Nat) (clipN hi a.length a.length : Nat) 1 := by
        unfold slicePicked
        rw [el, eu, S_len]
        have : sliceBounds lo hi none a.length = (((clipN lo 0 a.length : Nat) : Int), ((clipN hi a.length a.length : Nat) : Int), (1 : Int)) := by
          unfold sliceBounds clipN
          cases lo <;> cases hi <;> simp <;> omega
        have e2 : Builtin.Str.strSliceIndices lo hi 1 a.length = sliceRange (sliceBounds lo hi none a.length).1 (sliceBounds lo hi none a.length).2.1 (sliceBounds lo hi none a.length).2.2 := by cases lo <;> cases hi <;> rfl
        have e3 : ((Option.map (·.1) (none : Option (Int × Tok))).getD 1) = 1 := rfl
        rw [e3, e2, this]
      rw [e1] at hi'
      have h1 := clipN_le (v := lo) (d := 0) (m := a.length) (Nat.zero_le _)
      have h2 := clipN_le (v := hi) (d := a.length) (m := a.length) (Nat.le_refl _)
      unfold sliceRange at hi'
      simp only [show ((1 : Int) > 0) = True from by simp, if_true, List.mem_map, List.mem_range] at hi'
      obtain ⟨k, hk, rfl⟩ := hi'
      split at hk <;> simp at hk <;> omega
    have hc : ∀ is : List Nat, (∀ i ∈ is, i < a.length) → (is.filterMap ((S a).cps[·]?)).length = is.length := by
      intro is
      induction is with
      | nil => intro _; rfl
      | cons i is ih =>
        intro hh
        have : (S a).cps[i]? = some (a[i]'(hh i List.mem_cons_self)) := by simp [hh i List.mem_cons_self]
        rw [List.filterMap_cons, this]
        simp only [List.length_cons]
        rw [ih fun j hj => hh j (List.mem_cons_of_mem _ hj)]
    exact (hc _ hall).symm
  unfold sliceMade
  rw [e, hlen, S_len]
  by_cases hc : (pick a lo hi none).length = a.length
  · rw [if_pos (by simp [hc])]
    rw [hl hc] at h
    exact k _ _ _ h ⟨t, rfl⟩ (Grow.refl s)
  · rw [if_neg (by simp [hc])]
    exact ⟨by rw [show ((⟨(pick a lo hi none).toArray⟩ : PySem.Str)) = S (pick a lo hi none) from rfl, S_len]; omega, k _ _ _ h ⟨_, rfl⟩ (Grow.tok s _)⟩

theorem OpL.sum {ns : List Int} (h : Q (.int ns.sum)) : OpL prog w H₀ n (fun vs => call (.builtin "sum") vs) [.lst (ns.map D.int)] Q := by
  rintro A s av vs Q' E rm hp ⟨v, _, rfl, ⟨a, us, rfl, na, l, r⟩, rfl⟩ k
  have hi := r.ints
  obtain ⟨xs, e⟩ := hi.allInts.items
  have hl := l.isList
  have hn : numsOf us = ns := hi.numsOf
  rw [e] at hl
  refine sum_intListG rm.hd hl fun h' tk t' hk => k _ { s with heap := h', toks := tk } (.int ns.sum) h ⟨t', ?_⟩ (Grow.mk s h' tk hk)
  have e2 : (numsOf (intItems xs).toList) = ns := by rw [← e]; exact hn
  rw [nums_intItems] at e2
  rw [preSum_eq, List.take_of_length_le (by simp)]
  rw [← e2]

theorem OpL.sumOf {ds : List D} {ns : List Int} (e : ds = ns.map D.int) (h : Q (.int ns.sum)) : OpL prog w H₀ n (fun vs => call (.builtin "sum") vs) [.lst ds] Q := by subst e; exact OpL.sum h

/-- texts in order -/
def leT (a b : List Nat) : Bool := decide (a ≤ b)
def sortT (l : List (List Nat)) : List (List Nat) := l.mergeSort leT
theorem leT_trans (a b c : List Nat) (h : leT a b = true) (h' : leT b c = true) : leT a c = true := by
  unfold leT at *; simp only [decide_eq_true_eq] at *; exact List.le_trans h h'
theorem leT_total (a b : List Nat) : (leT a b || leT b a) = true := by
  unfold leT; simp only [Bool.or_eq_true, decide_eq_true_eq]; exact List.le_total a b
theorem leT_anti (a b : List Nat) (h : leT a b = true) (h' : leT b a = true) : a = b := by
  unfold leT at *; simp only [decide_eq_true_eq] at *; exact List.le_antisymm h h'
theorem sortT_perm (l : List (List Nat)) : (sortT l).Perm l := List.mergeSort_perm l leT
theorem sortT_pairwise (l : List (List Nat)) : (sortT l).Pairwise (fun a b => leT a b = true) := List.pairwise_mergeSort leT_trans leT_total l
theorem sortT_unique {l l' : List (List Nat)} (h : l'.Perm l) (hs : l'.Pairwise (fun a b => leT a b = true)) : l' = sortT l :=
  List.Perm.eq_of_pairwise (le := fun a b => leT a b = true) (fun a b _ _ h h' => leT_anti a b h h') hs (sortT_pairwise l) (h.trans (sortT_perm l).symm)
theorem sortT_congr {l l' : List (List Nat)} (h : l'.Perm l) : sortT l' = sortT l := sortT_unique ((sortT_perm l').trans h) (sortT_pairwise l')
theorem ltCps_leT (a b : List Nat) (h : (!Spec.ltCps b a) = true) : leT a b = true := by
  rw [ltCps_eq] at h
  unfold leT
  simp only [Bool.not_eq_true', decide_eq_false_iff_not, decide_eq_true_eq] at *
  exact h
theorem rising_pairwise : ∀ (r : List (List Nat)) (x : List Nat), risingS (S x) (r.map S) = true → (x :: r).Pairwise (fun a b => leT a b = true)
  | [], x, _ => List.pairwise_singleton ..
  | y :: r, x, h => by
    rw [List.map_cons] at h
    unfold risingS at h
    rw [Bool.and_eq_true] at h
    have h1 := ltCps_leT x y (by simpa using h.1)
    have h2 := rising_pairwise r y h.2
    rw [List.pairwise_cons] at h2
    refine List.pairwise_cons.mpr ⟨fun z hz => ?_, List.pairwise_cons.mpr h2⟩
    rcases List.mem_cons.mp hz with rfl | hz
    · exact h1
    · exact leT_trans _ _ _ h1 (h2.1 z hz)
theorem sortedS_pairwise (l : List (List Nat)) (h : sortedS (l.map S) = true) : l.Pairwise (fun a b => leT a b = true) := by
  cases l with
  | nil => exact .nil
  | cons x r => exact rising_pairwise r x h
theorem OpL.sorted {ts : List (List Nat)} (h64 : ts.length < 64) (h : Q (.lst ((sortT ts).map fun a => D.str (S a)))) : OpL prog w H₀ n (fun vs => call (.builtin "sorted") vs) [.lst (ts.map fun a => D.str (S a))] Q := by
  rintro A s av vs Q' E rm hp ⟨v, _, rfl, ⟨a, us, rfl, na, l, r⟩, rfl⟩ k
  have r' : RelL prog w av s.heap ((ts.map S).map D.str) us := by rw [List.map_map]; exact r
  have hlen : us.length < 64 := by rw [r'.length]; simpa using h64
  refine sorted_strs l.isList r'.strs hlen fun out ss' a1 a2 a3 => ?_
  obtain ⟨e, he⟩ := sortedAll_at s.heap us out
  have kp : ∀ b o, s.heap.get? b = some o → (sortedAll s.heap us out).get? b = some o := fun b o e => sortedAll_old e
  have hnew : s.heap.get? (s.heap.objs.size + 1) = none := by
    cases e : s.heap.get? (s.heap.objs.size + 1) with
    | none => rfl
    | some o => exact absurd (Heap.lt_size e) (by show ¬ (s.heap.objs.size + 1 < s.heap.objs.size); omega)
  have hS : ss' = (sortT ts).map S := by
    obtain ⟨us', hus⟩ : ∃ us' : List (List Nat), ss' = us'.map S := ⟨ss'.map (·.cps.toList), by rw [List.map_map]; exact by simp [Function.comp_def, S_eta]⟩
    subst hus
    congr 1
    have hp' : us'.Perm ts := by
      have := a2.map (fun x : PySem.Str => x.cps.toList)
      rw [List.map_map, List.map_map] at this
      simpa [Function.comp_def] using this
    exact sortT_unique hp' (sortedS_pairwise _ a3)
  subst hS
  exact k (.ref (s.heap.objs.size + 1)) { s with heap := sortedAll s.heap us out } _ h ⟨_, out.toList, rfl, hp.fresh hnew, ⟨_, he, rfl, rfl, e, rfl⟩, by
    have := RelL.ofStrs (prog := prog) (w := w) (av := av) (h := sortedAll s.heap us out) a1
    rw [List.map_map] at this; exact this⟩ (Grow.mk s _ s.toks kp)
end
end Mine
end
section
open PySem PySem.W PySem.Calls PyProof.Rows

namespace Mine
open PySem.SeqAt
section
variable {prog : Program} {w : World} {H₀ : Heap} {n : Nat} {σ : Store} {sc : Scope} {Q : D → Prop}

def isNoneD : D → Bool
  | .none => true
  | _ => false
def isIntD : D → Bool
  | .int _ => true
  | _ => false
def isStrD : D → Bool
  | .str _ => true
  | _ => false
def cmpF (d d' : D) : Bool := match d with
  | .none => isNoneD d'
  | .int _ => isIntD d'
  | .str _ => isStrD d'
  | _ => false
theorem isNoneD_of {d : D} (h : isNoneD d = true) : d = .none := by cases d <;> first | rfl | cases h
theorem isIntD_of {d : D} (h : isIntD d = true) : ∃ a, d = .int a := by cases d <;> first | exact ⟨_, rfl⟩ | cases h
theorem isStrD_of {d : D} (h : isStrD d = true) : ∃ a, d = .str a := by cases d <;> first | exact ⟨_, rfl⟩ | cases h
theorem cmpF_cases {d d' : D} (hc : cmpF d d' = true) : (d = .none ∧ d' = .none) ∨ (∃ a b, d = .int a ∧ d' = .int b) ∨ ∃ a b, d = .str a ∧ d' = .str b := by
  cases d <;> try (cases hc)
  · exact .inl ⟨rfl, isNoneD_of hc⟩
  · obtain ⟨b, e⟩ := isIntD_of hc; exact .inr (.inl ⟨_, b, rfl, e⟩)
  · obtain ⟨b, e⟩ := isStrD_of hc; exact .inr (.inr ⟨_, b, rfl, e⟩)
def feq : D → D → Bool
  | .none, .none => true
  | .int a, .int b => a == b
  | .str a, .str b => a == b
  | _, _ => false

theorem eqAt_flat {A : Around} {s : Shared} {av : Addr → Prop} {d d' : D} {v v' : Value} (hc : cmpF d d' = true) (x : Rel prog w av s.heap d v) (y : Rel prog w av s.heap d' v') : EqAt A s v v' (feq d d') := by
  rcases cmpF_cases hc with ⟨rfl, rfl⟩ | ⟨a, b, rfl, rfl⟩ | ⟨a, b, rfl, rfl⟩
  · rw [show v = .none from x, show v' = .none from y]; exact EqAt.same _
  · obtain ⟨t, rfl⟩ := x; obtain ⟨t', rfl⟩ := y
    exact (MeetsSeq.EqGives.int _ _ _ _).at _ _
  · obtain ⟨t, rfl⟩ := x; obtain ⟨t', rfl⟩ := y
    exact (PyProof.Rows.eqGives_str _ _ _ _).at _ _
theorem feq_same {s : Shared} {av : Addr → Prop} {d d' : D} {v : Value} (hc : cmpF d d' = true) (x : Rel prog w av s.heap d v) (y : Rel prog w av s.heap d' v) : feq d d' = true := by
  rcases cmpF_cases hc with ⟨rfl, rfl⟩ | ⟨a, b, rfl, rfl⟩ | ⟨a, b, rfl, rfl⟩
  · rfl
  · obtain ⟨t, rfl⟩ := x; obtain ⟨t', e⟩ := y; cases e; exact beq_self_eq_true _
  · obtain ⟨t, rfl⟩ := x; obtain ⟨t', e⟩ := y; cases e; exact beq_self_eq_true _

def feqAt (ds ds' : List D) (j : Nat) : Bool := match ds[j]?, ds'[j]? with
  | some a, some b => feq a b
  | _, _ => false
def feqs (ds ds' : List D) : Bool := (List.range (min ds.length ds'.length)).all (feqAt ds ds') && ds.length == ds'.length
def cmpFs (ds ds' : List D) : Prop := ∀ (j : Nat) (d d' : D), ds[j]? = some d → ds'[j]? = some d' → cmpF d d' = true

theorem eqAt_each {A : Around} {s : Shared} {av : Addr → Prop} {ds ds' : List D} {vs vs' : List Value} (hc : cmpFs ds ds') (x : RelL prog w av s.heap ds vs) (y : RelL prog w av s.heap ds' vs') :
    ∀ j (h1 : j < vs.toArray.size) (h2 : j < vs'.toArray.size), EqAt A s vs.toArray[j] vs'.toArray[j] (feqAt ds ds' j) := by
  intro j h1 h2
  have e1 : vs[j]? = some vs.toArray[j] := by simp at h1 ⊢
  have e2 : vs'[j]? = some vs'.toArray[j] := by simp at h2 ⊢
  obtain ⟨d, hd, z⟩ := x.get' e1
  obtain ⟨d', hd', z'⟩ := y.get' e2
  unfold feqAt; rw [hd, hd']
  exact eqAt_flat (hc j d d' hd hd') z z'

theorem seq_unique {h : Heap} {a : Addr} {xs ys : Array Value} (x : h.IsTuple a xs) (y : h.IsTuple a ys) : xs = ys := by
  obtain ⟨o, ho, _, n, hd⟩ := x
  obtain ⟨o', ho', _, n', hd'⟩ := y
  rw [ho] at ho'; cases ho'
  rw [hd] at hd'; cases hd'; rfl

theorem rcAt_tup {A : Around} {s : Shared} {av : Addr → Prop} {ds ds' : List D} {v v' : Value} (hc : cmpFs ds ds') (hu : A.units < cLine) (x : Rel prog w av s.heap (.tup ds) v) (y : Rel prog w av s.heap (.tup ds') v') : RcAt A s v v' (feqs ds ds') := by
  obtain ⟨a, vs, rfl, na, ht, r⟩ := x
  obtain ⟨b, us, rfl, nb, ht', r'⟩ := y
  have := RcAt.tuples (A := A) (e := feqAt ds ds') ht ht' hu (eqAt_each hc r r')
  rw [List.size_toArray, List.size_toArray, r.length, r'.length] at this
  exact this
theorem eqAt_tup {A : Around} {s : Shared} {av : Addr → Prop} {ds ds' : List D} {v v' : Value} (hc : cmpFs ds ds') (hu : A.units < cLine) (x : Rel prog w av s.heap (.tup ds) v) (y : Rel prog w av s.heap (.tup ds') v') : EqAt A s v v' (feqs ds ds') := by
  have rc := rcAt_tup hc hu x y
  obtain ⟨a, vs, rfl, na, ht, r⟩ := x
  obtain ⟨b, us, rfl, nb, ht', r'⟩ := y
  by_cases hab : a = b
  · subst hab
    have e : vs = us := by have := seq_unique ht ht'; simpa using this
    subst e
    have hl : ds.length = ds'.length := by rw [← r.length, ← r'.length]
    have : feqs ds ds' = true := by
      unfold feqs
      rw [Bool.and_eq_true, beq_iff_eq, List.all_eq_true]
      refine ⟨fun j hj => ?_, hl⟩
      rw [List.mem_range] at hj
      have h1 : j < ds.length := by omega
      have h2 : j < ds'.length := by omega
      obtain ⟨v, hv, z⟩ := r.get (List.getElem?_eq_getElem h1)
      obtain ⟨v', hv', z'⟩ := r'.get (List.getElem?_eq_getElem h2)
      rw [hv] at hv'; cases hv'
      unfold feqAt; rw [List.getElem?_eq_getElem h1, List.getElem?_eq_getElem h2]
      exact feq_same (s := s) (hc j _ _ (List.getElem?_eq_getElem h1) (List.getElem?_eq_getElem h2)) z z'
    rw [this]; exact EqAt.same _
  · exact EqAt.of_refs hab rc

theorem Op2.eqTup {ds ds' : List D} (hc : cmpFs ds ds') (h : Q (.bool (feqs ds ds'))) : Op2 prog w H₀ n (compareOp .Eq) (.tup ds) (.tup ds') Q := by
  intro A s av v u Q' E rm hp x y k
  exact rcAt_tup (A := A) hc (by have := rm.uni; omega) x y prog w E Q' (k _ _ _ h rfl (Grow.refl s))

/-- lists of tuples -/
def tfeqs (ls ls' : List (List D)) : Bool := (List.range ls.length).all (fun j => match ls[j]?, ls'[j]? with | some a, some b => feqs a b | _, _ => false) && ls.length == ls'.length
theorem Op2.neLT {ls ls' : List (List D)} (hc : ∀ (j : Nat) a b, ls[j]? = some a → ls'[j]? = some b → cmpFs a b) (h : Q (.bool (!tfeqs ls ls'))) : Op2 prog w H₀ n (compareOp .NotEq) (.lst (ls.map D.tup)) (.lst (ls'.map D.tup)) Q := by
  rintro A s av v u Q' E rm hp ⟨a, vs, rfl, na, l, r⟩ ⟨b, us, rfl, nb, l', r'⟩ k
  have hu : A.units < cLine := by have := rm.uni; omega
  have hu2 : A.in1.units < cLine := by have := rm.uni; show A.units + 1 < _; omega
  have hl1 : vs.length = ls.length := by rw [r.length, List.length_map]
  have hl2 : us.length = ls'.length := by rw [r'.length, List.length_map]
  by_cases hl : ls.length = ls'.length
  · refine RcNeAt.lists (A := A) l.isList l'.isList (by rw [List.size_toArray, List.size_toArray, hl1, hl2, hl]) hu (e := fun j => match ls[j]?, ls'[j]? with | some a, some b => feqs a b | _, _ => false) ?_ prog w E Q' ?_
    · intro j h1 h2
      have e1 : vs[j]? = some vs.toArray[j] := by simp at h1 ⊢
      have e2 : us[j]? = some us.toArray[j] := by simp at h2 ⊢
      obtain ⟨d, hd, z⟩ := r.get' e1
      obtain ⟨d', hd', z'⟩ := r'.get' e2
      rw [List.getElem?_map] at hd hd'
      cases q : ls[j]? with
      | none => rw [q] at hd; cases hd
      | some x =>
        cases q' : ls'[j]? with
        | none => rw [q'] at hd'; cases hd'
        | some y =>
          rw [q] at hd; rw [q'] at hd'
          cases hd; cases hd'
          exact eqAt_tup (hc j x y q q') hu2 z z'
    · rw [List.size_toArray, hl1]
      have : tfeqs ls ls' = (List.range ls.length).all (fun j => match ls[j]?, ls'[j]? with | some a, some b => feqs a b | _, _ => false) := by unfold tfeqs; rw [hl]; simp
      rw [← this]
      exact k _ _ _ h rfl (Grow.refl s)
  · refine RcNeAt.lists_lengths (A := A) l.isList l'.isList (by rw [List.size_toArray, List.size_toArray, hl1, hl2]; simp [hl]) hu prog w E Q' ?_
    have : tfeqs ls ls' = false := by unfold tfeqs; rw [Bool.and_eq_false_iff]; right; simp [hl]
    rw [this] at h
    exact k _ _ _ h rfl (Grow.refl s)

theorem feqs_str_none (a b : PySem.Str) : feqs [.str a, .none] [.str b, .none] = (a == b) := by
  show ((feq (.str a) (.str b) && (feq .none .none && true)) && _) = _
  simp [feq]
theorem tfeqs_keys (ks ks' : List PySem.Str) : tfeqs (ks.map fun k => [.str k, .none]) (ks'.map fun k => [.str k, .none]) = decide (ks = ks') := by
  rw [Bool.eq_iff_iff, decide_eq_true_eq]
  unfold tfeqs
  rw [Bool.and_eq_true, beq_iff_eq, List.all_eq_true, List.length_map, List.length_map]
  constructor
  · rintro ⟨h, hl⟩
    apply List.ext_getElem? 
    intro j
    by_cases hj : j < ks.length
    · have := h j (List.mem_range.mpr hj)
      rw [List.getElem?_map, List.getElem?_map, List.getElem?_eq_getElem hj, List.getElem?_eq_getElem (by omega : j < ks'.length)] at this
      simp only [Option.map_some, feqs_str_none, beq_iff_eq] at this
      rw [List.getElem?_eq_getElem hj, List.getElem?_eq_getElem (by omega : j < ks'.length), this]
    · rw [List.getElem?_eq_none (by omega), List.getElem?_eq_none (by omega)]
  · rintro rfl
    refine ⟨fun j hj => ?_, rfl⟩
    rw [List.mem_range] at hj
    rw [List.getElem?_map, List.getElem?_eq_getElem hj]
    simp [feqs_str_none]

theorem Op2.inI {ns : List Int} {i : Int} (h : Q (.bool (ns.any (· == i)))) : Op2 prog w H₀ n (compareOp .In) (.int i) (.lst (ns.map D.int)) Q := by
  rintro A s av v u Q' E rm hp ⟨t, rfl⟩ ⟨b, us, rfl, nb, l', r'⟩ k
  exact PyProof.Rows.in_list_ints l'.isList r'.ints (k _ _ _ h rfl (Grow.refl s))
theorem Op2.notinI {ns : List Int} {i : Int} (h : Q (.bool (!ns.any (· == i)))) : Op2 prog w H₀ n (compareOp .NotIn) (.int i) (.lst (ns.map D.int)) Q := by
  rintro A s av v u Q' E rm hp ⟨t, rfl⟩ ⟨b, us, rfl, nb, l', r'⟩ k
  exact PyProof.Rows.notin_list_ints l'.isList r'.ints (k _ _ _ h rfl (Grow.refl s))

theorem Meth.lst {name : PySem.Str} {id : String} {ds : List D} (slot : PySem.Slot "list" name id) (ty : typeOf (.builtin id) = pure (.type "method_descriptor")) : Meth (prog := prog) (w := w) n name (.lst ds) id := by
  rintro A s av v pl Q' E ⟨a, vs, rfl, na, l, r⟩ h
  obtain ⟨o, ho, hc, hd, _⟩ := _root_.id l
  exact getMethod_builtin l.isList.typeIs F.plainAttrs_list slot ty (fun b e => by cases e; exact ⟨o, ho, hd⟩) h
theorem Meth.countL {ds : List D} : Meth (prog := prog) (w := w) n ("count" : PySem.Str) (.lst ds) "list.count" := Meth.lst F.slot_list_count F.type_list_count
theorem strs_eqAt {A : Around} {s : Shared} {ts : List PySem.Str} {vs : List Value} {x : PySem.Str} {t : Tok} (r : StrsAre vs ts) : ∀ y, y ∈ vs.toArray → EqAt A s y (.str x t) (isStrOf x y) :=
  fun y hy => (eq_isStrOf x t r y (by simpa using hy)).at A s
theorem countP_isStrOf (x : PySem.Str) : ∀ {vs : List Value} {ts : List PySem.Str}, StrsAre vs ts → vs.countP (isStrOf x) = ts.count x
  | _, _, .nil => rfl
  | _, _, .cons n u h => by
    rw [List.countP_cons, List.count_cons, countP_isStrOf x h]
    rfl
theorem OpL.countL {ts : List PySem.Str} {x : PySem.Str} (h : Q (.int (ts.count x : Nat))) : OpL prog w H₀ n (fun vs => call (.builtin "list.count") vs) [.lst (ts.map D.str), .str x] Q := by
  rintro A s av vs Q' E rm hp ⟨v, _, rfl, ⟨a, us, rfl, na, l, r⟩, u, _, rfl, ⟨t', rfl⟩, rfl⟩ k
  obtain ⟨⟨cls, dd, data, sl⟩, ho, hc, hdd, n1, hd⟩ := id l
  simp only at hc hd
  subst hc hd
  refine call_meets F.slot_list_count l.isList.typeIs F.entry_list_count (F.args_list_count_2 _ _) (list_countAt a _ _ _ _ _ (isStrOf x)) ⟨ho, strs_eqAt r.strs, ?_⟩
  have e : us.toArray.toList.countP (isStrOf x) = ts.count x := countP_isStrOf x r.strs
  show Q' (.int (us.toArray.toList.countP (isStrOf x) : Nat) s.toks) _
  rw [e]
  exact k _ _ _ h ⟨_, rfl⟩ (Grow.tok s _)
end
end Mine
end
section
open PySem PySem.W PySem.Calls PyProof.Rows

namespace Mine
section
variable {prog : Program} {w : World} {H₀ : Heap} {n : Nat} {σ : Store} {sc : Scope} {Q : D → Prop}

/-- dict data -/
abbrev KD := List (PySem.Str × D)
def D.dict (l : KD) : D := .dct (l.map (·.1)) (l.map (·.2))
def Slot.dict (a : Addr) (l : KD) : Slot := .ownd a (l.map (·.1)) (l.map (·.2))
def atD (l : KD) (k : PySem.Str) : Option D := (l.find? fun p => p.1 = k).map (·.2)
def putD' (l : KD) (k : PySem.Str) (d : D) : KD := if l.any (fun p => p.1 = k) then l.map (fun p => if p.1 = k then (p.1, d) else p) else l ++ [(k, d)]

theorem pairs_find {av : Addr → Prop} {h : Heap} {k : PySem.Str} : ∀ {kvs : List (PySem.Str × Value)} {l : KD}, kvs.map (·.1) = l.map (·.1) → RelL prog w av h (l.map (·.2)) (kvs.map (·.2)) →
    (atD l k = none ∧ valueAt kvs k = none) ∨ ∃ d v, atD l k = some d ∧ valueAt kvs k = some v ∧ Rel prog w av h d v
  | [], [], _, _ => .inl ⟨rfl, rfl⟩
  | [], p :: l, e, _ => by cases e
  | q :: kvs, [], e, _ => by cases e
  | (x, v) :: kvs, (y, d) :: l, e, ⟨v', r, e', z, zs⟩ => by
    rw [List.map_cons] at e'
    obtain ⟨rfl, rfl⟩ := List.cons.inj e'
    obtain ⟨e1, e2⟩ := List.cons.inj e
    have e1 : x = y := e1
    subst e1
    by_cases hx : x = k
    · subst hx
      exact .inr ⟨d, v, by simp [atD], by simp [valueAt], z⟩
    · have := pairs_find (k := k) e2 zs
      have e3 : atD ((x, d) :: l) k = atD l k := by simp [atD, hx]
      have e4 : valueAt ((x, v) :: kvs) k = valueAt kvs k := by simp [valueAt, hx]
      rw [e3, e4]; exact this

theorem any_keys {α β : Type} (k : PySem.Str) : ∀ {l : List (PySem.Str × α)} {l' : List (PySem.Str × β)}, l.map (·.1) = l'.map (·.1) → (l.any fun p => decide (p.1 = k)) = l'.any fun p => decide (p.1 = k)
  | [], [], _ => rfl
  | [], p :: l, e => by cases e
  | q :: kvs, [], e => by cases e
  | (x, v) :: kvs, (y, d) :: l, e => by
    obtain ⟨e1, e2⟩ := List.cons.inj e
    have e1 : x = y := e1
    subst e1
    rw [List.any_cons, List.any_cons, any_keys k e2]
theorem stored_keys {k : PySem.Str} {v : Value} {d : D} {kvs : List (PySem.Str × Value)} {l : KD} (e : kvs.map (·.1) = l.map (·.1)) : (stored kvs k v).map (·.1) = (putD' l k d).map (·.1) := by
  unfold stored putD'
  rw [any_keys k e]
  split
  · have e1 : (kvs.map fun kv => if kv.1 = k then (kv.1, v) else kv).map (·.1) = kvs.map (·.1) := keys_map_store kvs k v
    have e2 : (l.map fun p => if p.1 = k then (p.1, d) else p).map (·.1) = l.map (·.1) := by
      rw [List.map_map]; apply List.map_congr_left; intro p _; show (if p.1 = k then (p.1, d) else p).1 = p.1; split <;> rfl
    rw [e1, e2, e]
  · rw [List.map_append, List.map_append, e]; rfl
theorem map_rel {av : Addr → Prop} {h : Heap} {k : PySem.Str} {v : Value} {d : D} (z : Rel prog w av h d v) : ∀ {kvs : List (PySem.Str × Value)} {l : KD}, kvs.map (·.1) = l.map (·.1) → RelL prog w av h (l.map (·.2)) (kvs.map (·.2)) →
    RelL prog w av h ((l.map fun p => if p.1 = k then (p.1, d) else p).map (·.2)) ((kvs.map fun kv => if kv.1 = k then (kv.1, v) else kv).map (·.2))
  | [], [], _, _ => rfl
  | [], p :: l, e, _ => by cases e
  | q :: kvs, [], e, _ => by cases e
  | (x, u) :: kvs, (y, d') :: l, e, ⟨v', r, e', zu, zs⟩ => by
    rw [List.map_cons] at e'
    obtain ⟨rfl, rfl⟩ := List.cons.inj e'
    obtain ⟨e1, e2⟩ := List.cons.inj e
    have e1 : x = y := e1
    subst e1
    refine ⟨_, _, rfl, ?_, map_rel z e2 zs⟩
    by_cases hx : x = k
    · simp only [hx, if_true]; exact z
    · simp only [hx, if_false]; exact zu
theorem stored_rel {av : Addr → Prop} {h : Heap} {k : PySem.Str} {v : Value} {d : D} {kvs : List (PySem.Str × Value)} {l : KD} (e : kvs.map (·.1) = l.map (·.1)) (zs : RelL prog w av h (l.map (·.2)) (kvs.map (·.2))) (z : Rel prog w av h d v) :
    RelL prog w av h ((putD' l k d).map (·.2)) ((stored kvs k v).map (·.2)) := by
  unfold stored putD'
  rw [any_keys k e]
  split
  · exact map_rel z e zs
  · rw [List.map_append, List.map_append]; exact zs.append (.one z)

theorem strKey {k : PySem.Str} {t : Tok} : (PySem.strKind prog w).is k (.str k t) = true := strKind_is prog w k t

theorem OpI.dict {l : KD} {k : PySem.Str} {d : D} (hk : atD l k = some d) (h : Q d) : OpI prog w H₀ n (D.dict l) (.str k) Q := by
  rintro A s av v u Q' E rm hp ⟨a, kvs, ep, rfl, na, y, m, hks, r⟩ ⟨t', rfl⟩ c
  obtain ⟨d', v, e1, e2, z⟩ : ∃ d v, atD l k = some d ∧ valueAt kvs k = some v ∧ Rel prog w av s.heap d v := by
    rcases pairs_find (k := k) hks r with ⟨e, _⟩ | x
    · rw [hk] at e; cases e
    · exact x
  rw [hk] at e1; cases e1
  refine ⟨"dict", _, m.dictOf.typeIs, F.slot_dict_getitem.lookup, wpAny_getItem_of (knd := PySem.strKind prog w) (k := k) strKey m.dictOf.mapOf e2 (c _ _ _ h z (Grow.tok s _))⟩
theorem Op2.inD {l : KD} {k : PySem.Str} (h : Q (.bool (atD l k).isSome)) : Op2 prog w H₀ n (compareOp .In) (.str k) (D.dict l) Q := by
  rintro A s av v u Q' E rm hp ⟨t', rfl⟩ ⟨a, kvs, ep, rfl, na, y, m, hks, r⟩ c
  refine wpAny_in_of (knd := PySem.strKind prog w) (k := k) strKey y m.dictOf.mapOf (c _ _ (.bool (atD l k).isSome) h ?_ (Grow.tok s _))
  rcases pairs_find (k := k) hks r with ⟨e, e'⟩ | ⟨d, v, e, e', _⟩ <;> (rw [e, e']; rfl)

theorem Meth.dict {name : PySem.Str} {id : String} {l : KD} (slot : PySem.Slot "dict" name id) (ty : typeOf (.builtin id) = pure (.type "method_descriptor")) : Meth (prog := prog) (w := w) n name (D.dict l) id := by
  rintro A s av v pl Q' E ⟨a, kvs, ep, rfl, na, y, m, hks, r⟩ h
  exact getMethod_builtin m.dictOf.typeIs F.plainAttrs_dict slot ty m.dictOf.mapOf.noDict h
theorem Meth.items {l : KD} : Meth (prog := prog) (w := w) n ("items" : PySem.Str) (D.dict l) "dict.items" := Meth.dict F.slot_dict_items F.type_dict_items
theorem Meth.values {l : KD} : Meth (prog := prog) (w := w) n ("values" : PySem.Str) (D.dict l) "dict.values" := Meth.dict F.slot_dict_values F.type_dict_values
theorem Meth.keys {l : KD} : Meth (prog := prog) (w := w) n ("keys" : PySem.Str) (D.dict l) "dict.keys" := Meth.dict F.slot_dict_keys F.type_dict_keys

theorem OpL.items {l : KD} (h : Q (.items (l.map (·.1)) (l.map (·.2)))) : OpL prog w H₀ n (fun vs => call (.builtin "dict.items") vs) [D.dict l] Q := by
  rintro A s av vs Q' E rm hp ⟨v, _, rfl, ⟨a, kvs, ep, rfl, na, y, m, hks, r⟩, rfl⟩ k
  refine call_meetsIn F.slot_dict_items m.dictOf.typeIs F.entry_dict_items (F.args_dict_items_1 _) (meets_dict_items (PySem.strKind prog w) a y) ⟨⟨_, m.dictOf⟩, ?_⟩
  have kp : ∀ b o, s.heap.get? b = some o → (s.heap.push { cls := .type "dict_items", data := .fields #[.ref a] }).get? b = some o := fun b o e => Heap.get?_push_of_some _ e
  exact k _ { s with heap := s.heap.push { cls := .type "dict_items", data := .fields #[.ref a] } } _ h ⟨_, a, kvs, ep, rfl, hp.fresh (get_size _), ⟨_, Heap.get?_push_size _ rfl, rfl, rfl⟩, na, y, m.keep kp, hks, r.keeps kp⟩ (Grow.push s _ s.toks)
theorem OpL.values {l : KD} (h : Q (.vals (l.map (·.1)) (l.map (·.2)))) : OpL prog w H₀ n (fun vs => call (.builtin "dict.values") vs) [D.dict l] Q := by
  rintro A s av vs Q' E rm hp ⟨v, _, rfl, ⟨a, kvs, ep, rfl, na, y, m, hks, r⟩, rfl⟩ k
  refine call_meetsIn F.slot_dict_values m.dictOf.typeIs F.entry_dict_values (F.args_dict_values_1 _) (meets_dict_values (PySem.strKind prog w) a y) ⟨⟨_, m.dictOf⟩, ?_⟩
  have kp : ∀ b o, s.heap.get? b = some o → (s.heap.push { cls := .type "dict_values", data := .fields #[.ref a] }).get? b = some o := fun b o e => Heap.get?_push_of_some _ e
  exact k _ { s with heap := s.heap.push { cls := .type "dict_values", data := .fields #[.ref a] } } _ h ⟨_, a, kvs, ep, rfl, hp.fresh (get_size _), ⟨_, Heap.get?_push_size _ rfl, rfl, rfl⟩, na, y, m.keep kp, hks, r.keeps kp⟩ (Grow.push s _ s.toks)
theorem OpL.keys {l : KD} (h : Q (.keys (l.map (·.1)) (l.map (·.2)))) : OpL prog w H₀ n (fun vs => call (.builtin "dict.keys") vs) [D.dict l] Q := by
  rintro A s av vs Q' E rm hp ⟨v, _, rfl, ⟨a, kvs, ep, rfl, na, y, m, hks, r⟩, rfl⟩ k
  refine call_meetsIn F.slot_dict_keys m.dictOf.typeIs F.entry_dict_keys (F.args_dict_keys_1 _) (kdl_meets_keys (PySem.strKind prog w) a y) ⟨⟨_, m.dictOf⟩, ?_⟩
  have kp : ∀ b o, s.heap.get? b = some o → (s.heap.push { cls := .type "dict_keys", data := .fields #[.ref a] }).get? b = some o := fun b o e => Heap.get?_push_of_some _ e
  exact k _ { s with heap := s.heap.push { cls := .type "dict_keys", data := .fields #[.ref a] } } _ h ⟨_, a, kvs, ep, rfl, hp.fresh (get_size _), ⟨_, Heap.get?_push_size _ rfl, rfl, rfl⟩, na, y, m.keep kp, hks, r.keeps kp⟩ (Grow.push s _ s.toks)

theorem OpL.range {m : Nat} (h : Q (.rng m)) : OpL prog w H₀ n (fun vs => call (.type "range") vs) [.int m] Q := by
  rintro A s av vs Q' E rm hp ⟨v, _, rfl, ⟨t, rfl⟩, rfl⟩ k
  refine call_range_1 ?_
  exact k _ { s with heap := s.heap.push { cls := .type "range", data := .fields #[.int 0 s.toks, .int m t, .int 1 (s.toks + 1)] }, toks := s.toks + 1 + 1 } _ h ⟨_, _, _, _, rfl, hp.fresh (get_size _), IsRange.new ..⟩ (Grow.push s _ _)

theorem asRefs_rel {av : Addr → Prop} {h : Heap} {lo : Addr} {kvs : List (PySem.Str × Value)} {l : KD} {as : List Addr} (hlo : ∀ a, lo < a → ¬ av a) (e : kvs.map (·.1) = l.map (·.1)) (r : RelL prog w av h (l.map (·.2)) (kvs.map (·.2)))
    (hl : as.length = kvs.length) (g : KdxG (PySem.strKind prog w) kvs lo h as) : RelL prog w av h (l.map fun p => D.tup [.str p.1, p.2]) (as.map Value.ref) := by
  have key : ∀ (k : Nat) , k ≤ as.length → RelL prog w av h ((l.drop (as.length - k)).map fun p => D.tup [.str p.1, p.2]) ((as.drop (as.length - k)).map Value.ref) := by
    have hll : l.length = as.length := by have := congrArg List.length e; simp at this; omega
    intro k
    induction k with
    | zero => intro _; rw [Nat.sub_zero, List.drop_eq_nil_of_le (by omega), List.drop_eq_nil_of_le (by omega)]; exact rfl
    | succ k ih =>
      intro hk
      have hj : as.length - (k + 1) < as.length := by omega
      have hj' : as.length - (k + 1) < l.length := by omega
      have e1 : as.length - (k + 1) + 1 = as.length - k := by omega
      rw [List.drop_eq_getElem_cons hj, List.drop_eq_getElem_cons hj', List.map_cons, List.map_cons, e1]
      refine ⟨_, _, rfl, ?_, ih (by omega)⟩
      obtain ⟨key, k', x, hkv, hkey, ht⟩ := g.pairs _ _ (List.getElem?_eq_getElem hj)
      have ek : k' = (l[as.length - (k + 1)]).1 := by
        have h1 := congrArg (fun q => q[as.length - (k + 1)]?) e
        simp only [List.getElem?_map, hkv, List.getElem?_eq_getElem hj', Option.map_some] at h1
        exact Option.some.inj h1
      subst ek
      obtain ⟨d, hd, z⟩ := r.get' (i := as.length - (k + 1)) (v := x) (by rw [List.getElem?_map, hkv]; rfl)
      have ed : d = (l[as.length - (k + 1)]).2 := by
        rw [List.getElem?_map, List.getElem?_eq_getElem hj'] at hd
        exact (Option.some.inj hd).symm
      subst ed
      obtain ⟨t, rfl⟩ := is_str hkey
      exact ⟨_, _, rfl, hlo _ (g.above _ (List.getElem_mem hj)), ⟨_, ht, rfl, _, rfl⟩, _, _, rfl, ⟨t, rfl⟩, _, _, rfl, z, rfl⟩
  have := key as.length (Nat.le_refl _)
  simpa using this

theorem OpL.listItems {l : KD} (hsz : l.length ≤ sizeLine) (h : Q (.lst (l.map fun p => D.tup [.str p.1, p.2]))) : OpL prog w H₀ n (fun vs => call (.type "list") vs) [.items (l.map (·.1)) (l.map (·.2))] Q := by
  rintro A s av vs Q' E rm hp ⟨v, _, rfl, ⟨b, a, kvs, ep, rfl, nb, hv, na, y, m, hks, r⟩, rfl⟩ k
  have hlen : kvs.length = l.length := by have := congrArg List.length hks; simpa using this
  refine kdx_call (knd := PySem.strKind prog w) (kvs := kvs) (ep := ep) rm.hd hv m (by rw [hlen]; exact hsz) fun h' tk acc c as hk hS hl g hacc => ?_
  have hnew : s.heap.get? s.heap.objs.size = none := get_size _
  have hlo : ∀ a, s.heap.objs.size < a → ¬ av a := fun a ha q => by
    obtain ⟨o, e⟩ := hp.live a q
    exact absurd (Heap.lt_size e) (Nat.not_lt.mpr (Nat.le_of_lt ha))
  refine k (.ref s.heap.objs.size) { s with heap := h', toks := tk } _ h ⟨_, as.map Value.ref, rfl, hp.fresh hnew, ⟨_, hS, rfl, rfl, c, by rw [← hacc]⟩, ?_⟩ (Grow.mk s h' tk hk)
  exact asRefs_rel hlo hks (r.keeps hk) hl g
end
end Mine
end
section
open PySem PySem.W PySem.Calls PyProof.Rows

namespace Mine
namespace FKS
def bound : Obj := { cls := .type "builtin_function_or_method", data := .fields #[.builtin "dict.fromkeys", .type "dict"] }
theorem type_fk : typeOf (.builtin "dict.fromkeys") = pure (.type "classmethod_descriptor") := by show builtinType _ = _; rw [builtinType_eq_fast]; kernel_rfl
theorem entry_fk : entryFor table "dict.fromkeys" = some Builtin.«dict.fromkeys» := entryFor_of_tree (by kernel_rfl)
theorem entry_loop : entryFor table "dict.fromkeys.loop" = some Builtin.«dict.fromkeys.loop» := entryFor_of_tree (by kernel_rfl)
theorem plain_loop : plainId "dict.fromkeys.loop" = true := by decide +kernel
theorem quiet_fk {as : Args} : (Code.builtin "dict.fromkeys" as).quiet = true := Code.quiet_builtin _ (by decide +kernel)
theorem type_dict : isType (.type "dict") = pure true := by first | rfl | kernel_rfl | (unfold isType; rw [isSubtype_type]; kernel_rfl)
theorem owner_fk : (kfb_private% "ownerAndName") "dict.fromkeys" = ("dict", "fromkeys") := by first | decide +kernel | kernel_rfl
theorem check_fk {v : Value} : checkBoundCall "dict.fromkeys" ⟨[.type "dict", v], []⟩ = pure () := by first | kernel_rfl | rfl
theorem typeCall_dict_0 : checkTypeCall "dict" ⟨[], []⟩ = pure () := by kernel_rfl
theorem newCall_dict_0 : checkBuiltinCall "dict.__new__" ⟨[.type "dict"], []⟩ = pure () := by kernel_rfl
theorem args_dict_init_1 (a : Value) : argsOk "dict.__init__" ⟨[a], []⟩ := by
  first | exact PySem.F.args_dict_init_1 a | (unfold argsOk; kernel_rfl)
section
variable {prog : Program} {w : World} {M : Model} {A : Around} {E : Value → Shared → Prop} {s : Shared} {K : Frag}
theorem run_get {P : Fin → Shared → Prop} (h : P (.done (.ret (.ref s.heap.objs.size))) { s with heap := s.heap.push bound }) :
    wpAny M A (Builtin.«classmethod_descriptor.__get__» ⟨[.builtin "dict.fromkeys", .none, .type "dict"], []⟩) P E s := by
  unfold Builtin.«classmethod_descriptor.__get__»
  refine wpAny_bind (wpAny_of_eq (a := (.builtin "dict.fromkeys", none, some (.type "dict"))) (by first | rfl | kernel_rfl) ?_)
  simp only [owner_fk]
  refine wpAny_bind (wpAny_of_eq (a := .type "dict") rfl ?_)
  refine wpAny_bind (wpAny_of_eq (a := true) type_dict ?_)
  refine KFB.if_not rfl ?_
  refine wpAny_bind (wpAny_of_eq (a := true) PySem.F.kt_sub_dict ?_)
  refine KFB.if_not rfl ?_
  exact wpAny_bind (wpAny_newObj_type (wpAny_pure h))
theorem getm {pl : Sem Bool} {Q : Value × List Value → Shared → Prop} (X : K.In s.heap)
    (e : findCls K (.type "dict") (.type "type") (PySem.Str.ofString "fromkeys") = some (.get (.builtin "classmethod_descriptor.__get__") (.builtin "dict.fromkeys") .none (.type "dict")))
    (h : Q (.ref s.heap.objs.size, []) { s with heap := s.heap.push bound, toks := s.toks + 1 }) :
    wpAny (model prog w) A (getMethod (.type "dict") (PySem.Str.ofString "fromkeys") pl) Q E s := by
  have hstub : opaqueClassAbove (.type "dict") = pure none := by unfold opaqueClassAbove; dsimp only; rw [show Manifest.isStub "dict" = false by decide +kernel]; rfl
  have ht : typeOf (.type "dict") = pure (.type "type") := by first | rfl | kernel_rfl
  have L0 : Looks (model prog w) s.heap (typeOf (.type "dict")) (.type "type") := Looks.of_pure ht
  have hg : findIn K (.type "type") "__getattribute__" = some (some (.builtin "type.__getattribute__")) := type_tga
  unfold getMethod specialOf
  refine wpAny_bind (wpAny_bind (L0.here ((looks_findIn X hg).here ?_)))
  dsimp only
  rw [if_pos canon_tga]
  refine wpAny_bind (wpAny_mono (Q := fun v => Q (v, [])) (E := E) ?_ (fun _ _ z => wpAny_pure z) fun _ _ z => z)
  have LO : Looks (model prog w) s.heap (opaqueClassAbove (.type "dict")) none := Looks.of_pure hstub
  refine cls_open X LO L0 hg (looks_hook X (r := none) (by rfl)) (by show subIn K _ _ = _; rfl) e ?_
  show wpAny _ _ (holding [.builtin "dict.fromkeys"] (call (.builtin "classmethod_descriptor.__get__") [.builtin "dict.fromkeys", .none, .type "dict"]) >>= fun v => ret v) _ _ _
  exact wpAny_bind (wpAny_holding (wpAny_call_entry KFB.slot_get type_fk KFB.entry_get (run_get ⟨_, rfl, wpAny_pure (wpAny_pure h)⟩) (KFB.args_get _ _ _)))
theorem callWith_fields {pos : Pos} {u : Addr} {first : List Value} {args : List (Bool × Sem Value)} {Q : Value → Shared → Prop} (hplain : args.any (·.1) = false)
    (h : wpAny M A (evalArgs (.ref u) true args []) (fun x s₁ => s₁.heap.get? u = some bound ∧ wpAny M A (call (.ref u) (first ++ x.pos) x.kw) Q E s₁) E s) : wpAny M A (callWith pos (.ref u) first args []) Q E s := by
  unfold callWith
  refine wpAny_bind (wpAny_holding (wpAny_mono h (fun x s₁ h₁ => wpAny_bind (wpAny_standAt ?_)) fun _ _ x => x))
  obtain ⟨ho, hcall⟩ := h₁
  simp only [hplain, List.any_nil, Bool.or_false]
  refine wpAny_bind (m := keeperOf (.ref u)) ?_
  unfold keeperOf
  refine wpAny_bind (wpAny_load ho ?_)
  simp only [bound, show (Value.type "builtin_function_or_method" != Value.type "method") = true by decide, show (Value.type "builtin_function_or_method" == Value.type "builtin_function_or_method" || Value.type "builtin_function_or_method" == Value.type "method-wrapper") = true by decide, if_true]
  refine wpAny_pure ?_
  exact wpAny_bind (wpAny_mono hcall (fun r s₂ hr => wpAny_bind (wpAny_holding (wpAny_point (wpAny_pure hr)))) fun _ _ x => x)
/-- dict() -/
theorem code_dict_new0 {Q₁ : Value → Shared → Prop} (h : Q₁ (.ref s.heap.objs.size) { s with heap := s.heap.push { cls := .type "dict", data := .dict #[] } }) :
    codeAny (model prog w) A (.call (.builtin "dict.__new__") ⟨[.type "dict"], []⟩) (wants Q₁ E) s := by
  refine codeAny_call_builtin PySem.F.kt_plain_dict_new PySem.F.kt_entry_dict_new (wpAny_of_eq newCall_dict_0 ?_)
  have hsub := PySem.F.kt_sub_dict
  have hmro := PySem.F.kt_mro_dict
  obtain ⟨hp, g, d, tk, os⟩ := s
  unfold Builtin.«dict.__new__»
  wp_walk
  exact h
theorem call_dict0 {Q : Value → Shared → Prop} (h : Q (.ref s.heap.objs.size) { s with heap := s.heap.push { cls := .type "dict", data := .dict #[] } }) :
    wpAny (model prog w) A (call (.type "dict") []) Q E s := by
  refine callType_codes (Q₁ := fun obj s₁ => obj = .ref s.heap.objs.size ∧ s₁ = { s with heap := s.heap.push { cls := .type "dict", data := .dict #[] } }) PySem.F.kt_called_dict typeCall_dict_0 PySem.F.entry_dict_init (code_dict_new0 ⟨rfl, rfl⟩) ?_
  rintro obj s₁ ⟨rfl, rfl⟩
  have hnew : (s.heap.push { cls := .type "dict", data := .dict #[] }).DictOf (PySem.strKind prog w) s.heap.objs.size [] := Heap.DictOf.new s.heap
  refine ⟨hnew.typeIs, args_dict_init_1 _, ?_⟩
  unfold Builtin.«dict.__init__»
  refine wpAny_bind ?_
  unfold Builtin.Dict.selfAndRest
  refine wpAny_bind (wpAny_notOrdered_dict hnew.typeIs ?_)
  show wpAny _ _ (pure (s.heap.objs.size, ([] : List Value))) _ _ _
  refine wpAny_pure ?_
  show wpAny _ _ (Builtin.Dict.updateCommon "dict.__init__" "dict" s.heap.objs.size [] []) _ _ _
  exact wpAny_bind (wpAny_pure (wpAny_pure ⟨rfl, h⟩))

theorem loop {I l D : Addr} {us : List Value} {ts : List PySem.Str} {R : Result → Shared → Prop} (hh : A.handled = none) (hD : D ≠ I) (hl : D ≠ l) (hIl : l ≠ I) (hS : StrsAre us ts) (hsz : ts.length ≤ sizeLine) (h₂ : Heap) :
    ∀ (k i : Nat) (s : Shared) (kvs : List (PySem.Str × Value)), ts.length - i = k → i ≤ ts.length → s.heap.IsListIter I l i → s.heap.IsList l us.toArray → s.heap.DictOf (PySem.strKind prog w) D kvs → kvs.length ≤ i →
      (∀ b o, b ≠ D → b ≠ I → h₂.get? b = some o → s.heap.get? b = some o) →
      (∀ h' tk, h'.DictOf (PySem.strKind prog w) D ((ts.drop i).foldl (fun acc k => stored acc k .none) kvs) → (∀ b o, b ≠ D → b ≠ I → h₂.get? b = some o → h'.get? b = some o) → R (.ok (.ret (.ref D))) { s with heap := h', toks := tk }) →
      codeAny (model prog w) A (.builtin "dict.fromkeys.loop" ⟨[.ref D, .ref I, .none], []⟩) R s := by
  have hlen : us.length = ts.length := hS.length
  intro k
  induction k with
  | zero =>
    intro i s kvs hk hi hit hL hd hn hb hR
    have hin : i = ts.length := by omega
    subst hin
    refine codeAny_builtin entry_loop ?_
    rw [Around.under_plainId plain_loop _]
    show wpAny _ A.in1 (pyNext (.ref I) >>= _) _ _ s
    refine wpAny_bind (wpAny_pyNext_list_end hh hit hL (by simp [hlen]) fun h' he => ?_)
    rw [List.drop_length, List.foldl_nil] at hR
    exact wpAny_pure (hR h' s.toks (hd.extBut he hD) fun b o n1 n2 e => he b o n2 (hb b o n1 n2 e))
  | succ k ih =>
    intro i s kvs hk hi hit hL hd hn hb hR
    have hlt : i < ts.length := by omega
    have hltu : i < us.length := by omega
    refine codeAny_builtin entry_loop ?_
    rw [Around.under_plainId plain_loop _]
    show wpAny _ A.in1 (pyNext (.ref I) >>= _) _ _ s
    obtain ⟨x, t, hx, hxt⟩ : ∃ x t, us[i]? = some (.str x t) ∧ ts[i]? = some x := by
      have key : ∀ {us : List Value} {ts : List PySem.Str} (i : Nat), StrsAre us ts → i < us.length → ∃ x t, us[i]? = some (.str x t) ∧ ts[i]? = some x := by
        intro us ts i hS
        induction hS generalizing i with
        | nil => intro h; simp at h
        | cons x t r ih =>
          intro h
          cases i with
          | zero => exact ⟨x, t, rfl, rfl⟩
          | succ j => simpa using ih j (by simpa using h)
      exact key i hS hltu
    refine wpAny_bind (wpAny_pyNext_list_item hit hL (x := .str x t) (by simpa using hx) fun h' hit' hs' => ?_)
    have hd' := hd.sameBut hs' hD
    refine wpAny_bind (wpAny_typeOf (hd'.typeIs (s := { s with heap := h' })) ?_)
    refine KFB.if_so (by decide) ?_
    show wpAny _ A.in1 (holding [.str x t] (dictSet D (.str x t) .none) >>= _) _ _ _
    refine wpAny_bind (wpAny_holding (wpAny_dictSet_pairs (knd := PySem.strKind prog w) (s := { s with heap := h' }) (k := x) (strKind_is prog w x t) hd' (fun h2 hd2 hs2 => ?_) (by omega)))
    refine wpAny_pure ⟨plainId_quiet plain_loop _, ih (i + 1) { s with heap := h2, toks := s.toks + 1 } (stored kvs x .none) (by omega) hlt ?_ ?_ hd2 ?_ ?_ fun h3 tk hd3 hb3 => ?_⟩
    · exact hit'.at fun o e => hs2.extBut _ o (Ne.symm hD) e
    · obtain ⟨o, ho, r⟩ := hL
      exact ⟨o, hs2.extBut _ o (Ne.symm hl) (hs'.extBut _ o hIl ho), r⟩
    · have := stored_length_le kvs x .none; omega
    · exact fun b o n1 n2 e => hs2.extBut b o n1 (hs'.extBut b o n2 (hb b o n1 n2 e))
    · refine hR h3 tk ?_ hb3
      rw [List.drop_eq_getElem_cons hlt, List.foldl_cons]
      have : ts[i] = x := by rw [List.getElem?_eq_getElem hlt] at hxt; exact Option.some.inj hxt
      rw [this]; exact hd3

theorem plain_fk : plainId "dict.fromkeys" = true := by decide +kernel
theorem run_fk {l : Addr} {us : List Value} {ts : List PySem.Str} {R : Result → Shared → Prop} (hh : A.handled = none) (hL : s.heap.IsList l us.toArray) (hS : StrsAre us ts) (hsz : ts.length ≤ sizeLine)
    (h : ∀ h' tk, h'.DictOf (PySem.strKind prog w) s.heap.objs.size (ts.foldl (fun acc k => stored acc k .none) []) → (∀ b o, s.heap.get? b = some o → h'.get? b = some o) → R (.ok (.ret (.ref s.heap.objs.size))) { s with heap := h', toks := tk }) :
    codeAny (model prog w) A (.builtin "dict.fromkeys" ⟨[.type "dict", .ref l], []⟩) R s := by
  refine codeAny_builtin entry_fk ?_
  rw [Around.under_plainId plain_fk _]
  have hlsz : l < s.heap.objs.size := by obtain ⟨o, ho, _⟩ := hL; exact Heap.lt_size ho
  unfold Builtin.«dict.fromkeys»
  refine wpAny_bind (wpAny_of_eq (a := true) type_dict ?_)
  refine KFB.if_not rfl ?_
  refine wpAny_bind (wpAny_of_eq (a := true) PySem.F.kt_sub_dict ?_)
  refine KFB.if_not rfl ?_
  refine KFB.if_not rfl ?_
  refine wpAny_bind (wpAny_rule (wpAny_bind (wpAny_pure ?_)))
  refine wpAny_bind (call_dict0 ?_)
  refine wpAny_holding ?_
  have hd0 : (s.heap.push { cls := .type "dict", data := .dict #[] }).DictOf (PySem.strKind prog w) s.heap.objs.size [] := Heap.DictOf.new s.heap
  have hL' : (s.heap.push { cls := .type "dict", data := .dict #[] }).IsList l us.toArray := hL.push _
  refine wpAny_bind (wpAny_typeOf (T := "list") (s := { s with heap := s.heap.push { cls := .type "dict", data := .dict #[] } }) hL'.typeIs ?_)
  refine wpAny_bind (wpAny_typeOf (T := "dict") (s := { s with heap := s.heap.push { cls := .type "dict", data := .dict #[] } }) hd0.typeIs ?_)
  refine KFB.if_not (by decide) ?_
  refine wpAny_bind (wpAny_typeOf (T := "dict") (s := { s with heap := s.heap.push { cls := .type "dict", data := .dict #[] } }) hd0.typeIs ?_)
  refine KFB.if_not (by decide) ?_
  refine wpAny_bind (wpAny_pyIter_list hL' ?_)
  have hz : (s.heap.push { cls := .type "dict", data := .dict #[] }).objs.size = s.heap.objs.size + 1 := Heap.size_push ..
  refine wpAny_pure ⟨plainId_quiet plain_loop _, ?_⟩
  refine loop (I := (s.heap.push { cls := .type "dict", data := .dict #[] }).objs.size) (l := l) (D := s.heap.objs.size) (us := us) (ts := ts) hh (by rw [hz]; exact Nat.ne_of_lt (Nat.lt_succ_self _)) (Nat.ne_of_gt hlsz) (by rw [hz]; exact Nat.ne_of_lt (Nat.lt_succ_of_lt hlsz)) hS hsz s.heap ts.length 0
    { s with heap := (s.heap.push { cls := .type "dict", data := .dict #[] }).push { cls := .type "list_iterator", data := .fields #[.ref l, .int 0 0] } } [] rfl (Nat.zero_le _) ⟨_, Heap.get?_push_size _ rfl, rfl, rfl⟩ (hL'.push _) (hd0.push _) (Nat.le_refl _)
    (fun b o _ _ e => Heap.get?_push_of_some _ (Heap.get?_push_of_some _ e)) fun h' tk hd hb => ?_
  rw [List.drop_zero] at hd
  refine h h' tk hd fun b o e => hb b o (Nat.ne_of_lt (Heap.lt_size e)) (by rw [hz]; exact Nat.ne_of_lt (Nat.lt_succ_of_lt (Heap.lt_size e))) e
theorem call_of {x l : Addr} {us : List Value} {ts : List PySem.Str} {Q : Value → Shared → Prop} (ho : s.heap.get? x = some bound) (hh : A.handled = none) (hL : s.heap.IsList l us.toArray) (hS : StrsAre us ts) (hsz : ts.length ≤ sizeLine)
    (h : ∀ h' tk, h'.DictOf (PySem.strKind prog w) s.heap.objs.size (ts.foldl (fun acc k => stored acc k .none) []) → (∀ b o, s.heap.get? b = some o → h'.get? b = some o) → Q (.ref s.heap.objs.size) { s with heap := h', toks := tk }) :
    wpAny (model prog w) A (call (.ref x) [.ref l]) Q E s := by
  refine wpAny_call (codeAny_of_tree ?_)
  show wpAny _ A.in1 (callAny (.ref x) ⟨[.ref l], []⟩) _ _ s
  simp only [callAny]
  refine wpAny_bind (wpAny_load ho ?_)
  simp only [bound, show (Value.type "builtin_function_or_method" == Value.type "method" || Value.type "builtin_function_or_method" == Value.type "builtin_function_or_method" || Value.type "builtin_function_or_method" == Value.type "method-wrapper") = true by decide, if_true]
  refine KFB.if_so (by decide) ?_
  refine wpAny_bind (wpAny_of_eq (a := ()) check_fk ?_)
  refine wpAny_bind (wpAny_pure (wpAny_pure ?_))
  exact ⟨quiet_fk, run_fk hh hL hS hsz h⟩
end
end FKS

section
variable {prog : Program} {w : World} {H₀ : Heap} {n : Nat} {σ : Store} {sc : Scope} {Q : D → Prop} {K : Frag}

def fk (ts : List PySem.Str) : KD := ts.foldl (fun l k => putD' l k .none) []
theorem fk_keys : ∀ (ts : List PySem.Str) (kvs : List (PySem.Str × Value)) (l : KD), kvs.map (·.1) = l.map (·.1) → (ts.foldl (fun acc k => stored acc k .none) kvs).map (·.1) = (ts.foldl (fun l k => putD' l k .none) l).map (·.1)
  | [], _, _, e => e
  | t :: ts, kvs, l, e => by
    rw [List.foldl_cons, List.foldl_cons]
    exact fk_keys ts _ _ (stored_keys e)
theorem fk_rel {av : Addr → Prop} {h : Heap} : ∀ (ts : List PySem.Str) (kvs : List (PySem.Str × Value)) (l : KD), kvs.map (·.1) = l.map (·.1) → RelL prog w av h (l.map (·.2)) (kvs.map (·.2)) →
    RelL prog w av h ((ts.foldl (fun l k => putD' l k .none) l).map (·.2)) ((ts.foldl (fun acc k => stored acc k .none) kvs).map (·.2))
  | [], _, _, _, r => r
  | t :: ts, kvs, l, e, r => by
    rw [List.foldl_cons, List.foldl_cons]
    exact fk_rel ts _ _ (stored_keys e) (stored_rel e r rfl)

theorem Ev.fromkeys {np ap pos : Pos} {e : Expr} {Q : D → Prop} (X : K.In H₀) (hg : Glob H₀ ("dict" : PySem.Str) (.type "dict")) (hk : sc.names.lookup ("dict" : PySem.Str) = some .globalImplicit) (hbig : ∃ o, H₀.get? sysModules = some o)
    (hf : findCls K (.type "dict") (.type "type") (PySem.Str.ofString "fromkeys") = some (.get (.builtin "classmethod_descriptor.__get__") (.builtin "dict.fromkeys") .none (.type "dict")))
    (h : Ev prog w H₀ sc n σ e fun d => ∃ ts : List PySem.Str, d = .lst (ts.map D.str) ∧ ts.length ≤ sizeLine ∧ Q (D.dict (fk ts)))
    (he : ∀ env, ∃ pl, eval (.Call (.Attribute (.Name ("dict" : PySem.Str) np) (PySem.Str.ofString "fromkeys") ap) [e] [] pos) env = (do
      let ov ← eval (.Name ("dict" : PySem.Str) np) env
      standAt ap.atName
      let (f, first) ← holding [ov] (getMethod ov (PySem.Str.ofString "fromkeys") pl)
      callWith pos f first (backTo pos (starEach [e] env)) []) := by intro _; exact ⟨_, rfl⟩)
    (hs : ∀ env, starEach [e] env = [(false, eval e env)] := by intro _; rfl) :
    Ev prog w H₀ sc n σ (.Call (.Attribute (.Name ("dict" : PySem.Str) np) (PySem.Str.ofString "fromkeys") ap) [e] [] pos) Q := by
  intro env A s av Q' E ok rm rd k
  obtain ⟨pl, e1⟩ := he env
  refine MethodCall_ (pl := pl) (hg.load ok rd.base hk ?_ (by decide)) e1
  have XS : K.In s.heap := X.keeps rd.base
  refine FKS.getm XS hf ?_
  have g₁ : Grow s { s with heap := s.heap.push FKS.bound, toks := s.toks + 1 } := Grow.push s _ _
  have hx : (s.heap.push FKS.bound).get? s.heap.objs.size = some FKS.bound := Heap.get?_push_size _ rfl
  show wpAny _ _ (callWith pos (.ref s.heap.objs.size) [] (backTo pos (starEach [e] env)) []) _ _ _
  rw [hs]
  refine FKS.callWith_fields (by rfl) (evalArgs_plain (spliced_cons (h env A _ av _ E ok rm (rd.keeps g₁.get) fun v s₂ d q z g₂ => spliced_nil ⟨g₂.get _ _ hx, ?_⟩)))
  obtain ⟨ts, rfl, hsz, q⟩ := q
  obtain ⟨l, us, rfl, nl, hl, r⟩ := z
  have rd₂ := (rd.keeps g₁.get).keeps g₂.get
  refine FKS.call_of (g₂.get _ _ hx) rm.hd hl.isList r.strs hsz fun h' tk hd hkp => ?_
  obtain ⟨ep, hd⟩ := hd.dictAt
  refine k (.ref s₂.heap.objs.size) { s₂ with heap := h', toks := tk } _ q ⟨s₂.heap.objs.size, _, ep, rfl, rd₂.hp.fresh (get_size _), ?_, hd, fk_keys ts [] [] rfl, fk_rel ts [] [] rfl rfl⟩ ((g₁.trans g₂).trans (Grow.mk s₂ h' tk hkp))
  have : sysModules < s₂.heap.objs.size := by
    obtain ⟨o, ho⟩ := hbig
    exact Heap.lt_size (rd₂.base _ _ ho)
  rw [beq_eq_false_iff_ne]
  exact Nat.ne_of_gt this
end
end Mine
end
section
open PySem PySem.W PySem.Calls PyProof.Rows

namespace Mine
section
variable {prog : Program} {w : World} {H₀ : Heap} {sc : Scope} {n : Nat} {σ : Store} {cap : PySem.Str → Prop}

/-- an iterator of several objects, whose items may hang on the names' values -/
structure ItG (prog : Program) (w : World) (H₀ : Heap) (A : Around) (env : Env) (O : Addr → Prop) (av : Addr → Prop) (m : Nat) (J : Nat → Store → Prop) (X : Nat → Store → D → Prop) (tt : Expr → Prop) (P : Nat → Heap → Prop) (Mid : Nat → Value → Heap → Prop) (I : Addr) : Prop where
  loc : ∀ i h h', P i h → (∀ b o, O b → h.get? b = some o → h'.get? b = some o) → P i h'
  live : ∀ i h, P i h → ∀ b, O b → ∃ o, h.get? b = some o
  midlive : ∀ i v h, Mid i v h → ∀ b, O b → ∃ o, h.get? b = some o
  next : ∀ i (s : Shared) (σ' : Store) (tv' : Addr → Prop) (Q : Option Value → Shared → Prop) (E : Value → Shared → Prop), i < m → J i σ' → P i s.heap → Inv prog w H₀ NoCap env (fun b => av b ∨ O b) tv' σ' s.heap →
    (∀ v h' tk d, X i σ' d → Rel prog w (fun b => (av b ∨ O b) ∨ tv' b) h' d v → Mid i v h' → (∀ b o, ¬ O b → s.heap.get? b = some o → h'.get? b = some o) → Q (some v) { s with heap := h', toks := tk }) → wpAny (model prog w) A (pyNext (.ref I)) Q E s
  go : ∀ t i v (s : Shared) (Q : Unit → Shared → Prop) (E : Value → Shared → Prop), tt t → Mid i v s.heap →
    (∀ h', P (i + 1) h' → (∀ b o, ¬ O b → s.heap.get? b = some o → h'.get? b = some o) → Q () { s with heap := h' }) → wpAny (model prog w) A (letOwnedTupleGo t (.ref I) v) Q E s
  done : ∀ (s : Shared) (σ' : Store) (tv' : Addr → Prop) (Q : Option Value → Shared → Prop) (E : Value → Shared → Prop), J m σ' → P m s.heap → Inv prog w H₀ NoCap env (fun b => av b ∨ O b) tv' σ' s.heap →
    (∀ h' tk, (∀ b o, ¬ O b → s.heap.get? b = some o → h'.get? b = some o) → Q none { s with heap := h', toks := tk }) → wpAny (model prog w) A (pyNext (.ref I)) Q E s

theorem SlotRel.butO {av O : Addr → Prop} {h h' : Heap} {sl : Slot} {v : Value} (x : SlotRel prog w av h sl v) (hb : ∀ b, O b → av b) (hne : ∀ b, O b → sl.addr? ≠ some b) (hk : ∀ a o, ¬ O a → h.get? a = some o → h'.get? a = some o) :
    SlotRel prog w av h' sl v := by
  have k : ∀ a o, ¬ av a → h.get? a = some o → ¬ av a ∧ h'.get? a = some o := fun a o n e => ⟨n, hk a o (fun q => n (hb a q)) e⟩
  cases sl with
  | val d => exact Rel.imp k _ _ x
  | own a ds => exact ⟨x.1, let ⟨vs, l, r⟩ := x.2; ⟨vs, l.at fun o e => hk a o (fun q => hne a q rfl) e, RelL.imp k _ _ r⟩⟩
  | ownd a ks ds => exact ⟨x.1, x.2.1, let ⟨kvs, ep, l, e, r⟩ := x.2.2; ⟨kvs, ep, l.at' fun o e => hk a o (fun q => hne a q rfl) e, e, RelL.imp k _ _ r⟩⟩

theorem Inv.ofButO {env : Env} {av tv O : Addr → Prop} {h h' : Heap} (i : Inv prog w H₀ NoCap env av tv σ h) (hO : ∀ b, O b → av b) (hH : ∀ b, O b → H₀.get? b = none) (hl : ∀ b, av b → ∃ o, h'.get? b = some o)
    (hk : ∀ b o, ¬ O b → h.get? b = some o → h'.get? b = some o) : Inv prog w H₀ NoCap env av tv σ h' := by
  have nt : ∀ b, tv b → ¬ O b := fun b q w => i.apart b q (hO b w)
  refine ⟨⟨fun b o e => hk b o (fun w => by rw [hH b w] at e; cases e) (i.rd.base b o e), fun b q => ?_, fun x sl e => ?_, fun x c e => let ⟨a, _, v, o, ho, hd⟩ := i.cell x c e; ⟨v, o, hk _ o (nt _ (a id)) ho, hd⟩⟩, i.tvH, i.apart, i.loc, ?_, fun x c e => ?_, i.capt, i.inj, i.own, i.sep⟩
  · rcases q with q | q
    · exact hl b q
    · obtain ⟨o, e⟩ := i.rd.live b (.inr q); exact ⟨o, hk b o (nt b q) e⟩
  · obtain ⟨v, r, z⟩ := i.rd.var x sl e
    refine ⟨v, ?_, z.butO (O := O) (fun b q => .inl (hO b q)) (fun b q w => nt b (i.own x sl b e w).1 q) hk⟩
    rcases r with ⟨k, m, nn, e'⟩ | ⟨k, c, e', q⟩
    · exact .inl ⟨k, m, nn.at' fun o e => hk _ o (nt _ i.loc) e, e'⟩
    · obtain ⟨o, ho, hd⟩ := q
      exact .inr ⟨k, c, e', o, hk _ o (nt _ ((i.cell x c e').1 id)) ho, hd⟩
  · obtain ⟨m, hm⟩ := i.ns; exact ⟨m, hm.at' fun o e => hk _ o (nt _ i.loc) e⟩
  · obtain ⟨a, b, v, o, ho, hd⟩ := i.cell x c e
    exact ⟨a, b, v, o, hk _ o (nt _ (a id)) ho, hd⟩

theorem Inv.widenO {env : Env} {av tv O : Addr → Prop} {s s' : Shared} (i : Inv prog w H₀ cap env av tv σ s.heap) (g : Grow s s') (hn : ∀ b, O b → s.heap.get? b = none) (hl : ∀ b, O b → ∃ o, s'.heap.get? b = some o) :
    Inv prog w H₀ cap env (fun b => av b ∨ O b) tv σ s'.heap := by
  have i' := i.keeps g.get
  refine ⟨⟨i'.rd.base, fun b q => ?_, fun x sl e => ?_, i'.rd.cells⟩, i.tvH, fun b q q' => ?_, i.loc, i'.ns, i'.cell, i.capt, i.inj, i.own, i.sep⟩
  · rcases q with (q | q) | q
    · exact i'.rd.live b (.inl q)
    · exact hl b q
    · exact i'.rd.live b (.inr q)
  · obtain ⟨v, r, z⟩ := i.rd.var x sl e
    refine ⟨v, r.keeps g.get, (z.imp' (av' := fun b => (av b ∨ O b) ∨ tv b) fun b o nb e q => ?_).keeps g.get⟩
    rcases q with (q | q) | q
    · exact nb (.inl q)
    · rw [hn b q] at e; cases e
    · exact nb (.inr q)
  · rcases q' with q' | q'
    · exact i.apart b q q'
    · obtain ⟨o, e⟩ := i.rd.live b (.inr q); rw [hn b q'] at e; cases e

theorem ExS.forG {t e : Expr} {body : List Stmt} {pos : Pos} {Q : Fl → Store → Prop} (tt : Expr → Prop) (ht : tt t) (m : Nat) (J : Nat → Store → Prop) (X : Nat → Store → D → Prop) (h0 : J 0 σ)
    (hiter : ∀ (env : Env) (A : Around) (s : Shared) (av tv : Addr → Prop) (Q' : Value → Shared → Prop) (E : Value → Shared → Prop), EnvOk sc env → Room A n → Inv prog w H₀ NoCap env av tv σ s.heap →
      (∀ I O s₂ P Mid, ItG prog w H₀ A env O av m J X tt P Mid I → P 0 s₂.heap → (∀ b, O b → s.heap.get? b = none) → Grow s s₂ → Q' (.ref I) s₂) → wpAny (model prog w) A (eval e env) (fun v s₁ => wpAny (model prog w) A (pyIter v) Q' E s₁) E s)
    (step : ∀ k x σ', k < m → J k σ' → X k σ' x → AsOk prog w H₀ NoCap sc n σ' t x fun σ₁ => Ex prog w H₀ sc n σ₁ body (Turn (J (k + 1)) Q)) (fin : ∀ σ', J m σ' → Q .next σ')
    (hs : ∀ env x, foldedSetIterable e env x = pure x := by intro _ _; rfl) : ExS prog w H₀ sc n σ (.For t e body [] pos) Q := by
  intro env A s av tv E ok rm i
  refine wpAny_For (hiter env A s av tv _ E ok rm i fun I O s₂ P Mid it hP hO g₂ => ?_) (hs env)
  have hl₂ := it.live 0 _ hP
  have hIH : ∀ b, O b → H₀.get? b = none := fun b q => by
    cases e : H₀.get? b with
    | none => rfl
    | some o => have := i.rd.base b o e; rw [hO b q] at this; cases this
  have i₂ : Inv prog w H₀ NoCap env (fun b => av b ∨ O b) tv σ s₂.heap := Inv.widenO i g₂ hO hl₂
  have fr₂ : Frame tv s s₂ := g₂.frame tv
  refine codeAny_forLoop_any
    (fun r s' => ∃ k σ' tv', r = m - k ∧ k ≤ m ∧ J k σ' ∧ Inv prog w H₀ NoCap env (fun b => av b ∨ O b) tv' σ' s'.heap ∧ P k s'.heap ∧ Frame tv s s' ∧ (∀ a, tv' a → tv a ∨ s.heap.get? a = none)) ?_ m
    ⟨0, σ, tv, rfl, Nat.zero_le _, h0, i₂, hP, fr₂, fun _ q => .inl q⟩
  rintro r s' ⟨k, σ', tv', rfl, hk, hJ, i', hP', fr, ht1⟩
  have narrow : ∀ {σ' tv'} {h : Heap}, Inv prog w H₀ NoCap env (fun b => av b ∨ O b) tv' σ' h → Inv prog w H₀ NoCap env av tv' σ' h := fun i => i.narrow fun _ q => .inl q
  have butFrame : ∀ (s₃ s₄ : Shared), Frame tv s s₃ → (∃ h' tk, s₄ = { s₃ with heap := h', toks := tk } ∧ ∀ b o, ¬ O b → s₃.heap.get? b = some o → h'.get? b = some o) → Frame tv s s₄ := fun s₃ s₄ f x => by
    obtain ⟨h', tk, rfl, hh⟩ := f
    obtain ⟨h'', tk', rfl, hh'⟩ := x
    exact ⟨h'', tk', rfl, fun b o nb e => hh' b o (fun w => by rw [hO b w] at e; cases e) (hh b o nb e)⟩
  have liveAv : ∀ {h h' : Heap} {i : Nat}, (∀ b, (av b ∨ O b) → ∃ o, h.get? b = some o) → (∀ b, O b → ∃ o, h'.get? b = some o) → (∀ b o, ¬ O b → h.get? b = some o → h'.get? b = some o) → ∀ b, (av b ∨ O b) → ∃ o, h'.get? b = some o := fun hl hl' hk b q => by
    rcases Classical.em (O b) with w | w
    · exact hl' b w
    · obtain ⟨o, e⟩ := hl b q; exact ⟨o, hk b o w e⟩
  rcases Nat.lt_or_ge k m with hlt | hge
  · refine it.next k s' σ' tv' _ _ hlt hJ hP' i' fun u h₃ tk d hX hz hm hk₃ => ?_
    have i₃ : Inv prog w H₀ NoCap env (fun b => av b ∨ O b) tv' σ' h₃ := i'.ofButO (O := O) (fun b q => .inr q) hIH (liveAv (i := k) (fun b q => i'.rd.live b (.inl q)) (it.midlive k u h₃ hm) hk₃) hk₃
    have fr₃ : Frame tv s { s' with heap := h₃, toks := tk } := butFrame s' _ fr ⟨h₃, tk, rfl, hk₃⟩
    refine it.go t k u _ _ _ ht hm fun h₄ hP₄ hk₄ => ?_
    have i₄ : Inv prog w H₀ NoCap env (fun b => av b ∨ O b) tv' σ' h₄ := i₃.ofButO (O := O) (fun b q => .inr q) hIH (liveAv (i := k) (fun b q => i₃.rd.live b (.inl q)) (it.live _ _ hP₄) hk₄) hk₄
    have fr₄ : Frame tv s { s' with heap := h₄, toks := tk } := butFrame _ _ fr₃ ⟨h₄, tk, rfl, hk₄⟩
    have hz₄ : Rel prog w (fun b => (av b ∨ O b) ∨ tv' b) h₄ d u := Rel.imp (fun b o nb e => ⟨nb, hk₄ b o (fun w => nb (.inl (.inr w))) e⟩) _ _ hz
    refine wpAny_mono (step k d σ' hlt hJ hX env A { s' with heap := h₄, toks := tk } (fun b => av b ∨ O b) tv' u _ ok rm i₄ hz₄) (fun _ s₅ p => ?_) fun _ _ x => x
    obtain ⟨σ₁, q, i₅, f₅⟩ := p
    have hIt : ∀ b, O b → ¬ tv' b := fun b w q => i'.apart b q (.inr w)
    refine wpAny_mono (q env A s₅ (fun b => av b ∨ O b) tv' _ ok rm i₅) (fun f s₆ p => ?_) fun _ _ x => x
    obtain ⟨fl, σ₂, tv₂, q, r, i₆, f₆, t₆⟩ := p
    have back : Frame tv s s₆ := ((fr₄.trans f₅ ht1).trans f₆ ht1)
    have ft : ∀ a, tv₂ a → tv a ∨ s.heap.get? a = none := fun a ha => by
      rcases t₆ a ha with h | h
      · exact ht1 a h
      · rcases Classical.em (tv a) with h' | h'
        · exact .inl h'
        · right
          cases e : s.heap.get? a with
          | none => rfl
          | some o => have := (fr₄.trans f₅ ht1).get a o h' e; rw [h] at this; cases this
    have hP₆ : P (k + 1) s₆.heap := it.loc _ _ _ hP₄ fun b o w e => f₆.get b o (hIt b w) (f₅.get b o (hIt b w) e)
    cases fl with
    | next =>
      obtain rfl : f = .next := r
      exact ⟨m - (k + 1), by omega, k + 1, σ₂, tv₂, rfl, hlt, q, i₆ rfl, hP₆, back, ft⟩
    | cont =>
      obtain rfl : f = .cont := r
      exact ⟨m - (k + 1), by omega, k + 1, σ₂, tv₂, rfl, hlt, q, i₆ rfl, hP₆, back, ft⟩
    | brk =>
      obtain rfl : f = .brk := r
      exact ⟨.next, σ₂, tv₂, q, rfl, fun _ => narrow (i₆ rfl), back, ft⟩
    | ret d =>
      obtain ⟨v, rfl, z⟩ := r
      exact ⟨.ret d, σ₂, tv₂, q, ⟨v, rfl, Rel.weak z fun b q => .inl q⟩, fun q => (nomatch q), back, ft⟩
  · have hkk : k = m := by omega
    subst hkk
    refine it.done s' σ' tv' _ _ hJ hP' i' fun h₃ tk hk₃ => ?_
    refine wpAny_execs_nil ?_
    have i₃ : Inv prog w H₀ NoCap env av tv' σ' h₃ := by
      have j := narrow i'
      have nt : ∀ b, tv' b → ¬ O b := fun b q w => i'.apart b q (.inr w)
      refine ⟨⟨fun b o e => hk₃ b o (fun w => by rw [hIH b w] at e; cases e) (j.rd.base b o e), fun b q => ?_, fun x sl e => ?_, fun x c e => let ⟨a, _, v, o, ho, hd⟩ := j.cell x c e; ⟨v, o, hk₃ _ o (nt _ (a id)) ho, hd⟩⟩, j.tvH, j.apart, j.loc, ?_, fun x c e => ?_, j.capt, j.inj, j.own, j.sep⟩
      · obtain ⟨o, e⟩ := j.rd.live b q
        refine ⟨o, hk₃ b o (fun w => ?_) e⟩
        rcases q with q | q
        · obtain ⟨o', e'⟩ := i.rd.live b (.inl q); rw [hO b w] at e'; cases e'
        · exact nt b q w
      · obtain ⟨v, r, z⟩ := i'.rd.var x sl e
        refine ⟨v, ?_, (z.butO (O := O) (fun b q => .inl (.inr q)) (fun b q w => nt b (j.own x sl b e w).1 q) hk₃).imp' fun b o nb e q => nb (q.imp .inl id)⟩
        rcases r with ⟨k, m, nn, e'⟩ | ⟨k, c, e', q⟩
        · exact .inl ⟨k, m, nn.at' fun o e => hk₃ _ o (nt _ j.loc) e, e'⟩
        · obtain ⟨o, ho, hd⟩ := q
          exact .inr ⟨k, c, e', o, hk₃ _ o (nt _ ((j.cell x c e').1 id)) ho, hd⟩
      · obtain ⟨m, hm⟩ := j.ns; exact ⟨m, hm.at' fun o e => hk₃ _ o (nt _ j.loc) e⟩
      · obtain ⟨a, b, v, o, ho, hd⟩ := j.cell x c e
        exact ⟨a, b, v, o, hk₃ _ o (nt _ (a id)) ho, hd⟩
    exact ⟨.next, σ', tv', fin σ' hJ, rfl, fun _ => i₃, butFrame s' _ fr ⟨h₃, tk, rfl, hk₃⟩, ht1⟩
end
end Mine
end
section
open PySem PySem.W PySem.Calls PyProof.Rows

namespace Mine
section
variable {prog : Program} {w : World} {H₀ : Heap} {sc : Scope} {n : Nat} {σ : Store} {cap : PySem.Str → Prop}

/-- an owned object turns -/
theorem Inv.mutate {env : Env} {av tv : Addr → Prop} {h h' : Heap} {x : PySem.Str} {a : Addr} {sl sl' : Slot} (i : Inv prog w H₀ NoCap env av tv σ h) (hx : σ x = some sl) (ha : sl.addr? = some a) (ha' : sl'.addr? = some a) (hs : Heap.SameBut a h h')
    (hl : ∃ o, h'.get? a = some o) (hrel : SlotRel prog w (fun b => av b ∨ tv b) h' sl' (.ref a)) : Inv prog w H₀ NoCap env av tv (upd σ x sl') h' := by
  obtain ⟨ta, la, ca⟩ := i.own x _ a hx ha
  have kp : ∀ b o, b ≠ a → h.get? b = some o → h'.get? b = some o := hs.extBut
  have rd' : ∀ y u, Reads env h y u → Reads env h' y u := fun y u r => by
    rcases r with ⟨k, m, n, e⟩ | ⟨k, c, e, q⟩
    · exact .inl ⟨k, m, n.sameBut hs (Ne.symm la), e⟩
    · exact .inr ⟨k, c, e, q.sameBut hs fun w => ca y (w ▸ e)⟩
  refine ⟨⟨fun b o e => ?_, fun b q => ?_, fun y s e => ?_, fun y c e => let ⟨_, _, v, q⟩ := i.cell y c e; ⟨v, q.sameBut hs fun w => ca y (w ▸ e)⟩⟩, i.tvH, i.apart, i.loc, ?_, fun y c e => ?_, i.capt, i.inj, fun y s b e q => ?_, fun y z s s' b e q e' q' => ?_⟩
  · exact kp b o (fun w => by rw [w, i.tvH a ta] at e; cases e) (i.rd.base b o e)
  · obtain ⟨o, e⟩ := i.rd.live b q
    by_cases hb : b = a
    · subst hb; exact hl
    · exact ⟨o, kp b o hb e⟩
  · by_cases hy : y = x
    · subst hy
      rw [upd_same] at e; cases e
      obtain ⟨v, r, z⟩ := i.rd.var _ _ hx
      have : v = .ref a := by
        cases sl with
        | val d => cases ha
        | own b ds => cases ha; exact z.1
        | ownd b ks ds => cases ha; exact z.1
      subst this
      exact ⟨_, rd' _ _ r, hrel⟩
    · rw [upd_ne hy] at e
      obtain ⟨u, r, z⟩ := i.rd.var y s e
      exact ⟨u, rd' y u r, z.but a (.inr ta) (fun w => hy (i.sep y x s _ a e w hx ha)) kp⟩
  · obtain ⟨m, hm⟩ := i.ns; exact ⟨m, hm.sameBut hs (Ne.symm la)⟩
  · obtain ⟨a', b', v, q⟩ := i.cell y c e; exact ⟨a', b', v, q.sameBut hs fun w => ca y (w ▸ e)⟩
  · by_cases hy : y = x
    · subst hy
      rw [upd_same] at e; cases e; rw [ha'] at q; cases q
      exact ⟨ta, la, ca⟩
    · rw [upd_ne hy] at e; exact i.own y s b e q
  · by_cases hy : y = x <;> by_cases hz : z = x
    · rw [hy, hz]
    · subst hy
      rw [upd_same] at e; cases e; rw [ha'] at q; cases q
      rw [upd_ne hz] at e'
      exact i.sep y z _ s' a hx ha e' q'
    · subst hz
      rw [upd_same] at e'; cases e'; rw [ha'] at q'; cases q'
      rw [upd_ne hy] at e
      exact i.sep y z s _ a e q hx ha
    · rw [upd_ne hy] at e; rw [upd_ne hz] at e'
      exact i.sep y z s s' b e q e' q'

/-- reading the address of one's own object -/
theorem Inv.ownName {env : Env} {A : Around} {s : Shared} {av tv : Addr → Prop} {x : PySem.Str} {pos : Pos} {sl : Slot} {a : Addr} {Q : Value → Shared → Prop} {E : Value → Shared → Prop} {M : Model} (ok : EnvOk sc env) (i : Inv prog w H₀ cap env av tv σ s.heap)
    (hx : σ x = some sl) (ha : sl.addr? = some a) (h : Q (.ref a) s) (hd : (x == ("__debug__" : PySem.Str)) = false) (hc : (x == ("__classdict__" : PySem.Str)) = false) : wpAny M A (eval (.Name x pos) env) Q E s := by
  obtain ⟨v, r, z⟩ := i.rd.var x _ hx
  have : v = .ref a := by
    cases sl with
    | val d => cases ha
    | own b ds => cases ha; exact z.1
    | ownd b ks ds => cases ha; exact z.1
  subst this
  exact wpAny_Name (r.load ok h hc) hd

theorem RelL.set {av : Addr → Prop} {h : Heap} {d : D} {v : Value} (z : Rel prog w av h d v) : ∀ {ds : List D} {vs : List Value} (j : Nat), RelL prog w av h ds vs → RelL prog w av h (ds.set j d) (vs.set j v)
  | [], _, _, e => by rw [show _ = [] from e]; exact rfl
  | _ :: _, _, 0, ⟨u, r, e, x, y⟩ => by subst e; exact ⟨v, r, rfl, z, y⟩
  | _ :: _, _, j + 1, ⟨u, r, e, x, y⟩ => by subst e; exact ⟨u, _, rfl, x, y.set z j⟩

theorem setItem_own {A : Around} {s : Shared} {E : Value → Shared → Prop} {a : Addr} {vs : List Value} {i : Int} {j : Nat} {t : Tok} {v : Value} {Q : Unit → Shared → Prop} (hl : s.heap.PlainList a vs.toArray) (hj : seqIndex? i vs.length = some j) (hs : -(2 ^ 62) ≤ i ∧ i < 2 ^ 62)
    (h : ∀ h', h'.PlainList a (vs.set j v).toArray → Heap.SameBut a s.heap h' → Q () { s with heap := h' }) : wpAny (model prog w) A (setItem (.ref a) (.int i t) v) Q E s := by
  obtain ⟨m, ho⟩ := hl
  have fin : ∀ k : Nat, k = j → Q () { s with heap := s.heap.update a (Obj.mapSeq (·.setIfInBounds k v)) } := fun k hk => by
    subst hk
    have e := PySem.IsL.update ho (·.setIfInBounds k v)
    have e1 : vs.toArray.setIfInBounds k v = (vs.set k v).toArray := by simp
    exact h _ ⟨_, by rw [← e1]; exact e⟩ (Heap.SameBut.update ..)
  rcases seqIndex_cases hj with ⟨h0, h1, h2⟩ | ⟨h0, h1, h2, h3⟩
  · exact ki_setAt ho h0 (by omega) (by rw [List.size_toArray]; omega) (fin _ h1)
  · exact ki_setBack ho h0 (by rw [List.size_toArray]; exact h1) (by omega) (fin _ (by rw [List.size_toArray]; exact h2))

/-- x[i] = e, x one's own list -/
theorem ExS.setOwn {x : PySem.Str} {xp pos' pos : Pos} {ie e : Expr} {a : Addr} {ds : List D} {Q : Fl → Store → Prop} (hx : σ x = some (.own a ds))
    (h : Ev prog w H₀ sc n σ e fun d => Ev prog w H₀ sc n σ ie fun di => ∃ (i : Int) (j : Nat), di = .int i ∧ seqIndex? i ds.length = some j ∧ (-(2 ^ 62) ≤ i ∧ i < 2 ^ 62) ∧ Q .next (upd σ x (.own a (ds.set j d))))
    (hs : ∀ env : Env, env.scope = sc → swapsWith e (some (.Subscript (.Name x xp) ie pos')) pos.line env = pure false := by intro _ _; rfl) (hd : (x == ("__debug__" : PySem.Str)) = false := by decide) (hc : (x == ("__classdict__" : PySem.Str)) = false := by decide) :
    ExS prog w H₀ sc n σ (.Assign [.Subscript (.Name x xp) ie pos'] e pos) Q := by
  intro env A s av tv E ok rm i
  refine wpAny_Assign_Subscript (h env A s _ _ E ok rm i.rd fun v s₁ d q z g₁ => ?_) (hs env ok.is)
  have i₁ := i.keeps g₁.get
  refine i₁.ownName ok hx rfl ?_ hd hc
  refine q env A s₁ _ _ E ok rm i₁.rd fun u s₂ di q z' g₂ => ?_
  obtain ⟨k, j, rfl, hj, hb, q⟩ := q
  obtain ⟨t, rfl⟩ := z'
  have i₂ := i₁.keeps g₂.get
  obtain ⟨v', _, _, vs, l, r⟩ := i₂.rd.var x _ hx
  refine setItem_own l (by rw [r.length]; exact hj) hb fun h' l' hs' => ?_
  obtain ⟨ta, la, ca⟩ := i.own x _ a hx rfl
  have imp : ∀ b o, ¬ (av b ∨ tv b) → s₂.heap.get? b = some o → ¬ (av b ∨ tv b) ∧ h'.get? b = some o := fun b o nb e => ⟨nb, hs'.extBut b o (fun w => nb (.inr (w ▸ ta))) e⟩
  refine ⟨.next, _, tv, q, rfl, fun _ => i₂.mutate hx rfl rfl hs' (let ⟨_, e⟩ := l'; ⟨_, e⟩) ⟨rfl, _, l', RelL.imp imp _ _ (RelL.set (z.keeps g₂.get) j r)⟩, ?_, fun _ q => .inl q⟩
  exact ((g₁.trans g₂).frame tv).trans ⟨h', s₂.toks, rfl, fun b o nb e => hs'.extBut b o (fun w => nb (w ▸ ta)) e⟩ fun a q => .inl q

/-- x = {} -/
theorem ExS.newDict {x : PySem.Str} {xp dp pos : Pos} {Q : Fl → Store → Prop} (h : ∀ a, Q .next (upd σ x (Slot.dict a []))) (hbig : ∃ o, H₀.get? sysModules = some o)
    (hkind : sc.names.lookup x = some .local ∨ sc.names.lookup x = some .cell := by first | exact .inl rfl | exact .inr rfl)
    (hs : ∀ env : Env, env.scope = sc → swapsWith (.Dict [] [] dp) (some (.Name x xp)) pos.line env = pure false := by intro _ _; rfl) : ExS prog w H₀ sc n σ (.Assign [.Name x xp] (.Dict [] [] dp) pos) Q := by
  intro env A s av tv E ok rm i
  refine wpAny_Assign_Name (wpAny_Dict_empty ?_) (hs env ok.is)
  have g : Grow s { s with heap := s.heap.push { cls := .type "dict", data := .dict #[] } } := Grow.push s _ s.toks
  have hnew : s.heap.get? s.heap.objs.size = none := get_size _
  have hlive : ∃ o, (s.heap.push { cls := .type "dict", data := .dict #[] }).get? s.heap.objs.size = some o := ⟨_, Heap.get?_push_size _ rfl⟩
  have hne : (s.heap.objs.size == sysModules) = false := by
    obtain ⟨o, ho⟩ := hbig
    rw [beq_eq_false_iff_ne]
    exact Nat.ne_of_gt (Heap.lt_size (i.rd.base _ _ ho))
  obtain ⟨ep, hd⟩ := (Heap.DictOf.new (knd := PySem.strKind prog w) s.heap).dictAt
  refine i.storeOwn (sl := Slot.dict s.heap.objs.size []) ok g hkind id rfl hnew hlive ⟨rfl, hne, [], ep, hd, rfl, rfl⟩ fun s₂ i₂ f₂ => ⟨.next, _, _, h _, rfl, fun _ => i₂, (g.frame tv).trans f₂ fun a q => .inl q, fun b q => q.imp id fun q => by rw [q]; exact hnew⟩

theorem setDict_core {env : Env} {A : Around} {s₀ s : Shared} {av tv : Addr → Prop} {x : PySem.Str} {a : Addr} {l : KD} {k : PySem.Str} {t : Tok} {v : Value} {d : D} {Q : Fl → Store → Prop} {E : Value → Shared → Prop} (i : Inv prog w H₀ NoCap env av tv σ s.heap) (fr : Frame tv s₀ s) (hx : σ x = some (Slot.dict a l))
    (z : Rel prog w (fun b => av b ∨ tv b) s.heap d v) (hsz : l.length ≤ sizeLine) (q : Q .next (upd σ x (Slot.dict a (putD' l k d)))) :
    wpAny (model prog w) A (setItem (.ref a) (.str k t) v) (fun _ => Post prog w H₀ env s₀ av tv Q .next) E s := by
  obtain ⟨v', _, _, hne, kvs, ep, m, hks, r⟩ := i.rd.var x _ hx
  have hlen : kvs.length = l.length := by have := congrArg List.length hks; simpa using this
  refine wpAny_setItem_pairs (knd := PySem.strKind prog w) (k := k) (kvs := kvs) strKey m.dictOf (fun h' hd hs' => ?_) (by omega)
  obtain ⟨ta, la, ca⟩ := i.own x _ a hx rfl
  have imp : ∀ b o, ¬ (av b ∨ tv b) → s.heap.get? b = some o → ¬ (av b ∨ tv b) ∧ h'.get? b = some o := fun b o nb e => ⟨nb, hs'.extBut b o (fun w => nb (.inr (w ▸ ta))) e⟩
  obtain ⟨ep', hd'⟩ := hd.dictAt
  have hlive : ∃ o, h'.get? a = some o := by obtain ⟨o, es, ho, _⟩ := hd'; exact ⟨o, ho⟩
  refine ⟨.next, _, tv, q, rfl, fun _ => i.mutate hx rfl rfl hs' hlive ⟨rfl, hne, _, ep', hd', stored_keys hks, RelL.imp imp _ _ (stored_rel hks r z)⟩, ?_, fun _ q => .inl q⟩
  exact fr.trans ⟨h', s.toks + 1, rfl, fun b o nb e => hs'.extBut b o (fun w => nb (w ▸ ta)) e⟩ fun a q => .inl q

/-- x[k] = e, x one's own dict -/
theorem ExS.setDict {x : PySem.Str} {xp pos' pos : Pos} {ke e : Expr} {a : Addr} {l : KD} {Q : Fl → Store → Prop} (hx : σ x = some (Slot.dict a l))
    (h : Ev prog w H₀ sc n σ e fun d => Ev prog w H₀ sc n σ ke fun dk => ∃ k, dk = .str k ∧ l.length ≤ sizeLine ∧ Q .next (upd σ x (Slot.dict a (putD' l k d))))
    (hs : ∀ env : Env, env.scope = sc → swapsWith e (some (.Subscript (.Name x xp) ke pos')) pos.line env = pure false := by intro _ _; rfl) (hd : (x == ("__debug__" : PySem.Str)) = false := by decide) (hc : (x == ("__classdict__" : PySem.Str)) = false := by decide) :
    ExS prog w H₀ sc n σ (.Assign [.Subscript (.Name x xp) ke pos'] e pos) Q := by
  intro env A s av tv E ok rm i
  refine wpAny_Assign_Subscript (h env A s _ _ E ok rm i.rd fun v s₁ d q z g₁ => ?_) (hs env ok.is)
  have i₁ := i.keeps g₁.get
  refine i₁.ownName ok hx rfl ?_ hd hc
  refine q env A s₁ _ _ E ok rm i₁.rd fun u s₂ di q z' g₂ => ?_
  obtain ⟨k, rfl, hsz, q⟩ := q
  obtain ⟨t, rfl⟩ := z'
  exact setDict_core (i₁.keeps g₂.get) ((g₁.trans g₂).frame tv) hx (z.keeps g₂.get) hsz q

/-- x[k] += e, k a name, x one's own dict of ints -/
theorem ExS.augDict {x kn : PySem.Str} {xp kp pos' pos : Pos} {op : Operator} {e : Expr} {a : Addr} {l : KD} {k : PySem.Str} {old : Int} {Q : Fl → Store → Prop} (hx : σ x = some (Slot.dict a l)) (hk : σ kn = some (.val (.str k))) (ho : atD l k = some (.int old)) (hsz : l.length ≤ sizeLine)
    (h : Ev prog w H₀ sc n σ e fun d => Op2 prog w H₀ n (inplaceOp op) (.int old) d fun r => Q .next (upd σ x (Slot.dict a (putD' l k r))))
    (hd : (x == ("__debug__" : PySem.Str)) = false := by decide) (hc : (x == ("__classdict__" : PySem.Str)) = false := by decide) (hd' : (kn == ("__debug__" : PySem.Str)) = false := by decide) (hc' : (kn == ("__classdict__" : PySem.Str)) = false := by decide) :
    ExS prog w H₀ sc n σ (.AugAssign (.Subscript (.Name x xp) (.Name kn kp) pos') op e pos) Q := by
  intro env A s av tv E ok rm i
  refine wpAny_AugAssign_Subscript (i.ownName ok hx rfl ?_ hd hc)
  obtain ⟨kv, rk, t, rfl⟩ := i.rd.var kn _ hk
  refine wpAny_Name (rk.load ok ?_ hc') hd'
  obtain ⟨v', _, _, hne, kvs, ep, m, hks, r⟩ := i.rd.var x _ hx
  obtain ⟨d', v, e1, e2, z⟩ : ∃ d v, atD l k = some d ∧ valueAt kvs k = some v ∧ Rel prog w (fun b => av b ∨ tv b) s.heap d v := by
    rcases pairs_find (k := k) hks r with ⟨e, _⟩ | x
    · rw [ho] at e; cases e
    · exact x
  rw [ho] at e1; cases e1
  obtain ⟨to, rfl⟩ := z
  refine wpAny_getItem_of (knd := PySem.strKind prog w) (k := k) strKey m.dictOf.mapOf e2 ?_
  have g₀ : Grow s { s with toks := s.toks + 1 } := Grow.tok s _
  refine h env A _ _ _ E ok rm (i.rd.keeps g₀.get) fun u s₁ d q z g₁ => ?_
  have i₁ := (i.keeps g₀.get).keeps g₁.get
  refine q A s₁ _ _ _ _ E rm i₁.rd.hp ⟨to, rfl⟩ z fun rv s₂ dr q zr g₂ => ?_
  exact setDict_core (i₁.keeps g₂.get) (((g₀.trans g₁).trans g₂).frame tv) hx zr hsz q

/-- x += e -/
theorem ExS.aug {x : PySem.Str} {xp pos : Pos} {op : Operator} {e : Expr} {d₀ : D} {Q : Fl → Store → Prop} (hx : σ x = some (.val d₀))
    (h : Ev prog w H₀ sc n σ e fun d => Flat d₀ ∧ Op2 prog w H₀ n (inplaceOp op) d₀ d fun r => Q .next (upd σ x (.val r)))
    (hkind : sc.names.lookup x = some .local ∨ sc.names.lookup x = some .cell := by first | exact .inl rfl | exact .inr rfl) (hc : (x == ("__classdict__" : PySem.Str)) = false := by decide) :
    ExS prog w H₀ sc n σ (.AugAssign (.Name x xp) op e pos) Q := by
  intro env A s av tv E ok rm i
  obtain ⟨v, r, z⟩ := i.rd.var x _ hx
  refine wpAny_AugAssign_Name (r.load ok ?_ hc)
  refine h env A s _ _ E ok rm i.rd fun u s₁ d q z' g₁ => ?_
  have i₁ := i.keeps g₁.get
  refine q.2 A s₁ _ _ _ _ E rm i₁.rd.hp (q.1.rel z) z' fun rv s₂ dr q zr g₂ => ?_
  exact (i₁.keeps g₂.get).store ok hkind id zr fun s₃ i₃ f₃ => ⟨.next, _, tv, q, rfl, fun _ => i₃, ((g₁.trans g₂).frame tv).trans f₃ fun a q => .inl q, fun _ q => .inl q⟩

/-- an own dict is read -/
theorem Rd.borrowD {env : Env} {av : Addr → Prop} {h : Heap} {x : PySem.Str} {a : Addr} {l : KD} (rd : Rd prog w H₀ env av σ h) (hx : σ x = some (Slot.dict a l)) : Rd prog w H₀ env (fun b => av b ∧ b ≠ a) (upd σ x (.val (D.dict l))) h := by
  refine ⟨rd.base, fun b q => rd.live b q.1, fun y sl e => ?_, rd.cells⟩
  by_cases hy : y = x
  · subst hy
    rw [upd_same] at e; cases e
    obtain ⟨v, r, e, hne, kvs, ep, m, hks, z⟩ := rd.var _ _ hx
    exact ⟨v, r, a, kvs, ep, e, fun q => q.2 rfl, hne, m, hks, z.weak fun b q => q.1⟩
  · rw [upd_ne hy] at e
    obtain ⟨v, r, z⟩ := rd.var y sl e
    exact ⟨v, r, z.imp' fun b o nb e q => nb q.1⟩
theorem EvB.borrowD {x : PySem.Str} {a : Addr} {l : KD} {e : Expr} {Q : Bool → Prop} (hx : σ x = some (Slot.dict a l))
    (h : EvB prog w H₀ sc n (upd σ x (.val (D.dict l))) e Q) : EvB prog w H₀ sc n σ e Q := by
  intro env A s av Q' E ok rm rd k
  exact h env A s _ Q' E ok rm (rd.borrowD hx) k

/-- try: a body that does not raise -/
theorem ExS.try {body orelse : List Stmt} {h₀ : ExceptHandler} {hs : List ExceptHandler} {pos : Pos} {Q : Fl → Store → Prop}
    (h : Ex prog w H₀ sc n σ body fun fl σ' => match fl with
      | .next => Ex prog w H₀ sc n σ' orelse Q
      | fl => Q fl σ') : ExS prog w H₀ sc n σ (.Try body (h₀ :: hs) orelse [] pos) Q := by
  intro env A s av tv E ok rm i
  refine wpAny_Try_except (wpAny_mono (h env A s av tv _ ok rm i) (fun f s₁ p => ?_) fun _ _ x => x)
  obtain ⟨fl, σ', tv', q, r, i', f', t⟩ := p
  cases fl with
  | next =>
    obtain rfl : f = .next := r
    exact wpAny_mono (q env A s₁ av tv' E ok rm (i' rfl)) (fun f s₂ p => p.from f' t) fun _ _ x => x
  | brk => obtain rfl : f = .brk := r; exact ⟨.brk, σ', tv', q, rfl, i', f', t⟩
  | cont => obtain rfl : f = .cont := r; exact ⟨.cont, σ', tv', q, rfl, i', f', t⟩
  | ret d => obtain ⟨v, rfl, z⟩ := id r; exact ⟨.ret d, σ', tv', q, r, i', f', t⟩
end
end Mine
end
section
open PySem PySem.W PySem.Calls PyProof.Rows

namespace Mine
section
variable {prog : Program} {w : World} {H₀ : Heap} {sc : Scope} {n : Nat} {σ : Store} {Q : D → Prop}

theorem eval_call1 {env : Env} {A : Around} {s : Shared} {f : PySem.Str} {fv : Value} {p pos : Pos} {e : Expr} {Q' : Value → Shared → Prop} {E : Value → Shared → Prop} {M : Model} (ok : EnvOk sc env) (base : ∀ a o, H₀.get? a = some o → s.heap.get? a = some o)
    (hg : Glob H₀ f fv) (hc : Callee H₀ fv) (hk : sc.names.lookup f = some .globalImplicit)
    (h : wpAny M A (eval e env) (fun v s₁ => (∀ a o, H₀.get? a = some o → s₁.heap.get? a = some o) ∧ wpAny M A (PySem.call fv [v]) Q' E s₁) E s)
    (hs : starEach [e] env = [(false, eval e env)] := by rfl) (hd : (f == ("__debug__" : PySem.Str)) = false := by decide) : wpAny M A (eval (.Call (.Name f p) [e] [] pos) env) Q' E s := by
  refine Call_ (hg.load ok base hk ?_ hd)
  refine callWith_any (by rw [hs]; rfl) hc (fun vs s₁ => ∃ v, vs = [v] ∧ (∀ a o, H₀.get? a = some o → s₁.heap.get? a = some o) ∧ wpAny M A (PySem.call fv [v]) Q' E s₁) ?_ fun vs s' q => ?_
  · rw [hs]
    exact spliced_cons (wpAny_mono h (fun v s₁ q => spliced_nil ⟨v, rfl, q⟩) fun _ _ x => x)
  · obtain ⟨v, rfl, q⟩ := q; exact q

/-- for i, c in enumerate(text) -/
theorem ExS.forEnumStr {t e : Expr} {f : PySem.Str} {p cp : Pos} {body : List Stmt} {pos : Pos} {a : List Nat} {Q : Fl → Store → Prop} (hg : Glob H₀ f (.type "enumerate")) (hk : sc.names.lookup f = some .globalImplicit)
    (he : Ev prog w H₀ sc n σ e fun d => d = .str (S a)) (J : Nat → Store → Prop) (h0 : J 0 σ) (ht : ∃ es k p, t = .Tuple es k p)
    (step : ∀ k c σ', a[k]? = some c → J k σ' → AsOk prog w H₀ NoCap sc n σ' t (.tup [.int k, .str (S [c])]) fun σ₁ => Ex prog w H₀ sc n σ₁ body (Turn (J (k + 1)) Q)) (fin : ∀ σ', J a.length σ' → Q .next σ')
    (hs : ∀ env, starEach [e] env = [(false, eval e env)] := by intro _; rfl) (hd : (f == ("__debug__" : PySem.Str)) = false := by decide)
    (hfs : ∀ env x, foldedSetIterable (.Call (.Name f p) [e] [] cp) env x = pure x := by intro _ _; rfl) : ExS prog w H₀ sc n σ (.For t (.Call (.Name f p) [e] [] cp) body [] pos) Q := by
  refine ExS.forG (fun t => ∃ es k p, t = .Tuple es k p) ht a.length J (fun k _ d => ∃ c, a[k]? = some c ∧ d = .tup [.int k, .str (S [c])]) h0 ?_ (fun k x σ' hk hJ ⟨c, hc, e⟩ => e ▸ step k c σ' hc hJ) fin hfs
  intro env A s av tv Q' E ok rm i k
  refine eval_call1 ok i.rd.base hg (.inr (.inl ⟨_, rfl⟩)) hk (he env A s _ _ E ok rm i.rd fun v s₁ d q z g₁ => ⟨(i.rd.keeps g₁.get).base, ?_⟩) (hs env) hd
  subst q
  obtain ⟨tk, rfl⟩ := z
  refine call_enumerate_str fun h' hen hit hsz hkp => ?_
  refine wpAny_pyIter_enum (s := { s₁ with heap := h' }) hen ?_
  have g₂ : Grow s₁ { s₁ with heap := h' } := Grow.mk s₁ h' s₁.toks hkp
  have hall : ∃ (P : Nat → Value → Prop) (St : Nat → Heap → Prop), Draws prog w A.in1 s₁.heap.objs.size [s₁.heap.objs.size] a.length P St ∧ St 0 h' ∧ ∀ i v, P i v → ∃ c u, a[i]? = some c ∧ v = .str (S [c]) u := by
    have hn : (S a).cps.size = a.length := by simp
    cases hc : (S a).cps.all (· < 128)
    · have D := Draws.strWide (prog := prog) (w := w) (A := A.in1) rm.hd s₁.heap.objs.size (S a) tk
      rw [hn] at D
      exact ⟨_, _, D, by unfold strIterType at hit; rw [hc] at hit; exact hit, fun i v ⟨c, u, hc, e⟩ => ⟨c, u, by simpa using hc, e⟩⟩
    · have D := Draws.strAscii (prog := prog) (w := w) (A := A.in1) rm.hd s₁.heap.objs.size (S a) tk
      rw [hn] at D
      exact ⟨_, _, D, by unfold strIterType at hit; rw [hc] at hit; exact hit, fun i v ⟨c, u, hc, e⟩ => ⟨c, u, by simpa using hc, e⟩⟩
  obtain ⟨P, St, D, hst, hP⟩ := hall
  have hne : s₁.heap.objs.size + 1 ≠ s₁.heap.objs.size := Nat.succ_ne_self _
  have hef : s₁.heap.objs.size + 1 ∉ [s₁.heap.objs.size] := by simp
  refine k (s₁.heap.objs.size + 1) (fun b => b = s₁.heap.objs.size + 1 ∨ b = s₁.heap.objs.size) { s₁ with heap := h' } (fun i h => (∃ old, IsEnum h (s₁.heap.objs.size + 1) s₁.heap.objs.size i old) ∧ St i h)
    (fun i v h => ∃ T x, v = .ref T ∧ IsEnumOut h (s₁.heap.objs.size + 1) s₁.heap.objs.size ((i : Int) + 1) x T ∧ St (i + 1) h) ?_ ⟨⟨_, hen⟩, hst⟩ ?_ (g₁.trans g₂)
  · exact {
      loc := fun i h h' p e => ⟨let ⟨old, x⟩ := p.1; ⟨old, e _ _ (.inl rfl) x⟩, D.frame _ _ _ p.2 fun b hb o x => e b o (.inr (List.mem_singleton.mp hb)) x⟩
      live := fun i h p b q => by
        rcases q with q | q
        · obtain ⟨old, x⟩ := p.1; exact ⟨_, q ▸ x⟩
        · obtain ⟨o, x⟩ := D.live _ _ p.2; exact ⟨o, q ▸ x⟩
      midlive := fun i v h p b q => by
        obtain ⟨T, x, _, y, z⟩ := p
        rcases q with q | q
        · exact ⟨_, q ▸ y⟩
        · obtain ⟨o, x⟩ := D.live _ _ z; exact ⟨o, q ▸ x⟩
      next := fun i s' σ' tv' Q E hi hJ hp inv hQ => by
        obtain ⟨⟨old, hx⟩, hs⟩ := hp
        refine wpAny_pyNext_enum_itemD D hx hs hi hne hef fun x h₂ tk₂ hPx ho hs' hT hsz hkk => ?_
        obtain ⟨c, u, hc, rfl⟩ := hP _ _ hPx
        refine hQ _ h₂ (tk₂ + 1) _ ⟨c, hc, rfl⟩ ⟨s'.heap.objs.size, _, rfl, fun q => ?_, ⟨_, hT, rfl, _, rfl⟩, _, _, rfl, ⟨_, rfl⟩, _, _, rfl, ⟨_, rfl⟩, rfl⟩ ⟨_, _, rfl, ho, hs'⟩ fun b o hb e => hkk b o (fun q => hb (.inl q)) (fun q => hb (.inr q)) e
        obtain ⟨o, e⟩ := inv.rd.live _ q
        rw [get_size] at e; cases e
      go := fun t i v s' Q E ht m hQ => by
        obtain ⟨es, k, p, rfl⟩ := ht
        obtain ⟨T, x, rfl, y, z⟩ := m
        refine wpAny_letOwnedTupleGo_enum y fun h₂ he₂ hs₂ => hQ h₂ ⟨⟨x, by simpa using he₂⟩, D.frame _ _ _ z fun b hb o e => hs₂.extBut b o (fun q => hef (q ▸ hb)) e⟩ fun b o hb e => hs₂.extBut b o (fun q => hb (.inl q)) e
      done := fun s' σ' tv' Q E hJ hp inv hQ => by
        obtain ⟨⟨old, hx⟩, hs⟩ := hp
        exact wpAny_pyNext_enum_endD D hx hs fun h₂ he => hQ h₂ s'.toks fun b o hb e => he b o (fun q => hb (.inr q)) e }
  · intro b q
    have hz : s.heap.get? s₁.heap.objs.size = none := by
      cases e : s.heap.get? s₁.heap.objs.size with
      | none => rfl
      | some o => have := g₁.get _ _ e; rw [get_size] at this; cases this
    rcases q with q | q
    · cases e : s.heap.get? b with
      | none => rfl
      | some o => have := Heap.lt_size (g₁.get _ _ e); rw [q] at this; exact absurd this (Nat.not_lt.mpr (Nat.le_succ _))
    · rw [q]; exact hz

/-- for j, l in enumerate(x), x one's own list, that may be stored into -/
theorem ExS.forEnumOwn {t : Expr} {f x : PySem.Str} {p cp xp : Pos} {body : List Stmt} {pos : Pos} {a : Addr} {ds : List D} {Q : Fl → Store → Prop} (hx : σ x = some (.own a ds)) (hg : Glob H₀ f (.type "enumerate")) (hk : sc.names.lookup f = some .globalImplicit)
    (J : Nat → Store → Prop) (h0 : J 0 σ) (hJ : ∀ k σ', J k σ' → ∃ ds', σ' x = some (.own a ds') ∧ ds'.length = ds.length) (ht : ∃ es k p, t = .Tuple es k p)
    (step : ∀ k ds' d σ', J k σ' → σ' x = some (.own a ds') → ds'[k]? = some d → AsOk prog w H₀ NoCap sc n σ' t (.tup [.int k, d]) fun σ₁ => Ex prog w H₀ sc n σ₁ body (Turn (J (k + 1)) Q)) (fin : ∀ σ', J ds.length σ' → Q .next σ')
    (hd : (f == ("__debug__" : PySem.Str)) = false := by decide) (hdx : (x == ("__debug__" : PySem.Str)) = false := by decide) (hcx : (x == ("__classdict__" : PySem.Str)) = false := by decide)
    (hs : ∀ env, starEach [.Name x xp] env = [(false, eval (.Name x xp) env)] := by intro _; rfl)
    (hfs : ∀ env y, foldedSetIterable (.Call (.Name f p) [.Name x xp] [] cp) env y = pure y := by intro _ _; rfl) : ExS prog w H₀ sc n σ (.For t (.Call (.Name f p) [.Name x xp] [] cp) body [] pos) Q := by
  refine ExS.forG (fun t => ∃ es k p, t = .Tuple es k p) ht ds.length J (fun k σ' d => ∃ ds' y, σ' x = some (.own a ds') ∧ ds'[k]? = some y ∧ d = .tup [.int k, y]) h0 ?_ (fun k d σ' hk hJ' ⟨ds', y, hx, hy, e⟩ => e ▸ step k ds' y σ' hJ' hx hy) fin hfs
  intro env A s av tv Q' E ok rm i k
  refine eval_call1 ok i.rd.base hg (.inr (.inl ⟨_, rfl⟩)) hk (i.ownName ok hx rfl ⟨i.rd.base, ?_⟩ hdx hcx) (hs env) hd
  obtain ⟨_, _, _, vs, l, r⟩ := i.rd.var x _ hx
  refine call_enumerate_list l.isList fun h' hen hit hsz hkp => ?_
  refine wpAny_pyIter_enum (s := { s with heap := h' }) hen ?_
  have g₂ : Grow s { s with heap := h' } := Grow.mk s h' s.toks hkp
  have hne : s.heap.objs.size + 1 ≠ s.heap.objs.size := Nat.succ_ne_self _
  refine k (s.heap.objs.size + 1) (fun b => b = s.heap.objs.size + 1 ∨ b = s.heap.objs.size) { s with heap := h' } (fun i h => (∃ old, IsEnum h (s.heap.objs.size + 1) s.heap.objs.size i old) ∧ h.IsListIter s.heap.objs.size a i)
    (fun i v h => ∃ T x, v = .ref T ∧ IsEnumOut h (s.heap.objs.size + 1) s.heap.objs.size ((i : Int) + 1) x T ∧ h.IsListIter s.heap.objs.size a (i + 1)) ?_ ⟨⟨_, hen⟩, hit⟩ ?_ g₂
  · exact {
      loc := fun i h h' p e => ⟨let ⟨old, x⟩ := p.1; ⟨old, e _ _ (.inl rfl) x⟩, p.2.at fun o x => e _ o (.inr rfl) x⟩
      live := fun i h p b q => by
        rcases q with q | q
        · obtain ⟨old, x⟩ := p.1; exact ⟨_, q ▸ x⟩
        · obtain ⟨o, x, _⟩ := p.2; exact ⟨o, q ▸ x⟩
      midlive := fun i v h p b q => by
        obtain ⟨T, x, _, y, o, z, _⟩ := p
        rcases q with q | q
        · exact ⟨_, q ▸ y⟩
        · exact ⟨o, q ▸ z⟩
      next := fun i s' σ' tv' Q E hi hJ' hp inv hQ => by
        obtain ⟨⟨old, hxe⟩, hs⟩ := hp
        obtain ⟨ds', hx', hl'⟩ := hJ _ _ hJ'
        obtain ⟨_, _, _, vs', l', r'⟩ := inv.rd.var x _ hx'
        obtain ⟨y, hy⟩ : ∃ y, ds'[i]? = some y := ⟨_, List.getElem?_eq_getElem (by omega)⟩
        obtain ⟨v, hv, z⟩ := r'.get hy
        refine wpAny_pyNext_enum_item hxe hs l'.isList (x := v) (by simpa using hv) hne fun h₂ ho hs' hT hsz hkk => ?_
        have imp : ∀ b o, ¬ ((av b ∨ (b = s.heap.objs.size + 1 ∨ b = s.heap.objs.size)) ∨ tv' b) → s'.heap.get? b = some o → ¬ ((av b ∨ (b = s.heap.objs.size + 1 ∨ b = s.heap.objs.size)) ∨ tv' b) ∧ h₂.get? b = some o :=
          fun b o nb e => ⟨nb, hkk b o (fun q => nb (.inl (.inr (.inl q)))) (fun q => nb (.inl (.inr (.inr q)))) e⟩
        refine hQ _ h₂ _ _ ⟨ds', y, hx', hy, rfl⟩ ⟨s'.heap.objs.size, _, rfl, fun q => ?_, ⟨_, hT, rfl, _, rfl⟩, _, _, rfl, ⟨_, rfl⟩, _, _, rfl, Rel.imp imp _ _ z, rfl⟩ ⟨_, _, rfl, ho, hs'⟩ fun b o hb e => hkk b o (fun q => hb (.inl q)) (fun q => hb (.inr q)) e
        obtain ⟨o, e⟩ := inv.rd.live _ q
        rw [get_size] at e; cases e
      go := fun t i v s' Q E ht m hQ => by
        obtain ⟨es, k, p, rfl⟩ := ht
        obtain ⟨T, x, rfl, y, z⟩ := m
        refine wpAny_letOwnedTupleGo_enum y fun h₂ he₂ hs₂ => hQ h₂ ⟨⟨x, by simpa using he₂⟩, z.at fun o e => hs₂.extBut _ o (Ne.symm hne) e⟩ fun b o hb e => hs₂.extBut b o (fun q => hb (.inl q)) e
      done := fun s' σ' tv' Q E hJ' hp inv hQ => by
        obtain ⟨⟨old, hxe⟩, hs⟩ := hp
        obtain ⟨ds', hx', hl'⟩ := hJ _ _ hJ'
        obtain ⟨_, _, _, vs', l', r'⟩ := inv.rd.var x _ hx'
        exact wpAny_pyNext_enum_end rm.hd hxe hs l'.isList (by simp [r'.length, hl']) fun h₂ he => hQ h₂ s'.toks fun b o hb e => he b o (fun q => hb (.inr q)) e }
  · intro b q
    rcases q with q | q
    · cases e : s.heap.get? b with
      | none => rfl
      | some o => have := Heap.lt_size e; rw [q] at this; exact absurd this (Nat.not_lt.mpr (Nat.le_succ _))
    · rw [q]; exact get_size _

/-- isinstance(x, tuple), x a number -/
theorem EvB.isTuple {f T : PySem.Str} {p tp pos : Pos} {e : Expr} {Q : Bool → Prop} (hg : Glob H₀ f (.builtin "isinstance")) (hk : sc.names.lookup f = some .globalImplicit) (hgT : Glob H₀ T (.type "tuple")) (hkT : sc.names.lookup T = some .globalImplicit)
    (h : Ev prog w H₀ sc n σ e fun d => (∃ i, d = .int i) ∧ Q false) (hs : ∀ env, starEach [e, .Name T tp] env = [(false, eval e env), (false, eval (.Name T tp) env)] := by intro _; rfl)
    (hd : (f == ("__debug__" : PySem.Str)) = false := by decide) (hdT : (T == ("__debug__" : PySem.Str)) = false := by decide)
    (he : ∀ env, isTrue (.Call (.Name f p) [e, .Name T tp] [] pos) env (eval (.Call (.Name f p) [e, .Name T tp] [] pos) env) = (do let v ← eval (.Call (.Name f p) [e, .Name T tp] [] pos) env; standAt (Expr.pos (.Call (.Name f p) [e, .Name T tp] [] pos)); holding [v] (truthy v)) := by intro _; rfl) :
    EvB prog w H₀ sc n σ (.Call (.Name f p) [e, .Name T tp] [] pos) Q := by
  intro env A s av Q' E ok rm rd k
  refine isTrue_plain (Call_ (hg.load ok rd.base hk ?_ hd)) (he env)
  refine callWith_any (H₀ := H₀) (by rw [hs]; rfl) (.inl ⟨_, rfl⟩) (fun vs s₁ => (∀ a o, H₀.get? a = some o → s₁.heap.get? a = some o) ∧ Q false ∧ Grow s s₁ ∧ ∃ i t, vs = [.int i t, .type "tuple"]) ?_ fun vs s' q => ?_
  · rw [hs]
    refine spliced_cons (h env A s av _ E ok rm rd fun v s₁ d q z g₁ => ?_)
    obtain ⟨⟨i, rfl⟩, q⟩ := q
    obtain ⟨t, rfl⟩ := z
    refine spliced_cons (hgT.load ok (rd.keeps g₁.get).base hkT ?_ hdT)
    exact spliced_nil ⟨(rd.keeps g₁.get).base, q, g₁, i, t, rfl⟩
  · obtain ⟨b, q, g, i, t, rfl⟩ := q
    exact ⟨b, PySem.IsiPair.int_tuple (wpAny_truthy_bool (k false _ q (g.trans (Grow.tok s' _))))⟩
end
end Mine
end
section
open PySem PySem.W PySem.Calls PyProof.Rows

namespace Mine
section
variable {prog : Program} {w : World} {H₀ : Heap} {sc : Scope} {n : Nat} {σ : Store} {Q : D → Prop}
open PySem.Builtin PySem.Builtin.Str

theorem meets_brace (z : PySem.Str) (t u : Tok) (hz : z.length ≤ 1000000) :
    Meets («str.__mod__» ⟨[.str (⟨#[123, 37, 115, 125]⟩ : PySem.Str) t, .str z u], []⟩) (fun _ R s => ∀ t' k, R (.ok (.ret (.str (PySem.Str.ofString "{" ++ z ++ PySem.Str.ofString "}") t'))) { s with toks := k }) := by
  kpc_run_s

theorem Op2.brace {z : PySem.Str} (hz : z.length ≤ 1000000) (h : Q (.str (PySem.Str.ofString "{" ++ z ++ PySem.Str.ofString "}"))) : Op2 prog w H₀ n (binaryOp .Mod) (.str (⟨#[123, 37, 115, 125]⟩ : PySem.Str)) (.str z) Q := by
  rintro A s av v u Q' E rm hp ⟨t, rfl⟩ ⟨t', rfl⟩ k
  exact KPc.mod_str (T := fun z => PySem.Str.ofString "{" ++ z ++ PySem.Str.ofString "}") rfl hz (fun z hz => meets_brace z _ _ hz) (fun t tk => k _ _ _ h ⟨_, rfl⟩ (Grow.tok s _))
theorem int_text_any (c : PySem.Builtin.Str.Percent) (h1 : c.alt = false) (h2 : c.type = 100 ∨ c.type = 105 ∨ c.type = 117) (h3 : c.prec = none) {n : Int} {d : List Nat} (hd : d = (PySem.Str.ofString (toString ((n.natAbs : Nat) : Int))).cps.toList) :
    percentInt c (decide (n < 0)) d = (PySem.Str.ofString (toString n)).cps.toList := by
  by_cases hn : n < 0
  · have e1 : decide (n < 0) = true := decide_eq_true hn
    have e2 : percentInt c true d = 45 :: d := by
      unfold percentInt
      rcases h2 with h2 | h2 | h2 <;> simp [h1, h2, h3]
    rw [e1, e2, hd]
    obtain ⟨m, rfl⟩ : ∃ m : Nat, n = Int.negSucc m := by
      cases n with
      | ofNat n => exact absurd hn (by simp)
      | negSucc m => exact ⟨m, rfl⟩
    have e3 : toString (Int.negSucc m) = "-" ++ toString (m + 1) := rfl
    have e4 : toString (((Int.negSucc m).natAbs : Nat) : Int) = toString (m + 1) := rfl
    rw [e3, e4]
    rw [PySem.Str.ofString_eq_toList, PySem.Str.ofString_eq_toList]
    simp
  · have e1 : decide (n < 0) = false := decide_eq_false hn
    have en : ((n.natAbs : Nat) : Int) = n := Int.natAbs_of_nonneg (by omega)
    rw [KPc.int_text c h1 h2 h3 (by omega), hd, en]

section
variable {M : Model} {A : Around} {E : Value → Shared → Prop} {s : Shared} {l : List Nat} {p : List Value} {r : List Nat}
  {f : Nat → List Value × Writer × List Nat → Sem (ForInStep (List Value × Writer × List Nat))} {Q : List Value × Writer × List Nat → Shared → Prop}
  {w : Writer} {T x y : PySem.Str} {N K : Nat} {o : Option Value}
theorem after_any {c : Percent} {n : Int} {d : List Nat} (g : KPc.Good w T N) (h1 : c.alt = false) (h2 : c.type = 100 ∨ c.type = 105 ∨ c.type = 117) (h3 : c.prec = none) (hK : (PySem.Str.ofString (toString n)).length ≤ K)
    (hd : d = (PySem.Str.ofString (toString ((n.natAbs : Nat) : Int))).cps.toList) (ho : o = none) (h : ∀ w', KPc.Good w' (T ++ PySem.Str.ofString (toString n)) (N + K) → wpAny M A (forIn l (p, w', r) f) Q E s) :
    wpAny M A (forIn l (p, w.add ⟨(percentInt c (decide (n < 0)) d).toArray⟩ o, r) f) Q E s := by
  rw [int_text_any c h1 h2 h3 hd]
  exact KPc.after_str g hK (KPc.obj_none ho) h
end

theorem meets_std (b : Addr) (p nm : PySem.Str) (i : Int) (tp ti tn t : Tok) (hp : p.length ≤ 1000000) (hn : nm.length ≤ 1000000) (hi : i.natAbs.log2 < 1920) (hil : (PySem.Str.ofString (toString i)).length ≤ 100000) :
    Meets («str.__mod__» ⟨[.str (⟨#[37, 115, 58, 37, 100, 40, 37, 115, 41]⟩ : PySem.Str) t, .ref b], []⟩) (fun _ R s => IsTup s.heap b #[.str p tp, .int i ti, .str nm tn] ∧ ∀ t' k, R (.ok (.ret (.str (p ++ PySem.Str.ofString ":" ++ PySem.Str.ofString (toString i) ++ PySem.Str.ofString "(" ++ nm ++ PySem.Str.ofString ")") t'))) { s with toks := k }) := by
  apply KPt.meets_tup
  intro _ _ _ _ _ _ kptH _
  obtain ⟨kptO, kptG, kptC, kptN, kptD⟩ := kptH
  rw [KPt.entry_is_r]
  unfold Builtin.Str.percentFormat
  refine wpAny_bind (wpAny_isInstance (T := "tuple") ⟨kptO, kptG, kptC⟩ KPt.sub_tt ?_)
  refine wpAny_bind (KPt.asStr_ref kptG kptD ?_)
  refine wpAny_bind (KPt.fills_ref ⟨kptO, kptG, kptC⟩ ?_)
  intro _
  kpc_if
  refine wpAny_bind (wpAny_seqItems kptG kptD ?_)
  refine wpAny_bind (wpAny_pure ?_)
  refine wpAny_bind ?_
  rw [KPc.range_list]
  refine KPc.start ?_
  intro _ _
  -- %s
  (refine KPc.turn ?_; kpc_check; (repeat kpc_if))
  (refine wpAny_bind ?_; refine wpAny_holding ?_; (repeat kpc_if); kpt_conv; refine wpAny_pure ?_; refine wpAny_pure ?_)
  (refine KPc.after_str0 (by kpc_g) hp (by kpc_obj) ?_; intro _ _)
  -- :
  (refine KPc.turn ?_; kpc_check; (repeat kpc_if))
  (refine wpAny_pure ?_; kpt_piece)
  -- %d
  (refine KPc.turn ?_; kpc_check; (repeat kpc_if))
  (refine wpAny_bind ?_; refine wpAny_holding ?_; (repeat kpc_if))
  refine wpAny_bind (wpAny_of_eq (a := i) rfl ?_)
  (repeat kpc_if)
  refine wpAny_bind (wpAny_mkInt ?_)
  refine wpAny_bind (call_gives F.slot_int_repr (typeIs_int _ _ _) F.entry_int_repr (F.args_int_repr_1 _) (gives_int_repr _ _ (KPt.hd2 hi)) ⟨int_text_fits (KPt.hd2 hi), ?_⟩)
  refine wpAny_bind (wpAny_of_eq (a := some _) rfl ?_)
  (refine wpAny_pure ?_; refine wpAny_pure ?_)
  (refine after_any (by kpc_g) rfl (by kpc_kind) rfl hil rfl (by kpc_none) ?_; intro _ _)
  -- (
  (refine KPc.turn ?_; kpc_check; (repeat kpc_if))
  (refine wpAny_pure ?_; kpt_piece)
  -- %s
  (refine KPc.turn ?_; kpc_check; (repeat kpc_if))
  (refine wpAny_bind ?_; refine wpAny_holding ?_; (repeat kpc_if); kpt_conv; refine wpAny_pure ?_; refine wpAny_pure ?_)
  (refine KPc.after_str (by kpc_g) hn (by kpc_obj) ?_; intro _ _)
  -- )
  (refine KPc.turn ?_; kpc_check; (repeat kpc_if))
  (refine wpAny_pure ?_; kpt_piece)
  (refine KPc.turn ?_; kpc_check; (repeat kpc_if))
  kpc_close

theorem Op2.std {p nm : PySem.Str} {i : Int} (hp : p.length ≤ 1000000) (hn : nm.length ≤ 1000000) (hi : i.natAbs.log2 < 1920) (hil : (PySem.Str.ofString (toString i)).length ≤ 100000)
    (h : Q (.str (p ++ PySem.Str.ofString ":" ++ PySem.Str.ofString (toString i) ++ PySem.Str.ofString "(" ++ nm ++ PySem.Str.ofString ")"))) : Op2 prog w H₀ n (binaryOp .Mod) (.str (⟨#[37, 115, 58, 37, 100, 40, 37, 115, 41]⟩ : PySem.Str)) (.tup [.str p, .int i, .str nm]) Q := by
  rintro A s av v u Q' E rm hpp ⟨t, rfl⟩ ⟨b, vs, rfl, nb, ht, v1, _, rfl, ⟨tp, rfl⟩, v2, _, rfl, ⟨ti, rfl⟩, v3, _, rfl, ⟨tn, rfl⟩, rfl⟩ k
  have hT : s.TypeIs (.ref b) "tuple" := by
    obtain ⟨o, ho, hc, _⟩ := ht
    exact ⟨o, ho, hc⟩
  refine KPt.bin_left (T := "str") (U := "tuple") (op := .Mod) (by decide) (typeIs_str s _ t) hT F.fills_str_mod KPt.fills_tuple F.slot_str_mod
    (call_meets F.slot_str_mod (typeIs_str s _ t) F.entry_str_mod (F.args_str_mod_2 _ _) (meets_std b p nm i tp ti tn t hp hn hi hil) ⟨ht, fun t' k' => ⟨(fun e => nomatch e), k _ _ _ h ⟨_, rfl⟩ (Grow.tok s _)⟩⟩)
end
end Mine
end
section
open PySem PySem.W PySem.Calls PyProof.Rows

namespace Mine
def defIn (P : Program) (f : PySem.Str) : Option (List Stmt × Scope × Arguments) := P.main.body.findSome? fun
  | .FunctionDef name args body _ _ _ scope _ _ _ => if name == f then some (body, scope, args) else none
  | _ => none
def bodyOf (P : Program) (f : PySem.Str) : List Stmt := ((defIn P f).map (·.1)).getD []
def scopeOf (P : Program) (f : PySem.Str) : Scope := ((defIn P f).map (·.2.1)).getD default

section
variable {prog : Program} {w : World} {H₀ : Heap} {sc : Scope} {n : Nat} {σ : Store} {Q : D → Prop}

/-- the def f of P stands at fa; ps its parameters, dfl what is filled in behind them -/
structure Has (prog : Program) (w : World) (H₀ : Heap) (P : Program) (f : PySem.Str) (fa : Addr) (ps : List PySem.Str) (dfl : List (PySem.Str × D)) : Prop where
  glob : Glob H₀ f (.ref fa)
  fd : ∃ fd, DefOk H₀ fa fd (bodyOf P f) ∧ fd.scope = scopeOf P f ∧ ∃ dv : List Value, (∀ av h, RelL prog w av h (dfl.map (·.2)) dv) ∧
    ∀ (A : Around) (s : Shared) (vs : List Value) (Q : List (PySem.Str × Value) → Shared → Prop) (E : Value → Shared → Prop), (∀ a o, H₀.get? a = some o → s.heap.get? a = some o) → vs.length = ps.length →
      Q (ps.zip vs ++ (dfl.map (·.1)).zip dv) s → wpAny (model prog w) A (bindArgs fd ⟨vs, []⟩) Q E s

theorem Has.callee {P : Program} {f : PySem.Str} {fa : Addr} {ps : List PySem.Str} {dfl : List (PySem.Str × D)} (hf : Has prog w H₀ P f fa ps dfl) : Callee H₀ (.ref fa) := by
  obtain ⟨fd, ok, _⟩ := hf.fd
  obtain ⟨o, ho, hd⟩ := ok.here
  exact .inr (.inr ⟨fa, o, fd, rfl, ho, hd⟩)

theorem zip_fst_eq {α β : Type} : ∀ {l : List α} {r : List β}, r.length = l.length → (l.zip r).map (·.1) = l
  | [], [], _ => rfl
  | [], _ :: _, e => by cases e
  | _ :: _, [], e => by cases e
  | a :: l, b :: r, e => by rw [List.zip_cons_cons, List.map_cons, zip_fst_eq (by simpa using e)]
theorem zip_snd_eq {α β : Type} : ∀ {l : List α} {r : List β}, r.length = l.length → (l.zip r).map (·.2) = r
  | [], [], _ => rfl
  | [], _ :: _, e => by cases e
  | _ :: _, [], e => by cases e
  | a :: l, b :: r, e => by rw [List.zip_cons_cons, List.map_cons, zip_snd_eq (by simpa using e)]

theorem OpL.has {P : Program} {f : PySem.Str} {fa : Addr} {ps : List PySem.Str} {dfl : List (PySem.Str × D)} {ds : List D} (hf : Has prog w H₀ P f fa ps dfl) (hlen : ds.length = ps.length) (hnd : (ps ++ dfl.map (·.1)).Nodup)
    (hkind : ∀ x ∈ ps ++ dfl.map (·.1), (scopeOf P f).names.lookup x = some .local ∨ (scopeOf P f).names.lookup x = some .cell)
    (h : Ex prog w H₀ (scopeOf P f) n (storeOf (ps ++ dfl.map (·.1)) (ds ++ dfl.map (·.2))) (bodyOf P f) (RetOf Q)) : OpL prog w H₀ (n + 1) (fun vs => PySem.call (.ref fa) vs) ds Q := by
  obtain ⟨fd, ok, hsc, dv, hdv, hb⟩ := hf.fd
  have hdl : dv.length = (dfl.map (·.1)).length := by rw [(hdv (fun _ => False) default).length, List.length_map, List.length_map]
  refine OpL.def ok (ps ++ dfl.map (·.1)) (fun vs => ps.zip vs ++ (dfl.map (·.1)).zip dv) (ds' := ds ++ dfl.map (·.2)) (fun vs hv => ?_) hnd (by rw [hsc]; exact hkind) (fun av h vs r => ?_) (fun A s vs Q E hbase hv hq => hb A s vs Q E hbase (hv.trans hlen) hq) (by rw [hsc]; exact h)
  · rw [List.map_append, zip_fst_eq (hv.trans hlen), zip_fst_eq hdl]
  · have hv : vs.length = ps.length := by rw [r.length]; exact hlen
    rw [List.map_append, zip_snd_eq hv, zip_snd_eq hdl]
    exact r.append (hdv av h)

theorem OpL.level {t : List Value → Sem Value} {ds : List D} {m : Nat} (h : OpL prog w H₀ m t ds Q) (hm : m ≤ n) : OpL prog w H₀ n t ds Q :=
  fun A s av vs Q' E rm hp x k => h A s av vs Q' E (rm.le hm) hp x k

/-- a call of a def -/
theorem Ev.def {P : Program} {f : PySem.Str} {fa : Addr} {ps : List PySem.Str} {dfl : List (PySem.Str × D)} {p pos : Pos} {es : List Expr} {Q : D → Prop} (hf : Has prog w H₀ P f fa ps dfl) (hk : sc.names.lookup f = some .globalImplicit)
    (h : EvL prog w H₀ sc n σ es fun ds => OpL prog w H₀ n (fun vs => PySem.call (.ref fa) vs) ds Q)
    (hpl : ∀ env, (backTo pos (starEach es env)).any (·.1) = false := by intro _; rfl) (hd : (f == ("__debug__" : PySem.Str)) = false := by decide) : Ev prog w H₀ sc n σ (.Call (.Name f p) es [] pos) Q :=
  Ev.call hf.glob hf.callee hk h hpl hd

/-- {} -/
theorem Ev.dict0 {pos : Pos} {Q : D → Prop} (hbig : ∃ o, H₀.get? sysModules = some o) (h : Q (D.dict [])) : Ev prog w H₀ sc n σ (.Dict [] [] pos) Q := by
  intro env A s av Q' E ok rm rd k
  refine wpAny_Dict_empty ?_
  obtain ⟨ep, hd⟩ := (Heap.DictOf.new (knd := PySem.strKind prog w) s.heap).dictAt
  obtain ⟨o, ho⟩ := hbig
  exact k _ { s with heap := s.heap.push { cls := .type "dict", data := .dict #[] } } _ h ⟨_, [], ep, rfl, rd.hp.fresh (get_size _), by rw [beq_eq_false_iff_ne]; exact Nat.ne_of_gt (Heap.lt_size (rd.base _ _ ho)), hd, rfl, rfl⟩ (Grow.push s _ s.toks)
/-- {k: v} -/
theorem Ev.dict1 {ke ve : Expr} {pos : Pos} {Q : D → Prop} (hbig : ∃ o, H₀.get? sysModules = some o)
    (h : Ev prog w H₀ sc n σ ke fun dk => ∃ k, dk = .str k ∧ Ev prog w H₀ sc n σ ve fun d => Q (D.dict [(k, d)]))
    (hshape : ∀ env, (evalEachOpt [some ke] env).zip ((evalEach [ve] env).map fun v => do let x ← v; standAt pos; pure x) = [(some (eval ke env), do let x ← eval ve env; standAt pos; pure x)] := by intro _; rfl) : Ev prog w H₀ sc n σ (.Dict [some ke] [ve] pos) Q := by
  intro env A s av Q' E ok rm rd k
  obtain ⟨o, ho⟩ := hbig
  have hne : (s.heap.objs.size == sysModules) = false := by rw [beq_eq_false_iff_ne]; exact Nat.ne_of_gt (Heap.lt_size (rd.base _ _ ho))
  refine wpAny_Dict_pairs (knd := PySem.strKind prog w) (pairs := [(eval ke env, do let x ← eval ve env; standAt pos; pure x)]) (by rw [hshape]; rfl) (by simp) (by simp) ?_
  have g₀ : Grow s { s with heap := s.heap.push { cls := .type "dict", data := .dict #[] } } := Grow.push s _ s.toks
  have rd₀ : Rd prog w H₀ env (fun b => av b ∨ b = s.heap.objs.size) σ (s.heap.push { cls := .type "dict", data := .dict #[] }) := Rd.widen (s' := { s with heap := s.heap.push { cls := .type "dict", data := .dict #[] } }) rd g₀ s.heap.objs.size (get_size _) ⟨_, Heap.get?_push_size _ rfl⟩
  have hD0 : (s.heap.push { cls := .type "dict", data := .dict #[] }).DictOf (PySem.strKind prog w) s.heap.objs.size [] := Heap.DictOf.new s.heap
  refine evalPairs_cons (h env A { s with heap := s.heap.push { cls := .type "dict", data := .dict #[] } } _ _ E ok rm rd₀ fun kv s₁ dk q zk g₁ => ?_)
  obtain ⟨key, rfl, q⟩ := q
  obtain ⟨tk, rfl⟩ := zk
  refine wpAny_bind (q env A s₁ _ _ E ok rm (rd₀.keeps g₁.get) fun v s₂ d q z g₂ => wpAny_bind (wpAny_standAt (wpAny_pure (evalPairs_nil ⟨[(key, v)], ⟨strKey, rfl, trivial⟩, ?_, fun h' hd' hs' => ?_⟩))))
  · obtain ⟨o, es, ep, ho, r⟩ := hD0
    exact ⟨o, es, ep, g₂.get _ _ (g₁.get _ _ ho), r⟩
  · have e1 : merged ([] : List (PySem.Str × Value)) [(key, v)] = [(key, v)] := rfl
    rw [e1] at hd'
    obtain ⟨ep, hd'⟩ := hd'.dictAt
    have hg : Grow s { s₂ with heap := h', toks := s₂.toks + 1 } := by
      obtain ⟨h2, t2, e, kp⟩ := (g₀.trans g₁).trans g₂
      subst e
      exact ⟨h', t2 + 1, rfl, fun b o e => hs'.extBut b o (fun q => by rw [q, get_size] at e; cases e) (kp b o e)⟩
    refine k (.ref s.heap.objs.size) _ (D.dict [(key, d)]) q ⟨_, _, ep, rfl, fun q => ?_, hne, hd', rfl, v, [], rfl, Rel.imp (fun b o nb e => ⟨fun q => nb (.inl q), hs'.extBut b o (fun q => nb (.inr q)) e⟩) _ _ z, rfl⟩ hg
    obtain ⟨o, e⟩ := rd.live _ q
    rw [get_size] at e; cases e

end
end Mine
end
section
open PySem PySem.W PySem.Calls PyProof.Rows

namespace Mine
abbrev Row := List Nat
def joinNl : List Row → List Nat
  | [] => []
  | [x] => x
  | x :: y :: r => x ++ 10 :: joinNl (y :: r)
def splitNl : List Nat → List Row
  | [] => [[]]
  | c :: r => if c = 10 then [] :: splitNl r else match splitNl r with
    | [] => [[c]]
    | p :: q => (c :: p) :: q

theorem splitNl_cons (c : Nat) (r : List Nat) : splitNl (c :: r) = if c = 10 then [] :: splitNl r else match splitNl r with
    | [] => [[c]]
    | p :: q => (c :: p) :: q := rfl
theorem joinNl_two (x y : Row) (r : List Row) : joinNl (x :: y :: r) = x ++ 10 :: joinNl (y :: r) := rfl
theorem splitNl_app : ∀ (x l : List Nat), 10 ∉ x → splitNl (x ++ 10 :: l) = x :: splitNl l
  | [], l, _ => by simp [splitNl]
  | c :: x, l, h => by
    rw [List.mem_cons, not_or] at h
    rw [List.cons_append, splitNl_cons, if_neg (Ne.symm h.1), splitNl_app x l h.2]
theorem splitNl_one : ∀ (x : List Nat), 10 ∉ x → splitNl x = [x]
  | [], _ => rfl
  | c :: x, h => by
    rw [List.mem_cons, not_or] at h
    rw [splitNl_cons, if_neg (Ne.symm h.1), splitNl_one x h.2]
theorem split_join : ∀ {rows : List Row}, rows ≠ [] → (∀ r ∈ rows, 10 ∉ r) → splitNl (joinNl rows) = rows
  | [], h, _ => absurd rfl h
  | [x], _, h => by
    unfold joinNl
    exact splitNl_one x (h x List.mem_cons_self)
  | x :: y :: r, _, h => by
    rw [joinNl_two, splitNl_app x _ (h x List.mem_cons_self), split_join (by simp) fun z hz => h z (List.mem_cons_of_mem _ hz)]
theorem joinNl_cons {x : Row} {rows : List Row} (h : rows ≠ []) : joinNl (x :: rows) = x ++ 10 :: joinNl rows := by
  cases rows with
  | nil => exact absurd rfl h
  | cons y r => rfl
theorem joinNl_len : ∀ {rows : List Row}, rows ≠ [] → (joinNl rows).length + 1 = (rows.map List.length).sum + rows.length
  | [], h => absurd rfl h
  | [x], _ => by simp [joinNl]
  | x :: y :: r, _ => by
    have := joinNl_len (rows := y :: r) (by simp)
    rw [joinNl_two]
    simp at *
    omega
theorem join_S : ∀ rows : List Row, PySem.Str.join (S [10]) (rows.map S) = S (joinNl rows)
  | [] => rfl
  | [x] => rfl
  | x :: y :: r => by
    show S x ++ S [10] ++ PySem.Str.join (S [10]) ((y :: r).map S) = _
    rw [join_S (y :: r), S_append, S_append, joinNl_two]
    simp

/-- places of a sign -/
def placesOf (c : Nat) : Nat → List Nat → List Nat
  | _, [] => []
  | k, x :: r => if x = c then k :: placesOf c (k + 1) r else placesOf c (k + 1) r

theorem subAt_one {l : List Nat} {c i : Nat} : Builtin.Str.subAt (S l) (S [c]) i = decide (l[i]? = some c) := by
  rw [StrLaws.subAt_eq]
  show ((l.toArray.toList.drop i).take [c].toArray.size == [c].toArray.toList) = _
  simp only [List.size_toArray, List.length_cons, List.length_nil]
  rw [Bool.eq_iff_iff, beq_iff_eq, decide_eq_true_eq]
  cases h : l[i]? with
  | none =>
    rw [List.getElem?_eq_none_iff] at h
    simp [List.drop_eq_nil_of_le h]
  | some x =>
    obtain ⟨hi, rfl⟩ := List.getElem?_eq_some_iff.mp h
    have e : (l.drop i).take 1 = [l[i]] := by rw [List.drop_eq_getElem_cons hi]; rfl
    show ((l.drop i).take 1 = [c]) ↔ some l[i] = some c
    rw [e]; simp

theorem occ_one_go (l : List Nat) (c : Nat) (lim : Nat) : ∀ (m k : Nat) (fd : Array Nat) (fr : Nat), k + m = l.length + 1 → fd.size + m ≤ lim → fr ≤ k →
    (forIn (List.range' k m) (fd, fr) (StrLaws.occBody (S l) (S [c]) l.length lim)).run.fst.toList = fd.toList ++ placesOf c k (l.drop k) := by
  intro m
  induction m with
  | zero =>
    intro k fd fr hk hf hfr
    have : l.drop k = [] := List.drop_eq_nil_of_le (by omega)
    rw [this]
    simp [placesOf]
  | succ m ih =>
    intro k fd fr hk hf hfr
    have eb : StrLaws.occBody (S l) (S [c]) l.length lim k (fd, fr) = if ((fd.size < lim ∧ fr ≤ k) ∧ k + 1 ≤ l.length) ∧ l[k]? = some c then pure (ForInStep.yield (fd.push k, k + 1)) else pure (ForInStep.yield (fd, fr)) := by
      unfold StrLaws.occBody
      rw [show (S [c]).length = 1 by simp, subAt_one]
      simp only [decide_eq_true_eq]
    rw [List.range'_succ, List.forIn_cons, eb]
    by_cases hkl : k < l.length
    · rw [List.drop_eq_getElem_cons hkl]
      unfold placesOf
      by_cases hc : l[k] = c
      · rw [if_pos ⟨⟨⟨by omega, hfr⟩, by omega⟩, by simp [hkl, hc]⟩, if_pos hc]
        refine (ih (k + 1) (fd.push k) (k + 1) (by omega) (by rw [Array.size_push]; omega) (Nat.le_refl _)).trans ?_
        simp
      · rw [if_neg (by rintro ⟨_, h⟩; simp [hkl, hc] at h), if_neg hc]
        exact ih (k + 1) fd fr (by omega) (by omega) (by omega)
    · rw [if_neg (by rintro ⟨⟨_, h⟩, _⟩; omega)]
      have e1 : l.drop k = [] := List.drop_eq_nil_of_le (by omega)
      have e2 : l.drop (k + 1) = [] := List.drop_eq_nil_of_le (by omega)
      have := ih (k + 1) fd fr (by omega) (by omega) (by omega)
      rw [e2] at this
      rw [e1]; exact this
theorem occ_one (l : List Nat) (c lim : Nat) (hlim : l.length + 1 ≤ lim) : Builtin.Str.occurrences (S l) (S [c]) 0 (S l).length lim = placesOf c 0 l := by
  rw [StrLaws.occ_eq, S_len]
  have := occ_one_go l c lim (l.length + 1) 0 #[] 0 (by omega) (by simpa using hlim) (Nat.le_refl _)
  simpa using this

theorem sub_S (l : List Nat) (i j : Nat) : Builtin.Str.strSub (S l) i j = S ((l.drop i).take (j - i)) := by
  have := StrLaws.strSub_toList (S l) i j
  have e := S_eta (Builtin.Str.strSub (S l) i j)
  rw [this] at e
  rw [← e]; simp

theorem parts_go (l : List Nat) : ∀ (m st k : Nat), k + m = l.length → st ≤ k → (∀ x ∈ (l.drop st).take (k - st), x ≠ 10) →
    StrLaws.partsFrom (S l) 1 st (placesOf 10 k (l.drop k)) = (splitNl (l.drop st)).map S := by
  intro m
  induction m with
  | zero =>
    intro st k hk hst hno
    have e : l.drop k = [] := List.drop_eq_nil_of_le (by omega)
    rw [e]
    show [Builtin.Str.strSub (S l) st (S l).length] = _
    rw [S_len, sub_S, List.take_of_length_le (by simp)]
    rw [List.take_of_length_le (by simp; omega)] at hno
    rw [splitNl_one _ fun h => hno 10 h rfl]
    rfl
  | succ m ih =>
    intro st k hk hst hno
    have hkl : k < l.length := by omega
    rw [List.drop_eq_getElem_cons hkl]
    unfold placesOf
    by_cases hc : l[k] = 10
    · rw [if_pos hc]
      show Builtin.Str.strSub (S l) st k :: StrLaws.partsFrom (S l) 1 (k + 1) (placesOf 10 (k + 1) (l.drop (k + 1))) = _
      rw [ih (k + 1) (k + 1) (by omega) (Nat.le_refl _) (by simp), sub_S]
      have e : l.drop st = (l.drop st).take (k - st) ++ 10 :: l.drop (k + 1) := by
        have h1 : l.drop st = (l.drop st).take (k - st) ++ (l.drop st).drop (k - st) := (List.take_append_drop _ _).symm
        rw [List.drop_drop, show st + (k - st) = k by omega, List.drop_eq_getElem_cons hkl, hc] at h1
        exact h1
      have e2 : splitNl (l.drop st) = (l.drop st).take (k - st) :: splitNl (l.drop (k + 1)) := by
        conv => lhs; rw [e]
        exact splitNl_app _ _ fun h => hno 10 h rfl
      rw [e2]; rfl
    · rw [if_neg hc]
      refine ih st (k + 1) (by omega) (by omega) fun x hx => ?_
      have e : (l.drop st).take (k + 1 - st) = (l.drop st).take (k - st) ++ [l[k]] := by
        rw [show k + 1 - st = (k - st) + 1 by omega, List.take_add_one]
        congr 1
        rw [List.getElem?_drop, show st + (k - st) = k by omega, List.getElem?_eq_getElem hkl]; rfl
      rw [e, List.mem_append, List.mem_singleton] at hx
      rcases hx with hx | hx
      · exact hno x hx
      · rw [hx]; exact hc
theorem split_S (l : List Nat) : Txt.split (S l) (S [10]) = (splitNl l).map S := by
  have main : Builtin.Str.partsBetween (S l) (placesOf 10 0 l) 1 = (splitNl l).map S := by
    rw [StrLaws.partsBetween_eq]
    have := parts_go l l.length 0 0 (by omega) (Nat.le_refl _) (by simp)
    simpa using this
  have nil : placesOf 10 0 l = [] → (splitNl l).map S = [S l] := fun h => by
    rw [← main, h]
    show [Builtin.Str.strSub (S l) 0 (S l).length] = _
    rw [sub_S]; simp
  unfold Txt.split
  have hocc := occ_one l 10 (l.length + 1) (Nat.le_refl _)
  split
  · rename_i h
    rw [Bool.or_eq_true, decide_eq_true_eq, decide_eq_true_eq] at h
    rcases h with h | h
    · simp at h
      subst h
      rfl
    · exfalso
      have : Builtin.Str.strKind (S [10]) = 1 := by decide +kernel
      rw [this] at h
      unfold Builtin.Str.strKind at h
      split at h <;> (try split at h) <;> simp at h
  · rw [S_len, S_len]
    rw [S_len] at hocc
    rw [hocc]
    split
    · rename_i h
      exact (nil (List.isEmpty_iff.mp h)).symm
    · exact main
end Mine
end
section
open PySem PySem.W PySem.Calls PyProof.Rows

namespace Mine
section
variable {prog : Program} {w : World} {H₀ : Heap} {sc : Scope} {n : Nat} {σ : Store}

/-- a call whose result is a new list -/
def OpF (prog : Program) (w : World) (H₀ : Heap) (n : Nat) (t : List Value → Sem Value) (ds : List D) (Q : List D → Prop) : Prop :=
  ∀ (A : Around) (s : Shared) (av : Addr → Prop) (vs : List Value) (Q' : Value → Shared → Prop) (E : Value → Shared → Prop),
    Room A n → Hp H₀ av s.heap → RelL prog w av s.heap ds vs →
    (∀ a us s' es, Q es → s.heap.get? a = none → s'.heap.PlainList a us.toArray → RelL prog w (fun b => av b ∨ b = a) s'.heap es us → Grow s s' → Q' (.ref a) s') → wpAny (model prog w) A (t vs) Q' E s

theorem EvF.meth {o : Expr} {name : PySem.Str} {apos pos : Pos} {es : List Expr} {Q : List D → Prop} (id : D → String)
    (h : Ev prog w H₀ sc n σ o fun a => Meth (prog := prog) (w := w) n name a (id a) ∧ EvL prog w H₀ sc n σ es fun ds => OpF prog w H₀ n (fun vs => call (.builtin (id a)) vs) (a :: ds) Q)
    (he : ∀ env, ∃ pl, eval (.Call (.Attribute o name apos) es [] pos) env = (do
      let ov ← eval o env
      standAt apos.atName
      let (f, first) ← holding [ov] (getMethod ov name pl)
      callWith pos f first (backTo pos (starEach es env)) []) := by intro _; exact ⟨_, rfl⟩)
    (hpl : ∀ env, (backTo pos (starEach es env)).any (·.1) = false := by intro _; rfl) :
    EvF prog w H₀ sc n σ (.Call (.Attribute o name apos) es [] pos) Q := by
  intro env A s av Q' E ok rm rd k
  obtain ⟨pl, e⟩ := he env
  refine MethodCall_ (pl := pl) (h env A s av _ E ok rm rd fun v s₁ a h₁ x g₁ => ?_) e
  obtain ⟨m, h₁⟩ := h₁
  refine m A s₁ av v pl _ E x ?_
  have fin : ∀ vs s₂ ds, OpF prog w H₀ n (fun vs => call (.builtin (id a)) vs) (a :: ds) Q → RelL prog w av s₂.heap ds vs → Grow s₁ s₂ → wpAny (model prog w) A (call (.builtin (id a)) ([v] ++ vs)) Q' E s₂ :=
    fun vs s₂ ds q y g₂ => q A s₂ av ([v] ++ vs) Q' E rm ((rd.keeps g₁.get).keeps g₂.get).hp ⟨v, vs, rfl, x.keeps g₂.get, y⟩ fun a us s₃ es q hn hl z g₃ => k a us s₃ es q (noneBelow (g₁.trans g₂) hn) hl z ((g₁.trans g₂).trans g₃)
  have hev := fun Q'' => h₁ env A s₁ av pos Q'' E ok rm (rd.keeps g₁.get)
  have hp := hpl env
  show wpAny _ _ (callWith pos (.builtin (id a)) [v] (backTo pos (starEach es env)) []) _ _ _
  revert hev hp
  generalize backTo pos (starEach es env) = args
  intro hev hp
  refine callWith_builtin hp ?_
  cases args with
  | nil => exact PyProof.Rows.evalArgs_none (fun Γ p hΓ => hev (fun vs s₂ => wpAny (model prog w) A (call (.builtin (id a)) ([v] ++ vs)) Q' E s₂) (fun vs s₂ ds q y g₂ => fin vs s₂ ds q y g₂) Γ p hΓ Γ p hΓ)
  | cons p r =>
    obtain ⟨b, t⟩ := p
    have hb : b = false := by simp at hp; exact hp.1
    subst hb
    exact evalArgs_plain (hev _ fun vs s₂ ds q y g₂ => fin vs s₂ ds q y g₂)

theorem OpF.split {l : List Nat} {Q : List D → Prop} (hsz : l.length ≤ 1048576) (h : Q ((splitNl l).map fun r => D.str (S r))) : OpF prog w H₀ n (fun vs => call (.builtin "str.split") vs) [.str (S l), .str (S [10])] Q := by
  rintro A s av vs Q' E rm hp ⟨v, _, rfl, ⟨t, rfl⟩, u, _, rfl, ⟨t', rfl⟩, rfl⟩ k
  have hsp := split_S l
  have hln : (splitNl l).length ≤ l.length + 1 := by
    have : ∀ l : List Nat, (splitNl l).length ≤ l.length + 1 := by
      intro l
      induction l with
      | nil => simp [splitNl]
      | cons c r ih =>
        rw [splitNl_cons]
        split
        · simp; omega
        · split
          · simp
          · rename_i h; rw [h] at ih; simp at *; omega
    exact this l
  have hxs : (S l).length ≤ sizeLine := by rw [S_len, sizeLine_eq]; omega
  have hsz2 : (Txt.split (S l) (S [10])).length ≤ sizeLine := by rw [hsp, List.length_map, sizeLine_eq]; omega
  have hy : ((S [10]).length == 0) = false := by simp
  have fin : ∀ (us : List Value) (tk : Nat), StrsAre us (Txt.split (S l) (S [10])) → Q' (.ref s.heap.objs.size) { s with toks := tk, heap := s.heap.push { cls := .type "list", data := .seq us.toArray } } := fun us tk hu => by
    rw [hsp] at hu
    have kp : ∀ b o, s.heap.get? b = some o → (s.heap.push { cls := .type "list", data := .seq us.toArray }).get? b = some o := fun b o e => Heap.get?_push_of_some _ e
    refine k s.heap.objs.size us { s with toks := tk, heap := s.heap.push { cls := .type "list", data := .seq us.toArray } } _ h (get_size _) ⟨_, Heap.get?_push_size _ rfl⟩ ?_ (Grow.push s _ tk)
    have := RelL.ofStrs (prog := prog) (w := w) (av := fun b => av b ∨ b = s.heap.objs.size) (h := s.heap.push { cls := .type "list", data := .seq us.toArray }) hu
    rw [List.map_map] at this; exact this
  cases h1 : (decide ((S l).length < (S [10]).length) || decide (Builtin.Str.strKind (S l) < Builtin.Str.strKind (S [10])))
  · cases hf : (Builtin.Str.occurrences (S l) (S [10]) 0 (S l).length ((S l).length + 1)).isEmpty
    · have e : Txt.split (S l) (S [10]) = Builtin.Str.partsBetween (S l) (Builtin.Str.occurrences (S l) (S [10]) 0 (S l).length ((S l).length + 1)) (S [10]).length := (if_neg (ne_true_of_eq_false h1)).trans (if_neg (ne_true_of_eq_false hf))
      rw [e] at hsz2
      refine call_meets F.slot_str_split (typeIs_str _ _ _) F.entry_str_split (F.args_str_split_2 _ _) (meets_str_split_sep (S l) (S [10]) t t' h1 hy hf hxs hsz2) ?_
      show wants Q' E _ { s with toks := _, heap := s.heap.push { cls := .type "list", data := .seq (strsFrom s.toks (Builtin.Str.partsBetween (S l) (Builtin.Str.occurrences (S l) (S [10]) 0 (S l).length ((S l).length + 1)) (S [10]).length)).toArray } }
      rw [strsFrom_eq, ← e]
      have hn := strValues_is (numbered s.toks (Txt.split (S l) (S [10])))
      rw [numbered_texts] at hn
      exact fin _ _ hn
    · exact call_meets F.slot_str_split (typeIs_str _ _ _) F.entry_str_split (F.args_str_split_2 _ _) (meets_str_split_not_found (S l) (S [10]) t t' h1 hy hf) (fin [.str (S l) t] _ (by rw [show Txt.split (S l) (S [10]) = [S l] from (if_neg (ne_true_of_eq_false h1)).trans (if_pos hf)]; exact .cons _ _ .nil))
  · exact call_meets F.slot_str_split (typeIs_str _ _ _) F.entry_str_split (F.args_str_split_2 _ _) (meets_str_split_cannot_occur (S l) (S [10]) t t' h1) (fin [.str (S l) t] _ (by rw [show Txt.split (S l) (S [10]) = [S l] from if_pos h1]; exact .cons _ _ .nil))

theorem OpF.toL {t : List Value → Sem Value} {ds : List D} {Q : D → Prop} (h : OpF prog w H₀ n t ds fun es => Q (.lst es)) : OpL prog w H₀ n t ds Q := by
  intro A s av vs Q' E rm hp x k
  refine h A s av vs Q' E rm hp x fun a us s' es q hn hl z g => k _ s' _ q ⟨a, us, rfl, hp.fresh hn, LstAt.ofPlain hl, z.weak fun b q => .inl q⟩ g
theorem OpL.splitNl {l : List Nat} {Q : D → Prop} (hsz : l.length ≤ 1048576) (h : Q (.lst ((splitNl l).map fun r => D.str (S r)))) : OpL prog w H₀ n (fun vs => call (.builtin "str.split") vs) [.str (S l), .str (S [10])] Q := OpF.toL (OpF.split hsz h)
theorem OpL.joinNl {rows : List Row} {Q : D → Prop} (hne : rows ≠ []) (hsz : (joinNl rows).length < 1048576) (h : Q (.str (S (joinNl rows)))) : OpL prog w H₀ n (fun vs => call (.builtin "str.join") vs) [.str (S [10]), .lst (rows.map fun r => D.str (S r))] Q := by
  have e : (rows.map fun r => D.str (S r)) = (rows.map S).map D.str := by rw [List.map_map]; rfl
  rw [e]
  refine OpL.join (joinOk_of_weight ?_ (by simp)) (by rw [join_S]; exact h)
  have := joinNl_len hne
  have e2 : ((rows.map S).map (·.length)) = rows.map List.length := by rw [List.map_map]; apply List.map_congr_left; intro r _; exact S_len r
  rw [e2, List.length_map]; omega
end
end Mine
end
section
open PySem PySem.W PySem.Calls PyProof.Rows

namespace Mine
inductive Tr where
  | node (h : Row) (ks : List Tr)

theorem Tr.ind {P : Tr → Prop} (H : ∀ h ks, (∀ k ∈ ks, P k) → P (.node h ks)) : ∀ t, P t
  | .node h ks => H h ks fun k hk => Tr.ind H k
  termination_by t => sizeOf t
  decreasing_by have := List.sizeOf_lt_of_mem hk; simp; omega

def isSub (r : Row) : Bool := r.head? == some 32 || r.head? == some 46
def grpStep (acc : List (List Nat)) (r : Row) : List (List Nat) := if isSub r then acc.set (acc.length - 1) ((acc[acc.length - 1]?.getD []) ++ [10] ++ r) else acc ++ [r]
def grp (l : List Row) : List (List Nat) := l.foldl grpStep []
theorem grpStep_sub {a : List (List Nat)} {x : List Nat} {r : Row} (h : isSub r = true) : grpStep (a ++ [x]) r = a ++ [x ++ [10] ++ r] := by
  unfold grpStep
  rw [if_pos h]
  simp
theorem grpStep_new {a : List (List Nat)} {r : Row} (h : isSub r = false) : grpStep a r = a ++ [r] := by
  unfold grpStep; rw [if_neg (by rw [h]; exact Bool.false_ne_true)]

def leadOf (i : Nat) : Nat := if i = 1 then 46 else 32
def indentFrom (wd : Nat) : Nat → List Row → List Row
  | _, [] => []
  | i, r :: rs => (List.replicate wd (leadOf i) ++ r) :: indentFrom wd (i + 1) rs
/-- the text of a page -/
def pageT (wd : Nat) (head : Row) (ts : List (List Nat)) : List Nat := joinNl (head :: indentFrom wd 0 ((sortT ts).flatMap splitNl))

mutual
def text (wd : Nat) : Tr → List Nat
  | .node h ks => pageT wd h (texts wd ks)
def texts (wd : Nat) : List Tr → List (List Nat)
  | [] => []
  | k :: ks => text wd k :: texts wd ks
end
theorem texts_map (wd : Nat) : ∀ ks, texts wd ks = ks.map (text wd)
  | [] => rfl
  | k :: ks => by show text wd k :: texts wd ks = _; rw [texts_map wd ks]; rfl

structure GoodHead (h : Row) : Prop where
  ne : h ≠ []
  nl : 10 ∉ h
  top : isSub h = false
inductive Good : Tr → Prop
  | node {h : Row} {ks : List Tr} : GoodHead h → (∀ k ∈ ks, Good k) → Good (.node h ks)
theorem Good.head {h : Row} {ks : List Tr} : Good (.node h ks) → GoodHead h
  | .node a _ => a
theorem Good.kids {h : Row} {ks : List Tr} : Good (.node h ks) → ∀ k ∈ ks, Good k
  | .node _ b => b

theorem sub_indent {wd : Nat} (hw : 1 ≤ wd) : ∀ {A : List Row} {i : Nat}, ∀ r ∈ indentFrom wd i A, isSub r = true ∧ r ≠ []
  | a :: A, i, r, h => by
    obtain ⟨m, rfl⟩ : ∃ m, wd = m + 1 := ⟨wd - 1, by omega⟩
    rcases List.mem_cons.mp h with rfl | h
    · unfold leadOf
      rw [List.replicate_succ]
      split <;> simp [isSub]
    · exact sub_indent hw r h
theorem nonl_indent {wd : Nat} : ∀ {A : List Row} {i : Nat}, (∀ r ∈ A, 10 ∉ r) → ∀ r ∈ indentFrom wd i A, 10 ∉ r
  | [], _, _, r, h => nomatch h
  | a :: A, i, hA, r, h => by
    rcases List.mem_cons.mp h with rfl | h
    · rw [List.mem_append, not_or]
      refine ⟨fun q => ?_, hA a List.mem_cons_self⟩
      have := List.eq_of_mem_replicate q
      unfold leadOf at this
      split at this <;> omega
    · exact nonl_indent (fun r hr => hA r (List.mem_cons_of_mem _ hr)) r h

theorem pageT_perm {wd : Nat} {h : Row} {a b : List (List Nat)} (p : a.Perm b) : pageT wd h a = pageT wd h b := by
  unfold pageT; rw [sortT_congr p]

/-- a text that stands as a part -/
structure PartT (t : List Nat) : Prop where
  ex : ∃ h rest, t = joinNl (h :: rest) ∧ splitNl t = h :: rest ∧ GoodHead h ∧ ∀ r ∈ rest, isSub r = true ∧ r ≠ [] ∧ 10 ∉ r

theorem PartT.rows {t : List Nat} (p : PartT t) : ∀ r ∈ splitNl t, r ≠ [] ∧ 10 ∉ r := by
  obtain ⟨h, rest, e, e2, gh, hr⟩ := p.ex
  intro r hm
  rw [e2] at hm
  rcases List.mem_cons.mp hm with rfl | hm
  · exact ⟨gh.ne, gh.nl⟩
  · exact (hr r hm).2

theorem page_split {wd : Nat} {h : Row} {ts : List (List Nat)} (hh : 10 ∉ h) (hp : ∀ t ∈ ts, PartT t) :
    splitNl (pageT wd h ts) = h :: indentFrom wd 0 ((sortT ts).flatMap splitNl) := by
  unfold pageT
  refine split_join (by simp) fun r hr => ?_
  rcases List.mem_cons.mp hr with rfl | hr
  · exact hh
  · refine nonl_indent (fun r hr => ?_) r hr
    obtain ⟨t, ht, hr⟩ := List.mem_flatMap.mp hr
    exact ((hp t ((sortT_perm ts).mem_iff.mp ht)).rows r hr).2
theorem page_part {wd : Nat} (hw : 1 ≤ wd) {h : Row} {ts : List (List Nat)} (gh : GoodHead h) (hp : ∀ t ∈ ts, PartT t) : PartT (pageT wd h ts) := by
  refine ⟨h, indentFrom wd 0 ((sortT ts).flatMap splitNl), rfl, page_split gh.nl hp, gh, fun r hr => ?_⟩
  obtain ⟨a, b⟩ := sub_indent hw r hr
  refine ⟨a, b, nonl_indent (fun r hr => ?_) r hr⟩
  obtain ⟨t, ht, hr⟩ := List.mem_flatMap.mp hr
  exact ((hp t ((sortT_perm ts).mem_iff.mp ht)).rows r hr).2
theorem good_part {wd : Nat} (hw : 1 ≤ wd) : ∀ t, Good t → PartT (text wd t) :=
  Tr.ind fun h ks ih g => by
    show PartT (pageT wd h (texts wd ks))
    refine page_part hw g.head fun t ht => ?_
    rw [texts_map] at ht
    obtain ⟨k, hk, rfl⟩ := List.mem_map.mp ht
    exact ih k hk (g.kids k hk)

theorem grp_flat : ∀ (ts : List (List Nat)) (acc : List (List Nat)), (∀ t ∈ ts, PartT t) → (ts.flatMap splitNl).foldl grpStep acc = acc ++ ts
  | [], acc, _ => by simp
  | t :: ts, acc, hp => by
    obtain ⟨h, rest, e, e2, gh, hr⟩ := (hp t List.mem_cons_self).ex
    rw [List.flatMap_cons, List.foldl_append, e2, List.foldl_cons, grpStep_new gh.top]
    have key : ∀ (rest : List Row) (x : List Nat), (∀ r ∈ rest, isSub r = true ∧ r ≠ [] ∧ 10 ∉ r) → rest.foldl grpStep (acc ++ [x]) = acc ++ [joinNl (x :: rest)] := by
      intro rest
      induction rest with
      | nil => intro x _; rfl
      | cons r rest ih =>
        intro x hr
        rw [List.foldl_cons, grpStep_sub (hr r List.mem_cons_self).1, ih _ fun q hq => hr q (List.mem_cons_of_mem _ hq)]
        congr 2
        rw [joinNl_two]
        cases rest with
        | nil => simp [joinNl]
        | cons y ys => rw [joinNl_two, joinNl_two]; simp
    rw [key rest h hr, ← e, grp_flat ts _ fun q hq => hp q (List.mem_cons_of_mem _ hq)]
    simp
theorem grp_page {ts : List (List Nat)} (hp : ∀ t ∈ ts, PartT t) : grp ((sortT ts).flatMap splitNl) = sortT ts := by
  have := grp_flat (sortT ts) [] fun t ht => hp t ((sortT_perm ts).mem_iff.mp ht)
  simpa [grp] using this

theorem indent_inj {wd : Nat} : ∀ {A B : List Row} {i : Nat}, indentFrom wd i A = indentFrom wd i B → A = B
  | [], [], _, _ => rfl
  | [], _ :: _, _, h => by cases h
  | _ :: _, [], _, h => by cases h
  | a :: A, b :: B, i, h => by
    obtain ⟨h1, h2⟩ := List.cons.inj h
    rw [List.append_cancel_left h1, indent_inj h2]
theorem page_inj {wd : Nat} {h h' : Row} {ts ts' : List (List Nat)} (hh : 10 ∉ h) (hh' : 10 ∉ h') (hp : ∀ t ∈ ts, PartT t) (hp' : ∀ t ∈ ts', PartT t) (e : pageT wd h ts = pageT wd h' ts') : h = h' ∧ ts.Perm ts' := by
  have e1 := congrArg splitNl e
  rw [page_split hh hp, page_split hh' hp'] at e1
  obtain ⟨e2, e3⟩ := List.cons.inj e1
  refine ⟨e2, ?_⟩
  have e4 := congrArg grp (indent_inj e3)
  rw [grp_page hp, grp_page hp'] at e4
  exact (sortT_perm ts).symm.trans (e4 ▸ sortT_perm ts')

theorem perm_map_inv {α β : Type} {f : α → β} : ∀ {l' l : List β} , l'.Perm l → ∀ {ks : List α}, l = ks.map f → ∃ ks' : List α, ks'.Perm ks ∧ ks'.map f = l' := by
  intro l' l p
  induction p with
  | nil => intro ks e; cases ks with
    | nil => exact ⟨[], .nil, rfl⟩
    | cons => cases e
  | cons x _ ih => intro ks e; cases ks with
    | nil => cases e
    | cons k ks =>
      obtain ⟨e1, e2⟩ := List.cons.inj e
      obtain ⟨ks', p, q⟩ := ih e2
      exact ⟨k :: ks', p.cons k, by rw [List.map_cons, q, e1]⟩
  | swap x y l => intro ks e; match ks, e with
    | a :: b :: ks, e =>
      obtain ⟨e1, e2⟩ := List.cons.inj e
      obtain ⟨e2, e3⟩ := List.cons.inj e2
      exact ⟨b :: a :: ks, .swap _ _ _, by rw [List.map_cons, List.map_cons, e1, e2, e3]⟩
  | trans _ _ ih1 ih2 => intro ks e
                         obtain ⟨k1, p1, q1⟩ := ih2 e
                         obtain ⟨k2, p2, q2⟩ := ih1 q1.symm
                         exact ⟨k2, p2.trans p1, q2⟩

mutual
/-- all ways to hang a leaf below -/
def ins (r : Row) : Tr → List Tr
  | .node h ks => .node h (ks ++ [.node r []]) :: (insL r ks).map (Tr.node h)
def insL (r : Row) : List Tr → List (List Tr)
  | [] => []
  | k :: ks => (ins r k).map (· :: ks) ++ (insL r ks).map (k :: ·)
end
theorem sum_perm {α : Type} {f : α → Int} {a b : List α} (p : a.Perm b) : (a.map f).sum = (b.map f).sum := by
  induction p with
  | nil => rfl
  | cons x _ ih => rw [List.map_cons, List.map_cons, List.sum_cons, List.sum_cons, ih]
  | swap x y l => simp only [List.map_cons, List.sum_cons]; omega
  | trans _ _ i j => exact i.trans j
theorem kids_parts {wd : Nat} (hw : 1 ≤ wd) {h : Row} {ks : List Tr} (g : Good (.node h ks)) : ∀ t ∈ texts wd ks, PartT t := fun t ht => by
  rw [texts_map] at ht
  obtain ⟨k, hk, rfl⟩ := List.mem_map.mp ht
  exact good_part hw k (g.kids k hk)

end Mine
end
section
open PySem PySem.W PySem.Calls PyProof.Rows

namespace Mine
mutual
def sz : Tr → Nat
  | .node _ ks => 1 + szs ks
def szs : List Tr → Nat
  | [] => 0
  | k :: ks => sz k + szs ks
end
theorem sz_pos : ∀ t, 1 ≤ sz t
  | .node h ks => by unfold sz; omega
theorem szs_mem : ∀ {ks : List Tr} {k : Tr}, k ∈ ks → sz k ≤ szs ks
  | a :: ks, k, h => by
    show sz k ≤ sz a + szs ks
    rcases List.mem_cons.mp h with rfl | h
    · omega
    · have := szs_mem h; omega
theorem szs_len : ∀ ks : List Tr, ks.length ≤ szs ks
  | [] => Nat.zero_le _
  | k :: ks => by
    show ks.length + 1 ≤ sz k + szs ks
    have := szs_len ks
    have := sz_pos k
    omega
theorem szs_app : ∀ a b : List Tr, szs (a ++ b) = szs a + szs b
  | [], b => by simp [szs]
  | k :: a, b => by show sz k + szs (a ++ b) = sz k + szs a + szs b; rw [szs_app a b]; omega

/-- unlike ones in the order of their first coming -/
def ddStep {α : Type} [DecidableEq α] (acc : List α) (x : α) : List α := if x ∈ acc then acc else acc ++ [x]
def dd {α : Type} [DecidableEq α] (l : List α) : List α := l.foldl ddStep []
theorem dd_app {α : Type} [DecidableEq α] (l : List α) (x : α) : dd (l ++ [x]) = if x ∈ dd l then dd l else dd l ++ [x] := by
  unfold dd; rw [List.foldl_append]; rfl
theorem list_rev_ind {α : Type} {P : List α → Prop} (h0 : P []) (h1 : ∀ l x, P l → P (l ++ [x])) (l : List α) : P l := by
  have : ∀ l : List α, P l.reverse := fun l => by
    induction l with
    | nil => exact h0
    | cons x l ih => rw [List.reverse_cons]; exact h1 _ _ ih
  have := this l.reverse
  rwa [List.reverse_reverse] at this
theorem dd_mem {α : Type} [DecidableEq α] {x : α} (l : List α) : x ∈ dd l ↔ x ∈ l := by
  refine list_rev_ind (P := fun l => x ∈ dd l ↔ x ∈ l) (by simp [dd]) (fun l y ih => ?_) l
  rw [dd_app]
  by_cases hy : y ∈ dd l
  · rw [if_pos hy, ih, List.mem_append, List.mem_singleton]
    constructor
    · exact .inl
    · rintro (h | rfl)
      · exact h
      · exact ih.mp hy
  · rw [if_neg hy, List.mem_append, List.mem_append, ih]
theorem dd_nodup {α : Type} [DecidableEq α] (l : List α) : (dd l).Nodup := by
  refine list_rev_ind (P := fun l => (dd l).Nodup) (by simp [dd]) (fun l y ih => ?_) l
  rw [dd_app]
  split
  · exact ih
  · rename_i h
    rw [List.nodup_append]
    exact ⟨ih, by simp, fun a ha b hb => by rw [List.mem_singleton.mp hb]; exact fun e => h (e ▸ ha)⟩
theorem sum_zero {α : Type} {l : List α} {f : α → Int} (h : ∀ x ∈ l, f x = 0) : (l.map f).sum = 0 := by
  induction l with
  | nil => rfl
  | cons a l ih => rw [List.map_cons, List.sum_cons, h a List.mem_cons_self, ih fun x hx => h x (List.mem_cons_of_mem _ hx)]; rfl
def kd (wd : Nat) (ks : List Tr) (p : List Nat) : Tr := (ks.find? fun k => text wd k = p).getD (.node [] [])
theorem kd_ok {wd : Nat} {ks : List Tr} {p : List Nat} (h : p ∈ texts wd ks) : kd wd ks p ∈ ks ∧ text wd (kd wd ks p) = p := by
  rw [texts_map] at h
  obtain ⟨k, hk, rfl⟩ := List.mem_map.mp h
  unfold kd
  cases e : ks.find? fun q => text wd q = text wd k with
  | none => exact absurd (List.find?_eq_none.mp e k hk) (by simp)
  | some q => exact ⟨List.mem_of_find?_eq_some e, by simpa using List.find?_some e⟩
theorem row_sum_le (wd : Nat) : ∀ (A : List Row) (i : Nat), (A.map List.length).sum ≤ ((indentFrom wd i A).map List.length).sum
  | [], _ => by simp [indentFrom]
  | a :: A, i => by have := row_sum_le wd A (i + 1); simp [indentFrom] at *; omega
theorem indentLen (wd : Nat) : ∀ (A : List Row) (i : Nat), (indentFrom wd i A).length = A.length
  | [], _ => rfl
  | a :: A, i => by show (indentFrom wd (i + 1) A).length + 1 = _; rw [indentLen wd A]; rfl
/-- a part is no longer than the page -/
theorem part_le {wd : Nat} {h : Row} {ts : List (List Nat)} {t : List Nat} (hp : ∀ t ∈ ts, PartT t) (ht : t ∈ ts) : t.length ≤ (pageT wd h ts).length := by
  obtain ⟨hd, rest, e, e2, _⟩ := (hp t ht).ex
  have h1 := joinNl_len (rows := h :: indentFrom wd 0 ((sortT ts).flatMap splitNl)) (by simp)
  have h2 := joinNl_len (rows := hd :: rest) (by simp)
  have h3 := row_sum_le wd ((sortT ts).flatMap splitNl) 0
  have hm : t ∈ sortT ts := (sortT_perm ts).mem_iff.mpr ht
  obtain ⟨a, b, e3⟩ := List.append_of_mem hm
  have h4 : (sortT ts).flatMap splitNl = a.flatMap splitNl ++ ((hd :: rest) ++ b.flatMap splitNl) := by
    have := congrArg (fun q => List.flatMap splitNl q) e3
    rw [List.flatMap_append, List.flatMap_cons, e2] at this
    exact this
  have h5 : (((sortT ts).flatMap splitNl).map List.length).sum = ((a.flatMap splitNl).map List.length).sum + (((hd :: rest).map List.length).sum + ((b.flatMap splitNl).map List.length).sum) := by
    rw [h4, List.map_append, List.sum_append, List.map_append, List.sum_append]
  have h6 : ((sortT ts).flatMap splitNl).length = (a.flatMap splitNl).length + ((hd :: rest).length + (b.flatMap splitNl).length) := by rw [h4, List.length_append, List.length_append]
  unfold pageT
  rw [← e] at h2
  rw [List.length_cons, indentLen, List.map_cons, List.sum_cons] at h1
  rw [List.length_cons] at h6 h2
  omega
end Mine
end
section
open PySem PySem.W PySem.Calls PyProof.Rows

namespace Mine
theorem dd_len {α : Type} [DecidableEq α] (l : List α) : (dd l).length ≤ l.length := by
  refine list_rev_ind (P := fun l => (dd l).length ≤ l.length) (by simp [dd]) (fun l y ih => ?_) l
  rw [dd_app]
  split <;> simp <;> omega
theorem S_count (P : List (List Nat)) (p : List Nat) : (P.map S).count (S p) = P.count p := by
  induction P with
  | nil => rfl
  | cons a P ih =>
    rw [List.map_cons, List.count_cons, List.count_cons, ih, S_beq]
    congr 1
    by_cases h : a = p
    · subst h; simp
    · rw [decide_eq_false h]; simp [h]
theorem pick_to' {α : Type} (l : List α) (j : Nat) : pick l none (some (j : Int)) none = l.take j := pick_to l j
theorem pick_from' {α : Type} (l : List α) (i : Nat) : pick l (some ((i : Int) + 1)) none none = l.drop (i + 1) := pick_from l (i + 1)

section
variable {prog : Program} {w : World} {H₀ : Heap} {n : Nat} {Q : D → Prop}
theorem OpL.countT {P : List (List Nat)} {p : List Nat} (h : Q (.int (P.count p : Nat))) : OpL prog w H₀ n (fun vs => call (.builtin "list.count") vs) [.lst (P.map fun a => D.str (S a)), .str (S p)] Q := by
  have e : (P.map fun a => D.str (S a)) = (P.map S).map D.str := by rw [List.map_map]; rfl
  rw [e]
  exact OpL.countL (by rw [S_count]; exact h)
end
end Mine
end
section
open PySem PySem.W PySem.Calls PyProof.Rows

namespace Mine
section
variable {prog : Program} {w : World} {H₀ : Heap} {n : Nat} {σ : Store} {sc : Scope} {Q : D → Prop}

/-- [elt for x in e] -/
theorem Ev.compMap {elt e : Expr} {x : PySem.Str} {px : Pos} {scope : Scope} {pos : Pos} {Q : D → Prop} (co : CompOk scope sc) (hkind : (relabelS scope sc).names.lookup x = some .local ∨ (relabelS scope sc).names.lookup x = some .cell) (hcap : ¬ capOf scope x)
    (h : Ev prog w H₀ sc n σ e fun d => ∃ ds tt, PyIt prog w H₀ n d ds tt ∧ tt (.Name x px) ∧ ds.length ≤ sizeLine ∧ ∃ f : D → D,
      (∀ d ∈ ds, Ev prog w H₀ (relabelS scope sc) n (upd (inner scope σ) x (.val d)) elt (fun y => y = f d)) ∧ Q (.lst (ds.map f)))
    (hs : ∀ env y, foldedSetIterable e env y = pure y := by intro _ _; rfl) : Ev prog w H₀ sc n σ (.ListComp elt [⟨.Name x px, e, [], 0⟩] scope pos) Q := by
  refine Ev.comp co (h.mono fun d q => ?_) hs
  obtain ⟨ds, tt, pit, ht, hsz, f, step, fin⟩ := q
  refine ⟨ds, tt, pit, ht, hsz, fun k ys => ys = (ds.take k).map f, rfl, fun k d ys hd hJ => ?_, fun ys hJ => ?_⟩
  · refine AsOk.name ?_ hkind hcap
    show Ev prog w H₀ _ n _ elt _
    refine (step d (List.mem_of_getElem? hd)).mono fun y hy => ?_
    show ys ++ [y] = (ds.take (k + 1)).map f
    rw [hJ, hy, List.take_add_one, hd]
    simp
  · rw [hJ, List.take_length]; exact fin

/-- [elt for x in e if test] -/
theorem Ev.compFilter {elt e test : Expr} {x : PySem.Str} {px : Pos} {scope : Scope} {pos : Pos} {Q : D → Prop} (co : CompOk scope sc) (hkind : (relabelS scope sc).names.lookup x = some .local ∨ (relabelS scope sc).names.lookup x = some .cell) (hcap : ¬ capOf scope x)
    (h : Ev prog w H₀ sc n σ e fun d => ∃ ds tt, PyIt prog w H₀ n d ds tt ∧ tt (.Name x px) ∧ ds.length ≤ sizeLine ∧ ∃ (f : D → D) (p : D → Bool),
      (∀ d ∈ ds, EvB prog w H₀ (relabelS scope sc) n (upd (inner scope σ) x (.val d)) test (fun b => b = p d)) ∧
      (∀ d ∈ ds, p d = true → Ev prog w H₀ (relabelS scope sc) n (upd (inner scope σ) x (.val d)) elt (fun y => y = f d)) ∧ Q (.lst ((ds.filter p).map f)))
    (hs : ∀ env y, foldedSetIterable e env y = pure y := by intro _ _; rfl) : Ev prog w H₀ sc n σ (.ListComp elt [⟨.Name x px, e, [test], 0⟩] scope pos) Q := by
  refine Ev.comp co (h.mono fun d q => ?_) hs
  obtain ⟨ds, tt, pit, ht, hsz, f, p, tst, step, fin⟩ := q
  refine ⟨ds, tt, pit, ht, hsz, fun k ys => ys = ((ds.take k).filter p).map f, rfl, fun k d ys hd hJ => ?_, fun ys hJ => ?_⟩
  · refine AsOk.name ?_ hkind hcap
    have e : ds.take (k + 1) = ds.take k ++ [d] := by rw [List.take_add_one, hd]; rfl
    refine (tst d (List.mem_of_getElem? hd)).mono fun b hb => ?_
    subst hb
    cases hp : p d with
    | true =>
      show Ev prog w H₀ _ n _ elt _
      refine (step d (List.mem_of_getElem? hd) hp).mono fun y hy => ?_
      show ys ++ [y] = ((ds.take (k + 1)).filter p).map f
      rw [hJ, hy, e, List.filter_append]
      simp [hp]
    | false =>
      show ys = ((ds.take (k + 1)).filter p).map f
      rw [hJ, e, List.filter_append]
      simp [hp]
  · rw [hJ, List.take_length]; exact fin

theorem OpL.strI {i : Int} {Q : D → Prop} (hi : i.natAbs.log2 < 1920) (h : Q (.str (PySem.Str.ofString (toString i)))) : OpL prog w H₀ n (fun vs => call (.type "str") vs) [.int i] Q := by
  rintro A s av vs Q' E rm hp ⟨v, _, rfl, ⟨t, rfl⟩, rfl⟩ k
  exact PySem.P.str_of_int hi (k _ _ _ h ⟨_, rfl⟩ (Grow.tok s _))
end
end Mine
end
section
open PySem PySem.W PySem.Calls PyProof.Rows

namespace Mine
def argsOf (P : Program) (f : PySem.Str) : Arguments := ((defIn P f).map (·.2.2)).getD default
def recAt (p : Program) (f : PySem.Str) : Option (Arguments × List Stmt × Scope) := ((recsOf p).find? (·.name == f)).map fun d => (d.params, d.body, d.scope)
def optB {α : Type} (x : Option Obj) (f : Obj → Option α) : Option α := match x with
  | some o => f o
  | none => none
def peekF {α : Type} (L : Addr → Option Obj) (S : Setting) : Sem α → Option α
  | .pure a => some a
  | .rule _ k => peekF L S (k ())
  | .point _ k => peekF L S (k ())
  | .ask k => peekF L S (k S)
  | .load a _ k => optB (L a) fun o => peekF L S (k o)
  | _ => none
theorem wp_of_peekF {α : Type} {L : Addr → Option Obj} {M : Model} {Γ : Ctx} {Q : α → Pos → Shared → Prop} {E : Value → Pos → Shared → Prop} {p : Pos} {s : Shared} (x : ∀ a o, L a = some o → s.heap.get? a = some o) {a : α} (q : Q a p s) :
    ∀ t : Sem α, peekF L ⟨M.prog, M.w.params⟩ t = some a → Sem.wp M Γ t Q E p s := by
  intro t
  induction t with
  | pure b => intro e; cases e; exact q
  | rule _ k ih => intro e; exact ih () e
  | point _ k ih => intro e; exact ih () e
  | ask k ih => intro e; exact ih _ e
  | load a _ k ih =>
    intro e
    have e : optB (L a) (fun o => peekF L ⟨M.prog, M.w.params⟩ (k o)) = some _ := e
    cases ho : L a with
    | none => rw [ho] at e; cases e
    | some o => rw [ho] at e; exact ⟨o, x _ _ ho, ih o e⟩
  | _ => intro e; cases e
def refV : Value → Option Addr
  | .ref a => some a
  | _ => none
def strV : Value → Option PySem.Str
  | .str k _ => some k
  | _ => none
def boolV : Value → Option Bool
  | .bool b => some b
  | _ => none
def funcV : Data → Option FuncData
  | .func fd => some fd
  | _ => none
def dictV : Data → Option (Array DictEntry)
  | .dict es _ => some es
  | _ => none
def fieldsV : Data → Option (Array Value)
  | .fields vs => some vs
  | _ => none
theorem refV_of {v : Value} {a : Addr} (h : refV v = some a) : v = .ref a := by
  cases v <;> cases h
  rfl
theorem strV_of {v : Value} {k : PySem.Str} (h : strV v = some k) : ∃ t, v = .str k t := by
  cases v <;> cases h
  exact ⟨_, rfl⟩
theorem boolV_of {v : Value} {b : Bool} (h : boolV v = some b) : v = .bool b := by
  cases v <;> cases h
  rfl
theorem funcV_of {d : Data} {x : FuncData} (h : funcV d = some x) : d = .func x := by
  cases d <;> cases h
  rfl
theorem dictV_of {d : Data} {x : Array DictEntry} (h : dictV d = some x) : ∃ n, d = .dict x n := by
  cases d <;> cases h
  exact ⟨_, rfl⟩
theorem fieldsV_of {d : Data} {x : Array Value} (h : fieldsV d = some x) : d = .fields x := by
  cases d <;> cases h
  rfl
def oneV : List DictEntry → Option (PySem.Str × Bool)
  | [e] => (strV e.key).bind fun k => (boolV e.val).map fun b => (k, b)
  | _ => none
theorem oneV_of {l : List DictEntry} {k : PySem.Str} {b : Bool} (h : oneV l = some (k, b)) : ∃ hh t, l = [⟨hh, .str k t, .bool b⟩] := by
  cases l with
  | nil => exact nomatch (show (none : Option (PySem.Str × Bool)) = some (k, b) from h)
  | cons e r =>
    cases r with
    | cons _ _ => exact nomatch (show (none : Option (PySem.Str × Bool)) = some (k, b) from h)
    | nil =>
      obtain ⟨k', h1, h2⟩ := Option.bind_eq_some_iff.mp (show ((strV e.key).bind fun k => (boolV e.val).map fun b => (k, b)) = some (k, b) from h)
      obtain ⟨b', h3, h4⟩ := Option.map_eq_some_iff.mp h2
      obtain ⟨t, e1⟩ := strV_of h1
      have e2 := boolV_of h3
      obtain ⟨hh, ek, ev⟩ := e
      have p1 : k' = k := congrArg (·.1) h4
      have p2 : b' = b := congrArg (·.2) h4
      rw [p1] at e1
      rw [p2] at e2
      exact ⟨hh, t, by rw [show ek = .str k t from e1, show ev = .bool b from e2]⟩
abbrev DupT := Arguments × FuncBody × Scope × Addr × Addr × Bool × Value × Bool × PySem.Str × Bool
def dupOf (fd : FuncData) (q k : PySem.Str) (b : Bool) : DupT := (fd.params, fd.body, fd.scope, fd.globals, fd.builtins, fd.closure.isEmpty, fd.defaults, decide (q = fd.qualname), k, b)
def dupSeen (f : PySem.Str) (h : Heap) : Option DupT :=
  (h.nsMap mainGlobals f).bind fun v => (refV v).bind fun a => (h.get? a).bind fun o => (funcV o.data).bind fun fd => (refV fd.kwdefaults).bind fun D => (refV fd.code).bind fun c => (h.get? D).bind fun oD => (dictV oD.data).bind fun es => (oneV es.toList).bind fun kb =>
    (h.get? c).bind fun oc => (fieldsV oc.data).bind fun vs => (vs[1]?).bind fun x => (strV x).map fun q => dupOf fd q kb.1 kb.2
/-- a def with one keyword default, a bool, as it stands -/
def DupIs (P : Program) (f k : PySem.Str) (b : Bool) (h : Heap) : Prop := ∃ h₀ : Heap, (∀ b o, h₀.get? b = some o → h.get? b = some o) ∧ h₀.isNs mainGlobals = true ∧ dupSeen f h₀ = some (argsOf P f, .stmts (bodyOf P f), scopeOf P f, mainGlobals, builtinsNs, true, .none, true, k, b)
theorem DupIs.keeps {P : Program} {f k : PySem.Str} {b : Bool} {h h' : Heap} (x : DupIs P f k b h) (kp : ∀ b o, h.get? b = some o → h'.get? b = some o) : DupIs P f k b h' :=
  let ⟨h₀, k0, hn, e⟩ := x; ⟨h₀, fun b o q => kp _ _ (k0 _ _ q), hn, e⟩
/-- what the head sees besides: sys.modules stands, and the def f -/
def hk (P : Program) (f k : PySem.Str) (b : Bool) : Hook := ⟨_, fun s => ((s.heap.get? sysModules).isSome, s.heap.isNs mainGlobals, dupSeen f s.heap), fun _ => (true, true, some (argsOf P f, .stmts (bodyOf P f), scopeOf P f, mainGlobals, builtinsNs, true, .none, true, k, b)),
  fun _ h => (∃ o, h.get? sysModules = some o) ∧ DupIs P f k b h, fun _ s e => ⟨Option.isSome_iff_exists.mp (congrArg (·.1) e), ⟨_, fun _ _ q => q, congrArg (·.2.1) e, congrArg (·.2.2) e⟩⟩, fun _ _ _ ⟨⟨o, e⟩, x⟩ kp => ⟨⟨o, kp _ _ e⟩, x.keeps kp⟩⟩
theorem len2 {α : Type} {l : List α} (h : l.length = 2) : ∃ a b, l = [a, b] := by
  match l, h with
  | [a, b], _ => exact ⟨a, b, rfl⟩
theorem len3 {α : Type} {l : List α} (h : l.length = 3) : ∃ a b c, l = [a, b, c] := by
  match l, h with
  | [a, b, c], _ => exact ⟨a, b, c, rfl⟩
theorem len5 {α : Type} {l : List α} (h : l.length = 5) : ∃ a b c d e, l = [a, b, c, d, e] := by
  match l, h with
  | [a, b, c, d, e], _ => exact ⟨a, b, c, d, e, rfl⟩
section
variable {prog : Program} {w : World} {H₀ : Heap} {mg mb : PySem.Str → Option Value} {p : Program} {loose : List PySem.Str} {mean : ExcName → Option Value}
/-- a def that stands as the top writes it -/
theorem Has.ofTop {P : Program} {f : PySem.Str} (ps : List PySem.Str) (T : Top p loose mean mg mb H₀)
    (q : recAt p f = some (argsOf P f, bodyOf P f, scopeOf P f)) (co : (scopeOf P f).isCoroutine = false) (gen : (scopeOf P f).isGenerator = false)
    (kind : (scopeOf P f).kind = .function) (nodup : ((scopeOf P f).names.map (·.1)).Nodup) (nofree : ∀ x ∈ (scopeOf P f).names, x.2 ≠ .free)
    (hb : ∀ vs : List Value, vs.length = ps.length → ∀ pm cd doc, bindArgs (docDef f (argsOf P f) (bodyOf P f) (scopeOf P f) pm cd doc) ⟨vs, []⟩ = pure (ps.zip vs)) :
    ∃ fa, mg f = some (.ref fa) ∧ Has prog w H₀ P f fa ps [] := by
  unfold recAt at q
  obtain ⟨d, hd, e⟩ := Option.map_eq_some_iff.mp q
  have hn : d.name = f := by simpa using List.find?_some hd
  have hm := List.mem_of_find?_eq_some hd
  obtain ⟨a, o, pm, cd, doc, h1, h2, h3, h4⟩ := T.fn d hm
  simp only [Prod.mk.injEq] at e
  obtain ⟨e1, e2, e3⟩ := e
  rw [hn, e1, e2, e3] at h3
  rw [hn] at h1 h4
  exact ⟨a, h1, { glob := .inl ⟨mg, T.g, h1⟩, fd := ⟨_, { here := ⟨o, h2, h3⟩, code := h4, lim := T.nolimit, gl := rfl, bi := rfl, body := rfl, clo := rfl, co := co, gen := gen, kind := kind, nodup := nodup, nofree := nofree }, rfl, [], fun _ _ => rfl,
    fun A s vs Q E base hlen h => BindsTo.of_eq (hb vs hlen pm cd doc) _ _ _ _ (by rw [← List.append_nil (ps.zip vs)]; exact h)⟩ }⟩
/-- a def with one keyword default, a bool -/
theorem Has.ofKw {P : Program} {f x k : PySem.Str} {b : Bool} (T : Top p loose mean mg mb H₀) (DI : DupIs P f k b H₀) (co : (scopeOf P f).isCoroutine = false) (gen : (scopeOf P f).isGenerator = false)
    (kind : (scopeOf P f).kind = .function) (nodup : ((scopeOf P f).names.map (·.1)).Nodup) (nofree : ∀ x ∈ (scopeOf P f).names, x.2 ≠ .free)
    (hb : ∀ v (fd : FuncData) D S L, ∃ G : Obj → Option (List (PySem.Str × Value)), peekF L S (bindArgs { fd with params := argsOf P f, defaults := .none, kwdefaults := .ref D } ⟨[v], []⟩) = optB (L D) G ∧
      ∀ c d n sl hh t, G ⟨c, d, .dict #[⟨hh, .str k t, .bool b⟩] n, sl⟩ = some [(x, v), (k, .bool b)]) :
    ∃ fa, Has prog w H₀ P f fa [x] [(k, .bool b)] := by
  obtain ⟨h₀, kp, hn, e⟩ := DI
  obtain ⟨v, a1, e⟩ := Option.bind_eq_some_iff.mp e
  obtain ⟨a, a2, e⟩ := Option.bind_eq_some_iff.mp e
  obtain ⟨o, a3, e⟩ := Option.bind_eq_some_iff.mp e
  obtain ⟨fd, a4, e⟩ := Option.bind_eq_some_iff.mp e
  obtain ⟨D, q8, e⟩ := Option.bind_eq_some_iff.mp e
  obtain ⟨c, a6, e⟩ := Option.bind_eq_some_iff.mp e
  obtain ⟨oD, d1, e⟩ := Option.bind_eq_some_iff.mp e
  obtain ⟨es, d2, e⟩ := Option.bind_eq_some_iff.mp e
  obtain ⟨kb, a9, e⟩ := Option.bind_eq_some_iff.mp e
  obtain ⟨oc, a10, e⟩ := Option.bind_eq_some_iff.mp e
  obtain ⟨vs, a11, e⟩ := Option.bind_eq_some_iff.mp e
  obtain ⟨x', a12, e⟩ := Option.bind_eq_some_iff.mp e
  obtain ⟨q, a13, e⟩ := Option.map_eq_some_iff.mp e
  have pr := fun {α : Type} (g : DupT → α) => congrArg g e
  have q3 : fd.scope = scopeOf P f := pr (·.2.2.1)
  obtain ⟨t, a13⟩ := strV_of a13
  rw [a13, of_decide_eq_true (pr (·.2.2.2.2.2.2.2.1))] at a12
  obtain ⟨n, d2⟩ := dictV_of d2
  rw [show kb = (k, b) from Prod.ext (pr (·.2.2.2.2.2.2.2.2.1)) (pr (·.2.2.2.2.2.2.2.2.2))] at a9
  obtain ⟨hh, tk, a9⟩ := oneV_of a9
  rw [show es = #[⟨hh, .str k tk, .bool b⟩] by rw [← a9]] at d2
  rw [refV_of a2] at a1
  have d1 := kp _ _ d1
  refine ⟨a, { glob := .inl ⟨_, (Heap.Ns.of_isNs hn).keeps kp, a1⟩, fd := ⟨fd, { here := ⟨o, kp _ _ a3, funcV_of a4⟩, code := ⟨c, oc, vs, t, refV_of a6, kp _ _ a10, fieldsV_of a11, a12⟩, lim := T.nolimit, gl := pr (·.2.2.2.1), bi := pr (·.2.2.2.2.1), body := pr (·.2.1), clo := List.isEmpty_iff.mp (pr (·.2.2.2.2.2.1)), co := by rw [q3]; exact co, gen := by rw [q3]; exact gen, kind := by rw [q3]; exact kind, nodup := by rw [q3]; exact nodup, nofree := by rw [q3]; exact nofree }, q3, [.bool b], fun _ _ => ⟨_, _, rfl, rfl, rfl⟩,
        fun A s vs Q E base hlen h => ?_⟩ }⟩
  obtain ⟨v, rfl⟩ := List.length_eq_one_iff.mp hlen
  intro Γ p hΓ
  have hfd : fd = { fd with params := argsOf P f, defaults := .none, kwdefaults := .ref D } := by
    have q1 : fd.params = argsOf P f := pr (·.1)
    have q7 : fd.defaults = .none := pr (·.2.2.2.2.2.2.1)
    rw [← q1, ← q7, ← refV_of q8]
  rw [hfd]
  obtain ⟨F, e1, e2⟩ := hb v fd D ⟨prog, w.params⟩ H₀.get?
  refine wp_of_peekF (L := H₀.get?) base h _ ?_
  refine e1.trans ?_
  obtain ⟨oc, od, oda, osl⟩ := oD
  obtain rfl : oda = .dict #[⟨hh, .str k tk, .bool b⟩] n := d2
  rw [d1]
  exact e2 _ _ _ _ _ _
theorem Glob.ofTop {f : PySem.Str} {v : Value} (T : Top p loose mean mg mb H₀) (h : (startupNames.contains f || loose.contains f || ((recsOf p).map (·.name)).contains f || ((litsOf p).map (·.1)).contains f || ((clssOf p loose).map (·.name)).contains f) = false)
    (hv : bootBuiltins f = some v) (hn : f ≠ "__name__" := by decide) : Glob H₀ f v := by
  simp only [Bool.or_eq_false_iff, List.contains_eq_mem, decide_eq_false_iff_not] at h
  obtain ⟨⟨⟨⟨h1, h2⟩, h3⟩, h4⟩, h5⟩ := h
  exact .inr ⟨mg, mb, T.g, T.free f h1 h2 h3 h4 h5, T.b, (T.builtins f hn).trans hv⟩
theorem LstAt.ofWell {P : Params} {h : Heap} {a : Addr} {vs : List Value} {xs : List PyData} (x : Well P h (.ref a) (ofPy (.list xs))) (hl : h.IsList a vs.toArray) : LstAt h a vs.toArray := by
  obtain ⟨o, ho, hc, n, hd⟩ := hl
  simp only [ofPy] at x
  cases x with
  | list e _ =>
    rw [ho] at e
    cases e
    exact ⟨_, ho, rfl, rfl, n, hd⟩
/-- the law's call -/
theorem OpL.run {n : Nat} {s₁ : Shared} {f : Value} {a : Addr} {vs : List Value} {ns : List Int} {Q' : Value → Shared → Prop} {E : Value → Shared → Prop} (h : OpL prog w s₁.heap n (fun vs => PySem.call f vs) [.lst (ns.map D.int)] fun d => d = .bool true)
    (hr : Room callerA n) (hl : LstAt s₁.heap a vs.toArray) (hi : IntsAre vs ns) (q : ∀ s', Grow s₁ s' → Q' (.bool true) s') : wpAny (model prog w) callerA (PySem.call f [.ref a]) Q' E s₁ := by
  refine h callerA s₁ (fun _ => False) [.ref a] Q' E hr ⟨fun _ _ e => e, fun a h => h.elim⟩ ⟨_, _, rfl, ⟨a, vs, rfl, id, hl, RelL.ofInts hi⟩, rfl⟩ ?_
  rintro r s' d rfl z g
  rw [show r = .bool true from z]
  exact q s' g
end
end Mine
end
section
open PySem PySem.W PySem.Calls PyProof.Rows

namespace Mine
section
variable {prog : Program} {w : World} {H₀ : Heap} {n : Nat} {σ : Store}

theorem compTurn_two0 (elt t1 it1 t2 it2 : Expr) (ifs : List Expr) (scope : Scope) (pos : Pos) (it acc : Value) (env : Env) :
    compTurn (.ListComp elt [⟨t1, it1, [], 0⟩, ⟨t2, it2, ifs, 0⟩] scope pos) 0 it acc env = (do
      standAt it1.pos
      match ← pyNext it with
      | none => pure (.done .next)
      | some v =>
        letOwnedTupleGo t1 it v
        assign t1 env v
        let mut ok := true
        for c in ([] : List Expr) do
          if ok then ok ← isTrue c env (eval c env)
        if ok then
          let x ← eval it2 env
          standAt it2.pos
          let x ← foldedSetIterable it2 env x
          let _ ← runOwn (.compStart (.ListComp elt [⟨t1, it1, [], 0⟩, ⟨t2, it2, ifs, 0⟩] scope pos) 1 (← holding [x] (pyIter x)) acc env) env
        again (.compLoop (.ListComp elt [⟨t1, it1, [], 0⟩, ⟨t2, it2, ifs, 0⟩] scope pos) 0 it acc env)) := by rfl
theorem compTurn_two1 (elt t1 it1 t2 it2 : Expr) (ifs : List Expr) (scope : Scope) (pos : Pos) (it acc : Value) (env : Env) :
    compTurn (.ListComp elt [⟨t1, it1, [], 0⟩, ⟨t2, it2, ifs, 0⟩] scope pos) 1 it acc env = (do
      standAt it2.pos
      match ← pyNext it with
      | none => pure (.done .next)
      | some v =>
        letOwnedTupleGo t2 it v
        assign t2 env v
        let mut ok := true
        for c in ifs do
          if ok then ok ← isTrue c env (eval c env)
        if ok then
          (do let _ ← call (.builtin "list.append") [acc, ← eval elt env])
        again (.compLoop (.ListComp elt [⟨t1, it1, [], 0⟩, ⟨t2, it2, ifs, 0⟩] scope pos) 1 it acc env)) := by rfl

theorem compStart_two1 {elt t1 it1 t2 it2 : Expr} {ifs : List Expr} {scope : Scope} {pos : Pos} {it acc : Value} {env : Env} {A : Around} {R : Result → Shared → Prop} {s : Shared}
    (h0 : codeAny (model prog w) A (.compLoop (.ListComp elt [⟨t1, it1, [], 0⟩, ⟨t2, it2, ifs, 0⟩] scope pos) 1 it acc env) R s)
    (h : wpAny (model prog w) A (pyIter it) (fun it' s' => codeAny (model prog w) A (.compLoop (.ListComp elt [⟨t1, it1, [], 0⟩, ⟨t2, it2, ifs, 0⟩] scope pos) 1 it' acc env) R s')
      (notedBy (model prog w) A env fun x s' => R (.error x) s') s) :
    codeAny (model prog w) A (.compStart (.ListComp elt [⟨t1, it1, [], 0⟩, ⟨t2, it2, ifs, 0⟩] scope pos) 1 it acc env) R s := by
  refine codeAny_of_tree ?_
  show wpAny _ _ ((compStart (.ListComp elt [⟨t1, it1, [], 0⟩, ⟨t2, it2, ifs, 0⟩] scope pos) 1 it acc env).onRaise (fun x => do noteFrame x env; standAt theWindowsPlace)) _ _ s
  refine wpAny_notedAt ?_
  unfold compStart
  show wpAny _ _ (ask >>= _) _ _ s
  refine wpAny_bind (wpAny_askSetting (wpAny_ite ?_))
  split
  · first
      | exact wpAny_bind (wpAny_pure (wpAny_pure (And.intro rfl h0)))
      | exact wpAny_pure (And.intro rfl h0)
  · first
      | exact wpAny_bind (wpAny_rule (wpAny_bind (wpAny_standAt (wpAny_bind (wpAny_mono h (fun it' s' h' => wpAny_pure (And.intro rfl h')) fun _ _ x => x)))))
      | (refine wpAny_bind (wpAny_rule ?_); show wpAny _ _ (standAt it2.pos >>= _) _ _ s; exact wpAny_bind (wpAny_standAt (wpAny_bind (wpAny_mono h (fun it' s' h' => wpAny_pure (And.intro rfl h')) fun _ _ x => x))))

theorem compLoop_two0 {A : Around} {R : Result → Shared → Prop} {s : Shared} {elt t1 it1 t2 it2 : Expr} {ifs : List Expr} {scope : Scope} {pos : Pos} {it acc : Value} {env : Env} (I : Nat → Shared → Prop)
    (hs : ∀ env x, foldedSetIterable it2 env x = pure x)
    (turn : ∀ n s (E : Value → Shared → Prop), I n s → wpAny (model prog w) A (pyNext it) (fun r s₁ => match r with
      | none => R (.ok .next) s₁
      | some v => wpAny (model prog w) A (letOwnedTupleGo t1 it v) (fun _ s₀ => wpAny (model prog w) A (assign t1 env v) (fun _ s₂ =>
          wpAny (model prog w) A (eval it2 env) (fun x s₃ => wpAny (model prog w) A (pyIter x) (fun it' s₄ =>
            codeAny (model prog w) A (.compStart (.ListComp elt [⟨t1, it1, [], 0⟩, ⟨t2, it2, ifs, 0⟩] scope pos) 1 it' acc env) (fun r s₅ => r = .ok .next ∧ ∃ m, m < n ∧ I m s₅) s₄) E s₃) E s₂) E s₀) E s₁) E s)
    (n : Nat) (h : I n s) : codeAny (model prog w) A (.compLoop (.ListComp elt [⟨t1, it1, [], 0⟩, ⟨t2, it2, ifs, 0⟩] scope pos) 0 it acc env) R s := by
  refine codeAny_loop rfl I (fun n s hI => ?_) n h
  show wpAny _ A ((compTurn (.ListComp elt [⟨t1, it1, [], 0⟩, ⟨t2, it2, ifs, 0⟩] scope pos) 0 it acc env).onRaise (fun x => do noteFrame x env; theTreesLotGoes x)) _ _ s
  refine wpAny_noted ?_
  rw [compTurn_two0]
  refine wpAny_bind (wpAny_standAt (wpAny_bind (wpAny_mono (turn n s _ hI) (fun r s₁ h₁ => ?_) fun _ _ h' => h')))
  cases r with
  | none => exact wpAny_pure h₁
  | some v =>
    refine wpAny_bind (wpAny_mono h₁ (fun _ s₀ h₀' => wpAny_bind (wpAny_mono h₀' (fun _ s₂ h₂ => ?_) fun _ _ h' => h')) fun _ _ h' => h')
    dsimp only
    rw [List.forIn_nil]
    refine wpAny_bind (wpAny_pure ?_)
    rw [if_pos rfl]
    refine wpAny_bind (wpAny_mono h₂ (fun x s₃ h₃ => ?_) fun _ _ h' => h')
    refine wpAny_bind (wpAny_standAt ?_)
    rw [hs]
    refine wpAny_bind (wpAny_pure ?_)
    refine wpAny_bind (wpAny_holding (wpAny_mono h₃ (fun it' s₄ h₄ => ?_) fun _ _ h' => h'))
    refine wpAny_bind (wpAny_runOwn (codeAny_mono h₄ fun r s₅ h₅ => ?_))
    obtain ⟨rfl, h₅⟩ := h₅
    exact wpAny_pure ⟨rfl, h₅⟩

theorem compLoop_two1 {A : Around} {R : Result → Shared → Prop} {s : Shared} {elt t1 it1 t2 it2 : Expr} {ifs : List Expr} {scope : Scope} {pos : Pos} {it acc : Value} {env : Env} (I : Nat → Shared → Prop)
    (turn : ∀ n s (E : Value → Shared → Prop), I n s → wpAny (model prog w) A (pyNext it) (fun r s₁ => match r with
      | none => R (.ok .next) s₁
      | some v => wpAny (model prog w) A (letOwnedTupleGo t2 it v) (fun _ s₀ => wpAny (model prog w) A (assign t2 env v) (fun _ s₂ =>
          wpAny (model prog w) A (forIn ifs true fun c r => if r = true then do let ok ← isTrue c env (eval c env); pure (ForInStep.yield ok) else pure (ForInStep.yield r)) (fun ok s₃ =>
            if ok = true then wpAny (model prog w) A (eval elt env) (fun x s₄ => wpAny (model prog w) A (call (.builtin "list.append") [acc, x]) (fun _ s₅ => ∃ m, m < n ∧ I m s₅) E s₄) E s₃
            else ∃ m, m < n ∧ I m s₃) E s₂) E s₀) E s₁) E s)
    (n : Nat) (h : I n s) : codeAny (model prog w) A (.compLoop (.ListComp elt [⟨t1, it1, [], 0⟩, ⟨t2, it2, ifs, 0⟩] scope pos) 1 it acc env) R s := by
  refine codeAny_loop rfl I (fun n s hI => ?_) n h
  show wpAny _ A ((compTurn (.ListComp elt [⟨t1, it1, [], 0⟩, ⟨t2, it2, ifs, 0⟩] scope pos) 1 it acc env).onRaise (fun x => do noteFrame x env; theTreesLotGoes x)) _ _ s
  refine wpAny_noted ?_
  rw [compTurn_two1]
  refine wpAny_bind (wpAny_standAt (wpAny_bind (wpAny_mono (turn n s _ hI) (fun r s₁ h₁ => ?_) fun _ _ h' => h')))
  cases r with
  | none => exact wpAny_pure h₁
  | some v =>
    refine wpAny_bind (wpAny_mono h₁ (fun _ s₀ h₀' => wpAny_bind (wpAny_mono h₀' (fun _ s₂ h₂ => wpAny_bind (wpAny_mono h₂ (fun ok s₃ h₃ => ?_) fun _ _ h' => h')) fun _ _ h' => h')) fun _ _ h' => h')
    cases ok with
    | false => exact wpAny_pure ⟨rfl, h₃⟩
    | true =>
      exact wpAny_bind (wpAny_bind (wpAny_mono h₃ (fun x s₄ h₄ => wpAny_bind (wpAny_mono h₄ (fun _ s₅ h₅ => wpAny_pure (wpAny_pure ⟨rfl, h₅⟩)) fun _ _ h' => h')) fun _ _ h' => h'))

/-- the inner loop of a comprehension with two clauses -/
theorem comp_inner {sc scope : Scope} {cap : PySem.Str → Prop} {elt t1 it1 t2 it2 : Expr} {ifs : List Expr} {pos : Pos} {cenv : Env} {A : Around} {s : Shared} {av tv : Addr → Prop} {I Dd : Addr} {ds : List D} {tt : Expr → Prop} {P : Nat → Heap → Prop} {Mid : Nat → Value → Heap → Prop}
    {RR : Result → Shared → Prop} {ys : List D} {vs : List Value} {σ₁ : Store}
    (ok : EnvOk sc cenv) (rm : Room A n) (inv : Inv prog w H₀ cap cenv (fun b => av b ∨ b = I) tv σ₁ s.heap) (it : It prog w A (fun b => (av b ∨ tv b) ∨ b = I) s.heap I ds tt P Mid) (hP : P 0 s.heap) (ht : tt t2)
    (hcI : ∀ x c, cenv.cells.lookup x = some c → c ≠ I) (hcD : ∀ x c, cenv.cells.lookup x = some c → c ≠ Dd) (hIH : H₀.get? I = none) (hDH : H₀.get? Dd = none) (hav : av Dd) (hDI : Dd ≠ I)
    (hD : s.heap.PlainList Dd vs.toArray) (hr : RelL prog w (fun b => (av b ∨ b = I) ∨ tv b) s.heap ys vs)
    (J : Nat → List D → Store → Prop) (h0 : J 0 ys σ₁)
    (step : ∀ k x ys σ', ds[k]? = some x → J k ys σ' → AsOk prog w H₀ cap sc n σ' t2 x fun σ₂ =>
      EvT prog w H₀ sc n σ₂ ifs fun b => if b then Ev prog w H₀ sc n σ₂ elt (fun y => J (k + 1) (ys ++ [y]) σ₂) else J (k + 1) ys σ₂)
    (hsz : ∀ k ys σ', J k ys σ' → ys.length ≤ sizeLine)
    (hRR : ∀ h' tk ys' vs' σ', J ds.length ys' σ' → (∃ m, h'.Ns cenv.locals m) → (∀ x c, cenv.cells.lookup x = some c → ∃ v, h'.IsCell c v) → h'.PlainList Dd vs'.toArray → RelL prog w (fun b => (av b ∨ b = I) ∨ tv b) h' ys' vs' →
      (∀ b o, b ≠ I → b ≠ Dd → ¬ tv b → s.heap.get? b = some o → h'.get? b = some o) → RR (.ok .next) { s with heap := h', toks := tk }) :
    codeAny (model prog w) A (.compLoop (.ListComp elt [⟨t1, it1, [], 0⟩, ⟨t2, it2, ifs, 0⟩] scope pos) 1 (.ref I) (.ref Dd) cenv) RR s := by
  have tvI : ¬ tv I := fun q => inv.apart I q (.inr rfl)
  have tvD : ¬ tv Dd := fun q => inv.apart Dd q (.inl hav)
  have locI : I ≠ cenv.locals := fun q => tvI (q ▸ inv.loc)
  have locD : Dd ≠ cenv.locals := fun q => tvD (q ▸ inv.loc)
  have butI : ∀ {σ' : Store} {ha hb : Heap}, Inv prog w H₀ cap cenv (fun b => av b ∨ b = I) tv σ' ha → (∃ o, hb.get? I = some o) → (∀ b o, b ≠ I → ha.get? b = some o → hb.get? b = some o) → Inv prog w H₀ cap cenv (fun b => av b ∨ b = I) tv σ' hb :=
    fun i hl hk => i.ofBut I (.inl (.inr rfl)) hIH locI hcI (fun x sl e q => tvI (i.own x sl I e q).1) hl hk
  have butD : ∀ {σ' : Store} {ha hb : Heap}, Inv prog w H₀ cap cenv (fun b => av b ∨ b = I) tv σ' ha → (∃ o, hb.get? Dd = some o) → (∀ b o, b ≠ Dd → ha.get? b = some o → hb.get? b = some o) → Inv prog w H₀ cap cenv (fun b => av b ∨ b = I) tv σ' hb :=
    fun i hl hk => i.ofBut Dd (.inl (.inl hav)) hDH locD hcD (fun x sl e q => tvD (i.own x sl Dd e q).1) hl hk
  refine compLoop_two1 (fun m s' => ∃ kk ys vs σ' h' tk, s' = { s with heap := h', toks := tk } ∧ m = ds.length - kk ∧ kk ≤ ds.length ∧ J kk ys σ' ∧ Inv prog w H₀ cap cenv (fun b => av b ∨ b = I) tv σ' h' ∧ P kk h' ∧
      h'.PlainList Dd vs.toArray ∧ RelL prog w (fun b => (av b ∨ b = I) ∨ tv b) h' ys vs ∧ ∀ b o, b ≠ I → b ≠ Dd → ¬ tv b → s.heap.get? b = some o → h'.get? b = some o) ?_ ds.length
    ⟨0, ys, vs, σ₁, s.heap, s.toks, rfl, rfl, Nat.zero_le _, h0, inv, hP, hD, hr, fun _ _ _ _ _ e => e⟩
  rintro m s' EE ⟨kk, ys, vs, σ', h', tk, rfl, rfl, hkk, hJ, inv, hPk, hDk, hrel, hkeep⟩
  rcases Nat.lt_or_ge kk ds.length with hlt | hge
  · have hx : ds[kk]? = some ds[kk] := List.getElem?_eq_getElem hlt
    refine it.next kk _ _ _ ds[kk] (fun b => (av b ∨ b = I) ∨ tv b) hx hPk (fun b o n1 n2 e => hkeep b o n1 (fun q => n2 (.inl (.inl (q ▸ hav)))) (fun q => n2 (.inl (.inr q))) e) (fun b q => ?_) (fun b q => inv.rd.live b q) fun u h₃ tk₃ hz hm hk₃ => ?_
    · rcases q with (q | q) | q
      · exact .inl (.inl (.inl q))
      · exact .inl (.inr q)
      · exact .inl (.inl (.inr q))
    have inv₃ := butI inv (it.midlive kk u h₃ hm) hk₃
    refine it.go t2 kk u _ _ _ ht hm fun h₄ hP₄ hk₄ => ?_
    have inv₄ := butI inv₃ (it.live _ _ hP₄) hk₄
    have hz₄ : Rel prog w (fun b => (av b ∨ b = I) ∨ tv b) h₄ ds[kk] u := Rel.imp (fun b o nb e => ⟨nb, hk₄ b o (fun q => nb (.inl (.inr q))) e⟩) _ _ hz
    have hD₄ : h₄.PlainList Dd vs.toArray := hDk.at fun o e => hk₄ _ o hDI (hk₃ _ o hDI e)
    have hr₄ : RelL prog w (fun b => (av b ∨ b = I) ∨ tv b) h₄ ys vs := hrel.imp fun b o nb e => ⟨nb, hk₄ b o (fun q => nb (.inl (.inr q))) (hk₃ b o (fun q => nb (.inl (.inr q))) e)⟩
    refine wpAny_mono (step kk ds[kk] ys σ' hx hJ cenv A { s with heap := h₄, toks := tk₃ } (fun b => av b ∨ b = I) tv u EE ok rm inv₄ hz₄) (fun _ s₅ p => ?_) fun _ _ x => x
    obtain ⟨σ₂, q, inv₅, f₅⟩ := p
    have keep₅ : ∀ b o, b ≠ I → b ≠ Dd → ¬ tv b → s.heap.get? b = some o → s₅.heap.get? b = some o := fun b o n1 n2 n3 e => f₅.get b o n3 (hk₄ b o n1 (hk₃ b o n1 (hkeep b o n1 n2 n3 e)))
    have hD₅ : s₅.heap.PlainList Dd vs.toArray := hD₄.at fun o e => f₅.get _ o tvD e
    have hr₅ : RelL prog w (fun b => (av b ∨ b = I) ∨ tv b) s₅.heap ys vs := hr₄.imp fun b o nb e => ⟨nb, f₅.get b o (fun q => nb (.inr q)) e⟩
    have hP₅ : P (kk + 1) s₅.heap := it.loc _ _ _ hP₄ fun o e => f₅.get I o tvI e
    have fr₅ : ∃ h₅ tk₅, s₅ = { s with heap := h₅, toks := tk₅ } := by obtain ⟨h₅, tk₅, rfl, _⟩ := f₅; exact ⟨h₅, tk₅, rfl⟩
    refine EvT.run ok rm q inv₅.rd fun ok' s₆ q₆ g₆ => ?_
    have inv₆ := inv₅.keeps g₆.get
    cases ok' with
    | false =>
      rw [if_neg (by decide)]
      obtain ⟨h₅, tk₅, rfl⟩ := fr₅
      obtain ⟨h₆, tk₆, rfl, g₆⟩ := g₆
      exact ⟨ds.length - (kk + 1), by omega, kk + 1, ys, vs, σ₂, h₆, tk₆, rfl, rfl, hlt, q₆, inv₆, it.loc _ _ _ hP₅ fun o e => g₆ _ _ e, hD₅.at fun o e => g₆ _ _ e, hr₅.keeps g₆, fun b o n1 n2 n3 e => g₆ b o (keep₅ b o n1 n2 n3 e)⟩
    | true =>
      rw [if_pos rfl]
      have q₆ : Ev prog w H₀ sc n σ₂ elt (fun y => J (kk + 1) (ys ++ [y]) σ₂) := q₆
      refine q₆ cenv A s₆ (fun b => (av b ∨ b = I) ∨ tv b) _ EE ok rm inv₆.rd fun yv s₇ y hJ' hy g₇ => ?_
      have g := g₆.trans g₇
      have gk := g.get
      have hD₇ : s₇.heap.PlainList Dd vs.toArray := hD₅.at fun o e => g.get _ o e
      have hvs : vs.length ≤ sizeLine := by rw [hrel.length]; exact hsz _ _ _ hJ
      refine wpAny_list_append_plain hD₇ (fun h₈ hD₈ hs₈ => ?_) (by rw [List.size_toArray]; exact hvs)
      have inv₇ := inv₅.keeps g.get
      have imp : ∀ b o, ¬ ((av b ∨ b = I) ∨ tv b) → s₇.heap.get? b = some o → ¬ ((av b ∨ b = I) ∨ tv b) ∧ h₈.get? b = some o := fun b o nb e => ⟨nb, hs₈.extBut b o (fun q => nb (.inl (.inl (q ▸ hav)))) e⟩
      have inv₈ := butD inv₇ (let ⟨_, e⟩ := hD₈; ⟨_, e⟩) hs₈.extBut
      obtain ⟨h₅, tk₅, rfl⟩ := fr₅
      obtain ⟨h₇, tk₇, rfl, _⟩ := g
      exact ⟨ds.length - (kk + 1), by omega, kk + 1, ys ++ [y], vs ++ [yv], σ₂, h₈, tk₇, rfl, rfl, hlt, hJ', inv₈, it.loc _ _ _ hP₅ fun o e => hs₈.extBut I o (Ne.symm hDI) (gk _ _ e), by simpa using hD₈,
        (RelL.imp imp _ _ (hr₅.keeps gk)).append (.one (Rel.imp imp _ _ hy)), fun b o n1 n2 n3 e => hs₈.extBut b o n2 (gk b o (keep₅ b o n1 n2 n3 e))⟩
  · have hkk : kk = ds.length := by omega
    subst hkk
    refine it.done _ _ _ hPk (fun b o n1 n2 e => hkeep b o n1 (fun q => n2 (.inl (.inl (q ▸ hav)))) (fun q => n2 (.inl (.inr q))) e) fun h₃ tk₃ hk₃ => ?_
    refine hRR h₃ tk₃ ys vs σ' hJ (let ⟨m, hm⟩ := inv.ns; ⟨m, hm.at' fun o e => hk₃ _ o (Ne.symm locI) e⟩) (fun x c e => let ⟨_, _, v, o, ho, hd⟩ := inv.cell x c e; ⟨v, o, hk₃ _ o (hcI x c e) ho, hd⟩) (hDk.at fun o e => hk₃ _ o hDI e) (hrel.imp fun b o nb e => ⟨nb, hk₃ b o (fun q => nb (.inl (.inr q))) e⟩) fun b o n1 n2 n3 e => hk₃ b o n1 (hkeep b o n1 n2 n3 e)
/-- the comprehension's loop, from its iterator on -/
theorem comp_core2 {sc scope : Scope} {elt t e t2 e2 : Expr} {ifs : List Expr} {pos : Pos} {env : Env} {A : Around} {s₂ : Shared} {av : Addr → Prop} {E : Value → Shared → Prop} {I : Addr} {ds : List D} {tt : Expr → Prop} {P : Nat → Heap → Prop} {Mid : Nat → Value → Heap → Prop}
    {RR : Value → Addr → Result → Shared → Prop} {cl : List (PySem.Str × Addr)}
    (co : CompOk scope sc) (ok : EnvOk sc env) (rm : Room A n) (rd : Rd prog w H₀ env (fun b => av b ∨ b = I) σ s₂.heap) (it : It prog w A (fun b => av b ∨ b = I) s₂.heap I ds tt P Mid) (hP : P 0 s₂.heap) (ht : tt t)
    (hIc : ∀ x c, cl.lookup x = some c → c ≠ I) (hcs : ∀ x c, cl.lookup x = some c → ∃ v, s₂.heap.IsCell c v) (hIH : H₀.get? I = none)
    (hcl : ∀ x c, cl.lookup x = some c → env.cells.lookup x = some c ∧ (x, NameKind.free) ∈ scope.names) (hcl' : ∀ x, (x, NameKind.free) ∈ scope.names → cl.lookup x = env.cells.lookup x) (hinj : ∀ x y c, env.cells.lookup x = some c → env.cells.lookup y = some c → x = y)
    (J : Nat → List D → Prop) (h0 : J 0 [])
    (hs2 : ∀ env x, foldedSetIterable e2 env x = pure x)
    (step : ∀ k x ys, ds[k]? = some x → J k ys → AsOk prog w H₀ (capOf scope) (relabelS scope sc) n (inner scope σ) t x fun σ₁ =>
      Ev prog w H₀ (relabelS scope sc) n σ₁ e2 fun d2 => ∃ ds2 tt2, PyIt prog w H₀ n d2 ds2 tt2 ∧ tt2 t2 ∧ ∃ J2 : Nat → List D → Store → Prop, J2 0 ys σ₁ ∧
        (∀ k' x' ys' σ', ds2[k']? = some x' → J2 k' ys' σ' → AsOk prog w H₀ (capOf scope) (relabelS scope sc) n σ' t2 x' fun σ₂ =>
          EvT prog w H₀ (relabelS scope sc) n σ₂ ifs fun b => if b then Ev prog w H₀ (relabelS scope sc) n σ₂ elt (fun y => J2 (k' + 1) (ys' ++ [y]) σ₂) else J2 (k' + 1) ys' σ₂) ∧
        (∀ k' ys' σ', J2 k' ys' σ' → ys'.length ≤ sizeLine) ∧ ∀ ys' σ', J2 ds2.length ys' σ' → J (k + 1) ys')
    (hRR : ∀ D C h' tk m' ys vs, s₂.heap.get? D = none → s₂.heap.get? C = none → D ≠ C → h'.Ns C m' → h'.PlainList D vs.toArray → RelL prog w (fun b => (av b ∨ b = D) ∨ b = C) h' ys vs → J ds.length ys →
      (∀ b o, b ≠ I → s₂.heap.get? b = some o → h'.get? b = some o) → RR (.ref D) C (.ok .next) { s₂ with heap := h', toks := tk }) :
    wpAny (model prog w) A (newList []) (fun acc s₃ => wpAny (model prog w) A (newFunctionEnv scope env.globals cl [] env.qual none .none (some env)) (fun cenv s₄ =>
      codeAny (model prog w) A (.compStart (.ListComp elt [⟨t, e, [], 0⟩, ⟨t2, e2, ifs, 0⟩] scope pos) 0 (.ref I) acc { cenv with scope := relabel scope env }) (RR acc cenv.locals) s₄) E s₃) E s₂ := by
  have hIl : ∃ o, s₂.heap.get? I = some o := it.live 0 _ hP
  refine comp_set (G := fun acc ce s₄ => codeAny (model prog w) A (.compStart (.ListComp elt [⟨t, e, [], 0⟩, ⟨t2, e2, ifs, 0⟩] scope pos) 0 (.ref I) acc ce) (RR acc ce.locals) s₄) co ok rd hIl hIc hcs hIH hcl hcl' hinj fun l H4 C okc k nD nC hD4 hN4 tvnew hcel4 nIC nID nDC hDH cellI cellD mkInv lkl => ?_
  let tv : Addr → Prop := tvOf C l
  let av₂ : Addr → Prop := avOf av I s₂.heap.objs.size
  let cenv : Env := cenvOf scope env l cl C
  have live₂ : ∀ {b o}, s₂.heap.get? b = some o → ¬ tv b := fun e q => by rw [(tvnew _ q).1] at e; cases e
  have loop : ∀ s₃ : Shared, s₃ = { s₂ with heap := H4 } →
      codeAny (model prog w) A (.compLoop (.ListComp elt [⟨t, e, [], 0⟩, ⟨t2, e2, ifs, 0⟩] scope pos) 0 (.ref I) (.ref s₂.heap.objs.size) cenv) (RR (.ref s₂.heap.objs.size) C) s₃ := by
    rintro s₃ rfl
    refine compLoop_two0 (fun m s' => ∃ kk ys vs h' tk, s' = { s₂ with heap := h', toks := tk } ∧ m = ds.length - kk ∧ kk ≤ ds.length ∧ J kk ys ∧ Inv prog w H₀ (capOf scope) cenv av₂ tv (inner scope σ) h' ∧ P kk h' ∧
        h'.PlainList s₂.heap.objs.size vs.toArray ∧ RelL prog w (fun b => av₂ b ∨ tv b) h' ys vs ∧ ∀ b o, b ≠ I → s₂.heap.get? b = some o → h'.get? b = some o) hs2 ?_ ds.length
      ⟨0, [], [], H4, s₂.toks, rfl, rfl, Nat.zero_le _, h0, mkInv H4 (fun b o _ e => k b o e) (let ⟨o, e⟩ := hIl; ⟨o, k _ _ e⟩) (let ⟨_, e⟩ := hD4; ⟨_, e⟩) ⟨_, hN4⟩ hcel4, it.loc 0 _ _ hP (fun o e => k I o e), hD4, rfl, fun b o _ e => k b o e⟩
    rintro m s' EE ⟨kk, ys, vs, h', tk, rfl, rfl, hkk, hJ, inv, hPk, hDk, hrel, hkeep⟩
    rcases Nat.lt_or_ge kk ds.length with hlt | hge
    · have hx : ds[kk]? = some ds[kk] := List.getElem?_eq_getElem hlt
      refine it.next kk _ _ _ ds[kk] (fun b => av₂ b ∨ tv b) hx hPk (fun b o n1 _ e => hkeep b o n1 e) (fun b q => ?_) (fun b q => inv.rd.live b q) fun u h₃ tk₃ hz hm hk₃ => ?_
      · rcases q with (q | q) | q
        · exact .inl q
        · exact .inr (by rw [q]; exact nD)
        · exact .inr (tvnew b q).1
      have but : ∀ {σ' : Store} {ha hb : Heap}, Inv prog w H₀ (capOf scope) cenv av₂ tv σ' ha → (∀ x sl, σ' x = some sl → sl.addr? ≠ some I) → (∃ o, hb.get? I = some o) → (∀ b o, b ≠ I → ha.get? b = some o → hb.get? b = some o) → Inv prog w H₀ (capOf scope) cenv av₂ tv σ' hb :=
        fun i ho hl hk => i.ofBut I (.inl (.inl (.inr rfl))) hIH nIC cellI ho hl hk
      have noown : ∀ x sl, inner scope σ x = some sl → sl.addr? ≠ some I := fun x sl e => by obtain ⟨_, _, d, rfl⟩ := inner_some e; exact fun q => nomatch q
      have inv₃ := but inv noown (it.midlive kk u h₃ hm) hk₃
      refine it.go t kk u _ _ _ ht hm fun h₄ hP₄ hk₄ => ?_
      have inv₄ := but inv₃ noown (it.live _ _ hP₄) hk₄
      have hz₄ : Rel prog w (fun b => av₂ b ∨ tv b) h₄ ds[kk] u := Rel.imp (fun b o nb e => ⟨nb, hk₄ b o (fun q => nb (.inl (.inl (.inr q)))) e⟩) _ _ hz
      have keep₄ : ∀ b o, b ≠ I → s₂.heap.get? b = some o → h₄.get? b = some o := fun b o n1 e => hk₄ b o n1 (hk₃ b o n1 (hkeep b o n1 e))
      have hD₄ : h₄.PlainList s₂.heap.objs.size vs.toArray := hDk.at fun o e => hk₄ _ o (Ne.symm nID) (hk₃ _ o (Ne.symm nID) e)
      have hr₄ : RelL prog w (fun b => av₂ b ∨ tv b) h₄ ys vs := hrel.imp fun b o nb e => ⟨nb, hk₄ b o (fun q => nb (.inl (.inl (.inr q)))) (hk₃ b o (fun q => nb (.inl (.inl (.inr q)))) e)⟩
      refine wpAny_mono (step kk ds[kk] ys hx hJ cenv A { s₂ with heap := h₄, toks := tk₃ } av₂ tv u EE okc rm inv₄ hz₄) (fun _ s₅ p => ?_) fun _ _ x => x
      obtain ⟨σ₁, q, inv₅, f₅⟩ := p
      have tvI : ¬ tv I := fun q => by obtain ⟨o, e⟩ := hIl; exact live₂ e q
      have tvD : ¬ tv s₂.heap.objs.size := fun q => (tvnew _ q).2 rfl
      have keep₅ : ∀ b o, b ≠ I → s₂.heap.get? b = some o → s₅.heap.get? b = some o := fun b o n1 e => f₅.get b o (live₂ e) (keep₄ b o n1 e)
      have hD₅ : s₅.heap.PlainList s₂.heap.objs.size vs.toArray := hD₄.at fun o e => f₅.get _ o tvD e
      have hr₅ : RelL prog w (fun b => av₂ b ∨ tv b) s₅.heap ys vs := hr₄.imp fun b o nb e => ⟨nb, f₅.get b o (fun q => nb (.inr q)) e⟩
      have hP₅ : P (kk + 1) s₅.heap := it.loc _ _ _ hP₄ fun o e => f₅.get I o tvI e
      have fr₅ : ∃ h₅ tk₅, s₅ = { s₂ with heap := h₅, toks := tk₅ } := by obtain ⟨h₅, tk₅, rfl, _⟩ := f₅; exact ⟨h₅, tk₅, rfl⟩
      have celln : ∀ {σ' : Store} {hh : Heap}, Inv prog w H₀ (capOf scope) cenv av₂ tv σ' hh → ∀ p ∈ l, ∃ v, hh.IsCell p.2 v := fun i p hp => by
        have e : (l ++ cl).lookup p.1 = some p.2 := lkl p hp
        exact (i.cell _ _ e).2.2
      have liveI : ∃ o, s₅.heap.get? I = some o := it.live _ _ hP₅
      refine q cenv A s₅ (fun b => av₂ b ∨ tv b) _ EE okc rm inv₅.rd fun v2 s₆ d2 q₆ hz₆ g₆ => ?_
      obtain ⟨ds2, tt2, pit2, ht2, J2, h02, step2, hsz2, fin2⟩ := q₆
      have inv₆ := inv₅.keeps g₆.get
      refine pit2 A s₆ (fun b => av₂ b ∨ tv b) v2 _ EE rm inv₆.rd.hp hz₆ fun I2 s₇ P2 Mid2 it2 hP2 hI2 g₇ => ?_
      have hl2' : ∃ o, s₇.heap.get? I2 = some o := it2.live 0 _ hP2
      have inv₇ : Inv prog w H₀ (capOf scope) cenv (fun b => av₂ b ∨ b = I2) tv σ₁ s₇.heap := Inv.widen (h := s₆.heap) inv₆ g₇ I2 hI2 hl2'
      have g := g₆.trans g₇
      have gk := g.get
      have old₆ : ∀ b o, s₅.heap.get? b = some o → b ≠ I2 := fun b o e q => by
        have := g₆.get b o e; rw [q, hI2] at this; cases this
      have hD₇ : s₇.heap.PlainList s₂.heap.objs.size vs.toArray := hD₅.at fun o e => gk _ o e
      have hr₇ : RelL prog w (fun b => (av₂ b ∨ b = I2) ∨ tv b) s₇.heap ys vs := (hr₅.keeps g₆.get).imp fun b o nb e => ⟨fun q => by
        rcases q with (q | q) | q
        · exact nb (.inl q)
        · rw [q, hI2] at e; cases e
        · exact nb (.inr q), g₇.get b o e⟩
      have live₅ : ∀ x c, cenv.cells.lookup x = some c → ∃ o, s₅.heap.get? c = some o := fun x c e => let ⟨_, _, v, o, ho, _⟩ := inv₅.cell x c e; ⟨o, ho⟩
      have nDI2 : s₂.heap.objs.size ≠ I2 := let ⟨_, e⟩ := hD₅; old₆ _ _ e
      have hI2H : H₀.get? I2 = none := inv₆.rd.noH hI2
      have main : ∀ RR₁ : Result → Shared → Prop, (∀ s₈, (∃ m, m < ds.length - kk ∧ ∃ kk ys vs h' tk, s₈ = { s₂ with heap := h', toks := tk } ∧ m = ds.length - kk ∧ kk ≤ ds.length ∧ J kk ys ∧ Inv prog w H₀ (capOf scope) cenv av₂ tv (inner scope σ) h' ∧ P kk h' ∧
        h'.PlainList s₂.heap.objs.size vs.toArray ∧ RelL prog w (fun b => av₂ b ∨ tv b) h' ys vs ∧ ∀ b o, b ≠ I → s₂.heap.get? b = some o → h'.get? b = some o) → RR₁ (.ok .next) s₈) →
          codeAny (model prog w) A (.compLoop (.ListComp elt [⟨t, e, [], 0⟩, ⟨t2, e2, ifs, 0⟩] scope pos) 1 (.ref I2) (.ref s₂.heap.objs.size) cenv) RR₁ s₇ := fun RR₁ hRR₁ => by
        refine comp_inner okc rm inv₇ (it2) hP2 ht2 (fun x c e => let ⟨o, ho⟩ := live₅ x c e; old₆ c o ho) cellD hI2H hDH (.inr rfl) nDI2 hD₇ hr₇ J2 h02 step2 hsz2 fun h₈ tk₈ ys' vs' σ' hJ' hns hcells hD₈ hr₈ hk₈ => ?_
        have keep₈ : ∀ b o, b ≠ I → s₂.heap.get? b = some o → h₈.get? b = some o := fun b o n1 e => by
          have e5 := keep₅ b o n1 e
          exact hk₈ b o (old₆ b o e5) (fun q => by rw [q, nD] at e; cases e) (live₂ e) (gk b o e5)
        have keepI : ∀ o, s₅.heap.get? I = some o → h₈.get? I = some o := fun o e => hk₈ I o (old₆ I o e) nID tvI (gk I o e)
        obtain ⟨h₅, tk₅, rfl⟩ := fr₅
        obtain ⟨h₇, tk₇, rfl, _⟩ := g
        refine hRR₁ _ ⟨ds.length - (kk + 1), by omega, kk + 1, ys', vs', h₈, tk₈, rfl, rfl, hlt, fin2 ys' σ' hJ', mkInv h₈ keep₈ (let ⟨o, e⟩ := liveI; ⟨o, keepI o e⟩) (let ⟨_, e⟩ := hD₈; ⟨_, e⟩) hns (fun p hp => ?_),
          it.loc _ _ _ hP₅ keepI, hD₈, hr₈.weak fun b q => ?_, keep₈⟩
        · have e : (l ++ cl).lookup p.1 = some p.2 := lkl p hp
          exact hcells _ _ e
        · exact q.imp .inl id
      exact compStart_two1 (main _ fun s₈ h => ⟨rfl, h⟩) (it2.self 0 _ _ _ hP2 (main _ fun s₈ h => ⟨rfl, h⟩))
    · have hkk : kk = ds.length := by omega
      subst hkk
      refine it.done _ _ _ hPk (fun b o n1 _ e => hkeep b o n1 e) fun h₃ tk₃ hk₃ => ?_
      obtain ⟨m, hm⟩ := inv.ns
      exact hRR s₂.heap.objs.size C h₃ tk₃ m ys vs nD nC nDC (hm.at' fun o e => hk₃ _ o (Ne.symm nIC) e) (hDk.at fun o e => hk₃ _ o (Ne.symm nID) e)
        (hrel.imp fun b o nb e => ⟨fun q => nb (q.elim (fun q => q.elim (fun q => .inl (.inl (.inl q))) fun q => .inl (.inr q)) fun q => .inr (.inl q)), hk₃ b o (fun q => nb (.inl (.inl (.inr q)))) e⟩) hJ fun b o n1 e => hk₃ b o n1 (hkeep b o n1 e)
  exact codeAny_compStart_list (loop _ rfl) (it.self 0 _ _ _ (it.loc 0 _ _ hP fun o e => k I o e) (loop _ rfl))
/-- what is to be shown of the turns of a comprehension with two clauses -/
def CompStep2 (prog : Program) (w : World) (H₀ : Heap) (scope sc : Scope) (n : Nat) (σ : Store) (t t2 e2 : Expr) (ifs : List Expr) (elt : Expr) (ds : List D) (J : Nat → List D → Prop) : Prop :=
  ∀ k x ys, ds[k]? = some x → J k ys → AsOk prog w H₀ (capOf scope) (relabelS scope sc) n (inner scope σ) t x fun σ₁ =>
      Ev prog w H₀ (relabelS scope sc) n σ₁ e2 fun d2 => ∃ ds2 tt2, PyIt prog w H₀ n d2 ds2 tt2 ∧ tt2 t2 ∧ ∃ J2 : Nat → List D → Store → Prop, J2 0 ys σ₁ ∧
        (∀ k' x' ys' σ', ds2[k']? = some x' → J2 k' ys' σ' → AsOk prog w H₀ (capOf scope) (relabelS scope sc) n σ' t2 x' fun σ₂ =>
          EvT prog w H₀ (relabelS scope sc) n σ₂ ifs fun b => if b then Ev prog w H₀ (relabelS scope sc) n σ₂ elt (fun y => J2 (k' + 1) (ys' ++ [y]) σ₂) else J2 (k' + 1) ys' σ₂) ∧
        (∀ k' ys' σ', J2 k' ys' σ' → ys'.length ≤ sizeLine) ∧ ∀ ys' σ', J2 ds2.length ys' σ' → J (k + 1) ys'
theorem Ev.comp2 {sc : Scope} {elt t e t2 e2 : Expr} {ifs : List Expr} {scope : Scope} {pos : Pos} {Q : D → Prop} (co : CompOk scope sc)
    (h : Ev prog w H₀ sc n σ e fun d => ∃ ds tt, PyIt prog w H₀ n d ds tt ∧ tt t ∧ ∃ J : Nat → List D → Prop, J 0 [] ∧ CompStep2 prog w H₀ scope sc n σ t t2 e2 ifs elt ds J ∧ ∀ ys, J ds.length ys → Q (.lst ys))
    (hs : ∀ env x, foldedSetIterable e env x = pure x := by intro _ _; rfl) (hs2 : ∀ env x, foldedSetIterable e2 env x = pure x := by intro _ _; rfl) : Ev prog w H₀ sc n σ (.ListComp elt [⟨t, e, [], 0⟩, ⟨t2, e2, ifs, 0⟩] scope pos) Q := by
  intro env A s av Q' E ok rm rd k
  rw [eval_ListComp]
  obtain ⟨cl, hclos, hcl, hcl'⟩ := closure_ok (scope := scope) (env := env) fun x hx => ok.cell x (co.free (x, .free) hx rfl)
  refine wpAny_comprehension_free (e := .ListComp elt [⟨t, e, [], 0⟩, ⟨t2, e2, ifs, 0⟩] scope pos) (use := Option.none) (g := ⟨t, e, [], 0⟩) (gs := [⟨t2, e2, ifs, 0⟩]) rfl (hs env) hclos co.kind (fun x hx hk => mem_lookup co.nodup (by rw [← hk]; exact hx)) ?_
  show wpAny _ _ (eval e env) _ _ _
  refine h env A s av _ E ok rm rd fun v s₁ d q z g₁ => ?_
  obtain ⟨ds, tt, pit, ht, J, h0, step, fin⟩ := q
  have rd₁ := rd.keeps g₁.get
  refine pit A s₁ av v _ E rm rd₁.hp z fun I s₂ P Mid it hP hI g₂ => ?_
  have rd₂ := rd₁.widen g₂ I hI (it.live 0 _ hP)
  have hcc : ∀ x c, cl.lookup x = some c → env.cells.lookup x = some c := fun x c e => (hcl x c e).1
  refine comp_core2 (RR := fun acc C => compPost (model prog w) A E Option.none Q' acc C) co ok rm rd₂ it hP ht (fun x c e q => ?_) (fun x c e => rd₂.cells x c (hcc x c e)) (rd₁.noH hI) hcl hcl' ok.inj J h0 hs2 step ?_
  · obtain ⟨v, o, ho, _⟩ := rd₁.cells x c (hcc x c e)
    rw [q, hI] at ho; cases ho
  · intro D C h' tk m' ys vs hD hC hDC hN hL hr hJ hk
    refine ⟨m', hN, fun h'' hs'' => ?_⟩
    have g : Grow s { s₂ with heap := h'', toks := tk } := by
      have g₀ := g₁.trans g₂
      have nI : s.heap.get? I = Option.none := noneBelow g₁ hI
      have nC : s.heap.get? C = Option.none := noneBelow g₀ hC
      obtain ⟨h₂, tk₂, e₂, k₂⟩ := g₀
      subst e₂
      exact ⟨h'', tk, rfl, fun b o e => hs''.extBut b o (fun q => by rw [q, nC] at e; cases e) (hk b o (fun q => by rw [q, nI] at e; cases e) (k₂ b o e))⟩
    refine k (.ref D) { s₂ with heap := h'', toks := tk } (.lst ys) (fin ys hJ) ⟨D, vs, rfl, fun q => ?_, LstAt.ofPlain (hL.extBut hs''.extBut hDC), hr.imp fun b o nb e => ⟨fun q => nb (.inl (.inl q)), hs''.extBut b o (fun q => nb (.inr q)) e⟩⟩ g
    obtain ⟨o, e⟩ := rd₂.live D (.inl q); rw [hD] at e; cases e

end
end Mine
end
section
open PySem PySem.W PySem.Calls PyProof.Rows

namespace Mine
section
variable {prog : Program} {w : World} {H₀ : Heap} {sc : Scope} {n : Nat} {σ : Store} {Q : D → Prop}
/-- x + e, x one's own list: a new list -/
theorem EvF.addOwn {x : PySem.Str} {xp pos : Pos} {a : Addr} {ds : List D} {r : Expr} {Q : List D → Prop} (hx : σ x = some (.own a ds))
    (h : Ev prog w H₀ sc n σ r fun d => ∃ es, d = .lst es ∧ ds.length + es.length ≤ sizeLine ∧ Q (ds ++ es))
    (hd : (x == ("__debug__" : PySem.Str)) = false := by decide) (hc : (x == ("__classdict__" : PySem.Str)) = false := by decide) : EvF prog w H₀ sc n σ (.BinOp (.Name x xp) .Add r pos) Q := by
  intro env A s av Q' E ok rm rd k
  obtain ⟨v, rv, rfl, vs, l, z⟩ := rd.var x _ hx
  refine wpAny_BinOp (wpAny_Name (rv.load ok ?_ hc) hd)
  refine h env A s av _ E ok rm rd fun u s₂ d q y g₂ => ?_
  obtain ⟨es, rfl, hs, q⟩ := q
  obtain ⟨b, us, rfl, nb, l', r'⟩ := y
  have l₂ := LstAt.ofPlain (l.at fun o e => g₂.get a o e)
  have z₂ := z.keeps g₂.get
  obtain ⟨⟨cls, dd, data, sl⟩, ho, hc, hdd, n1, hd⟩ := id l₂
  obtain ⟨⟨cls2, dd2, data2, sl2⟩, ho2, hc2, hdd2, n2, hd2⟩ := id l'
  simp only at hc hd hc2 hd2
  subst hc hd hc2 hd2
  have hsz : vs.toArray.size + us.toArray.size ≤ sizeLine := by rw [List.size_toArray, List.size_toArray, z.length, r'.length]; exact hs
  refine concat_meets l₂.isList.typeIs l'.isList.typeIs noFill_list_add seq_list_add F.slot_list_add F.entry_list_add (F.args_list_add_2 _ _) (list_addW a b _ _ _ _ _ _ _ _ hsz) ⟨ho, ho2, ?_⟩
  have kp : ∀ c o, s₂.heap.get? c = some o → (s₂.heap.push { cls := .type "list", data := .seq (vs.toArray ++ us.toArray) }).get? c = some o := fun c o e => Heap.get?_push_of_some _ e
  have hn : s.heap.get? s₂.heap.objs.size = none := by
    cases e : s.heap.get? s₂.heap.objs.size with
    | none => rfl
    | some o => have := g₂.get _ _ e; rw [get_size] at this; cases this
  exact k s₂.heap.objs.size (vs ++ us) { s₂ with heap := s₂.heap.push { cls := .type "list", data := .seq (vs.toArray ++ us.toArray) } } _ q hn ⟨0, by rw [Heap.get?_push_size _ rfl]; simp⟩
    ((z₂.append r').freshTo _ (get_size _) kp) (g₂.trans (Grow.mk s₂ _ s₂.toks kp))
end
/-- two line ends together -/
def Gap (l : List Nat) (i : Nat) : Prop := l[i]? = some 10 ∧ l[i + 1]? = some 10
theorem subAt_two {l : List Nat} {i : Nat} : (Builtin.Str.subAt (S l) (S [10, 10]) i = true) ↔ Gap l i := by
  rw [StrLaws.subAt_eq]
  show ((l.toArray.toList.drop i).take [10, 10].toArray.size == [10, 10].toArray.toList) = true ↔ _
  simp only [List.size_toArray, List.length_cons, List.length_nil]
  rw [beq_iff_eq]
  unfold Gap
  show (l.drop i).take 2 = [10, 10] ↔ _
  constructor
  · intro h
    have h0 : ((l.drop i).take 2)[0]? = some 10 := by rw [h]; rfl
    have h1 : ((l.drop i).take 2)[1]? = some 10 := by rw [h]; rfl
    rw [List.getElem?_take, if_pos (by decide), List.getElem?_drop] at h0 h1
    exact ⟨h0, h1⟩
  · rintro ⟨h0, h1⟩
    obtain ⟨l0, e0⟩ := List.getElem?_eq_some_iff.mp h0
    obtain ⟨l1, e1⟩ := List.getElem?_eq_some_iff.mp h1
    rw [List.drop_eq_getElem_cons l0, List.drop_eq_getElem_cons l1, e0, e1]
    rfl
theorem occ_two_go (l : List Nat) (p : Nat) (c : Bool) (hc : Gap l p ↔ c = true) (h : ∀ i, Gap l i → i = p) (lim : Nat) : ∀ (m k : Nat) (fd : Array Nat) (fr : Nat), k + m = l.length + 1 → fd.size + m ≤ lim → (k ≤ p → fr ≤ k) →
    (forIn (List.range' k m) (fd, fr) (StrLaws.occBody (S l) (S [10, 10]) l.length lim)).run.fst.toList = fd.toList ++ (if k ≤ p ∧ c = true then [p] else []) := by
  intro m
  induction m with
  | zero =>
    intro k fd fr hk hf hfr
    have : ¬ (k ≤ p ∧ c = true) := fun ⟨h1, h2⟩ => by
      have := (List.getElem?_eq_some_iff.mp (hc.mpr h2).1).1
      omega
    rw [if_neg this]; simp
  | succ m ih =>
    intro k fd fr hk hf hfr
    have eb : ∀ P : Prop, [Decidable P] → (P ↔ (((fd.size < lim ∧ fr ≤ k) ∧ k + 2 ≤ l.length) ∧ Gap l k)) → StrLaws.occBody (S l) (S [10, 10]) l.length lim k (fd, fr) = if P then pure (ForInStep.yield (fd.push k, k + 2)) else pure (ForInStep.yield (fd, fr)) := fun P _ hP => by
      unfold StrLaws.occBody
      rw [show (S [10, 10]).length = 2 by simp]
      by_cases hp : P
      · rw [if_pos hp, if_pos]
        exact ⟨(hP.mp hp).1, subAt_two.mpr (hP.mp hp).2⟩
      · rw [if_neg hp, if_neg]
        exact fun q => hp (hP.mpr ⟨q.1, subAt_two.mp q.2⟩)
    rw [List.range'_succ, List.forIn_cons]
    by_cases hkp : k = p ∧ c = true
    · obtain ⟨rfl, hct⟩ := hkp
      have hg := hc.mpr hct
      have hl := (List.getElem?_eq_some_iff.mp hg.2).1
      rw [eb True ⟨fun _ => ⟨⟨⟨by omega, hfr (Nat.le_refl _)⟩, by omega⟩, hg⟩, fun _ => trivial⟩, if_pos trivial]
      refine (ih (k + 1) (fd.push k) (k + 2) (by omega) (by rw [Array.size_push]; omega) (fun q => by omega)).trans ?_
      rw [if_neg (by omega), if_pos ⟨Nat.le_refl _, hct⟩]
      simp
    · rw [eb False ⟨fun q => q.elim, fun ⟨_, q⟩ => hkp (by have := h k q; subst this; exact ⟨rfl, hc.mp q⟩)⟩, if_neg id]
      refine (ih (k + 1) fd fr (by omega) (by omega) (fun q => by have := hfr (by omega); omega)).trans ?_
      congr 1
      by_cases hct : c = true
      · have : k ≠ p := fun q => hkp ⟨q, hct⟩
        by_cases hle : k ≤ p
        · rw [if_pos ⟨by omega, hct⟩, if_pos ⟨hle, hct⟩]
        · rw [if_neg (by omega), if_neg (by omega)]
      · rw [if_neg (fun q => hct q.2), if_neg (fun q => hct q.2)]
theorem occ_two (l : List Nat) (p : Nat) (c : Bool) (hc : Gap l p ↔ c = true) (h : ∀ i, Gap l i → i = p) (lim : Nat) (hlim : l.length + 1 ≤ lim) : Builtin.Str.occurrences (S l) (S [10, 10]) 0 (S l).length lim = if c = true then [p] else [] := by
  rw [StrLaws.occ_eq, S_len]
  have := occ_two_go l p c hc h lim (l.length + 1) 0 #[] 0 (by omega) (by simpa using hlim) (fun _ => Nat.le_refl _)
  simpa using this
theorem split_two (l : List Nat) (p : Nat) (c : Bool) (hc : Gap l p ↔ c = true) (h : ∀ i, Gap l i → i = p) : Txt.split (S l) (S [10, 10]) = if c = true then [S (l.take p), S (l.drop (p + 2))] else [S l] := by
  unfold Txt.split
  have hocc := occ_two l p c hc h (l.length + 1) (Nat.le_refl _)
  split
  · rename_i h'
    rw [Bool.or_eq_true, decide_eq_true_eq, decide_eq_true_eq] at h'
    rcases h' with h' | h'
    · rw [if_neg]
      intro hct
      have := (List.getElem?_eq_some_iff.mp (hc.mpr hct).2).1
      simp at h'; omega
    · exfalso
      have : Builtin.Str.strKind (S [10, 10]) = 1 := by decide +kernel
      rw [this] at h'
      unfold Builtin.Str.strKind at h'
      split at h' <;> (try split at h') <;> simp at h'
  · rw [S_len, S_len]
    rw [S_len] at hocc
    rw [hocc]
    cases c with
    | false => rfl
    | true =>
      rw [if_pos rfl, if_pos rfl]
      split
      · rename_i h'; simp at h'
      · rw [StrLaws.partsBetween_eq]
        show [Builtin.Str.strSub (S l) 0 p, Builtin.Str.strSub (S l) (p + 2) (S l).length] = _
        rw [sub_S, sub_S, S_len, List.drop_zero, Nat.sub_zero]
        rw [List.take_of_length_le (l := l.drop (p + 2)) (by rw [List.length_drop]; exact Nat.le_refl _)]
/-- a text whose rows are not empty -/
structure Sep (l : List Nat) : Prop where
  ne : l ≠ []
  hd : l[0]? ≠ some 10
  last : l[l.length - 1]? ≠ some 10
  gap : ∀ i, ¬ Gap l i
theorem sep_row {r : List Nat} (h : r ≠ []) (h2 : 10 ∉ r) : Sep r :=
  have k : ∀ i, r[i]? ≠ some 10 := fun i e => h2 (List.mem_of_getElem? e)
  ⟨h, k 0, k _, fun i g => k i g.1⟩
theorem sep_app {a b : List Nat} (x : Sep a) (y : Sep b) : Sep (a ++ 10 :: b) := by
  have la : 0 < a.length := List.length_pos_iff.mpr x.ne
  have lb : 0 < b.length := List.length_pos_iff.mpr y.ne
  refine ⟨by simp, ?_, ?_, ?_⟩
  · rw [List.getElem?_append_left la]; exact x.hd
  · rw [List.length_append, List.length_cons, List.getElem?_append_right (by omega), show a.length + (b.length + 1) - 1 - a.length = (b.length - 1) + 1 by omega, List.getElem?_cons_succ]; exact y.last
  · rintro i ⟨h1, h2⟩
    rcases Nat.lt_trichotomy (i + 1) a.length with h | h | h
    · rw [List.getElem?_append_left (by omega)] at h1
      rw [List.getElem?_append_left h] at h2
      exact x.gap i ⟨h1, h2⟩
    · rw [List.getElem?_append_left (by omega)] at h1
      exact x.last (by rw [← h]; exact h1)
    · rw [List.getElem?_append_right (by omega)] at h1 h2
      rcases Nat.eq_or_lt_of_le (show a.length ≤ i by omega) with e | e
      · subst e
        rw [show a.length + 1 - a.length = 0 + 1 by omega, List.getElem?_cons_succ] at h2
        exact y.hd h2
      · rw [show i - a.length = (i - a.length - 1) + 1 by omega, List.getElem?_cons_succ] at h1
        rw [show i + 1 - a.length = (i - a.length - 1 + 1) + 1 by omega, List.getElem?_cons_succ] at h2
        exact y.gap _ ⟨h1, h2⟩
theorem sep_join : ∀ {rows : List Row}, rows ≠ [] → (∀ r ∈ rows, r ≠ [] ∧ 10 ∉ r) → Sep (joinNl rows)
  | [], h, _ => absurd rfl h
  | [x], _, h => sep_row (h x List.mem_cons_self).1 (h x List.mem_cons_self).2
  | x :: y :: r, _, h => by
    rw [joinNl_two]
    exact sep_app (sep_row (h x List.mem_cons_self).1 (h x List.mem_cons_self).2) (sep_join (by simp) fun z hz => h z (List.mem_cons_of_mem _ hz))
/-- two texts with an empty row between -/
def glue (a b : List Nat) : List Nat := a ++ 10 :: 10 :: b
theorem glue_gap {a b : List Nat} (x : Sep a) (y : Sep b) : Gap (glue a b) a.length ∧ ∀ i, Gap (glue a b) i → i = a.length := by
  have la : 0 < a.length := List.length_pos_iff.mpr x.ne
  unfold glue
  refine ⟨⟨by simp, by simp⟩, ?_⟩
  rintro i ⟨h1, h2⟩
  rcases Nat.lt_trichotomy (i + 1) a.length with h | h | h
  · rw [List.getElem?_append_left (by omega)] at h1
    rw [List.getElem?_append_left h] at h2
    exact absurd ⟨h1, h2⟩ (x.gap i)
  · rw [List.getElem?_append_left (by omega)] at h1
    exact absurd (by rw [← h]; exact h1) x.last
  · rw [List.getElem?_append_right (by omega)] at h1 h2
    rcases Nat.eq_or_lt_of_le (show a.length ≤ i by omega) with e | e
    · exact e.symm
    · rcases Nat.eq_or_lt_of_le (show a.length + 1 ≤ i by omega) with e' | e'
      · subst e'
        rw [show a.length + 1 + 1 - a.length = 0 + 1 + 1 by omega, List.getElem?_cons_succ, List.getElem?_cons_succ] at h2
        exact absurd h2 y.hd
      · rw [show i - a.length = (i - a.length - 2) + 1 + 1 by omega, List.getElem?_cons_succ, List.getElem?_cons_succ] at h1
        rw [show i + 1 - a.length = (i - a.length - 2 + 1) + 1 + 1 by omega, List.getElem?_cons_succ, List.getElem?_cons_succ] at h2
        exact absurd ⟨h1, h2⟩ (y.gap _)
theorem split_sep {a : List Nat} (x : Sep a) : Txt.split (S a) (S [10, 10]) = [S a] := by
  rw [split_two a 0 false ⟨fun g => absurd g (x.gap 0), fun h => by cases h⟩ fun i g => absurd g (x.gap i)]; rfl
theorem split_glue {a b : List Nat} (x : Sep a) (y : Sep b) : Txt.split (S (glue a b)) (S [10, 10]) = [S a, S b] := by
  obtain ⟨h1, h2⟩ := glue_gap x y
  rw [split_two _ a.length true ⟨fun _ => rfl, fun _ => h1⟩ h2]
  simp [glue]
section
variable {prog : Program} {w : World} {H₀ : Heap} {n : Nat} {Q : D → Prop}
theorem OpL.splitSep {a : List Nat} (x : Sep a) (hs : a.length ≤ 1048576) (h : Q (.lst [.str (S a)])) : OpL prog w H₀ n (fun vs => call (.builtin "str.split") vs) [.str (S a), .str (S [10, 10])] Q := by
  refine OpL.split (by simp) (by rw [S_len, sizeLine_eq]; omega) (by rw [split_sep x]; rw [sizeLine_eq]; simp) ?_
  rw [split_sep x]; exact h
theorem OpL.splitGlue {a b : List Nat} (x : Sep a) (y : Sep b) (hs : (glue a b).length ≤ 1048576) (h : Q (.lst [.str (S a), .str (S b)])) : OpL prog w H₀ n (fun vs => call (.builtin "str.split") vs) [.str (S (glue a b)), .str (S [10, 10])] Q := by
  refine OpL.split (by simp) (by rw [S_len, sizeLine_eq]; omega) (by rw [split_glue x y]; rw [sizeLine_eq]; simp) ?_
  rw [split_glue x y]; exact h
end
end Mine
end
section
open PySem PySem.W PySem.Calls PyProof.Rows

namespace Mine
theorem indent_sum (wd : Nat) : ∀ (A : List Row) (i : Nat), ((indentFrom wd i A).map List.length).sum = (A.map List.length).sum + wd * A.length
  | [], _ => by simp [indentFrom]
  | a :: A, i => by
    show ((List.replicate wd (leadOf i) ++ a).length :: ((indentFrom wd (i + 1) A).map List.length)).sum = _
    rw [List.sum_cons, indent_sum wd A, List.length_append, List.length_replicate, List.map_cons, List.sum_cons, List.length_cons, Nat.mul_add]
    omega
theorem flat_sum : ∀ {ts : List (List Nat)}, (∀ t ∈ ts, PartT t) → ((ts.flatMap splitNl).map List.length).sum + (ts.flatMap splitNl).length = (ts.map fun t => t.length + 1).sum
  | [], _ => rfl
  | t :: ts, hp => by
    obtain ⟨h, rest, e, e2, _⟩ := (hp t List.mem_cons_self).ex
    have h1 := joinNl_len (rows := h :: rest) (by simp)
    rw [← e] at h1
    have ih := flat_sum (fun x hx => hp x (List.mem_cons_of_mem _ hx)) (ts := ts)
    rw [List.flatMap_cons, List.map_append, List.sum_append, List.length_append, List.map_cons, List.sum_cons, e2]
    omega
theorem page_len {wd : Nat} {h : Row} {ts : List (List Nat)} (hp : ∀ t ∈ ts, PartT t) : (pageT wd h ts).length + 1 ≤ h.length + 1 + (wd + 1) * (ts.map fun t => t.length + 1).sum := by
  unfold pageT
  rw [joinNl_len (by simp), List.map_cons, List.sum_cons, List.length_cons, indent_sum, indentLen]
  have hp' : ∀ t ∈ sortT ts, PartT t := fun t ht => hp t ((sortT_perm ts).mem_iff.mp ht)
  have h1 := flat_sum hp'
  have h2 : ((sortT ts).map fun t => t.length + 1).sum = (ts.map fun t => t.length + 1).sum := ((sortT_perm ts).map _).sum_nat
  rw [h2] at h1
  generalize (((sortT ts).flatMap splitNl).map List.length).sum = a at *
  generalize ((sortT ts).flatMap splitNl).length = b at *
  rw [← h1, Nat.add_mul, Nat.one_mul, Nat.mul_add]
  omega
inductive Heads (B : Nat) : Tr → Prop
  | node {h : Row} {ks : List Tr} : h.length ≤ B → (∀ k ∈ ks, Heads B k) → Heads B (.node h ks)
theorem Heads.head {B : Nat} {h : Row} {ks : List Tr} : Heads B (.node h ks) → h.length ≤ B ∧ ∀ k ∈ ks, Heads B k
  | .node a b => ⟨a, b⟩
theorem szs_map_le {ks : List Tr} : ∀ {F : Tr → Nat} {c : Nat}, (∀ k ∈ ks, F k ≤ sz k * c) → (ks.map F).sum ≤ szs ks * c := by
  induction ks with
  | nil => intro F c _; simp
  | cons k ks ih =>
    intro F c h
    rw [List.map_cons, List.sum_cons]
    have h1 := h k List.mem_cons_self
    have h2 := ih (F := F) (c := c) fun x hx => h x (List.mem_cons_of_mem _ hx)
    show _ ≤ (sz k + szs ks) * c
    rw [Nat.add_mul]; omega
theorem text_bound {wd B : Nat} (hw : 1 ≤ wd) : ∀ t, Good t → Heads B t → (text wd t).length + 1 ≤ (B + 1) * (sz t * (wd + 1) ^ sz t) :=
  Tr.ind fun h ks ih g hb => by
    have hp := kids_parts hw g
    have h1 := page_len (wd := wd) (h := h) hp
    have h2 : ((texts wd ks).map fun t => t.length + 1).sum ≤ szs ks * ((B + 1) * (wd + 1) ^ szs ks) := by
      rw [texts_map, List.map_map]
      refine szs_map_le fun k hk => ?_
      have h3 := ih k hk (g.kids k hk) (hb.head.2 k hk)
      have h4 : (wd + 1) ^ sz k ≤ (wd + 1) ^ szs ks := Nat.pow_le_pow_right (by omega) (szs_mem hk)
      show (text wd k).length + 1 ≤ _
      refine Nat.le_trans h3 ?_
      rw [Nat.mul_left_comm]
      exact Nat.mul_le_mul_left _ (Nat.mul_le_mul_left _ h4)
    show (pageT wd h (texts wd ks)).length + 1 ≤ (B + 1) * ((1 + szs ks) * (wd + 1) ^ (1 + szs ks))
    have h5 := hb.head.1
    have h6 := Nat.mul_le_mul_left (wd + 1) h2
    have h7 : (wd + 1) * (szs ks * ((B + 1) * (wd + 1) ^ szs ks)) = (B + 1) * (szs ks * (wd + 1) ^ (1 + szs ks)) := by
      rw [Nat.add_comm 1 (szs ks), Nat.pow_succ]
      generalize (wd + 1) ^ szs ks = c
      rw [Nat.mul_left_comm (szs ks) (B + 1), Nat.mul_left_comm (wd + 1) (B + 1)]
      congr 1
      rw [Nat.mul_left_comm]
      congr 1
      rw [Nat.mul_comm]
    have h8 : 1 ≤ (wd + 1) ^ (1 + szs ks) := Nat.one_le_pow _ _ (by omega)
    have h9 : (B + 1) * ((1 + szs ks) * (wd + 1) ^ (1 + szs ks)) = (B + 1) * (wd + 1) ^ (1 + szs ks) + (B + 1) * (szs ks * (wd + 1) ^ (1 + szs ks)) := by
      rw [Nat.add_mul 1 (szs ks), Nat.one_mul, Nat.mul_add (B + 1)]
    have h10 : (B + 1) * 1 ≤ (B + 1) * (wd + 1) ^ (1 + szs ks) := Nat.mul_le_mul_left _ h8
    omega
/-! rows as they are drawn, not sorted -/
mutual
def rowsU (wd : Nat) : Tr → List Row
  | .node h ks => h :: indentFrom wd 0 (rowsUs wd ks)
def rowsUs (wd : Nat) : List Tr → List Row
  | [] => []
  | k :: ks => rowsU wd k ++ rowsUs wd ks
end
def textU (wd : Nat) (t : Tr) : List Nat := joinNl (rowsU wd t)
theorem rowsUs_flat (wd : Nat) : ∀ ks, rowsUs wd ks = ks.flatMap (rowsU wd)
  | [] => rfl
  | k :: ks => by rw [List.flatMap_cons, ← rowsUs_flat wd ks]; rfl
theorem rowsU_node (wd : Nat) (h : Row) (ks : List Tr) : rowsU wd (.node h ks) = h :: indentFrom wd 0 (ks.flatMap (rowsU wd)) := by rw [← rowsUs_flat]; rfl
theorem rowsU_ok {wd : Nat} (hw : 1 ≤ wd) : ∀ t, Good t → ∀ r ∈ rowsU wd t, r ≠ [] ∧ 10 ∉ r :=
  Tr.ind fun h ks ih g r hr => by
    rw [rowsU_node] at hr
    rcases List.mem_cons.mp hr with rfl | hr
    · exact ⟨g.head.ne, g.head.nl⟩
    · have key : ∀ x ∈ ks.flatMap (rowsU wd), 10 ∉ x := fun x hx => by
        obtain ⟨k, hk, hx⟩ := List.mem_flatMap.mp hx
        exact (ih k hk (g.kids k hk) x hx).2
      exact ⟨(sub_indent hw r hr).2, nonl_indent key r hr⟩
theorem partU {wd : Nat} (hw : 1 ≤ wd) {t : Tr} (g : Good t) : PartT (textU wd t) ∧ splitNl (textU wd t) = rowsU wd t := by
  have hs : splitNl (textU wd t) = rowsU wd t := split_join (by cases t; rw [rowsU_node]; simp) fun r hr => (rowsU_ok hw t g r hr).2
  refine ⟨?_, hs⟩
  obtain ⟨h, ks⟩ := t
  rw [rowsU_node] at hs
  refine ⟨h, indentFrom wd 0 (ks.flatMap (rowsU wd)), by unfold textU; rw [rowsU_node], hs, g.head, fun r hr => ?_⟩
  have := rowsU_ok hw (.node h ks) g r (by rw [rowsU_node]; exact List.mem_cons_of_mem _ hr)
  exact ⟨(sub_indent hw r hr).1, this.1, this.2⟩
theorem grpU {wd : Nat} (hw : 1 ≤ wd) {ks : List Tr} (g : ∀ k ∈ ks, Good k) : grp (ks.flatMap (rowsU wd)) = ks.map (textU wd) := by
  have hp : ∀ t ∈ ks.map (textU wd), PartT t := fun t ht => by obtain ⟨k, hk, rfl⟩ := List.mem_map.mp ht; exact (partU hw (g k hk)).1
  have e : (ks.map (textU wd)).flatMap splitNl = ks.flatMap (rowsU wd) := by
    rw [List.flatMap_map]
    have : ∀ l : List Tr, (∀ k ∈ l, Good k) → (l.flatMap fun k => splitNl (textU wd k)) = l.flatMap (rowsU wd) := by
      intro l
      induction l with
      | nil => intro _; rfl
      | cons a l ihl => intro h; rw [List.flatMap_cons, List.flatMap_cons, (partU hw (h a List.mem_cons_self)).2, ihl fun x hx => h x (List.mem_cons_of_mem _ hx)]
    exact this ks g
  rw [← e]
  have := grp_flat (ks.map (textU wd)) [] hp
  unfold grp
  rw [this]; rfl
theorem rowsU_len {wd B : Nat} : ∀ t, Heads B t → (rowsU wd t).length = sz t ∧ ∀ r ∈ rowsU wd t, r.length ≤ B + wd * sz t :=
  Tr.ind fun h ks ih hb => by
    rw [rowsU_node]
    have e1 : (ks.flatMap (rowsU wd)).length = szs ks := by
      have : ∀ l : List Tr, (∀ k ∈ l, (rowsU wd k).length = sz k) → (l.flatMap (rowsU wd)).length = szs l := by
        intro l
        induction l with
        | nil => intro _; rfl
        | cons a l ihl =>
          intro h
          rw [List.flatMap_cons, List.length_append, h a List.mem_cons_self, ihl fun x hx => h x (List.mem_cons_of_mem _ hx)]; rfl
      exact this ks fun k hk => (ih k hk (hb.head.2 k hk)).1
    refine ⟨by rw [List.length_cons, indentLen, e1]; show szs ks + 1 = 1 + szs ks; omega, fun r hr => ?_⟩
    rcases List.mem_cons.mp hr with rfl | hr
    · have := hb.head.1; omega
    · have key : ∀ (A : List Row) (i N : Nat), (∀ x ∈ A, x.length ≤ N) → ∀ r ∈ indentFrom wd i A, r.length ≤ N + wd := by
        intro A
        induction A with
        | nil => intro i N _ r hr; cases hr
        | cons a A ihA =>
          intro i N hN r hr
          unfold indentFrom at hr
          rcases List.mem_cons.mp hr with rfl | hr
          · rw [List.length_append, List.length_replicate]
            have := hN a List.mem_cons_self; omega
          · exact ihA (i + 1) N (fun x hx => hN x (List.mem_cons_of_mem _ hx)) r hr
      have h1 := key (ks.flatMap (rowsU wd)) 0 (B + wd * szs ks) (fun x hx => by
        obtain ⟨k, hk, hx⟩ := List.mem_flatMap.mp hx
        have h2 := (ih k hk (hb.head.2 k hk)).2 x hx
        have h3 : wd * sz k ≤ wd * szs ks := Nat.mul_le_mul_left _ (szs_mem hk)
        omega) r hr
      have h4 : wd * sz (.node h ks) = wd * szs ks + wd := by show wd * (1 + szs ks) = _; rw [Nat.mul_add]; omega
      omega
theorem textU_small {wd : Nat} (hw3 : wd ≤ 3) {t : Tr} (hb : Heads 40 t) (hs : sz t ≤ 6) : (textU wd t).length < 1048576 := by
  obtain ⟨h1, h2⟩ := rowsU_len (wd := wd) t hb
  unfold textU
  have e := joinNl_len (rows := rowsU wd t) (by cases t; rw [rowsU_node]; simp)
  have key : ∀ l : List Row, (∀ r ∈ l, r.length ≤ 100) → (l.map List.length).sum ≤ 100 * l.length := by
    intro l
    induction l with
    | nil => intro _; simp
    | cons a l ih =>
      intro h
      have h1 := h a List.mem_cons_self
      have h2 := ih fun x hx => h x (List.mem_cons_of_mem _ hx)
      simp only [List.map_cons, List.sum_cons, List.length_cons]; omega
  have hm : wd * sz t ≤ 3 * 6 := Nat.mul_le_mul hw3 hs
  have := key (rowsU wd t) fun r hr => by have := h2 r hr; omega
  omega
theorem text_small6 {wd : Nat} (hw : 1 ≤ wd) (hw3 : wd ≤ 3) {t : Tr} (g : Good t) (hb : Heads 40 t) (hs : sz t ≤ 6) : (text wd t).length < 1048576 := by
  have h1 := text_bound hw t g hb
  have h2 : (wd + 1) ^ sz t ≤ 4 ^ 6 := Nat.le_trans (Nat.pow_le_pow_left (by omega) _) (Nat.pow_le_pow_right (by decide) hs)
  have h3 : sz t * (wd + 1) ^ sz t ≤ 6 * 4 ^ 6 := Nat.mul_le_mul hs h2
  omega

/-! sorted through and through -/
inductive Srt (wd : Nat) : Tr → Prop
  | node {h : Row} {ks : List Tr} : sortT (texts wd ks) = texts wd ks → (∀ k ∈ ks, Srt wd k) → Srt wd (.node h ks)
theorem Srt.out {wd : Nat} {h : Row} {ks : List Tr} : Srt wd (.node h ks) → sortT (texts wd ks) = texts wd ks ∧ ∀ k ∈ ks, Srt wd k
  | .node a b => ⟨a, b⟩
theorem sortT_idem (l : List (List Nat)) : sortT (sortT l) = sortT l := (sortT_unique (sortT_perm l |>.trans (sortT_perm l).symm |>.trans (sortT_perm l) |>.trans (.refl _)) (sortT_pairwise l) ▸ sortT_congr (sortT_perm l))
theorem exists_srt {wd B : Nat} : ∀ t, Good t → Heads B t → ∃ t', Srt wd t' ∧ Good t' ∧ Heads B t' ∧ text wd t' = text wd t ∧ sz t' = sz t :=
  Tr.ind fun h ks ih g hb => by
    have key : ∀ l : List Tr, (∀ k ∈ l, ∃ t', Srt wd t' ∧ Good t' ∧ Heads B t' ∧ text wd t' = text wd k ∧ sz t' = sz k) → ∃ l', (∀ k ∈ l', Srt wd k ∧ Good k ∧ Heads B k) ∧ texts wd l' = texts wd l ∧ szs l' = szs l := by
      intro l
      induction l with
      | nil => intro _; exact ⟨[], fun _ q => (nomatch q), rfl, rfl⟩
      | cons a l ihl =>
        intro h
        obtain ⟨a', h1, h2, h3, h4, h5⟩ := h a List.mem_cons_self
        obtain ⟨l', i1, i2, i3⟩ := ihl fun x hx => h x (List.mem_cons_of_mem _ hx)
        refine ⟨a' :: l', fun k hk => ?_, ?_, ?_⟩
        · rcases List.mem_cons.mp hk with rfl | hk
          · exact ⟨h1, h2, h3⟩
          · exact i1 k hk
        · show text wd a' :: texts wd l' = _; rw [h4, i2]; rfl
        · show sz a' + szs l' = _; rw [h5, i3]; rfl
    obtain ⟨l', i1, i2, i3⟩ := key ks fun k hk => ih k hk (g.kids k hk) (hb.head.2 k hk)
    obtain ⟨l'', p, e⟩ := perm_map_inv (f := text wd) (sortT_perm (texts wd l')) (ks := l') (texts_map wd l')
    rw [← texts_map] at e
    have hm : ∀ k ∈ l'', Srt wd k ∧ Good k ∧ Heads B k := fun k hk => i1 k (p.mem_iff.mp hk)
    have hz : szs l'' = szs l' := by
      have : ∀ {a b : List Tr}, a.Perm b → szs a = szs b := fun {a b} p => by
        induction p with
        | nil => rfl
        | cons x _ ih => show sz x + _ = sz x + _; rw [ih]
        | swap x y l => show sz y + (sz x + szs l) = sz x + (sz y + szs l); omega
        | trans _ _ i1 i2 => exact i1.trans i2
      exact this p
    refine ⟨.node h l'', .node ?_ fun k hk => (hm k hk).1, .node g.head fun k hk => (hm k hk).2.1, .node hb.head.1 fun k hk => (hm k hk).2.2, ?_, ?_⟩
    · rw [e]; exact sortT_idem _
    · show pageT wd h (texts wd l'') = pageT wd h (texts wd ks)
      rw [e, i2]
      exact pageT_perm (sortT_perm _)
    · show 1 + szs l'' = 1 + szs ks
      rw [hz, i3]
/-! pages as seen from each row, edges -/
mutual
def pg : Tr → List Tr → List Tr
  | .node h ks, b => .node h (ks ++ b) :: pgL h [] ks b
def pgL (h : Row) : List Tr → List Tr → List Tr → List Tr
  | _, [], _ => []
  | A, k :: B, b => pg k [.node h (A ++ B ++ b)] ++ pgL h (A ++ [k]) B b
end
mutual
def eg : Tr → List Tr → List (Tr × Tr)
  | .node h ks, b => egL h [] ks b
def egL (h : Row) : List Tr → List Tr → List Tr → List (Tr × Tr)
  | _, [], _ => []
  | A, k :: B, b => (.node h (A ++ B ++ b), k) :: (eg k [.node h (A ++ B ++ b)] ++ egL h (A ++ [k]) B b)
end
end Mine
end
section
open PySem PySem.W PySem.Calls PyProof.Rows

namespace Mine
section
/-! what holds of all rows of a tree, holds of its pages and edges -/
theorem pg_all {Hd : Row → Prop} {C : Tr → Prop} (hC : ∀ h ks, C (.node h ks) ↔ Hd h ∧ ∀ k ∈ ks, C k) : ∀ t b, C t → (∀ x ∈ b, C x) → (∀ x ∈ pg t b, C x) ∧ ∀ p ∈ eg t b, C p.1 ∧ C p.2 :=
  Tr.ind fun h ks ih b ht hb => by
    obtain ⟨hh, hk⟩ := (hC h ks).mp ht
    have key : ∀ B A, (∀ k ∈ B, k ∈ ks) → (∀ k ∈ A, C k) → (∀ x ∈ pgL h A B b, C x) ∧ ∀ p ∈ egL h A B b, C p.1 ∧ C p.2 := by
      intro B
      induction B with
      | nil => intro A _ _; exact ⟨fun x hx => (nomatch hx), fun p hp => (nomatch hp)⟩
      | cons k B ihB =>
        intro A h1 h2
        have ck := hk k (h1 k List.mem_cons_self)
        have cl : C (.node h (A ++ B ++ b)) := (hC _ _).mpr ⟨hh, fun x hx => by
          rcases List.mem_append.mp hx with hx | hx
          · rcases List.mem_append.mp hx with hx | hx
            · exact h2 x hx
            · exact hk x (h1 x (List.mem_cons_of_mem _ hx))
          · exact hb x hx⟩
        obtain ⟨i1, i2⟩ := ih k (h1 k List.mem_cons_self) [.node h (A ++ B ++ b)] ck fun x hx => by rw [List.mem_singleton.mp hx]; exact cl
        obtain ⟨j1, j2⟩ := ihB (A ++ [k]) (fun x hx => h1 x (List.mem_cons_of_mem _ hx)) fun x hx => by
          rcases List.mem_append.mp hx with hx | hx
          · exact h2 x hx
          · rw [List.mem_singleton.mp hx]; exact ck
        refine ⟨fun x hx => ?_, fun p hp => ?_⟩
        · rcases List.mem_append.mp hx with hx | hx
          · exact i1 x hx
          · exact j1 x hx
        · rcases List.mem_cons.mp hp with rfl | hp
          · exact ⟨cl, ck⟩
          · rcases List.mem_append.mp hp with hp | hp
            · exact i2 p hp
            · exact j2 p hp
    obtain ⟨k1, k2⟩ := key ks [] (fun _ q => q) fun _ q => (nomatch q)
    refine ⟨fun x hx => ?_, k2⟩
    rcases List.mem_cons.mp hx with rfl | hx
    · exact (hC _ _).mpr ⟨hh, fun x hx => (List.mem_append.mp hx).elim (hk x) (hb x)⟩
    · exact k1 x hx
theorem good_iff (h : Row) (ks : List Tr) : Good (.node h ks) ↔ GoodHead h ∧ ∀ k ∈ ks, Good k := ⟨fun g => ⟨g.head, g.kids⟩, fun g => .node g.1 g.2⟩
theorem heads_iff (B : Nat) (h : Row) (ks : List Tr) : Heads B (.node h ks) ↔ h.length ≤ B ∧ ∀ k ∈ ks, Heads B k := ⟨fun g => g.head, fun g => .node g.1 g.2⟩
theorem pg_sz : ∀ t b, (∀ x ∈ pg t b, sz x = sz t + szs b) ∧ (∀ p ∈ eg t b, sz p.1 + sz p.2 = sz t + szs b) ∧ (pg t b).length = sz t ∧ (eg t b).length + 1 = sz t :=
  Tr.ind fun h ks ih b => by
    have key : ∀ B A, (∀ k ∈ B, k ∈ ks) → (∀ x ∈ pgL h A B b, sz x = 1 + szs A + szs B + szs b) ∧ (∀ p ∈ egL h A B b, sz p.1 + sz p.2 = 1 + szs A + szs B + szs b) ∧ (pgL h A B b).length = szs B ∧ (egL h A B b).length = szs B := by
      intro B
      induction B with
      | nil => intro A _; exact ⟨fun x hx => (nomatch hx), fun p hp => (nomatch hp), rfl, rfl⟩
      | cons k B ihB =>
        intro A h1
        obtain ⟨i1, i2, i3, i4⟩ := ih k (h1 k List.mem_cons_self) [.node h (A ++ B ++ b)]
        obtain ⟨j1, j2, j3, j4⟩ := ihB (A ++ [k]) fun x hx => h1 x (List.mem_cons_of_mem _ hx)
        have e1 : sz (.node h (A ++ B ++ b)) = 1 + (szs A + szs B + szs b) := by show 1 + szs (A ++ B ++ b) = _; rw [szs_app, szs_app]
        have e2 : szs [Tr.node h (A ++ B ++ b)] = 1 + (szs A + szs B + szs b) := by show sz _ + 0 = _; rw [e1]; rfl
        have e3 : szs (A ++ [k]) = szs A + sz k := by rw [szs_app]; rfl
        have e4 : szs (k :: B) = sz k + szs B := rfl
        have p1 := sz_pos k
        refine ⟨fun x hx => ?_, fun p hp => ?_, ?_, ?_⟩
        · rcases List.mem_append.mp hx with hx | hx
          · rw [i1 x hx, e2, e4]; omega
          · rw [j1 x hx, e3, e4]; omega
        · rcases List.mem_cons.mp hp with rfl | hp
          · show sz (.node h (A ++ B ++ b)) + sz k = _; rw [e1, e4]; omega
          · rcases List.mem_append.mp hp with hp | hp
            · rw [i2 p hp, e2, e4]; omega
            · rw [j2 p hp, e3, e4]; omega
        · show (pg k _ ++ pgL h _ B b).length = _; rw [List.length_append, i3, j3]; rfl
        · show (eg k _ ++ egL h _ B b).length + 1 = _; rw [List.length_append, j4, e4]; omega
    obtain ⟨k1, k2, k3, k4⟩ := key ks [] fun _ q => q
    have e0 : sz (.node h ks) = 1 + szs ks := rfl
    have e5 : szs ([] : List Tr) = 0 := rfl
    refine ⟨fun x hx => ?_, fun p hp => ?_, ?_, ?_⟩
    · rcases List.mem_cons.mp hx with rfl | hx
      · show 1 + szs (ks ++ b) = _; rw [szs_app, e0]; omega
      · rw [k1 x hx, e0, e5]
    · rw [k2 p hp, e0, e5]
    · show (pgL h [] ks b).length + 1 = _; rw [k3, e0]; omega
    · show (egL h [] ks b).length + 1 = _; rw [k4, e0]; omega
/-! the ties of a row -/
def oe (h : Row) : List Tr → List Tr → List (Tr × Tr)
  | _, [] => []
  | A, k :: B => (.node h (A ++ B), k) :: oe h (A ++ [k]) B
def OE : Tr → List (Tr × Tr)
  | .node h ks => oe h [] ks
theorem oe_snd (h : Row) : ∀ B A, (oe h A B).map (·.2) = B
  | [], _ => rfl
  | k :: B, A => by show k :: (oe h (A ++ [k]) B).map _ = _; rw [oe_snd h B]
theorem oe_mem (h : Row) : ∀ B A p, p ∈ oe h A B → ∃ rest, p.1 = .node h rest ∧ (A ++ B).Perm (p.2 :: rest)
  | [], _, _, hp => (nomatch hp)
  | k :: B, A, p, hp => by
    rcases List.mem_cons.mp hp with rfl | hp
    · exact ⟨A ++ B, rfl, List.perm_middle⟩
    · obtain ⟨rest, e, q⟩ := oe_mem h B (A ++ [k]) p hp
      exact ⟨rest, e, by simpa using q⟩
theorem OE_mem {h : Row} {ks : List Tr} {p : Tr × Tr} (hp : p ∈ OE (.node h ks)) : ∃ rest, p.1 = .node h rest ∧ ks.Perm (p.2 :: rest) := by
  obtain ⟨rest, e, q⟩ := oe_mem h ks [] p hp
  exact ⟨rest, e, by simpa using q⟩
abbrev swp (p : Tr × Tr) : Tr × Tr := (p.2, p.1)
def oeB : Tr → List Tr → List (Tr × Tr)
  | .node h ks, b => oe h ks b
/-- all ties both ways -/
theorem ties (F : Tr × Tr → Nat) : ∀ t b, ((pg t b).map fun x => ((OE x).map F).sum).sum = ((eg t b).map fun p => F p + F (swp p)).sum + ((oeB t b).map F).sum :=
  Tr.ind fun h ks ih b => by
    have key : ∀ B A, (∀ k ∈ B, k ∈ ks) → ((oe h A (B ++ b)).map F).sum + ((pgL h A B b).map fun x => ((OE x).map F).sum).sum = ((egL h A B b).map fun p => F p + F (swp p)).sum + ((oe h (A ++ B) b).map F).sum := by
      intro B
      induction B with
      | nil =>
        intro A _
        show ((oe h A b).map F).sum + 0 = 0 + ((oe h (A ++ []) b).map F).sum
        rw [List.append_nil]; omega
      | cons k B ihB =>
        intro A h1
        have i1 := ih k (h1 k List.mem_cons_self) [.node h (A ++ B ++ b)]
        have i2 := ihB (A ++ [k]) fun x hx => h1 x (List.mem_cons_of_mem _ hx)
        have e1 : ((oe h A (k :: B ++ b)).map F).sum = F (.node h (A ++ B ++ b), k) + ((oe h (A ++ [k]) (B ++ b)).map F).sum := by
          show (((.node h (A ++ (B ++ b)), k) :: oe h (A ++ [k]) (B ++ b)).map F).sum = _
          rw [List.map_cons, List.sum_cons, List.append_assoc]
        have e2 : ((oeB k [.node h (A ++ B ++ b)]).map F).sum = F (k, .node h (A ++ B ++ b)) := by
          obtain ⟨hk, kks⟩ := k
          show F (.node hk (kks ++ []), _) + 0 = _
          rw [List.append_nil]; rfl
        rw [e2] at i1
        rw [e1]
        show _ + ((pg k [.node h (A ++ B ++ b)] ++ pgL h (A ++ [k]) B b).map _).sum = (((.node h (A ++ B ++ b), k) :: (eg k [.node h (A ++ B ++ b)] ++ egL h (A ++ [k]) B b)).map _).sum + _
        rw [List.map_append, List.sum_append, i1, List.map_cons, List.sum_cons, List.map_append, List.sum_append]
        rw [show A ++ k :: B = (A ++ [k]) ++ B by simp]
        show _ = F (.node h (A ++ B ++ b), k) + F (k, .node h (A ++ B ++ b)) + _ + _
        omega
    have k0 := key ks [] fun _ q => q
    show ((OE (.node h (ks ++ b))).map F).sum + ((pgL h [] ks b).map fun x => ((OE x).map F).sum).sum = ((egL h [] ks b).map fun p => F p + F (swp p)).sum + ((oe h ks b).map F).sum
    exact k0
end
end Mine
end
section
open PySem PySem.W PySem.Calls PyProof.Rows

namespace Mine
mutual
def tn (wd : Nat) : Tr → Nat
  | .node _ ks => tns wd ks
def tns (wd : Nat) : List Tr → Nat
  | [] => 1
  | k :: ks => tn wd k * (texts wd (k :: ks)).count (text wd k) * tns wd ks
end
def gL : List (List Nat × Nat) → Nat
  | [] => 1
  | p :: l => p.2 * ((p :: l).map (·.1)).count p.1 * gL l
theorem tns_gL (wd : Nat) : ∀ ks : List Tr, tns wd ks = gL (ks.map fun k => (text wd k, tn wd k))
  | [] => rfl
  | k :: ks => by
    show tn wd k * (texts wd (k :: ks)).count (text wd k) * tns wd ks = tn wd k * _ * _
    rw [tns_gL wd ks, texts_map]
    congr 2
    rw [← List.map_cons (f := fun k => (text wd k, tn wd k)), List.map_map]; rfl
theorem gL_perm {l l' : List (List Nat × Nat)} (p : l.Perm l') : gL l = gL l' := by
  induction p with
  | nil => rfl
  | cons x q ih =>
    show _ * ((x :: _).map _).count x.1 * gL _ = _ * ((x :: _).map _).count x.1 * gL _
    rw [ih, ((q.cons x).map _).count_eq]
  | swap x y l =>
    show y.2 * ((y :: x :: l).map _).count y.1 * (x.2 * ((x :: l).map _).count x.1 * gL l) = x.2 * ((x :: y :: l).map _).count x.1 * (y.2 * ((y :: l).map _).count y.1 * gL l)
    simp only [List.map_cons, List.count_cons_self, List.count_cons]
    by_cases h : x.1 = y.1
    · rw [h]; simp only [beq_self_eq_true, if_true]
      simp only [Nat.mul_comm, Nat.mul_left_comm, Nat.mul_assoc]
    · have h' : ¬ y.1 = x.1 := fun e => h e.symm
      simp only [beq_iff_eq, h, h', if_false, Nat.add_zero]
      simp only [Nat.mul_comm, Nat.mul_left_comm, Nat.mul_assoc]
  | trans _ _ i1 i2 => exact i1.trans i2
theorem tns_perm {wd : Nat} {a b : List Tr} (p : a.Perm b) : tns wd a = tns wd b := by rw [tns_gL, tns_gL, gL_perm (p.map _)]
theorem tns_congr {wd : Nat} {ks ks' : List Tr} (hc : ∀ k ∈ ks, ∀ k' ∈ ks', text wd k = text wd k' → tn wd k = tn wd k') (p : (texts wd ks).Perm (texts wd ks')) : tns wd ks = tns wd ks' := by
  obtain ⟨l, q, e⟩ := perm_map_inv (f := text wd) p (ks := ks') (texts_map wd ks')
  rw [← texts_map] at e
  rw [← tns_perm q]
  have hl : ∀ k ∈ l, k ∈ ks' := fun k hk => q.mem_iff.mp hk
  clear p q
  induction ks generalizing l with
  | nil =>
    cases l with
    | nil => rfl
    | cons a l => cases e
  | cons k ks ih =>
    cases l with
    | nil => cases e
    | cons a l =>
      have e1 : text wd a = text wd k := (List.cons.inj e).1
      have e2 : texts wd l = texts wd ks := (List.cons.inj e).2
      show tn wd k * (texts wd (k :: ks)).count (text wd k) * tns wd ks = tn wd a * (texts wd (a :: l)).count (text wd a) * tns wd l
      rw [ih (fun x hx y hy h => hc x (List.mem_cons_of_mem _ hx) y hy h) l e2 fun x hx => hl x (List.mem_cons_of_mem _ hx), e, e1, hc k List.mem_cons_self a (hl a List.mem_cons_self) e1.symm]
theorem tn_congr {wd : Nat} (hw : 1 ≤ wd) : ∀ t, Good t → ∀ t', Good t' → text wd t = text wd t' → tn wd t = tn wd t' :=
  Tr.ind fun h ks ih g t' g' e => by
    obtain ⟨h', ks'⟩ := t'
    obtain ⟨rfl, p⟩ := page_inj g.head.nl g'.head.nl (kids_parts hw g) (kids_parts hw g') e
    exact tns_congr (fun k hk k' hk' e => ih k hk (g.kids k hk) k' (g'.kids k' hk') e) p
theorem szs_sum : ∀ ks : List Tr, szs ks = (ks.map sz).sum
  | [] => rfl
  | k :: ks => by rw [List.map_cons, List.sum_cons, ← szs_sum ks]; rfl
theorem szs_perm {a b : List Tr} (p : a.Perm b) : szs a = szs b := by rw [szs_sum, szs_sum]; exact (p.map sz).sum_nat
theorem sumN_pair {wd : Nat} {f : Tr → Nat} : ∀ {a b : List Tr}, texts wd a = texts wd b → (∀ x ∈ a, ∀ y ∈ b, text wd x = text wd y → f x = f y) → (a.map f).sum = (b.map f).sum
  | [], [], _, _ => rfl
  | [], _ :: _, e, _ => by cases e
  | _ :: _, [], e, _ => by cases e
  | x :: a, y :: b, e, h => by
    rw [List.map_cons, List.map_cons, List.sum_cons, List.sum_cons, h x List.mem_cons_self y List.mem_cons_self (List.cons.inj e).1,
      sumN_pair (List.cons.inj e).2 fun u hu v hv => h u (List.mem_cons_of_mem _ hu) v (List.mem_cons_of_mem _ hv)]
theorem sumN_perm {wd : Nat} {f : Tr → Nat} {a b : List Tr} (p : (texts wd a).Perm (texts wd b)) (h : ∀ x ∈ a, ∀ y ∈ b, text wd x = text wd y → f x = f y) : (a.map f).sum = (b.map f).sum := by
  obtain ⟨l, q, e⟩ := perm_map_inv (f := text wd) p (ks := b) (texts_map wd b)
  rw [← texts_map] at e
  rw [← (q.map f).sum_nat]
  exact sumN_pair e.symm fun x hx y hy => h x hx y (q.mem_iff.mp hy)
theorem sz_congr {wd : Nat} (hw : 1 ≤ wd) : ∀ t, Good t → ∀ t', Good t' → text wd t = text wd t' → sz t = sz t' :=
  Tr.ind fun h ks ih g t' g' e => by
    obtain ⟨h', ks'⟩ := t'
    obtain ⟨rfl, p⟩ := page_inj g.head.nl g'.head.nl (kids_parts hw g) (kids_parts hw g') e
    show 1 + szs ks = 1 + szs ks'
    rw [szs_sum, szs_sum, sumN_perm p fun k hk k' hk' e => ih k hk (g.kids k hk) k' (g'.kids k' hk') e]
/-! a row and its ties -/
def indT (wd : Nat) (L R : List Nat) (p : Tr × Tr) : Nat := if text wd p.1 = L ∧ text wd p.2 = R then 1 else 0
theorem indT_swp (wd : Nat) (L R : List Nat) (p : Tr × Tr) : indT wd L R (swp p) = indT wd R L p := by
  unfold indT
  by_cases h : text wd p.2 = L ∧ text wd p.1 = R
  · rw [if_pos h, if_pos ⟨h.2, h.1⟩]
  · rw [if_neg h, if_neg fun q => h ⟨q.2, q.1⟩]
theorem sum_ind {α : Type} (P : α → Prop) [DecidablePred P] : ∀ l : List α, (l.map fun x => if P x then 1 else 0).sum = l.countP (fun x => decide (P x))
  | [] => rfl
  | a :: l => by
    rw [List.map_cons, List.sum_cons, sum_ind P l, List.countP_cons]
    by_cases h : P a
    · rw [if_pos h, if_pos (decide_eq_true h)]; omega
    · rw [if_neg h, if_neg (by simpa using h)]; omega
theorem sumN_zero {α : Type} {f : α → Nat} : ∀ {l : List α}, (∀ x ∈ l, f x = 0) → (l.map f).sum = 0
  | [], _ => rfl
  | a :: l, h => by rw [List.map_cons, List.sum_cons, h a List.mem_cons_self, sumN_zero fun x hx => h x (List.mem_cons_of_mem _ hx)]
theorem sumN_congr {α : Type} {f g : α → Nat} : ∀ {l : List α}, (∀ x ∈ l, f x = g x) → (l.map f).sum = (l.map g).sum
  | [], _ => rfl
  | a :: l, h => by rw [List.map_cons, List.map_cons, List.sum_cons, List.sum_cons, h a List.mem_cons_self, sumN_congr fun x hx => h x (List.mem_cons_of_mem _ hx)]
/-- the ties of x that look like (l, r), a tie of v -/
theorem loc {wd : Nat} (hw : 1 ≤ wd) {x : Tr} {h : Row} {ps : List Tr} {l r : Tr} (gx : Good x) (gv : Good (.node h ps)) (hp : (l, r) ∈ OE (.node h ps)) :
    ((OE x).map (indT wd (text wd l) (text wd r))).sum = if text wd x = text wd (.node h ps) then (texts wd ps).count (text wd r) else 0 := by
  obtain ⟨h', qs⟩ := x
  obtain ⟨rest, el, pr⟩ := OE_mem hp
  simp only at el pr
  subst el
  have tp : (texts wd ps).Perm (text wd r :: texts wd rest) := by rw [texts_map, texts_map, ← List.map_cons]; exact pr.map _
  have grest : ∀ k ∈ rest, Good k := fun k hk => gv.kids k (pr.mem_iff.mpr (List.mem_cons_of_mem _ hk))
  have gl : Good (.node h rest) := .node gv.head grest
  by_cases hx : text wd (.node h' qs) = text wd (.node h ps)
  · rw [if_pos hx]
    obtain ⟨rfl, pq⟩ := page_inj gx.head.nl gv.head.nl (kids_parts hw gx) (kids_parts hw gv) hx
    have e1 : ((OE (.node h' qs)).map (indT wd (text wd (.node h' rest)) (text wd r))).sum = ((OE (.node h' qs)).map fun p => if text wd p.2 = text wd r then 1 else 0).sum := by
      refine sumN_congr fun p hp' => ?_
      unfold indT
      obtain ⟨rest', el', pr'⟩ := OE_mem hp'
      by_cases h2 : text wd p.2 = text wd r
      · rw [if_pos h2, if_pos]
        refine ⟨?_, h2⟩
        rw [el']
        have tp' : (texts wd qs).Perm (text wd p.2 :: texts wd rest') := by rw [texts_map, texts_map, ← List.map_cons]; exact pr'.map _
        rw [h2] at tp'
        exact pageT_perm ((tp'.symm.trans (pq.trans tp)).cons_inv)
      · rw [if_neg h2, if_neg fun q => h2 q.2]
    rw [e1, sum_ind, ← pq.count_eq, texts_map, List.count_eq_countP, List.countP_map]
    have e2 := oe_snd h' qs []
    conv => rhs; rw [← e2, List.countP_map]
    congr 1
    funext p
    rw [Bool.eq_iff_iff]
    simp
  · rw [if_neg hx]
    refine sumN_zero fun p hp' => ?_
    unfold indT
    rw [if_neg]
    rintro ⟨h1, h2⟩
    obtain ⟨rest', el', pr'⟩ := OE_mem hp'
    have grest' : ∀ k ∈ rest', Good k := fun k hk => gx.kids k (pr'.mem_iff.mpr (List.mem_cons_of_mem _ hk))
    rw [el'] at h1
    obtain ⟨rfl, pq⟩ := page_inj gx.head.nl gv.head.nl (kids_parts hw (.node gx.head grest')) (kids_parts hw gl) h1
    have tp' : (texts wd qs).Perm (text wd p.2 :: texts wd rest') := by rw [texts_map, texts_map, ← List.map_cons]; exact pr'.map _
    rw [h2] at tp'
    exact hx (pageT_perm (tp'.trans ((pq.cons _).trans tp.symm)))
def NN (wd : Nat) (P : List Tr) (L R : List Nat) : Nat := (P.map fun x => ((OE x).map (indT wd L R)).sum).sum
def WW (wd : Nat) (P : List Tr) (v : Tr) : Nat := (P.map (text wd)).count (text wd v) * tn wd v
theorem tn_tie {wd : Nat} {h : Row} {ps : List Tr} {l r : Tr} (hp : (l, r) ∈ OE (.node h ps)) : tn wd (.node h ps) = tn wd l * tn wd r * (texts wd ps).count (text wd r) := by
  obtain ⟨rest, el, pr⟩ := OE_mem hp
  simp only at el pr
  subst el
  show tns wd ps = tns wd rest * tn wd r * _
  have tp : (texts wd ps).Perm (texts wd (r :: rest)) := by rw [texts_map, texts_map]; exact pr.map _
  rw [tns_perm pr, tp.count_eq]
  show tn wd r * _ * tns wd rest = _
  rw [Nat.mul_comm (tns wd rest) (tn wd r), Nat.mul_assoc, Nat.mul_assoc, Nat.mul_comm (tns wd rest)]
theorem WW_tie {wd : Nat} (hw : 1 ≤ wd) {P : List Tr} (gP : ∀ x ∈ P, Good x) {v l r : Tr} (gv : Good v) (hp : (l, r) ∈ OE v) : WW wd P v = tn wd l * tn wd r * NN wd P (text wd l) (text wd r) := by
  obtain ⟨h, ps⟩ := v
  have e : NN wd P (text wd l) (text wd r) = (P.map (text wd)).count (text wd (.node h ps)) * (texts wd ps).count (text wd r) := by
    unfold NN
    rw [sumN_congr (g := fun x => if text wd x = text wd (.node h ps) then (texts wd ps).count (text wd r) else 0) fun x hx => loc hw (gP x hx) gv hp]
    generalize (texts wd ps).count (text wd r) = c
    generalize text wd (.node h ps) = T
    clear gP
    induction P with
    | nil => simp
    | cons a P ih =>
      rw [List.map_cons, List.sum_cons, ih, List.map_cons, List.count_cons]
      by_cases h : text wd a = T
      · rw [if_pos h, if_pos (by simpa using h), Nat.add_mul]; omega
      · rw [if_neg h, if_neg (by simpa using h), Nat.add_zero, Nat.zero_add]
  unfold WW
  rw [e, tn_tie hp]
  simp only [Nat.mul_comm, Nat.mul_left_comm, Nat.mul_assoc]
theorem oeB_nil (t : Tr) : oeB t [] = [] := by cases t; rfl
theorem NN_pg (wd : Nat) (t : Tr) (L R : List Nat) : NN wd (pg t []) L R = ((eg t []).map fun p => indT wd L R p + indT wd R L p).sum := by
  unfold NN
  rw [ties (indT wd L R) t [], oeB_nil]
  show _ + 0 = _
  rw [Nat.add_zero]
  exact sumN_congr fun p _ => by rw [indT_swp]
theorem NN_symm (wd : Nat) (t : Tr) (L R : List Nat) : NN wd (pg t []) L R = NN wd (pg t []) R L := by
  rw [NN_pg, NN_pg]
  exact sumN_congr fun p _ => Nat.add_comm _ _
theorem oe_in (h : Row) (k : Tr) (B : List Tr) : ∀ A A0, (.node h (A0 ++ A ++ B), k) ∈ oe h A0 (A ++ k :: B)
  | [], A0 => by rw [List.append_nil]; exact List.mem_cons_self
  | a :: A, A0 => by
    have := oe_in h k B A (A0 ++ [a])
    rw [List.append_assoc, List.append_assoc, List.singleton_append] at this
    rw [List.append_assoc]
    exact List.mem_cons_of_mem _ this
def rootOf : Tr → List Tr → Tr
  | .node h ks, b => .node h (ks ++ b)
theorem WW_all {wd : Nat} (hw : 1 ≤ wd) {T : Tr} (gT : ∀ x ∈ pg T [], Good x) : ∀ t b, (∀ x ∈ pg t b, x ∈ pg T []) → ∀ x ∈ pg t b, WW wd (pg T []) x = WW wd (pg T []) (rootOf t b) :=
  Tr.ind fun h ks ih b hs x hx => by
    have hv : Tr.node h (ks ++ b) ∈ pg T [] := hs _ List.mem_cons_self
    have key : ∀ B A, ks = A ++ B → (∀ x ∈ pgL h A B b, x ∈ pg T []) → ∀ x ∈ pgL h A B b, WW wd (pg T []) x = WW wd (pg T []) (.node h (ks ++ b)) := by
      intro B
      induction B with
      | nil => intro A _ _ x hx; cases hx
      | cons k B ihB =>
        intro A e h1 x hx
        have m1 : ∀ x ∈ pg k [.node h (A ++ B ++ b)], x ∈ pg T [] := fun x hx => h1 x (List.mem_append_left _ hx)
        rcases List.mem_append.mp hx with hx | hx
        · rw [ih k (by rw [e]; simp) [.node h (A ++ B ++ b)] m1 x hx]
          have t1 : (.node h (A ++ B ++ b), k) ∈ OE (.node h (ks ++ b)) := by
            have := oe_in h k (B ++ b) A []
            rw [e]
            show _ ∈ oe h [] (A ++ k :: B ++ b)
            rw [List.append_assoc A, List.cons_append]
            rw [List.append_assoc A]
            exact this
          have hu : rootOf k [.node h (A ++ B ++ b)] ∈ pg T [] := m1 _ (by cases k; exact List.mem_cons_self)
          have t2 : (k, .node h (A ++ B ++ b)) ∈ OE (rootOf k [.node h (A ++ B ++ b)]) := by
            obtain ⟨hk, kks⟩ := k
            have := oe_in hk (.node h (A ++ B ++ b)) [] kks []
            rw [List.append_nil, List.nil_append] at this
            exact this
          rw [WW_tie hw gT (gT _ hu) t2, WW_tie hw gT (gT _ hv) t1, NN_symm, Nat.mul_comm (tn wd k)]
        · exact ihB (A ++ [k]) (by rw [e]; simp) (fun y hy => h1 y (List.mem_append_right _ hy)) x hx
    rcases List.mem_cons.mp hx with rfl | hx
    · rfl
    · exact key ks [] rfl (fun y hy => hs y (List.mem_cons_of_mem _ hy)) x hx
theorem rootOf_nil (t : Tr) : rootOf t [] = t := by
  obtain ⟨h, ks⟩ := t
  show Tr.node h (ks ++ []) = _
  rw [List.append_nil]
/-- from wherever one looks: how often a page comes, times its turns -/
theorem turnsA {wd : Nat} (hw : 1 ≤ wd) {T : Tr} (g : Good T) : ∀ x ∈ pg T [], WW wd (pg T []) x = WW wd (pg T []) T := fun x hx => by
  have := WW_all hw (pg_all good_iff T [] g fun _ q => (nomatch q)).1 T [] (fun _ q => q) x hx
  rwa [rootOf_nil] at this
end Mine
end
section
open PySem PySem.W PySem.Calls PyProof.Rows

namespace Mine
theorem sort2 (a b : List Nat) : sortT [a, b] = if leT a b = true then [a, b] else [b, a] := by
  symm
  by_cases h : leT a b = true
  · rw [if_pos h]
    exact sortT_unique (.refl _) (by simp [h])
  · rw [if_neg h]
    refine sortT_unique (.swap _ _ _) ?_
    have := leT_total a b
    rw [show leT a b = false by simpa using h, Bool.false_or] at this
    simp [this]
/-- a tie as it is written -/
def tieT (a b : List Nat) : List Nat := if leT a b = true then glue a b else glue b a
def keyT (wd : Nat) (p : Tr × Tr) : List Nat := tieT (text wd p.1) (text wd p.2)
theorem sep_text {wd : Nat} (hw : 1 ≤ wd) {t : Tr} (g : Good t) : Sep (text wd t) := by
  have p := good_part hw t g
  obtain ⟨h, rest, e1, e2, _⟩ := id p.ex
  rw [e1]
  exact sep_join (by simp) fun r hr => p.rows r (by rw [e2]; exact hr)
theorem glue_inj {a b c d : List Nat} (xa : Sep a) (xb : Sep b) (xc : Sep c) (xd : Sep d) (e : glue a b = glue c d) : a = c ∧ b = d := by
  have h1 := (glue_gap xa xb).1
  rw [e] at h1
  have hl := (glue_gap xc xd).2 _ h1
  obtain ⟨e1, e2⟩ := List.append_inj e hl
  exact ⟨e1, (List.cons.inj (List.cons.inj e2).2).2⟩
theorem tieT_comm (a b : List Nat) : tieT a b = tieT b a := by
  unfold tieT
  by_cases h1 : leT a b = true <;> by_cases h2 : leT b a = true
  · rw [leT_anti a b h1 h2]
  · rw [if_pos h1, if_neg h2]
  · rw [if_neg h1, if_pos h2]
  · have := leT_total a b; simp [h1, h2] at this
theorem tieT_inj {a b c d : List Nat} (xa : Sep a) (xb : Sep b) (xc : Sep c) (xd : Sep d) : tieT a b = tieT c d ↔ (a = c ∧ b = d) ∨ (a = d ∧ b = c) := by
  constructor
  · intro e
    unfold tieT at e
    by_cases h1 : leT a b = true <;> by_cases h2 : leT c d = true
    · rw [if_pos h1, if_pos h2] at e; exact .inl (glue_inj xa xb xc xd e)
    · rw [if_pos h1, if_neg h2] at e; exact .inr (glue_inj xa xb xd xc e)
    · rw [if_neg h1, if_pos h2] at e; exact .inr (glue_inj xb xa xc xd e).symm
    · rw [if_neg h1, if_neg h2] at e; exact .inl (glue_inj xb xa xd xc e).symm
  · rintro (⟨rfl, rfl⟩ | ⟨rfl, rfl⟩)
    · rfl
    · exact tieT_comm _ _
theorem sum_pos_mem {α : Type} {f : α → Nat} : ∀ {l : List α}, (l.map f).sum ≠ 0 → ∃ x ∈ l, f x ≠ 0
  | [], h => absurd rfl h
  | a :: l, h => by
    by_cases ha : f a = 0
    · rw [List.map_cons, List.sum_cons, ha, Nat.zero_add] at h
      obtain ⟨x, hx, e⟩ := sum_pos_mem h
      exact ⟨x, List.mem_cons_of_mem _ hx, e⟩
    · exact ⟨a, List.mem_cons_self, ha⟩
theorem sum_ge {α : Type} {f : α → Nat} : ∀ {l : List α} {x : α}, x ∈ l → f x ≤ (l.map f).sum
  | a :: l, x, h => by
    rw [List.map_cons, List.sum_cons]
    rcases List.mem_cons.mp h with rfl | h
    · omega
    · have := sum_ge (f := f) h; omega
open Classical in
theorem tie_at {T : Tr} {p : Tr × Tr} (hp : p ∈ eg T []) : (∃ v ∈ pg T [], p ∈ OE v) ∧ ∃ v ∈ pg T [], swp p ∈ OE v := by
  have key : ∀ q : Tr × Tr, (q = p ∨ q = swp p) → ∃ v ∈ pg T [], q ∈ OE v := fun q hq => by
    have := ties (fun x => if x = q then 1 else 0) T []
    have h2 : 1 ≤ ((eg T []).map fun p => (if p = q then 1 else 0) + if swp p = q then 1 else 0).sum := by
      refine Nat.le_trans ?_ (sum_ge hp)
      rcases hq with rfl | rfl
      · rw [if_pos rfl]; omega
      · rw [if_pos (show swp p = swp p from rfl)]; omega
    have h3 : ((pg T []).map fun x => ((OE x).map fun x => if x = q then 1 else 0).sum).sum ≠ 0 := by
      intro h0; rw [h0] at this; omega
    obtain ⟨v, hv, e⟩ := sum_pos_mem h3
    obtain ⟨x, hx, e⟩ := sum_pos_mem e
    by_cases h : x = q
    · exact ⟨v, hv, h ▸ hx⟩
    · rw [if_neg h] at e; exact absurd rfl e
  exact ⟨key p (.inl rfl), key (swp p) (.inr rfl)⟩
open Classical in
theorem tie_of {T v : Tr} {p : Tr × Tr} (hv : v ∈ pg T []) (hp : p ∈ OE v) : p ∈ eg T [] ∨ swp p ∈ eg T [] := by
  have := ties (fun x => if x = p then 1 else 0) T []
  rw [oeB_nil] at this
  have h2 : 1 ≤ ((pg T []).map fun x => ((OE x).map fun x => if x = p then 1 else 0).sum).sum := by
    refine Nat.le_trans ?_ (sum_ge hv)
    refine Nat.le_trans ?_ (sum_ge hp)
    rw [if_pos rfl]; exact Nat.le_refl _
  have h3 : ((eg T []).map fun q => (if q = p then 1 else 0) + if swp q = p then 1 else 0).sum ≠ 0 := by
    intro h0
    rw [h0] at this
    have h4 : ((([] : List (Tr × Tr)).map fun x => if x = p then 1 else 0)).sum = 0 := rfl
    omega
  obtain ⟨q, hq, e⟩ := sum_pos_mem h3
  by_cases h : q = p
  · exact .inl (h ▸ hq)
  · by_cases h' : swp q = p
    · exact .inr (by rw [← h']; exact hq)
    · rw [if_neg h, if_neg h'] at e; exact absurd rfl e
/-- how often a tie comes, times the turns of its halves, twice if these are alike -/
theorem turnsB {wd : Nat} (hw : 1 ≤ wd) {T : Tr} (g : Good T) {p : Tr × Tr} (hp : p ∈ eg T []) :
    ((eg T []).map (keyT wd)).count (keyT wd p) * (tn wd p.1 * tn wd p.2) * (if text wd p.1 = text wd p.2 then 2 else 1) = WW wd (pg T []) T := by
  obtain ⟨gP, gE⟩ := pg_all good_iff T [] g fun _ q => (nomatch q)
  obtain ⟨⟨v, hv, hpv⟩, _⟩ := tie_at hp
  rw [← turnsA hw g v hv, WW_tie hw gP (gP v hv) hpv, NN_pg, List.count_eq_countP, List.countP_map]
  have e : ((eg T []).map fun q => indT wd (text wd p.1) (text wd p.2) q + indT wd (text wd p.2) (text wd p.1) q).sum = ((eg T []).countP ((fun x => x == keyT wd p) ∘ keyT wd)) * (if text wd p.1 = text wd p.2 then 2 else 1) := by
    have hpt : ∀ q ∈ eg T [], indT wd (text wd p.1) (text wd p.2) q + indT wd (text wd p.2) (text wd p.1) q = (if keyT wd q = keyT wd p then 1 else 0) * (if text wd p.1 = text wd p.2 then 2 else 1) := fun q hq => by
      have hk := tieT_inj (sep_text hw (gE q hq).1) (sep_text hw (gE q hq).2) (sep_text hw (gE p hp).1) (sep_text hw (gE p hp).2)
      unfold indT keyT
      by_cases h1 : text wd q.1 = text wd p.1 ∧ text wd q.2 = text wd p.2 <;> by_cases h2 : text wd q.1 = text wd p.2 ∧ text wd q.2 = text wd p.1
      · rw [if_pos h1, if_pos h2, if_pos (hk.mpr (.inl h1)), if_pos (h1.1.symm.trans h2.1)]
      · rw [if_pos h1, if_neg h2, if_pos (hk.mpr (.inl h1)), if_neg fun e => h2 ⟨h1.1.trans e, h1.2.trans e.symm⟩]
      · rw [if_neg h1, if_pos h2, if_pos (hk.mpr (.inr h2)), if_neg fun e => h1 ⟨h2.1.trans e.symm, h2.2.trans e⟩]
      · rw [if_neg h1, if_neg h2, if_neg fun e => (hk.mp e).elim h1 h2, Nat.zero_mul]
    rw [sumN_congr hpt]
    generalize (if text wd p.1 = text wd p.2 then 2 else 1) = c
    have hs := sum_ind (fun q => keyT wd q = keyT wd p) (eg T [])
    have e3 : (eg T []).countP (fun x => decide (keyT wd x = keyT wd p)) = (eg T []).countP ((fun x => x == keyT wd p) ∘ keyT wd) := by
      congr 1
      funext x
      rw [Bool.eq_iff_iff]
      simp
    rw [← e3, ← hs]
    generalize eg T [] = l
    induction l with
    | nil => simp
    | cons a l ih => rw [List.map_cons, List.sum_cons, ih, List.map_cons, List.sum_cons, Nat.add_mul]
  rw [e]
  simp only [Nat.mul_comm, Nat.mul_left_comm, Nat.mul_assoc]
end Mine
end
section
open PySem PySem.W PySem.Calls PyProof.Rows

namespace Mine
theorem dd_map_on' {α β : Type} [DecidableEq α] [DecidableEq β] {f : α → β} (l : List α) : (∀ a ∈ l, ∀ b ∈ l, f a = f b → a = b) → dd (l.map f) = (dd l).map f := by
  refine list_rev_ind (P := fun l => (∀ a ∈ l, ∀ b ∈ l, f a = f b → a = b) → dd (l.map f) = (dd l).map f) (fun _ => rfl) (fun l x ih h => ?_) l
  have ih' := ih fun a ha b hb => h a (List.mem_append_left _ ha) b (List.mem_append_left _ hb)
  rw [List.map_append, List.map_cons, List.map_nil, dd_app, dd_app, ih']
  by_cases hx : x ∈ dd l
  · rw [if_pos (List.mem_map_of_mem hx), if_pos hx]
  · rw [if_neg, if_neg hx, List.map_append]; rfl
    intro hm
    obtain ⟨a, ha, e⟩ := List.mem_map.mp hm
    have := h a (List.mem_append_left _ ((dd_mem l).mp ha)) x (List.mem_append_right _ List.mem_cons_self) e
    exact hx (this ▸ ha)
theorem nodup_len {α : Type} [DecidableEq α] {a b : List α} (ha : a.Nodup) (hb : b.Nodup) (h : ∀ x, x ∈ a ↔ x ∈ b) : a.length = b.length := ((List.perm_ext_iff_of_nodup ha hb).mpr fun x => h x).length_eq
theorem dd_pair {α : Type} {f g : α → List Nat} {l : List α} (h : ∀ a ∈ l, ∀ b ∈ l, f a = f b ↔ g a = g b) : (dd (l.map f)).length = (dd (l.map g)).length := by
  have e1 : l.map f = (l.map fun a => (f a, g a)).map (·.1) := by rw [List.map_map]; rfl
  have e2 : l.map g = (l.map fun a => (f a, g a)).map (·.2) := by rw [List.map_map]; rfl
  have d1 : dd ((l.map fun a => (f a, g a)).map fun x => x.1) = (dd (l.map fun a => (f a, g a))).map fun x => x.1 := dd_map_on' _ fun x hx y hy e => by
    obtain ⟨a, ha, rfl⟩ := List.mem_map.mp hx
    obtain ⟨b, hb, rfl⟩ := List.mem_map.mp hy
    exact Prod.ext e ((h a ha b hb).mp e)
  have d2 : dd ((l.map fun a => (f a, g a)).map fun x => x.2) = (dd (l.map fun a => (f a, g a))).map fun x => x.2 := dd_map_on' _ fun x hx y hy e => by
    obtain ⟨a, ha, rfl⟩ := List.mem_map.mp hx
    obtain ⟨b, hb, rfl⟩ := List.mem_map.mp hy
    exact Prod.ext ((h a ha b hb).mpr e) e
  rw [e1, e2, d1, d2, List.length_map, List.length_map]
theorem countP_one {α : Type} {f : α → Bool} : ∀ {l : List α}, l.countP f ≤ 1 → ∀ a ∈ l, ∀ b ∈ l, f a = true → f b = true → a = b
  | x :: l, h, a, ha, b, hb, fa, fb => by
    rw [List.countP_cons] at h
    rcases List.mem_cons.mp ha with ea | ha <;> rcases List.mem_cons.mp hb with eb | hb
    · rw [ea, eb]
    · have : 1 ≤ l.countP f := List.countP_pos_iff.mpr ⟨b, hb, fb⟩
      rw [ea] at fa
      rw [if_pos fa] at h; omega
    · have : 1 ≤ l.countP f := List.countP_pos_iff.mpr ⟨a, ha, fa⟩
      rw [eb] at fb
      rw [if_pos fb] at h; omega
    · exact countP_one (by omega) a ha b hb fa fb
/-- the tie's second half is the greater one -/
def big (wd : Nat) (p : Tr × Tr) : Bool := decide (sz p.1 < sz p.2) || (decide (sz p.1 = sz p.2) && (decide (text wd p.1 ≠ text wd p.2) && leT (text wd p.1) (text wd p.2)))
def sym (wd : Nat) (p : Tr × Tr) : Bool := decide (text wd p.1 = text wd p.2)
theorem big_iff {wd : Nat} {p : Tr × Tr} : big wd p = true ↔ sz p.1 < sz p.2 ∨ (sz p.1 = sz p.2 ∧ text wd p.1 ≠ text wd p.2 ∧ leT (text wd p.1) (text wd p.2) = true) := by
  unfold big; simp
theorem sym_iff {wd : Nat} {p : Tr × Tr} : sym wd p = true ↔ text wd p.1 = text wd p.2 := by unfold sym; simp
theorem one_way {wd : Nat} (hw : 1 ≤ wd) {p : Tr × Tr} (g1 : Good p.1) (g2 : Good p.2) : (big wd p).toNat + (big wd (swp p)).toNat + (sym wd p).toNat = 1 := by
  have hs : text wd p.1 = text wd p.2 → sz p.1 = sz p.2 := sz_congr hw _ g1 _ g2
  cases h1 : big wd p <;> cases h2 : big wd (swp p) <;> cases h3 : sym wd p <;> (try rfl) <;> exfalso
  · have n1 : ¬ big wd p = true := by simp [h1]
    have n2 : ¬ big wd (swp p) = true := by simp [h2]
    have n3 : ¬ sym wd p = true := by simp [h3]
    rw [big_iff] at n1 n2
    rw [sym_iff] at n3
    have hle := leT_total (text wd p.1) (text wd p.2)
    rw [Bool.or_eq_true] at hle
    have : sz p.1 = sz p.2 := by
      simp only at n2; omega
    rcases hle with h | h
    · exact n1 (.inr ⟨this, n3, h⟩)
    · exact n2 (.inr ⟨this.symm, fun e => n3 e.symm, h⟩)
  · have a2 := big_iff.mp h2
    have a3 := sym_iff.mp h3
    have := hs a3
    simp only at a2
    rcases a2 with h | ⟨_, h, _⟩
    · omega
    · exact h a3.symm
  · have a1 := big_iff.mp h1
    have a3 := sym_iff.mp h3
    have := hs a3
    rcases a1 with h | ⟨_, h, _⟩
    · omega
    · exact h a3
  · have a1 := big_iff.mp h1
    have a2 := big_iff.mp h2
    simp only at a2
    rcases a1 with h | ⟨e, h, h'⟩ <;> rcases a2 with q | ⟨e', q, q'⟩
    · omega
    · omega
    · omega
    · exact h (leT_anti _ _ h' q')
  · have a1 := big_iff.mp h1
    have a3 := sym_iff.mp h3
    have := hs a3
    rcases a1 with h | ⟨_, h, _⟩
    · omega
    · exact h a3
theorem sym_swp {wd : Nat} (p : Tr × Tr) : sym wd (swp p) = sym wd p := by
  unfold sym; rw [Bool.eq_iff_iff, decide_eq_true_eq, decide_eq_true_eq]; exact ⟨Eq.symm, Eq.symm⟩
theorem countP_sum {α : Type} (f : α → Bool) : ∀ l : List α, (l.map fun x => (f x).toNat).sum = l.countP f
  | [] => rfl
  | a :: l => by
    rw [List.map_cons, List.sum_cons, countP_sum f l, List.countP_cons]
    cases f a <;> simp <;> omega
theorem sumN_add {α : Type} (f g : α → Nat) : ∀ l : List α, (l.map fun x => f x + g x).sum = (l.map f).sum + (l.map g).sum
  | [] => rfl
  | a :: l => by rw [List.map_cons, List.map_cons, List.map_cons, List.sum_cons, List.sum_cons, List.sum_cons, sumN_add f g l]; omega
theorem sumN_le {α : Type} {f g : α → Nat} : ∀ {l : List α}, (∀ x ∈ l, f x ≤ g x) → (l.map f).sum ≤ (l.map g).sum
  | [], _ => Nat.le_refl _
  | a :: l, h => by
    rw [List.map_cons, List.map_cons, List.sum_cons, List.sum_cons]
    have h1 := h a List.mem_cons_self
    have h2 := sumN_le fun x hx => h x (List.mem_cons_of_mem _ hx)
    omega
theorem sumN_mul {α : Type} (c : Nat) (f : α → Nat) : ∀ l : List α, (l.map fun x => c * f x).sum = c * (l.map f).sum
  | [] => by simp
  | a :: l => by rw [List.map_cons, List.map_cons, List.sum_cons, List.sum_cons, sumN_mul c f l, Nat.mul_add]
theorem sumN_const {α : Type} (c : Nat) : ∀ l : List α, (l.map fun _ => c).sum = c * l.length
  | [] => by simp
  | a :: l => by rw [List.map_cons, List.sum_cons, sumN_const c l, List.length_cons, Nat.mul_add]; omega
theorem OE_good {x : Tr} (g : Good x) {p : Tr × Tr} (hp : p ∈ OE x) : Good p.1 ∧ Good p.2 ∧ sz p.1 + sz p.2 = sz x := by
  obtain ⟨h, ks⟩ := x
  obtain ⟨rest, e, q⟩ := OE_mem hp
  refine ⟨?_, g.kids _ (q.mem_iff.mpr List.mem_cons_self), ?_⟩
  · rw [e]; exact .node g.head fun k hk => g.kids k (q.mem_iff.mpr (List.mem_cons_of_mem _ hk))
  · rw [e]
    show 1 + szs rest + sz p.2 = 1 + szs ks
    rw [szs_perm q]
    show _ = 1 + (sz p.2 + szs rest)
    omega
def bigc (wd : Nat) (x : Tr) : Nat := (OE x).countP (big wd)
def symc (wd : Nat) (x : Tr) : Nat := (OE x).countP (sym wd)
theorem few {wd : Nat} (hw : 1 ≤ wd) {x : Tr} (g : Good x) : bigc wd x + symc wd x ≤ 1 := by
  unfold bigc symc
  rw [← countP_sum, ← countP_sum, ← sumN_add]
  have h1 : ((OE x).map fun p => sz x * ((big wd p).toNat + (sym wd p).toNat)).sum ≤ ((OE x).map fun p => 2 * sz p.2).sum := by
    refine sumN_le fun p hp => ?_
    obtain ⟨g1, g2, e⟩ := OE_good g hp
    have ho := one_way hw g1 g2
    have hle : (big wd p).toNat + (sym wd p).toNat ≤ 1 := by omega
    have hz : (big wd p).toNat + (sym wd p).toNat ≠ 0 → sz p.1 ≤ sz p.2 := fun h => by
      cases hb : big wd p with
      | true => rcases big_iff.mp hb with q | q <;> omega
      | false =>
        cases hs : sym wd p with
        | true => exact Nat.le_of_eq (sz_congr hw _ g1 _ g2 (sym_iff.mp hs))
        | false => rw [hb, hs] at h; exact absurd rfl h
    by_cases h0 : (big wd p).toNat + (sym wd p).toNat = 0
    · rw [h0]; omega
    · have := hz h0
      rw [show (big wd p).toNat + (sym wd p).toNat = 1 by omega]; omega
  rw [sumN_mul, sumN_mul] at h1
  have h2 : ((OE x).map fun p => sz p.2).sum + 1 = sz x := by
    obtain ⟨h, ks⟩ := x
    have e := oe_snd h ks []
    have : ((oe h [] ks).map fun p => sz p.2) = ((oe h [] ks).map (·.2)).map sz := by rw [List.map_map]; rfl
    show ((oe h [] ks).map fun p => sz p.2).sum + 1 = 1 + szs ks
    rw [this, e, ← szs_sum]; omega
  generalize ((OE x).map fun p => (big wd p).toNat + (sym wd p).toNat).sum = c at *
  have hp := sz_pos x
  rcases Nat.lt_or_ge c 2 with h | h
  · omega
  · have : sz x * 2 ≤ sz x * c := Nat.mul_le_mul_left _ h
    omega
/-- rows that look alike have ties that look alike -/
theorem twin {wd : Nat} (hw : 1 ≤ wd) {x y : Tr} (gx : Good x) (gy : Good y) (e : text wd x = text wd y) {p : Tr × Tr} (hp : p ∈ OE x) : ∃ q ∈ OE y, text wd q.1 = text wd p.1 ∧ text wd q.2 = text wd p.2 := by
  obtain ⟨h, ps⟩ := x
  have l1 := loc hw gx gx hp
  have l2 := loc hw gy gx hp
  rw [if_pos rfl] at l1
  rw [if_pos e.symm] at l2
  have h1 : 1 ≤ ((OE (.node h ps)).map (indT wd (text wd p.1) (text wd p.2))).sum := Nat.le_trans (by unfold indT; rw [if_pos ⟨rfl, rfl⟩]; exact Nat.le_refl _) (sum_ge hp)
  obtain ⟨q, hq, hne⟩ := sum_pos_mem (l := OE y) (f := indT wd (text wd p.1) (text wd p.2)) (by omega)
  refine ⟨q, hq, ?_⟩
  unfold indT at hne
  by_cases hh : text wd q.1 = text wd p.1 ∧ text wd q.2 = text wd p.2
  · exact hh
  · rw [if_neg hh] at hne; exact absurd rfl hne
theorem big_congr {wd : Nat} (hw : 1 ≤ wd) {p q : Tr × Tr} (g1 : Good p.1) (g2 : Good p.2) (k1 : Good q.1) (k2 : Good q.2) (e1 : text wd q.1 = text wd p.1) (e2 : text wd q.2 = text wd p.2) (h : big wd p = true) : big wd q = true := by
  rw [big_iff] at h ⊢
  rw [e1, e2, sz_congr hw _ k1 _ g1 e1, sz_congr hw _ k2 _ g2 e2]; exact h
/-- alike ties hang on alike rows -/
theorem tie_row {wd : Nat} (hw : 1 ≤ wd) {x y : Tr} (gx : Good x) (gy : Good y) {p q : Tr × Tr} (hp : p ∈ OE x) (hq : q ∈ OE y) (e1 : text wd p.1 = text wd q.1) (e2 : text wd p.2 = text wd q.2) : text wd x = text wd y := by
  have k1 := (OE_good gx hp).1
  have k2 := (OE_good gy hq).1
  obtain ⟨h, ks⟩ := x
  obtain ⟨h', ks'⟩ := y
  obtain ⟨rest, er, qr⟩ := OE_mem hp
  obtain ⟨rest', er', qr'⟩ := OE_mem hq
  rw [er] at k1
  rw [er'] at k2
  rw [er, er'] at e1
  obtain ⟨rfl, pq⟩ := page_inj k1.head.nl k2.head.nl (kids_parts hw k1) (kids_parts hw k2) e1
  have t1 : (texts wd ks).Perm (text wd p.2 :: texts wd rest) := by rw [texts_map, texts_map, ← List.map_cons]; exact qr.map _
  have t2 : (texts wd ks').Perm (text wd q.2 :: texts wd rest') := by rw [texts_map, texts_map, ← List.map_cons]; exact qr'.map _
  rw [e2] at t1
  exact pageT_perm (t1.trans ((pq.cons _).trans t2.symm))
end Mine
end
section
open PySem PySem.W PySem.Calls PyProof.Rows

namespace Mine
theorem sumN_eq {α : Type} {f g : α → Nat} : ∀ {l : List α}, (∀ x ∈ l, f x ≤ g x) → (l.map f).sum = (l.map g).sum → ∀ x ∈ l, f x = g x
  | a :: l, h, e, x, hx => by
    rw [List.map_cons, List.map_cons, List.sum_cons, List.sum_cons] at e
    have h1 := h a List.mem_cons_self
    have h2 := sumN_le fun x hx => h x (List.mem_cons_of_mem _ hx)
    rcases List.mem_cons.mp hx with ea | hx
    · rw [ea]; omega
    · exact sumN_eq (fun x hx => h x (List.mem_cons_of_mem _ hx)) (by omega) x hx
def outOf (wd : Nat) (x : Tr) : Tr × Tr := ((OE x).find? (big wd)).getD (x, x)
theorem outOf_ok {wd : Nat} {x : Tr} (h : bigc wd x ≠ 0) : outOf wd x ∈ OE x ∧ big wd (outOf wd x) = true := by
  have : 0 < bigc wd x := Nat.pos_of_ne_zero h
  obtain ⟨p, hp, hb⟩ := List.countP_pos_iff.mp this
  have hs : ((OE x).find? (big wd)).isSome = true := List.find?_isSome.mpr ⟨p, hp, hb⟩
  obtain ⟨q, hq⟩ := Option.isSome_iff_exists.mp hs
  unfold outOf
  rw [hq]
  exact ⟨List.mem_of_find?_eq_some hq, List.find?_some hq⟩
/-- unlike pages: one more than unlike ties whose halves are unlike (Otter; Harary and Norman) -/
theorem unlikeC {wd : Nat} (hw : 1 ≤ wd) {T : Tr} (g : Good T) : (dd ((pg T []).map (text wd))).length = (dd (((eg T []).filter fun p => !sym wd p).map (keyT wd))).length + 1 := by
  obtain ⟨gP, gE⟩ := pg_all good_iff T [] g fun _ q => (nomatch q)
  obtain ⟨_, _, z3, z4⟩ := pg_sz T []
  have tb := ties (fun p => (big wd p).toNat) T []
  have ts := ties (fun p => (sym wd p).toNat) T []
  rw [oeB_nil] at tb ts
  have f0 : ∀ f : Tr × Tr → Nat, (([] : List (Tr × Tr)).map f).sum = 0 := fun _ => rfl
  rw [f0, Nat.add_zero] at tb ts
  have eb : ((pg T []).map fun x => ((OE x).map fun p => (big wd p).toNat).sum).sum = ((pg T []).map (bigc wd)).sum := sumN_congr fun x _ => countP_sum _ _
  have es : ((pg T []).map fun x => ((OE x).map fun p => (sym wd p).toNat).sum).sum = ((pg T []).map (symc wd)).sum := sumN_congr fun x _ => countP_sum _ _
  rw [eb] at tb
  rw [es] at ts
  have h1 : ((eg T []).map fun p => (big wd p).toNat + (big wd (swp p)).toNat).sum + (eg T []).countP (sym wd) = (eg T []).length := by
    rw [← countP_sum, ← sumN_add, sumN_congr (g := fun _ => 1) fun p hp => one_way hw (gE p hp).1 (gE p hp).2, sumN_const]; omega
  have h2 : ((eg T []).map fun p => (sym wd p).toNat + (sym wd (swp p)).toNat).sum = 2 * (eg T []).countP (sym wd) := by
    rw [← countP_sum, ← sumN_mul]; exact sumN_congr fun p _ => by rw [sym_swp]; omega
  rw [← tb] at h1
  rw [h2] at ts
  -- rows without a way out
  have h3 : ((pg T []).map fun x => (bigc wd x == 0).toNat).sum + ((pg T []).map (bigc wd)).sum = (pg T []).length := by
    rw [← sumN_add, sumN_congr (g := fun _ => 1) fun x hx => ?_, sumN_const]
    · omega
    · have := few hw (gP x hx)
      cases hz : bigc wd x with
      | zero => rfl
      | succ m => rw [show m = 0 by omega]; rfl
  have h4 : ∀ x ∈ pg T [], symc wd x ≤ (bigc wd x == 0).toNat := fun x hx => by
    have := few hw (gP x hx)
    cases hz : bigc wd x with
    | zero => show _ ≤ 1; omega
    | succ m => omega
  have h5 := sumN_le h4
  have hX : ((pg T []).map fun x => (bigc wd x == 0).toNat).sum = 1 + (eg T []).countP (sym wd) := by omega
  have hs1 : (eg T []).countP (sym wd) ≤ 1 := by omega
  -- they look alike
  have alike : ∀ v ∈ pg T [], ∀ v' ∈ pg T [], bigc wd v = 0 → bigc wd v' = 0 → text wd v = text wd v' := by
    intro v hv v' hv' b b'
    rcases Nat.lt_or_ge 0 ((eg T []).countP (sym wd)) with hp | hp
    · have he := sumN_eq h4 (by omega)
      have sv : ∀ x ∈ pg T [], bigc wd x = 0 → ∃ p ∈ OE x, sym wd p = true ∧ ∃ e ∈ eg T [], sym wd e = true ∧ text wd p.1 = text wd e.1 ∧ text wd p.2 = text wd e.1 := fun x hx hb => by
        have : symc wd x = 1 := by rw [he x hx, hb]; rfl
        obtain ⟨p, hp, hsy⟩ := List.countP_pos_iff.mp (show 0 < symc wd x by omega)
        have e0 := sym_iff.mp hsy
        rcases tie_of hx hp with q | q
        · exact ⟨p, hp, hsy, p, q, hsy, rfl, e0.symm⟩
        · exact ⟨p, hp, hsy, swp p, q, by rw [sym_swp]; exact hsy, e0, rfl⟩
      obtain ⟨p, hp1, _, e, he1, he2, c1, c2⟩ := sv v hv b
      obtain ⟨p', hp1', _, e', he1', he2', c1', c2'⟩ := sv v' hv' b'
      have := countP_one hs1 e he1 e' he1' he2 he2'
      subst this
      exact tie_row hw (gP v hv) (gP v' hv') hp1 hp1' (c1.trans c1'.symm) (c2.trans c2'.symm)
    · have hc : (pg T []).countP (fun x => bigc wd x == 0) ≤ 1 := by rw [← countP_sum]; omega
      rw [countP_one hc v hv v' hv' (by rw [b]; rfl) (by rw [b']; rfl)]
  obtain ⟨v0, hv0, hb0⟩ := List.countP_pos_iff.mp (show 0 < (pg T []).countP (fun x => bigc wd x == 0) by rw [← countP_sum]; omega)
  have hb0 : bigc wd v0 = 0 := by simpa using hb0
  -- the way out of a row is told by its text
  have hsame : ∀ x ∈ pg T [], ∀ y ∈ pg T [], text wd x = text wd y → ∀ p ∈ OE x, big wd p = true → ∃ q ∈ OE y, big wd q = true ∧ text wd q.1 = text wd p.1 ∧ text wd q.2 = text wd p.2 := fun x hx y hy e p hp hb => by
    obtain ⟨q, hq, e1, e2⟩ := twin hw (gP x hx) (gP y hy) e hp
    obtain ⟨g1, g2, _⟩ := OE_good (gP x hx) hp
    obtain ⟨k1, k2, _⟩ := OE_good (gP y hy) hq
    exact ⟨q, hq, big_congr hw g1 g2 k1 k2 e1 e2 hb, e1, e2⟩
  let S1 := (pg T []).filter fun x => !(bigc wd x == 0)
  have hS1 : ∀ x, x ∈ S1 ↔ x ∈ pg T [] ∧ bigc wd x ≠ 0 := fun x => by simp [S1]
  have hun : ∀ x ∈ pg T [], ∀ p ∈ OE x, ∀ q ∈ OE x, big wd p = true → big wd q = true → p = q := fun x hx p hp q hq h h' =>
    countP_one (by have := few hw (gP x hx); unfold bigc at this; omega) p hp q hq h h'
  have e1 : (dd ((pg T []).map (text wd))).length = (dd (S1.map (text wd))).length + 1 := by
    have hn0 : text wd v0 ∉ dd (S1.map (text wd)) := fun hm => by
      rw [dd_mem] at hm
      obtain ⟨x, hx, e⟩ := List.mem_map.mp hm
      obtain ⟨hx, hbx⟩ := (hS1 x).mp hx
      obtain ⟨o1, o2⟩ := outOf_ok hbx
      obtain ⟨q, hq, hqb, _⟩ := hsame x hx v0 hv0 e _ o1 o2
      have : 0 < bigc wd v0 := List.countP_pos_iff.mpr ⟨q, hq, hqb⟩
      omega
    have := nodup_len (dd_nodup ((pg T []).map (text wd))) (b := text wd v0 :: dd (S1.map (text wd))) (List.nodup_cons.mpr ⟨hn0, dd_nodup _⟩) fun y => by
      rw [dd_mem, List.mem_cons, dd_mem]
      constructor
      · intro hy
        obtain ⟨x, hx, rfl⟩ := List.mem_map.mp hy
        by_cases hb : bigc wd x = 0
        · exact .inl (alike x hx v0 hv0 hb hb0)
        · exact .inr (List.mem_map_of_mem ((hS1 x).mpr ⟨hx, hb⟩))
      · rintro (rfl | hy)
        · exact List.mem_map_of_mem hv0
        · obtain ⟨x, hx, rfl⟩ := List.mem_map.mp hy
          exact List.mem_map_of_mem ((hS1 x).mp hx).1
    rw [this, List.length_cons]
  rw [e1]
  congr 1
  have e2 : (dd (S1.map (text wd))).length = (dd (S1.map fun x => keyT wd (outOf wd x))).length := by
    refine dd_pair fun x hx y hy => ?_
    obtain ⟨hx, hbx⟩ := (hS1 x).mp hx
    obtain ⟨hy, hby⟩ := (hS1 y).mp hy
    obtain ⟨o1, o2⟩ := outOf_ok hbx
    obtain ⟨p1, p2⟩ := outOf_ok hby
    obtain ⟨g1, g2, _⟩ := OE_good (gP x hx) o1
    obtain ⟨k1, k2, _⟩ := OE_good (gP y hy) p1
    constructor
    · intro e
      obtain ⟨q, hq, hqb, q1, q2⟩ := hsame x hx y hy e _ o1 o2
      have := hun y hy _ p1 q hq p2 hqb
      unfold keyT
      rw [this, q1, q2]
    · intro e
      rcases (tieT_inj (sep_text hw g1) (sep_text hw g2) (sep_text hw k1) (sep_text hw k2)).mp e with ⟨a, b⟩ | ⟨a, b⟩
      · exact tie_row hw (gP x hx) (gP y hy) o1 p1 a b
      · exfalso
        have s1 := sz_congr hw _ g1 _ k2 a
        have s2 := sz_congr hw _ g2 _ k1 b
        rw [big_iff] at o2 p2
        rcases o2 with o2 | ⟨o2, o3, o4⟩ <;> rcases p2 with p2 | ⟨p2, p3, p4⟩
        · omega
        · omega
        · omega
        · rw [← a, ← b] at p4
          exact o3 (leT_anti _ _ o4 p4)
  rw [e2]
  refine nodup_len (dd_nodup _) (dd_nodup _) fun y => ?_
  rw [dd_mem, dd_mem]
  constructor
  · intro hy
    obtain ⟨x, hx, rfl⟩ := List.mem_map.mp hy
    obtain ⟨hx, hbx⟩ := (hS1 x).mp hx
    obtain ⟨o1, o2⟩ := outOf_ok hbx
    obtain ⟨g1, g2, _⟩ := OE_good (gP x hx) o1
    have ns : sym wd (outOf wd x) = false := by
      have := one_way hw g1 g2
      rw [o2] at this
      cases h : sym wd (outOf wd x) with
      | false => rfl
      | true => rw [h] at this; simp at this
    rcases tie_of hx o1 with q | q
    · exact List.mem_map.mpr ⟨_, List.mem_filter.mpr ⟨q, by rw [ns]; rfl⟩, rfl⟩
    · exact List.mem_map.mpr ⟨_, List.mem_filter.mpr ⟨q, by rw [sym_swp, ns]; rfl⟩, tieT_comm _ _⟩
  · intro hy
    obtain ⟨e, he, rfl⟩ := List.mem_map.mp hy
    obtain ⟨he, hs⟩ := List.mem_filter.mp he
    have ns : sym wd e = false := by simpa using hs
    have ho := one_way hw (gE e he).1 (gE e he).2
    rw [ns] at ho
    obtain ⟨⟨v, hv, hev⟩, v', hv', hev'⟩ := tie_at he
    have fin : ∀ x ∈ pg T [], ∀ q ∈ OE x, big wd q = true → keyT wd q = keyT wd e → keyT wd e ∈ S1.map fun x => keyT wd (outOf wd x) := fun x hx q hq hb hk => by
      have hbx : bigc wd x ≠ 0 := fun h0 => by
        have : 0 < bigc wd x := List.countP_pos_iff.mpr ⟨q, hq, hb⟩
        omega
      obtain ⟨o1, o2⟩ := outOf_ok hbx
      refine List.mem_map.mpr ⟨x, (hS1 x).mpr ⟨hx, hbx⟩, ?_⟩
      rw [hun x hx _ o1 q hq o2 hb, hk]
    cases hb : big wd e with
    | true => exact fin v hv e hev hb rfl
    | false =>
      have hb' : big wd (swp e) = true := by
        cases h : big wd (swp e) with
        | true => rfl
        | false => rw [hb, h] at ho; simp at ho
      exact fin v' hv' (swp e) hev' hb' (tieT_comm _ _)
end Mine
end
section
open PySem PySem.W PySem.Calls PyProof.Rows

namespace Mine
/-- pages of trees that look alike -/
theorem pg_congr {wd : Nat} (hw : 1 ≤ wd) : ∀ t, Good t → ∀ t', Good t' → text wd t = text wd t' → ∀ b b', (texts wd b).Perm (texts wd b') → ((pg t b).map (text wd)).Perm ((pg t' b').map (text wd)) :=
  Tr.ind fun h ks ih g t' g' e b b' hb => by
    obtain ⟨h', ks'⟩ := t'
    obtain ⟨rfl, p⟩ := page_inj g.head.nl g'.head.nl (kids_parts hw g) (kids_parts hw g') e
    have tapp : ∀ a b : List Tr, texts wd (a ++ b) = texts wd a ++ texts wd b := fun a b => by rw [texts_map, texts_map, texts_map, List.map_append]
    -- the same kids in another order
    have order : ∀ {B B' : List Tr}, B.Perm B' → (∀ k ∈ B, k ∈ ks) → ∀ A A' b b', (texts wd A ++ texts wd b).Perm (texts wd A' ++ texts wd b') → ((pgL h A B b).map (text wd)).Perm ((pgL h A' B' b').map (text wd)) := by
      intro B B' q
      have left : ∀ (k : Tr), k ∈ ks → ∀ A A' B B' b b', (texts wd A ++ (texts wd B ++ texts wd b)).Perm (texts wd A' ++ (texts wd B' ++ texts wd b')) → ((pg k [.node h (A ++ B ++ b)]).map (text wd)).Perm ((pg k [.node h (A' ++ B' ++ b')]).map (text wd)) := fun k hk A A' B B' b b' hp =>
        ih k hk (g.kids k hk) k (g.kids k hk) rfl _ _ (by
          show [text wd (.node h (A ++ B ++ b))].Perm [text wd (.node h (A' ++ B' ++ b'))]
          rw [show text wd (.node h (A ++ B ++ b)) = text wd (.node h (A' ++ B' ++ b')) from pageT_perm (by rw [tapp, tapp, tapp, tapp, List.append_assoc, List.append_assoc]; exact hp)])
      have tone : ∀ k : Tr, texts wd [k] = [text wd k] := fun _ => rfl
      have tcons : ∀ (k : Tr) l, texts wd (k :: l) = text wd k :: texts wd l := fun _ _ => rfl
      induction q with
      | nil => intro _ A A' b b' _; exact .refl _
      | @cons k l l' q ihq =>
        intro hm A A' b b' hp
        have hl : (texts wd l).Perm (texts wd l') := by rw [texts_map, texts_map]; exact q.map _
        show ((pg k _ ++ pgL h (A ++ [k]) l b).map _).Perm ((pg k _ ++ pgL h (A' ++ [k]) l' b').map _)
        rw [List.map_append, List.map_append]
        refine (left k (hm k List.mem_cons_self) A A' l l' b b' ?_).append (ihq (fun x hx => hm x (List.mem_cons_of_mem _ hx)) _ _ b b' ?_)
        · rw [List.perm_iff_count] at hp hl ⊢
          intro a
          have h1 := hp a
          have h2 := hl a
          simp only [List.count_append] at h1 h2 ⊢
          omega
        · rw [tapp, tapp, tone]
          rw [List.perm_iff_count] at hp ⊢
          intro a
          have h1 := hp a
          simp only [List.count_append] at h1 ⊢
          omega
      | swap x y l =>
        intro hm A A' b b' hp
        show ((pg y [.node h (A ++ (x :: l) ++ b)] ++ (pg x [.node h ((A ++ [y]) ++ l ++ b)] ++ pgL h (A ++ [y] ++ [x]) l b)).map _).Perm ((pg x [.node h (A' ++ (y :: l) ++ b')] ++ (pg y [.node h ((A' ++ [x]) ++ l ++ b')] ++ pgL h (A' ++ [x] ++ [y]) l b')).map _)
        rw [List.map_append, List.map_append, List.map_append, List.map_append]
        have q1 := left y (hm y List.mem_cons_self) A (A' ++ [x]) (x :: l) l b b' (by
          rw [tapp, tone, tcons, List.perm_iff_count] at *
          intro a
          have h1 := hp a
          simp only [List.count_append, List.count_cons, List.count_nil] at h1 ⊢
          omega)
        have q2 := left x (hm x (List.mem_cons_of_mem _ List.mem_cons_self)) (A ++ [y]) A' l (y :: l) b b' (by
          rw [tapp, tone, tcons, List.perm_iff_count] at *
          intro a
          have h1 := hp a
          simp only [List.count_append, List.count_cons, List.count_nil] at h1 ⊢
          omega)
        have same : ∀ (B : List Tr), (∀ k ∈ B, k ∈ ks) → ∀ A A' b b', (texts wd A ++ texts wd b).Perm (texts wd A' ++ texts wd b') → ((pgL h A B b).map (text wd)).Perm ((pgL h A' B b').map (text wd)) := by
          intro B
          induction B with
          | nil => intro _ A A' b b' _; exact .refl _
          | cons k l ihl =>
            intro hm A A' b b' hp
            show ((pg k _ ++ pgL h (A ++ [k]) l b).map _).Perm ((pg k _ ++ pgL h (A' ++ [k]) l b').map _)
            rw [List.map_append, List.map_append]
            refine (left k (hm k List.mem_cons_self) A A' l l b b' ?_).append (ihl (fun x hx => hm x (List.mem_cons_of_mem _ hx)) _ _ b b' ?_)
            · rw [List.perm_iff_count] at hp ⊢
              intro a
              have h1 := hp a
              simp only [List.count_append] at h1 ⊢
              omega
            · rw [tapp, tapp, tone]
              rw [List.perm_iff_count] at hp ⊢
              intro a
              have h1 := hp a
              simp only [List.count_append] at h1 ⊢
              omega
        have q3 := same l (fun k hk => hm k (List.mem_cons_of_mem _ (List.mem_cons_of_mem _ hk))) (A ++ [y] ++ [x]) (A' ++ [x] ++ [y]) b b' (by
          rw [tapp, tapp, tapp, tapp, tone, tone, List.perm_iff_count] at *
          intro a
          have h1 := hp a
          simp only [List.count_append] at h1 ⊢
          omega)
        exact ((q1.append (q2.append q3)).trans (by rw [← List.append_assoc, ← List.append_assoc]; exact (List.perm_append_comm.append_right _)))
      | trans q1 q2 i1 i2 =>
        intro hm A A' b b' hp
        exact (i1 hm A A' b b' hp).trans (i2 (fun k hk => hm k (q1.mem_iff.mpr hk)) A' A' b' b' (.refl _))
    -- kids that look alike one by one
    have along : ∀ (B B' : List Tr), texts wd B = texts wd B' → (∀ k ∈ B, k ∈ ks) → (∀ k ∈ B', k ∈ ks') → ∀ A A' b b', (texts wd A ++ texts wd b).Perm (texts wd A' ++ texts wd b') → ((pgL h A B b).map (text wd)).Perm ((pgL h A' B' b').map (text wd)) := by
      intro B
      induction B with
      | nil =>
        intro B' e _ _ A A' b b' _
        cases B' with
        | nil => exact .refl _
        | cons _ _ => cases e
      | cons k B ihB =>
        intro B' e hm hm' A A' b b' hp
        cases B' with
        | nil => cases e
        | cons k' B' =>
          have e1 : text wd k = text wd k' := (List.cons.inj e).1
          have e2 : texts wd B = texts wd B' := (List.cons.inj e).2
          show ((pg k _ ++ pgL h (A ++ [k]) B b).map _).Perm ((pg k' _ ++ pgL h (A' ++ [k']) B' b').map _)
          rw [List.map_append, List.map_append]
          refine (ih k (hm k List.mem_cons_self) (g.kids k (hm k List.mem_cons_self)) k' (g'.kids k' (hm' k' List.mem_cons_self)) e1 _ _ ?_).append (ihB B' e2 (fun x hx => hm x (List.mem_cons_of_mem _ hx)) (fun x hx => hm' x (List.mem_cons_of_mem _ hx)) _ _ b b' ?_)
          · show [text wd (.node h (A ++ B ++ b))].Perm [text wd (.node h (A' ++ B' ++ b'))]
            rw [show text wd (.node h (A ++ B ++ b)) = text wd (.node h (A' ++ B' ++ b')) from pageT_perm (by
              rw [tapp, tapp, tapp, tapp, e2, List.perm_iff_count] at *
              intro a
              have h1 := hp a
              simp only [List.count_append] at h1 ⊢
              omega)]
          · rw [tapp, tapp]
            show (texts wd A ++ [text wd k] ++ _).Perm (texts wd A' ++ [text wd k'] ++ _)
            rw [e1, List.perm_iff_count] at *
            intro a
            have h1 := hp a
            simp only [List.count_append] at h1 ⊢
            omega
    obtain ⟨l, q, el⟩ := perm_map_inv (f := text wd) p.symm (ks := ks) (texts_map wd ks)
    rw [← texts_map] at el
    have r1 := order q.symm (fun _ q => q) [] [] b b' hb
    have r2 := along l ks' el (fun k hk => q.mem_iff.mp hk) (fun _ q => q) [] [] b' b' (.refl _)
    show (text wd (.node h (ks ++ b)) :: (pgL h [] ks b).map _).Perm (text wd (.node h (ks' ++ b')) :: (pgL h [] ks' b').map _)
    rw [show text wd (.node h (ks ++ b)) = text wd (.node h (ks' ++ b')) from pageT_perm (by rw [tapp, tapp]; exact p.append hb)]
    exact (r1.trans r2).cons _
end Mine
end
section
open PySem PySem.W PySem.Calls PyProof.Rows

namespace Mine
/-! a tree's rows exchanged -/
mutual
def mapTr (f : Row → Row) : Tr → Tr
  | .node h ks => .node (f h) (mapTrs f ks)
def mapTrs (f : Row → Row) : List Tr → List Tr
  | [] => []
  | k :: ks => mapTr f k :: mapTrs f ks
end
theorem mapTrs_map (f : Row → Row) : ∀ ks, mapTrs f ks = ks.map (mapTr f)
  | [] => rfl
  | k :: ks => by rw [List.map_cons, ← mapTrs_map f ks]; rfl
theorem mapTr_node (f : Row → Row) (h : Row) (ks : List Tr) : mapTr f (.node h ks) = .node (f h) (ks.map (mapTr f)) := by rw [← mapTrs_map]; rfl
theorem mapTr_sz (f : Row → Row) : ∀ t, sz (mapTr f t) = sz t :=
  Tr.ind fun h ks ih => by
    rw [mapTr_node]
    show 1 + szs _ = 1 + szs ks
    rw [szs_sum, szs_sum, List.map_map]
    congr 1
    exact sumN_congr ih
theorem mapTr_pg (f : Row → Row) : ∀ t b, pg (mapTr f t) (b.map (mapTr f)) = (pg t b).map (mapTr f) :=
  Tr.ind fun h ks ih b => by
    rw [mapTr_node]
    have key : ∀ B A, (∀ k ∈ B, k ∈ ks) → pgL (f h) (A.map (mapTr f)) (B.map (mapTr f)) (b.map (mapTr f)) = (pgL h A B b).map (mapTr f) := by
      intro B
      induction B with
      | nil => intro A _; rfl
      | cons k B ihB =>
        intro A hm
        show pg (mapTr f k) [.node (f h) (A.map _ ++ B.map _ ++ b.map _)] ++ pgL (f h) (A.map (mapTr f) ++ [mapTr f k]) (B.map (mapTr f)) (b.map (mapTr f)) = (pg k [.node h (A ++ B ++ b)] ++ pgL h (A ++ [k]) B b).map _
        rw [List.map_append, ← ih k (hm k List.mem_cons_self), ← ihB (A ++ [k]) fun x hx => hm x (List.mem_cons_of_mem _ hx)]
        simp only [List.map_cons, List.map_nil, List.map_append, mapTr_node]
    show Tr.node (f h) (ks.map _ ++ b.map _) :: pgL (f h) [] (ks.map _) (b.map _) = mapTr f (.node h (ks ++ b)) :: (pgL h [] ks b).map _
    rw [mapTr_node, List.map_append, ← key ks [] fun _ q => q]; rfl
/-! ways to lay one tree onto another -/
def pickOne {α : Type} : List α → List (α × List α)
  | [] => []
  | x :: r => (x, r) :: (pickOne r).map fun p => (p.1, x :: p.2)
mutual
def isos : Tr → Tr → List (List (Row × Row))
  | .node l ks, t => match t with
    | .node l' ks' => (isosL ks ks').map fun m => (l, l') :: m
def isosL : List Tr → List Tr → List (List (Row × Row))
  | [], ks' => if ks'.isEmpty then [[]] else []
  | k :: ks, ks' => (pickOne ks').flatMap fun p => (isos k p.1).flatMap fun m => (isosL ks p.2).map fun m' => m ++ m'
end
theorem pickOne_fst {α : Type} : ∀ l : List α, (pickOne l).map (·.1) = l
  | [] => rfl
  | x :: r => by
    show x :: ((pickOne r).map _).map _ = _
    rw [List.map_map]
    have := pickOne_fst r
    congr 1
theorem pickOne_mem {α : Type} : ∀ (l : List α) (p : α × List α), p ∈ pickOne l → l.Perm (p.1 :: p.2)
  | x :: r, p, hp => by
    rcases List.mem_cons.mp hp with rfl | hp
    · exact .refl _
    · obtain ⟨q, hq, rfl⟩ := List.mem_map.mp hp
      exact ((pickOne_mem r q hq).cons x).trans (.swap _ _ _)
def fits (f : Row → Row) (m : List (Row × Row)) : Bool := m.all fun p => decide (f p.1 = f p.2)
theorem countP_flat {α β : Type} (f : β → Bool) (g : α → List β) : ∀ l : List α, (l.flatMap g).countP f = (l.map fun x => (g x).countP f).sum
  | [] => rfl
  | a :: l => by rw [List.flatMap_cons, List.countP_append, countP_flat f g l, List.map_cons, List.sum_cons]
theorem fits_app (f : Row → Row) (a b : List (Row × Row)) : fits f (a ++ b) = (fits f a && fits f b) := by unfold fits; rw [List.all_append]
theorem countP_prod (f : Row → Row) (X Y : List (List (Row × Row))) : (X.flatMap fun m => Y.map fun m' => m ++ m').countP (fits f) = X.countP (fits f) * Y.countP (fits f) := by
  rw [countP_flat]
  have e : ∀ m ∈ X, (Y.map fun m' => m ++ m').countP (fits f) = (fits f m).toNat * Y.countP (fits f) := fun m _ => by
    rw [List.countP_map]
    cases h : fits f m with
    | true =>
      have : (fits f ∘ fun m' => m ++ m') = fits f := by funext m'; show fits f (m ++ m') = _; rw [fits_app, h, Bool.true_and]
      rw [this]; show _ = 1 * _; omega
    | false =>
      have : (fits f ∘ fun m' => m ++ m') = fun _ => false := by funext m'; show fits f (m ++ m') = _; rw [fits_app, h, Bool.false_and]
      rw [this]; show _ = 0 * _
      rw [Nat.zero_mul]; exact List.countP_eq_zero.mpr fun _ _ h => (nomatch h)
  rw [sumN_congr e, ← countP_sum (fits f) X]
  generalize Y.countP (fits f) = c
  clear e
  induction X with
  | nil => simp
  | cons a X ih => rw [List.map_cons, List.sum_cons, ih, List.map_cons, List.sum_cons, Nat.add_mul]
theorem isos_count {wd : Nat} (hw : 1 ≤ wd) (f : Row → Row) : ∀ a, Good (mapTr f a) → ∀ b, Good (mapTr f b) → (isos a b).countP (fits f) = if text wd (mapTr f a) = text wd (mapTr f b) then tn wd (mapTr f a) else 0 :=
  Tr.ind fun l ks ih ga b gb => by
    obtain ⟨l', ks'⟩ := b
    rw [mapTr_node] at ga gb ⊢
    rw [mapTr_node]
    have key : ∀ ks, (∀ k ∈ ks, Good (mapTr f k) ∧ ∀ b, Good (mapTr f b) → (isos k b).countP (fits f) = if text wd (mapTr f k) = text wd (mapTr f b) then tn wd (mapTr f k) else 0) → ∀ ks', (∀ k ∈ ks', Good (mapTr f k)) →
        (isosL ks ks').countP (fits f) = if (texts wd (ks.map (mapTr f))).Perm (texts wd (ks'.map (mapTr f))) then tns wd (ks.map (mapTr f)) else 0 := by
      intro ks
      induction ks with
      | nil =>
        intro _ ks' _
        cases ks' with
        | nil => rw [if_pos (.refl _)]; rfl
        | cons x r =>
          rw [if_neg]; rfl
          intro p
          have := p.length_eq
          rw [texts_map, texts_map] at this
          simp at this
      | cons k ks ihk =>
        intro hk ks' gk'
        obtain ⟨gk, hik⟩ := hk k List.mem_cons_self
        have ihk' := ihk fun x hx => hk x (List.mem_cons_of_mem _ hx)
        show ((pickOne ks').flatMap fun p => (isos k p.1).flatMap fun m => (isosL ks p.2).map fun m' => m ++ m').countP (fits f) = _
        rw [countP_flat]
        have e1 : ∀ p ∈ pickOne ks', ((isos k p.1).flatMap fun m => (isosL ks p.2).map fun m' => m ++ m').countP (fits f) =
            (if (texts wd ((k :: ks).map (mapTr f))).Perm (texts wd (ks'.map (mapTr f))) then tn wd (mapTr f k) * tns wd (ks.map (mapTr f)) else 0) * (if text wd (mapTr f p.1) = text wd (mapTr f k) then 1 else 0) := fun p hp => by
          have q := pickOne_mem ks' p hp
          have g1 : Good (mapTr f p.1) := gk' p.1 (q.mem_iff.mpr List.mem_cons_self)
          rw [countP_prod, hik p.1 g1, ihk' p.2 fun x hx => gk' x (q.mem_iff.mpr (List.mem_cons_of_mem _ hx))]
          have t1 : (texts wd (ks'.map (mapTr f))).Perm (text wd (mapTr f p.1) :: texts wd (p.2.map (mapTr f))) := by
            rw [texts_map, texts_map, List.map_map, List.map_map]; exact q.map (text wd ∘ mapTr f)
          have t2 : texts wd ((k :: ks).map (mapTr f)) = text wd (mapTr f k) :: texts wd (ks.map (mapTr f)) := rfl
          by_cases h : text wd (mapTr f k) = text wd (mapTr f p.1)
          · rw [if_pos h, if_pos h.symm, Nat.mul_one, t2]
            by_cases h2 : (texts wd (ks.map (mapTr f))).Perm (texts wd (p.2.map (mapTr f)))
            · rw [if_pos h2, if_pos]
              rw [h]; exact (h2.cons _).trans t1.symm
            · rw [if_neg h2, if_neg, Nat.mul_zero]
              intro q2
              rw [h] at q2
              exact h2 (q2.trans t1).cons_inv
          · rw [if_neg h, if_neg (show ¬ text wd (mapTr f p.1) = text wd (mapTr f k) from fun e => h e.symm), Nat.zero_mul, Nat.mul_zero]
        rw [sumN_congr e1, sumN_mul, sum_ind]
        have e2 : (pickOne ks').countP (fun p => decide (text wd (mapTr f p.1) = text wd (mapTr f k))) = (texts wd (ks'.map (mapTr f))).count (text wd (mapTr f k)) := by
          rw [texts_map, List.map_map, List.count_eq_countP, List.countP_map]
          conv => rhs; rw [← pickOne_fst ks', List.countP_map]
          congr 1
          funext p
          rw [Bool.eq_iff_iff]
          simp
        rw [e2]
        by_cases h : (texts wd ((k :: ks).map (mapTr f))).Perm (texts wd (ks'.map (mapTr f)))
        · rw [if_pos h, if_pos h, ← h.count_eq]
          show _ = tn wd (mapTr f k) * _ * tns wd (ks.map (mapTr f))
          rw [Nat.mul_assoc, Nat.mul_assoc, Nat.mul_comm (tns wd (ks.map (mapTr f)))]
          rfl
        · rw [if_neg h, if_neg h, Nat.zero_mul]
    have gks : ∀ k ∈ ks, Good (mapTr f k) := fun k hk => ga.kids _ (List.mem_map_of_mem hk)
    have gks' : ∀ k ∈ ks', Good (mapTr f k) := fun k hk => gb.kids _ (List.mem_map_of_mem hk)
    have k0 := key ks (fun k hk => ⟨gks k hk, ih k hk (gks k hk)⟩) ks' gks'
    show ((isosL ks ks').map fun m => (l, l') :: m).countP (fits f) = _
    rw [List.countP_map]
    have eb : text wd (.node (f l) (ks.map (mapTr f))) = text wd (.node (f l') (ks'.map (mapTr f))) ↔ f l = f l' ∧ (texts wd (ks.map (mapTr f))).Perm (texts wd (ks'.map (mapTr f))) :=
      ⟨fun e => page_inj ga.head.nl gb.head.nl (kids_parts hw ga) (kids_parts hw gb) e, fun ⟨e, p⟩ => by
        show pageT wd (f l) _ = pageT wd (f l') _
        rw [e]; exact pageT_perm p⟩
    show _ = if text wd (.node (f l) (ks.map (mapTr f))) = text wd (.node (f l') (ks'.map (mapTr f))) then tns wd (ks.map (mapTr f)) else 0
    by_cases hl : f l = f l'
    · have : (fits f ∘ fun m => (l, l') :: m) = fits f := by
        funext m
        show (decide (f l = f l') && fits f m) = _
        rw [decide_eq_true hl, Bool.true_and]
      rw [this, k0]
      by_cases h : (texts wd (ks.map (mapTr f))).Perm (texts wd (ks'.map (mapTr f)))
      · rw [if_pos h, if_pos (eb.mpr ⟨hl, h⟩)]
      · rw [if_neg h, if_neg fun e => h (eb.mp e).2]
    · have : (fits f ∘ fun m => (l, l') :: m) = fun _ => false := by
        funext m
        show (decide (f l = f l') && fits f m) = _
        rw [decide_eq_false hl, Bool.false_and]
      rw [this, if_neg fun e => hl (eb.mp e).1]
      exact List.countP_eq_zero.mpr fun _ _ h => (nomatch h)
/-- ways to move a tree onto itself -/
theorem moves_all {wd : Nat} (hw : 1 ≤ wd) (f : Row → Row) {T : Tr} (g : Good (mapTr f T)) : ((pg T []).flatMap (isos T)).countP (fits f) = WW wd (pg (mapTr f T) []) (mapTr f T) := by
  have gP := (pg_all good_iff (mapTr f T) [] g fun _ q => (nomatch q)).1
  have e : pg (mapTr f T) [] = (pg T []).map (mapTr f) := mapTr_pg f T []
  rw [e] at gP
  rw [countP_flat, sumN_congr (g := fun x => tn wd (mapTr f T) * (if text wd (mapTr f x) = text wd (mapTr f T) then 1 else 0)) fun x hx => ?_, sumN_mul, sum_ind]
  · unfold WW
    rw [e, List.map_map, List.count_eq_countP, List.countP_map, Nat.mul_comm]
    congr 1
    congr 1
    funext x
    rw [Bool.eq_iff_iff]
    simp
  · rw [isos_count hw f T g x (gP _ (List.mem_map_of_mem hx))]
    by_cases h : text wd (mapTr f T) = text wd (mapTr f x)
    · rw [if_pos h, if_pos h.symm, Nat.mul_one]
    · rw [if_neg h, if_neg fun e => h e.symm, Nat.mul_zero]
end Mine
end
section
open PySem PySem.W PySem.Calls PyProof.Rows

namespace Mine
/-! the six calls, drawn -/
def underL (d0 d1 d2 d3 : Nat) : List Nat := [0, 0, 1 - d0, 2 - d1, 3 - d2, 4 - d3]
def linksL (u : List Nat) : List (List Nat) := (List.range 6).map fun k => (List.range 6).filter fun j => !(j == k) && (u.getD j 0 == k || u.getD k 0 == j)
def drawn (ls : List (List Nat)) : Nat → Nat → Nat → Tr
  | 0, c, _ => .node [c] []
  | m + 1, c, o => .node [c] (((ls.getD c []).filter fun j => !(j == o)).map fun j => drawn ls m j c)
/-- the drawing ends -/
def ends (ls : List (List Nat)) : Nat → Nat → Nat → Bool
  | 0, _, _ => false
  | m + 1, c, o => ((ls.getD c []).filter fun j => !(j == o)).all fun j => ends ls m j c
/-- ways to lay one call more -/
def nearL (ls : List (List Nat)) (u : List Nat) (k : Nat) (mv : List Nat) : List Nat := (List.range 6).filter fun j => k == 0 || (ls.getD (mv.getD (u.getD k 0) 0) []).contains j
def stepL (ls : List (List Nat)) (u : List Nat) (c : Nat → Nat) (k : Nat) (mv : List Nat) : List (List Nat) := ((nearL ls u k mv).filter fun j => !mv.contains j && c j == c k).map fun j => mv ++ [j]
def movesN (ls : List (List Nat)) (u : List Nat) (c : Nat → Nat) : Nat → List (List Nat)
  | 0 => [[]]
  | k + 1 => (movesN ls u c k).flatMap (stepL ls u c k)
theorem movesN_len (ls : List (List Nat)) (u : List Nat) (c : Nat → Nat) : ∀ k, ∀ mv ∈ movesN ls u c k, mv.length = k
  | 0, mv, h => by rw [List.mem_singleton.mp h]; rfl
  | k + 1, mv, h => by
    obtain ⟨m, hm, h⟩ := List.mem_flatMap.mp h
    obtain ⟨j, _, rfl⟩ := List.mem_map.mp h
    rw [List.length_append, movesN_len ls u c k m hm]; rfl
def fitsM (c : Nat → Nat) (mv : List Nat) : Bool := (List.range mv.length).all fun i => c (mv.getD i 0) == c i
theorem fitsM_snoc (c : Nat → Nat) (mv : List Nat) (j : Nat) : fitsM c (mv ++ [j]) = (fitsM c mv && (c j == c mv.length)) := by
  unfold fitsM
  rw [List.length_append, List.length_singleton, List.range_succ, List.all_append]
  congr 1
  · rw [Bool.eq_iff_iff, List.all_eq_true, List.all_eq_true]
    constructor <;> intro h i hi <;> have := h i hi <;> have hl := List.mem_range.mp hi
    · rw [List.getD_eq_getElem?_getD, List.getElem?_append_left hl, ← List.getD_eq_getElem?_getD] at this; exact this
    · rw [List.getD_eq_getElem?_getD, List.getElem?_append_left hl, ← List.getD_eq_getElem?_getD]; exact this
  · simp
theorem movesN_filter (ls : List (List Nat)) (u : List Nat) (c : Nat → Nat) : ∀ k, movesN ls u c k = (movesN ls u (fun _ => 0) k).filter (fitsM c)
  | 0 => rfl
  | k + 1 => by
    show (movesN ls u c k).flatMap _ = ((movesN ls u (fun _ => 0) k).flatMap _).filter _
    rw [movesN_filter ls u c k]
    have hl := movesN_len ls u (fun _ => 0) k
    generalize movesN ls u (fun _ => 0) k = l at hl
    induction l with
    | nil => rfl
    | cons mv l ih =>
      have h0 := hl mv List.mem_cons_self
      have ih' := ih fun x hx => hl x (List.mem_cons_of_mem _ hx)
      rw [List.flatMap_cons, List.filter_append, ← ih', List.filter_cons]
      have e : (stepL ls u (fun _ => 0) k mv).filter (fitsM c) = if fitsM c mv = true then stepL ls u c k mv else [] := by
        unfold stepL
        rw [List.filter_map]
        have e1 : (fitsM c ∘ fun j => mv ++ [j]) = fun j => fitsM c mv && (c j == c k) := by
          funext j; show fitsM c (mv ++ [j]) = _; rw [fitsM_snoc, h0]
        rw [e1, List.filter_filter]
        cases hf : fitsM c mv with
        | true =>
          rw [if_pos rfl]
          congr 1
          congr 1
          funext j
          simp [Bool.and_comm]
        | false =>
          rw [if_neg (by decide)]
          simp
      rw [e]
      cases hf : fitsM c mv with
      | true => rw [if_pos rfl, if_pos rfl, List.flatMap_cons]
      | false => rw [if_neg (by decide), if_neg (by decide), List.nil_append]
def normM (m : List (Row × Row)) : List Nat := (List.range 6).map fun k => ((m.lookup [k]).getD []).headD 9
def pairsM (v : List Nat) : List (Row × Row) := (List.range 6).map fun k => ([k], [v.getD k 0])
def treeOf (d0 d1 d2 d3 : Nat) : Tr := drawn (linksL (underL d0 d1 d2 d3)) 6 0 0
def isosOf (T : Tr) : List (List (Row × Row)) := (pg T []).flatMap (isos T)
def headOk : Row → Bool
  | [j] => decide (j < 6)
  | _ => false
def headsIn : Nat → Tr → Bool
  | 0, _ => false
  | m + 1, .node h ks => headOk h && ks.all (headsIn m)
theorem headOk_of : ∀ {h : Row}, headOk h = true → ∃ j, h = [j] ∧ j < 6
  | [j], e => ⟨j, rfl, of_decide_eq_true e⟩
def chk (d0 d1 d2 d3 : Nat) : Bool :=
  ((isosOf (treeOf d0 d1 d2 d3)).map normM).isPerm (movesN (linksL (underL d0 d1 d2 d3)) (underL d0 d1 d2 d3) (fun _ => 0) 6) &&
  (isosOf (treeOf d0 d1 d2 d3)).all (fun m => m.isPerm (pairsM (normM m)) && (normM m).all fun x => decide (x < 6)) &&
  (sz (treeOf d0 d1 d2 d3) == 6) && ends (linksL (underL d0 d1 d2 d3)) 6 0 0 && headsIn 7 (treeOf d0 d1 d2 d3)
theorem chk_0_0 : ∀ d2 : Fin 3, ∀ d3 : Fin 3, chk 0 0 d2 d3 = true := by decide +kernel
theorem chk_0_1 : ∀ d2 : Fin 3, ∀ d3 : Fin 3, chk 0 1 d2 d3 = true := by decide +kernel
theorem chk_0_2 : ∀ d2 : Fin 3, ∀ d3 : Fin 3, chk 0 2 d2 d3 = true := by decide +kernel
theorem chk_1_0 : ∀ d2 : Fin 3, ∀ d3 : Fin 3, chk 1 0 d2 d3 = true := by decide +kernel
theorem chk_1_1 : ∀ d2 : Fin 3, ∀ d3 : Fin 3, chk 1 1 d2 d3 = true := by decide +kernel
theorem chk_1_2 : ∀ d2 : Fin 3, ∀ d3 : Fin 3, chk 1 2 d2 d3 = true := by decide +kernel
theorem chk_all {d0 d1 d2 d3 : Nat} (h0 : d0 < 2) (h1 : d1 < 3) (h2 : d2 < 3) (h3 : d3 < 3) : chk d0 d1 d2 d3 = true := by
  match d0, h0, d1, h1 with
  | 0, _, 0, _ => exact chk_0_0 ⟨d2, h2⟩ ⟨d3, h3⟩
  | 0, _, 1, _ => exact chk_0_1 ⟨d2, h2⟩ ⟨d3, h3⟩
  | 0, _, 2, _ => exact chk_0_2 ⟨d2, h2⟩ ⟨d3, h3⟩
  | 1, _, 0, _ => exact chk_1_0 ⟨d2, h2⟩ ⟨d3, h3⟩
  | 1, _, 1, _ => exact chk_1_1 ⟨d2, h2⟩ ⟨d3, h3⟩
  | 1, _, 2, _ => exact chk_1_2 ⟨d2, h2⟩ ⟨d3, h3⟩
structure Chk (d0 d1 d2 d3 : Nat) : Prop where
  perm : ((isosOf (treeOf d0 d1 d2 d3)).map normM).Perm (movesN (linksL (underL d0 d1 d2 d3)) (underL d0 d1 d2 d3) (fun _ => 0) 6)
  each : ∀ m ∈ isosOf (treeOf d0 d1 d2 d3), m.Perm (pairsM (normM m)) ∧ ∀ x ∈ normM m, x < 6
  size : sz (treeOf d0 d1 d2 d3) = 6
  ends : ends (linksL (underL d0 d1 d2 d3)) 6 0 0 = true
  heads : headsIn 7 (treeOf d0 d1 d2 d3) = true
theorem chk_out {d0 d1 d2 d3 : Nat} (h : chk d0 d1 d2 d3 = true) : Chk d0 d1 d2 d3 := by
  unfold chk at h
  simp only [Bool.and_eq_true, List.all_eq_true, decide_eq_true_eq, beq_iff_eq, List.isPerm_iff] at h
  obtain ⟨⟨⟨⟨h1, h2⟩, h3⟩, h4⟩, h5⟩ := h
  exact ⟨h1, h2, h3, h4, h5⟩
theorem heads_all {Hd : Row → Prop} {C : Tr → Prop} (hC : ∀ h ks, C (.node h ks) ↔ Hd h ∧ ∀ k ∈ ks, C k) {f : Row → Row} (hf : ∀ j, j < 6 → Hd (f [j])) : ∀ m t, headsIn m t = true → C (mapTr f t)
  | 0, _, h => by cases h
  | m + 1, .node h ks, hh => by
    have hh : (headOk h && ks.all (headsIn m)) = true := hh
    rw [Bool.and_eq_true, List.all_eq_true] at hh
    rw [mapTr_node, hC]
    refine ⟨?_, fun k hk => ?_⟩
    · obtain ⟨j, rfl, hj⟩ := headOk_of hh.1
      exact hf j hj
    · obtain ⟨x, hx, rfl⟩ := List.mem_map.mp hk
      exact heads_all hC hf m x (hh.2 x hx)
theorem fits_perm (f : Row → Row) {a b : List (Row × Row)} (p : a.Perm b) : fits f a = fits f b := by
  unfold fits
  rw [Bool.eq_iff_iff, List.all_eq_true, List.all_eq_true]
  exact ⟨fun h x hx => h x (p.mem_iff.mpr hx), fun h x hx => h x (p.mem_iff.mp hx)⟩
theorem normM_len (m : List (Row × Row)) : (normM m).length = 6 := by unfold normM; rw [List.length_map, List.length_range]
/-- as many ways as the calls are laid one by one -/
theorem moves_count {d0 d1 d2 d3 : Nat} (k : Chk d0 d1 d2 d3) {c : Nat → Nat} {f : Row → Row} (hcf : ∀ a, a < 6 → ∀ b, b < 6 → (f [a] = f [b] ↔ c a = c b)) {wd : Nat} (hw : 1 ≤ wd) (hg : ∀ j, j < 6 → GoodHead (f [j])) :
    (movesN (linksL (underL d0 d1 d2 d3)) (underL d0 d1 d2 d3) c 6).length = WW wd (pg (mapTr f (treeOf d0 d1 d2 d3)) []) (mapTr f (treeOf d0 d1 d2 d3)) := by
  have g : Good (mapTr f (treeOf d0 d1 d2 d3)) := heads_all good_iff hg 7 _ k.heads
  rw [← moves_all hw f g, movesN_filter, ← List.countP_eq_length_filter, ← k.perm.countP_eq, List.countP_map]
  show _ = (isosOf (treeOf d0 d1 d2 d3)).countP (fits f)
  refine List.countP_congr fun m hm => ?_
  obtain ⟨h1, h2⟩ := k.each m hm
  rw [fits_perm f h1]
  show fitsM c (normM m) = true ↔ _
  unfold fitsM fits pairsM
  rw [normM_len, List.all_eq_true, List.all_eq_true]
  have hx : ∀ i, i < 6 → (normM m).getD i 0 < 6 := fun i hi => by
    rw [List.getD_eq_getElem?_getD, List.getElem?_eq_getElem (by rw [normM_len]; exact hi)]
    exact h2 _ (List.getElem_mem _)
  constructor
  · intro h p hp
    obtain ⟨i, hi, rfl⟩ := List.mem_map.mp hp
    have hi' := List.mem_range.mp hi
    have := h i hi
    rw [beq_iff_eq] at this
    exact decide_eq_true ((hcf i hi' _ (hx i hi')).mpr this.symm)
  · intro h i hi
    have hi' := List.mem_range.mp hi
    have := h ([i], [(normM m).getD i 0]) (List.mem_map_of_mem hi)
    rw [beq_iff_eq]
    exact ((hcf i hi' _ (hx i hi')).mp (of_decide_eq_true this)).symm
end Mine
end
section
open PySem PySem.W PySem.Calls PyProof.Rows

namespace Mine
/-! what is asked of each unlike page or tie -/
def asymK (wd : Nat) (T : Tr) : List (List Nat) := ((eg T []).filter fun p => !sym wd p).map (keyT wd)
def pagesX (wd : Nat) (T : Tr) : List (List Nat) := (pg T []).map (text wd)
def tiesX (wd : Nat) (T : Tr) : List (List Nat) := (eg T []).map (keyT wd)
theorem tie_gap {a b : List Nat} (x : Sep a) (y : Sep b) : ¬ Sep (tieT a b) := by
  unfold tieT
  split
  · exact fun s => s.gap _ (glue_gap x y).1
  · exact fun s => s.gap _ (glue_gap y x).1
theorem apart {wd : Nat} (hw : 1 ≤ wd) {T : Tr} (g : Good T) : ∀ x ∈ pagesX wd T, x ∉ tiesX wd T := by
  obtain ⟨gP, gE⟩ := pg_all good_iff T [] g fun _ q => (nomatch q)
  intro x hx hx'
  obtain ⟨a, ha, rfl⟩ := List.mem_map.mp hx
  obtain ⟨p, hp, e⟩ := List.mem_map.mp hx'
  have s := sep_text hw (gP a ha)
  rw [← e] at s
  exact tie_gap (sep_text hw (gE p hp).1) (sep_text hw (gE p hp).2) s
/-- the halves of a page or a tie -/
structure Half (wd : Nat) (T : Tr) (M : Nat) (x : List Nat) (hs : List Tr) : Prop where
  all : ∀ a ∈ hs, Good a ∧ Heads 40 a ∧ sz a ≤ 6
  len : x.length ≤ 1040000
  case : (∃ a, hs = [a] ∧ x = text wd a ∧ x ∈ pagesX wd T ∧ (pagesX wd T ++ tiesX wd T).count x * tn wd a = M) ∨
    (∃ a b, hs = [a, b] ∧ x = glue (text wd a) (text wd b) ∧ x ∉ pagesX wd T ∧ text wd a ≠ text wd b ∧ x ∈ asymK wd T ∧ (pagesX wd T ++ tiesX wd T).count x * (tn wd a * tn wd b) = M) ∨
    (∃ a b, hs = [a, b] ∧ x = glue (text wd a) (text wd b) ∧ x ∉ pagesX wd T ∧ text wd a = text wd b ∧ x ∉ asymK wd T ∧ (pagesX wd T ++ tiesX wd T).count x * (tn wd a * tn wd b) * 2 = M)
theorem half_of {wd : Nat} (hw : 1 ≤ wd) (hw3 : wd ≤ 3) {T : Tr} (g : Good T) (hh : Heads 40 T) (hs : sz T = 6) {x : List Nat} (hx : x ∈ pagesX wd T ++ tiesX wd T) : ∃ l, Half wd T (WW wd (pg T []) T) x l := by
  obtain ⟨gP, gE⟩ := pg_all good_iff T [] g fun _ q => (nomatch q)
  obtain ⟨hP, hE⟩ := pg_all (heads_iff 40) T [] hh fun _ q => (nomatch q)
  obtain ⟨sP, sE, _, _⟩ := pg_sz T []
  have s0 : szs ([] : List Tr) = 0 := rfl
  have ap := apart hw g
  rcases List.mem_append.mp hx with hx | hx
  · have hnx := ap x hx
    obtain ⟨a, ha, rfl⟩ := List.mem_map.mp hx
    refine ⟨[a], fun b hb => ?_, ?_, .inl ⟨a, rfl, rfl, hx, ?_⟩⟩
    · rw [List.mem_singleton.mp hb]
      exact ⟨gP a ha, hP a ha, by have := sP a ha; omega⟩
    · have := text_bound hw a (gP a ha) (hP a ha)
      have h2 : (wd + 1) ^ sz a ≤ 4 ^ 6 := Nat.le_trans (Nat.pow_le_pow_left (by omega) _) (Nat.pow_le_pow_right (by decide) (by have := sP a ha; omega))
      have h3 : sz a * (wd + 1) ^ sz a ≤ 6 * 4 ^ 6 := Nat.mul_le_mul (by have := sP a ha; omega) h2
      omega
    · rw [List.count_append, List.count_eq_zero.mpr hnx, Nat.add_zero]
      exact turnsA hw g a ha
  · have hnx : x ∉ pagesX wd T := fun q => ap x q hx
    obtain ⟨p, hp, e⟩ := List.mem_map.mp hx
    obtain ⟨g1, g2⟩ := gE p hp
    obtain ⟨h1, h2⟩ := hE p hp
    have sp := sE p hp
    have z1 := sz_pos p.1
    have z2 := sz_pos p.2
    have tb := turnsB hw g hp
    have hcnt : (pagesX wd T ++ tiesX wd T).count x = ((eg T []).map (keyT wd)).count (keyT wd p) := by
      rw [List.count_append, List.count_eq_zero.mpr hnx, Nat.zero_add, ← e]; rfl
    have hasym : x ∈ asymK wd T ↔ text wd p.1 ≠ text wd p.2 := by
      constructor
      · intro hm
        obtain ⟨q, hq, e'⟩ := List.mem_map.mp hm
        obtain ⟨hq, hs⟩ := List.mem_filter.mp hq
        have ns : ¬ text wd q.1 = text wd q.2 := fun q' => by rw [sym_iff.mpr q'] at hs; cases hs
        obtain ⟨k1, k2⟩ := gE q hq
        rcases (tieT_inj (sep_text hw k1) (sep_text hw k2) (sep_text hw g1) (sep_text hw g2)).mp (e'.trans e.symm) with ⟨a, b⟩ | ⟨a, b⟩
        · rw [← a, ← b]; exact ns
        · rw [← a, ← b]; exact fun q => ns q.symm
      · intro hn
        exact List.mem_map.mpr ⟨p, List.mem_filter.mpr ⟨hp, by
          cases h : sym wd p with
          | false => rfl
          | true => exact absurd (sym_iff.mp h) hn⟩, e⟩
    have key : ∀ a b, Good a → Good b → Heads 40 a → Heads 40 b → sz a ≤ 5 → sz b ≤ 5 → x = glue (text wd a) (text wd b) → tn wd a * tn wd b = tn wd p.1 * tn wd p.2 → (text wd a = text wd b ↔ text wd p.1 = text wd p.2) → ∃ l, Half wd T (WW wd (pg T []) T) x l := fun a b ga gb ha hb sa sb ex et es => by
      refine ⟨[a, b], fun c hc => ?_, ?_, ?_⟩
      · rcases List.mem_cons.mp hc with rfl | hc
        · exact ⟨ga, ha, by omega⟩
        · rw [List.mem_singleton.mp hc]; exact ⟨gb, hb, by omega⟩
      · rw [ex]
        have l1 := text_bound hw a ga ha
        have l2 := text_bound hw b gb hb
        have b1 : sz a * (wd + 1) ^ sz a ≤ 5 * 4 ^ 5 := Nat.mul_le_mul sa (Nat.le_trans (Nat.pow_le_pow_left (by omega) _) (Nat.pow_le_pow_right (by decide) sa))
        have b2 : sz b * (wd + 1) ^ sz b ≤ 5 * 4 ^ 5 := Nat.mul_le_mul sb (Nat.le_trans (Nat.pow_le_pow_left (by omega) _) (Nat.pow_le_pow_right (by decide) sb))
        unfold glue
        simp only [List.length_append, List.length_cons]
        omega
      · rw [← tb, hcnt]
        by_cases h : text wd p.1 = text wd p.2
        · exact .inr (.inr ⟨a, b, rfl, ex, hnx, es.mpr h, fun q => hasym.mp q h, by rw [if_pos h, et]⟩)
        · exact .inr (.inl ⟨a, b, rfl, ex, hnx, fun q => h (es.mp q), hasym.mpr h, by rw [if_neg h, et, Nat.mul_one]⟩)
    have e' : x = tieT (text wd p.1) (text wd p.2) := e.symm
    unfold tieT at e'
    by_cases hle : leT (text wd p.1) (text wd p.2) = true
    · rw [if_pos hle] at e'
      exact key p.1 p.2 g1 g2 h1 h2 (by omega) (by omega) e' rfl Iff.rfl
    · rw [if_neg hle] at e'
      exact key p.2 p.1 g2 g1 h2 h1 (by omega) (by omega) e' (Nat.mul_comm _ _) ⟨Eq.symm, Eq.symm⟩
def valX (wd : Nat) (T : Tr) (M : Int) (x : List Nat) : Int := if x ∈ pagesX wd T then M else if x ∈ asymK wd T then -M else 0
theorem sumI_const {α : Type} (c : Int) : ∀ l : List α, (l.map fun _ => c).sum = c * l.length
  | [] => by simp
  | a :: l => by rw [List.map_cons, List.sum_cons, sumI_const c l, List.length_cons, Int.natCast_add, Int.mul_add]; omega
theorem sumI_congr {α : Type} {f g : α → Int} {l : List α} (h : ∀ x ∈ l, f x = g x) : (l.map f).sum = (l.map g).sum := by
  congr 1; exact List.map_congr_left h
/-- one unlike page more than unlike ties of unlike halves -/
theorem sumX {wd : Nat} (hw : 1 ≤ wd) {T : Tr} (g : Good T) (M : Int) : ((dd (pagesX wd T ++ tiesX wd T)).map (valX wd T M)).sum = M := by
  have ap := apart hw g
  have hC : (dd (pagesX wd T)).length = (dd (asymK wd T)).length + 1 := unlikeC hw g
  have hsub : ∀ x ∈ asymK wd T, x ∈ tiesX wd T := fun x hx => by
    obtain ⟨p, hp, e⟩ := List.mem_map.mp hx
    exact List.mem_map.mpr ⟨p, (List.mem_filter.mp hp).1, e⟩
  have hap : ∀ x ∈ asymK wd T, x ∉ pagesX wd T := fun x hx q => ap x q (hsub x hx)
  have p1 : (dd (pagesX wd T ++ tiesX wd T)).Perm (dd (pagesX wd T) ++ (dd (tiesX wd T)).filter fun x => decide (x ∉ pagesX wd T)) := by
    refine (List.perm_ext_iff_of_nodup (dd_nodup _) ?_).mpr fun x => ?_
    · refine List.nodup_append.mpr ⟨dd_nodup _, (dd_nodup _).filter _, fun a ha b hb e => ?_⟩
      subst e
      rw [dd_mem] at ha
      have := (List.mem_filter.mp hb).2
      exact of_decide_eq_true this ha
    · rw [dd_mem, List.mem_append, List.mem_append, dd_mem, List.mem_filter, dd_mem, decide_eq_true_eq]
      exact ⟨fun h => h.elim .inl fun h => if hp : x ∈ pagesX wd T then .inl hp else .inr ⟨h, hp⟩, fun h => h.elim .inl fun h => .inr h.1⟩
  rw [sum_perm p1, List.map_append, List.sum_append]
  have e1 : ((dd (pagesX wd T)).map (valX wd T M)).sum = M * (dd (pagesX wd T)).length := by
    rw [sumI_congr (g := fun _ => M) fun x hx => ?_, sumI_const]
    rw [dd_mem] at hx
    unfold valX; rw [if_pos hx]
  have e2 : (((dd (tiesX wd T)).filter fun x => decide (x ∉ pagesX wd T)).map (valX wd T M)).sum = -M * (dd (asymK wd T)).length := by
    have e3 : ∀ l : List (List Nat), (l.map fun x => if x ∈ asymK wd T then -M else 0).sum = -M * (l.filter fun x => decide (x ∈ asymK wd T)).length := by
      intro l
      induction l with
      | nil => simp
      | cons a l ih =>
        rw [List.map_cons, List.sum_cons, ih, List.filter_cons]
        by_cases h : a ∈ asymK wd T
        · rw [if_pos h, if_pos (decide_eq_true h), List.length_cons, Int.natCast_add, Int.mul_add]; omega
        · rw [if_neg h, if_neg (by simpa using h)]; omega
    rw [sumI_congr (g := fun x => if x ∈ asymK wd T then -M else 0) fun x hx => ?_, e3]
    · have e4 : (((dd (tiesX wd T)).filter fun x => decide (x ∉ pagesX wd T)).filter fun x => decide (x ∈ asymK wd T)).length = (dd (asymK wd T)).length := by
        refine nodup_len (((dd_nodup _).filter _).filter _) (dd_nodup _) fun x => ?_
        rw [List.mem_filter, List.mem_filter, dd_mem, dd_mem, decide_eq_true_eq, decide_eq_true_eq]
        exact ⟨fun h => h.2, fun h => ⟨⟨hsub x h, hap x h⟩, h⟩⟩
      rw [e4]
    · have hn : x ∉ pagesX wd T := of_decide_eq_true (List.mem_filter.mp hx).2
      unfold valX; rw [if_neg hn]
  rw [e1, e2, hC, Int.natCast_add, Int.mul_add, Int.neg_mul]
  omega
end Mine
end
section
open PySem PySem.W PySem.Calls PyProof.Rows

namespace Mine
abbrev PP : Program := PySem.Challenge.rw_wn0019_02.row.prog
section
variable {prog : Program} {w : World} {H₀ : Heap} {n : Nat} {Q : D → Prop}

theorem up {σ : Store} {x y : PySem.Str} {s s' : Slot} (e : σ y = some s) (h : y ≠ x := by decide) : upd σ x s' y = some s := (upd_ne h).trans e
theorem up0 {σ : Store} {x : PySem.Str} {s : Slot} : upd σ x s x = some s := upd_same σ x s

theorem take_sum_succ {is : List Int} {k : Nat} {x : Int} (h : is[k]? = some x) : (is.take (k + 1)).sum = (is.take k).sum + x := by
  rw [List.take_add_one, h]; simp

theorem con_count {fa : Addr} {l : KD} {is : List Int} (hf : Has prog w H₀ PP ("count_calls" : PySem.Str) fa [("callers" : PySem.Str)] []) (hl : l.map (·.2) = is.map D.int) (h : Q (.int is.sum)) :
    OpL prog w H₀ (n + 1) (fun vs => PySem.call (.ref fa) vs) [D.dict l] Q := by
  refine OpL.has hf rfl (by decide) (by decide) ?_
  refine Ex.cons (ExS.assign (Ev.int ?_))
  refine Ex.cons (ExS.for (fun _ => True) trivial (Ev.meth (fun _ => "dict.values") (Ev.name (d := D.dict l) rfl ⟨Meth.values, EvL.nil (OpL.values ?_)⟩)))
  refine ⟨_, PyIt.vals, fun k σ => σ ("nc" : PySem.Str) = some (.val (.int (is.take k).sum)), up0, ?_, ?_⟩
  · intro k d σ hd hJ
    rw [hl, List.getElem?_map] at hd
    obtain ⟨x, hx, rfl⟩ := Option.map_eq_some_iff.mp hd
    refine AsOk.name ?_
    refine Ex.cons (ExS.aug (up hJ) (Ev.name up0 ⟨.int _, Op2.iadd ?_⟩))
    refine Ex.nil ?_
    show upd _ _ _ _ = _
    rw [take_sum_succ hx]; exact up0
  · intro σ hJ
    have e : (l.map (·.2)).length = is.length := by rw [hl, List.length_map]
    rw [e, List.take_length] at hJ
    refine Ex.cons (ExS.ret (Ev.name (Store.fz_val hJ) ?_))
    exact h

theorem con_dedup {K : Frag} {fa : Addr} {ts : List PySem.Str} (hf : Has prog w H₀ PP ("_deduplicate" : PySem.Str) fa [("params" : PySem.Str)] [(("unhashable_fallback" : PySem.Str), .bool false)]) (X : K.In H₀) (hg : Glob H₀ ("dict" : PySem.Str) (.type "dict")) (hbig : ∃ o, H₀.get? sysModules = some o)
    (hfc : findCls K (.type "dict") (.type "type") (PySem.Str.ofString "fromkeys") = some (.get (.builtin "classmethod_descriptor.__get__") (.builtin "dict.fromkeys") .none (.type "dict")))
    (hsz : ts.length ≤ sizeLine) (h : Q (D.dict (fk ts))) : OpL prog w H₀ (n + 1) (fun vs => PySem.call (.ref fa) vs) [.lst (ts.map D.str)] Q := by
  refine OpL.has hf rfl (by decide) (by decide) ?_
  refine Ex.cons (ExS.try ?_)
  refine Ex.cons (ExS.ret (Ev.fromkeys X hg rfl hbig hfc (Ev.name (d := .lst (ts.map D.str)) rfl ⟨ts, rfl, hsz, ?_⟩)))
  exact h
end
end Mine
end
section
open PySem PySem.W PySem.Calls PyProof.Rows

namespace Mine
section
variable {prog : Program} {w : World} {H₀ : Heap} {n : Nat} {Q : D → Prop}

abbrev KI := List (PySem.Str × Int)
def DI (l : KI) : KD := l.map fun p => (p.1, D.int p.2)
def atI (l : KI) (k : PySem.Str) : Option Int := (l.find? fun p => p.1 = k).map (·.2)
def putI (l : KI) (k : PySem.Str) (v : Int) : KI := if l.any (fun p => p.1 = k) then l.map (fun p => if p.1 = k then (p.1, v) else p) else l ++ [(k, v)]
def incI (acc : KI) (p : PySem.Str × Int) : KI := match atI acc p.1 with
  | some a => putI acc p.1 (a + p.2)
  | none => putI acc p.1 p.2
def copyI (t : KI) : KI := t.foldl (fun acc p => putI acc p.1 p.2) []
def addI (t s : KI) : KI := s.foldl incI (copyI t)

theorem atD_DI (k : PySem.Str) : ∀ l : KI, atD (DI l) k = (atI l k).map D.int
  | [] => rfl
  | (x, v) :: l => by
    have ih := atD_DI k l
    unfold atD atI DI at *
    rw [List.map_cons, List.find?_cons, List.find?_cons]
    by_cases h : x = k
    · simp [h]
    · simpa [h] using ih
theorem putD_DI (l : KI) (k : PySem.Str) (v : Int) : putD' (DI l) k (.int v) = DI (putI l k v) := by
  unfold putD' putI DI
  rw [List.any_map]
  have e : ((fun p : PySem.Str × D => decide (p.1 = k)) ∘ fun p : PySem.Str × Int => (p.1, D.int p.2)) = fun p : PySem.Str × Int => decide (p.1 = k) := rfl
  rw [e]
  split
  · rw [List.map_map, List.map_map]; apply List.map_congr_left; intro p _; simp only [Function.comp]; split <;> rfl
  · rw [List.map_append]; rfl
theorem putI_length (l : KI) (k : PySem.Str) (v : Int) : (putI l k v).length ≤ l.length + 1 := by
  unfold putI; split <;> simp
theorem incI_length (l : KI) (p : PySem.Str × Int) : (incI l p).length ≤ l.length + 1 := by
  unfold incI; split <;> exact putI_length _ _ _
theorem incI_none {acc : KI} {x : PySem.Str} {v : Int} (e : atI acc x = none) : incI acc (x, v) = putI acc x v := by unfold incI; rw [e]
theorem incI_some {acc : KI} {x : PySem.Str} {v a : Int} (e : atI acc x = some a) : incI acc (x, v) = putI acc x (a + v) := by unfold incI; rw [e]
theorem foldl_take_succ {α β : Type} {f : β → α → β} {b : β} {l : List α} {k : Nat} {x : α} (h : l[k]? = some x) : (l.take (k + 1)).foldl f b = f ((l.take k).foldl f b) x := by
  rw [List.take_add_one, h]; simp
theorem foldl_length_le {α : Type} {f : KI → α → KI} (hf : ∀ l a, (f l a).length ≤ l.length + 1) : ∀ (l : List α) (b : KI), (l.foldl f b).length ≤ b.length + l.length
  | [], b => by simp
  | a :: l, b => by
    rw [List.foldl_cons, List.length_cons]
    have := foldl_length_le hf l (f b a)
    have := hf b a
    omega
theorem items_get {l : KD} {k : Nat} {d : D} (h : (((l.map (·.1)).zip (l.map (·.2))).map fun p => D.tup [.str p.1, p.2])[k]? = some d) : ∃ p, l[k]? = some p ∧ d = .tup [.str p.1, p.2] := by
  rw [← List.unzip_fst, ← List.unzip_snd, List.zip_unzip, List.getElem?_map] at h
  obtain ⟨p, hp, rfl⟩ := Option.map_eq_some_iff.mp h
  exact ⟨p, hp, rfl⟩
theorem items_len (l : KD) : (((l.map (·.1)).zip (l.map (·.2))).map fun p => D.tup [.str p.1, p.2]).length = l.length := by simp

theorem con_add {fa : Addr} {t s : KI} (hf : Has prog w H₀ PP ("add_callers" : PySem.Str) fa [("target" : PySem.Str), ("source" : PySem.Str)] []) (hbig : ∃ o, H₀.get? sysModules = some o) (hgi : Glob H₀ ("isinstance" : PySem.Str) (.builtin "isinstance")) (hgt : Glob H₀ ("tuple" : PySem.Str) (.type "tuple"))
    (hsz : t.length + s.length ≤ sizeLine) (h : Q (D.dict (DI (addI t s)))) : OpL prog w H₀ (n + 1) (fun vs => PySem.call (.ref fa) vs) [D.dict (DI t), D.dict (DI s)] Q := by
  refine OpL.has hf rfl (by decide) (by decide) ?_
  refine Ex.cons (ExS.newDict (fun a => ?_) hbig)
  refine Ex.cons (ExS.for (fun t => ∃ es k p, t = .Tuple es k p) ⟨_, _, _, rfl⟩ (Ev.meth (fun _ => "dict.items") (Ev.name (d := D.dict (DI t)) rfl ⟨Meth.items, EvL.nil (OpL.items ?_)⟩)))
  refine ⟨_, PyIt.items, fun k σ => σ ("new_callers" : PySem.Str) = some (Slot.dict a (DI ((t.take k).foldl (fun acc p => putI acc p.1 p.2) []))) ∧ σ ("source" : PySem.Str) = some (.val (D.dict (DI s))), ⟨up0, rfl⟩, ?_, ?_⟩
  · rintro k d σ hd ⟨hn, hs⟩
    obtain ⟨p, hp, rfl⟩ := items_get hd
    unfold DI at hp
    rw [List.getElem?_map] at hp
    obtain ⟨⟨x, v⟩, hx, rfl⟩ := Option.map_eq_some_iff.mp hp
    refine AsOk.pair (AsOk.name (AsOk.name ?_))
    refine Ex.cons (ExS.setDict (up (up hn)) (Ev.name up0 (Ev.name (up up0) ⟨_, rfl, ?_, ?_⟩)))
    · unfold DI; rw [List.length_map]
      have := foldl_length_le (f := fun acc (p : PySem.Str × Int) => putI acc p.1 p.2) (fun l a => putI_length l a.1 a.2) (t.take k) []
      have : (t.take k).length ≤ t.length := by rw [List.length_take]; omega
      simp at *; omega
    · refine Ex.nil ⟨?_, up (up (up hs))⟩
      rw [foldl_take_succ hx, ← putD_DI]; exact up0
  · rintro σ ⟨hn, hs⟩
    rw [items_len, show (DI t).length = t.length by simp [DI], List.take_length] at hn
    refine Ex.cons (ExS.for (fun t => ∃ es k p, t = .Tuple es k p) ⟨_, _, _, rfl⟩ (Ev.meth (fun _ => "dict.items") (Ev.name hs ⟨Meth.items, EvL.nil (OpL.items ?_)⟩)))
    refine ⟨_, PyIt.items, fun k σ => σ ("new_callers" : PySem.Str) = some (Slot.dict a (DI ((s.take k).foldl incI (copyI t)))), hn, ?_, ?_⟩
    · rintro k d σ hd hn
      obtain ⟨p, hp, rfl⟩ := items_get hd
      unfold DI at hp
      rw [List.getElem?_map] at hp
      obtain ⟨⟨x, v⟩, hx, rfl⟩ := Option.map_eq_some_iff.mp hp
      have hlen : (DI ((s.take k).foldl incI (copyI t))).length ≤ sizeLine := by
        unfold DI; rw [List.length_map]
        have h1 := foldl_length_le (f := fun acc (p : PySem.Str × Int) => putI acc p.1 p.2) (fun l a => putI_length l a.1 a.2) t []
        have h2 := foldl_length_le (f := incI) incI_length (s.take k) (copyI t)
        have h3 : (s.take k).length ≤ s.length := by rw [List.length_take]; omega
        have h4 : (copyI t).length ≤ t.length := by simpa [copyI] using h1
        omega
      refine AsOk.pair (AsOk.name (AsOk.name ?_))
      refine Ex.cons (ExS.if (EvB.borrowD (up (up hn)) (EvB.cmp (Ev.name (up (up up0)) (Ev.name up0 (Op2.inD ⟨_, rfl, ?_⟩))))))
      have hat := atD_DI x ((s.take k).foldl incI (copyI t))
      cases e : atI ((s.take k).foldl incI (copyI t)) x with
      | none =>
        rw [e] at hat
        rw [hat]
        refine Ex.cons (ExS.setDict (up (up hn)) (Ev.name up0 (Ev.name (up up0) ⟨_, rfl, hlen, ?_⟩)))
        refine Ex.nil (Ex.nil ?_)
        show upd _ _ _ _ = _
        rw [foldl_take_succ hx, incI_none e, ← putD_DI]; exact up0
      | some old =>
        rw [e] at hat
        rw [hat]
        refine Ex.cons (ExS.if (EvB.isTuple hgi rfl hgt rfl (Ev.name up0 ⟨⟨_, rfl⟩, ?_⟩)))
        refine Ex.cons (ExS.augDict (up (up hn)) (up up0) hat hlen (Ev.name up0 (Op2.iadd ?_)))
        refine Ex.nil (Ex.nil (Ex.nil ?_))
        show upd _ _ _ _ = _
        rw [foldl_take_succ hx, incI_some e, ← putD_DI]; exact up0
    · intro σ hn
      rw [items_len, show (DI s).length = s.length by simp [DI], List.take_length] at hn
      refine Ex.cons (ExS.ret (Ev.name (Store.fz_ownd hn) ?_))
      exact h
end
end Mine
end
section
open PySem PySem.W PySem.Calls PyProof.Rows

namespace Mine
section
variable {prog : Program} {w : World} {H₀ : Heap} {sc : Scope} {σ : Store} {n : Nat} {Q : D → Prop}

theorem lit {s : String} {l : List Nat} (h : s.toList.map Char.toNat = l) : PySem.Str.ofString s = S l := by
  rw [PySem.Str.ofString_eq_toList, h]; rfl
theorem Ev.lit {x : PySem.Str} {k : Nat} {pos : Pos} (l : List Nat) (h : Q (.str (S l))) (hx : x = S l := by exact Mine.lit rfl) : Ev prog w H₀ sc n σ (.Constant (.str x) k pos) Q := by
  subst hx; exact Ev.str h

abbrev rowsD (rows : List Row) : List D := rows.map fun r => D.str (S r)

theorem drop_pick (r : Row) (i : Nat) : pick r (some (i : Int)) none none = r.drop i := pick_from r i

theorem mem_le_sum : ∀ {l : List Nat} {x : Nat}, x ∈ l → x ≤ l.sum
  | y :: l, x, h => by
    rw [List.sum_cons]
    rcases List.mem_cons.mp h with rfl | h
    · omega
    · have := mem_le_sum h; omega
theorem set_mid {α : Type} {A B : List α} {x y : α} : (A ++ x :: B).set A.length y = A ++ y :: B := by
  rw [List.set_append_right _ _ (Nat.le_refl _), Nat.sub_self]; rfl
theorem set_at {A B : List D} {x y : D} {j : Nat} (h : A.length = j) : (A ++ x :: B).set j y = A ++ y :: B := by subst h; exact set_mid
theorem dedent_step {rows : List Row} {f : Row → Row} {j : Nat} {r : Row} (h : rows[j]? = some r) : (rowsD ((rows.take j).map f ++ rows.drop j)).set j (.str (S (f r))) = rowsD ((rows.take (j + 1)).map f ++ rows.drop (j + 1)) := by
  obtain ⟨hj, rfl⟩ := List.getElem?_eq_some_iff.mp h
  have e1 : rows.take (j + 1) = rows.take j ++ [rows[j]] := by rw [List.take_add_one, List.getElem?_eq_getElem hj]; rfl
  rw [List.drop_eq_getElem_cons hj, e1]
  generalize rows[j] = r
  unfold rowsD
  rw [List.map_append, List.map_cons, set_at (by simp; omega)]
  simp
theorem dedent_get {rows : List Row} {f : Row → Row} {j : Nat} {d : D} (h : (rowsD ((rows.take j).map f ++ rows.drop j))[j]? = some d) (hj : j ≤ rows.length) : ∃ r, rows[j]? = some r ∧ d = .str (S r) := by
  rw [List.getElem?_map, List.getElem?_append_right (by simp; omega), List.length_map, List.length_take, Nat.min_eq_left hj, Nat.sub_self, List.getElem?_drop] at h
  obtain ⟨r, hr, rfl⟩ := Option.map_eq_some_iff.mp h
  exact ⟨r, hr, rfl⟩
theorem con_dedent {fa : Addr} {r0 : Row} {rest : List Row} {wd c : Nat} {r' : Row} (hf : Has prog w H₀ PP ("_dedent" : PySem.Str) fa [("text" : PySem.Str)] []) (hge : Glob H₀ ("enumerate" : PySem.Str) (.type "enumerate"))
    (hno : ∀ r ∈ r0 :: rest, 10 ∉ r) (h0 : r0 = List.replicate wd 32 ++ c :: r') (hc : c ≠ 32) (hsz : (joinNl (r0 :: rest)).length < 1048576) (hsz2 : (joinNl ((r0 :: rest).map (List.drop wd))).length < 1048576)
    (h : Q (.str (S (joinNl ((r0 :: rest).map (List.drop wd)))))) : OpL prog w H₀ (n + 1) (fun vs => PySem.call (.ref fa) vs) [.str (S (joinNl (r0 :: rest)))] Q := by
  have hrow : ∀ r ∈ r0 :: rest, r.length < 1048576 := fun r hr => by
    have h1 := joinNl_len (rows := r0 :: rest) (by simp)
    have h2 : r.length ≤ ((r0 :: rest).map List.length).sum := mem_le_sum (List.mem_map_of_mem hr)
    have h3 : 1 ≤ (r0 :: rest).length := by simp
    omega
  have hnum : (r0 :: rest).length < 1048577 := by
    have h1 := joinNl_len (rows := r0 :: rest) (by simp)
    omega
  refine OpL.has hf rfl (by decide) (by decide) ?_
  refine Ex.cons (ExS.assignOwn (EvF.meth (fun _ => "str.split") (Ev.name (d := .str (S (joinNl (r0 :: rest)))) rfl ⟨Meth.split, EvL.cons (Ev.lit [10] (EvL.nil (OpF.split (by omega) ?_)))⟩)))
  rw [split_join (by simp) hno]
  intro a
  -- for i, ch in enumerate(lines[0])
  refine Ex.cons (ExS.forEnumStr (a := r0) hge rfl (Ev.borrow up0 (Ev.sub (Ev.name up0 (Ev.int (OpI.lst (j := 0) (seqIndex_nat (by simp)) rfl (by omega) ⟨.str _, rfl⟩)))))
    (fun k σ => k ≤ wd ∧ σ ("lines" : PySem.Str) = some (.own a (rowsD (r0 :: rest)))) ⟨Nat.zero_le _, up0⟩ ⟨_, _, _, rfl⟩ ?_ ?_)
  · rintro k x σ hk ⟨hkw, hl⟩
    refine AsOk.pair (AsOk.name (AsOk.name ?_))
    refine Ex.cons (ExS.if (EvB.cmp (Ev.name up0 (Ev.lit [32] (Op2.neS ⟨_, rfl, ?_⟩)))))
    by_cases hx : k < wd
    · have : x = 32 := by
        rw [h0, List.getElem?_append_left (by simpa using hx)] at hk
        rw [List.getElem?_replicate, if_pos hx] at hk
        exact (Option.some.inj hk).symm
      subst this
      exact Ex.nil (Ex.nil ⟨hx, up (up hl)⟩)
    · have hk' : k = wd := by omega
      subst hk'
      have : x = c := by
        rw [h0, List.getElem?_append_right (by simp)] at hk
        simp at hk
        exact hk.symm
      subst this
      have e : (!decide (([x] : List Nat) = [32])) = true := by simp [hc]
      rw [e]
      refine Ex.cons (ExS.break ?_)
      -- for j, l in enumerate(lines)
      show Ex prog w H₀ _ n _ _ _
      refine Ex.cons (ExS.forEnumOwn (x := ("lines" : PySem.Str)) (a := a) (ds := rowsD (r0 :: rest)) (up (up hl)) hge rfl
        (fun j σ => σ ("lines" : PySem.Str) = some (.own a (rowsD (((r0 :: rest).take j).map (List.drop k) ++ (r0 :: rest).drop j))) ∧ σ ("i" : PySem.Str) = some (.val (.int (k : Nat)))) ⟨up (up hl), up up0⟩ ?_ ⟨_, _, _, rfl⟩ ?_ ?_)
      · rintro j σ ⟨h1, _⟩
        refine ⟨_, h1, ?_⟩
        simp only [rowsD, List.length_map, List.length_append, List.length_take, List.length_drop]; omega
      · rintro j ds' d σ ⟨h1, h2⟩ h3 hd
        rw [h1] at h3
        obtain rfl : rowsD _ = ds' := by injection h3 with h3; injection h3
        have hj : j < (r0 :: rest).length := by
          have h4 := (List.getElem?_eq_some_iff.mp hd).1
          have h5 : (rowsD (((r0 :: rest).take j).map (List.drop k) ++ (r0 :: rest).drop j)).length = min j (r0 :: rest).length + ((r0 :: rest).length - j) := by simp [rowsD]
          omega
        obtain ⟨r, hr, rfl⟩ := dedent_get hd (Nat.le_of_lt hj)
        have hlenrow : r.length ≤ sizeLine := by
          have := hrow r (List.mem_of_getElem? hr); rw [sizeLine_eq]; omega
        have hlen2 : (rowsD (((r0 :: rest).take j).map (List.drop k) ++ (r0 :: rest).drop j)).length = (r0 :: rest).length := by simp only [rowsD, List.length_map, List.length_append, List.length_take, List.length_drop]; omega
        refine AsOk.pair (AsOk.name (AsOk.name ?_))
        refine Ex.cons (ExS.setOwn (up (up h1)) (Ev.slice (Ev.name up0 (Ev.name (up (up h2)) ⟨_, rfl, OpS.str hlenrow (Ev.name (up up0) ⟨_, j, rfl, seqIndex_nat (by rw [hlen2]; exact hj), by omega, ?_⟩)⟩))))
        refine Ex.nil ⟨?_, up (up (up h2))⟩
        rw [drop_pick, dedent_step hr]
        exact up0
      · rintro σ ⟨h1, h2⟩
        have e : (rowsD (r0 :: rest)).length = (r0 :: rest).length := by simp
        rw [e, List.take_length, List.drop_length, List.append_nil] at h1
        refine Ex.cons (ExS.ret (Ev.meth (fun _ => "str.join") (Ev.lit [10] ⟨Meth.join, EvL.cons (Ev.name (Store.fz_own h1) (EvL.nil (OpL.joinNl (by simp) hsz2 ?_)))⟩)))
        exact h
  · rintro σ ⟨hle, _⟩
    exfalso
    rw [h0] at hle
    simp at hle
    omega
end
end Mine
end
section
open PySem PySem.W PySem.Calls PyProof.Rows

namespace Mine
/-- the built-in names -/
structure Gl (H₀ : Heap) : Prop where
  len : Glob H₀ ("len" : PySem.Str) (.builtin "len")
  sum : Glob H₀ ("sum" : PySem.Str) (.builtin "sum")
  sorted : Glob H₀ ("sorted" : PySem.Str) (.builtin "sorted")
  isinst : Glob H₀ ("isinstance" : PySem.Str) (.builtin "isinstance")
  range : Glob H₀ ("range" : PySem.Str) (.type "range")
  list : Glob H₀ ("list" : PySem.Str) (.type "list")
  int : Glob H₀ ("int" : PySem.Str) (.type "int")
  str : Glob H₀ ("str" : PySem.Str) (.type "str")
  tuple : Glob H₀ ("tuple" : PySem.Str) (.type "tuple")
  dict : Glob H₀ ("dict" : PySem.Str) (.type "dict")
  enum : Glob H₀ ("enumerate" : PySem.Str) (.type "enumerate")
  big : ∃ o, H₀.get? sysModules = some o

theorem indent_app (wd : Nat) : ∀ (A B : List Row) (i : Nat), indentFrom wd i (A ++ B) = indentFrom wd i A ++ indentFrom wd (i + A.length) B
  | [], B, i => by simp [indentFrom]
  | a :: A, B, i => by
    rw [List.cons_append]
    unfold indentFrom
    rw [indent_app wd A B (i + 1), List.cons_append, List.length_cons]
    have : i + 1 + A.length = i + (A.length + 1) := by omega
    rw [this]
    cases B <;> rfl
theorem indent_len (wd : Nat) : ∀ (A : List Row) (i : Nat), (indentFrom wd i A).length = A.length
  | [], _ => rfl
  | a :: A, i => by show (indentFrom wd (i + 1) A).length + 1 = _; rw [indent_len wd A]; rfl
theorem indent_drop (wd : Nat) : ∀ (A : List Row) (i : Nat), (indentFrom wd i A).map (List.drop wd) = A
  | [], _ => rfl
  | a :: A, i => by
    show (List.replicate wd (leadOf i) ++ a).drop wd :: (indentFrom wd (i + 1) A).map (List.drop wd) = _
    rw [indent_drop wd A]
    congr 1
    have : wd = (List.replicate wd (leadOf i)).length := by simp
    conv => lhs; rw [this]
    simp
theorem indent_nonl {wd : Nat} : ∀ {A : List Row} {i : Nat}, (∀ r ∈ A, 10 ∉ r) → ∀ r ∈ indentFrom wd i A, 10 ∉ r
  | [], _, _, r, h => nomatch h
  | a :: A, i, hA, r, h => by
    rcases List.mem_cons.mp h with rfl | h
    · rw [List.mem_append, not_or]
      refine ⟨fun q => ?_, hA a List.mem_cons_self⟩
      have := List.eq_of_mem_replicate q
      unfold leadOf at this
      split at this <;> omega
    · exact indent_nonl (fun r hr => hA r (List.mem_cons_of_mem _ hr)) r h

theorem flatten_rep (c m : Nat) : (List.replicate m [c]).flatten = List.replicate m c := by
  induction m with
  | zero => rfl
  | succ m ih => rw [List.replicate_succ, List.flatten_cons, ih]; rfl

section
variable {prog : Program} {w : World} {H₀ : Heap} {sc : Scope} {σ : Store} {n : Nat} {Q : D → Prop}

theorem row_le {rows : List Row} {N : Nat} (h : (joinNl rows).length < N) {r : Row} (hr : r ∈ rows) : r.length < N := by
  have h1 := joinNl_len (rows := rows) (by rintro rfl; cases hr)
  have h2 : r.length ≤ (rows.map List.length).sum := mem_le_sum (List.mem_map_of_mem hr)
  have h3 : 1 ≤ rows.length := by cases rows with | nil => cases hr | cons _ _ => simp
  omega
theorem rows_le {rows : List Row} {N : Nat} (h : (joinNl rows).length < N) : rows.length ≤ N := by
  rcases Classical.em (rows = []) with rfl | hne
  · simp
  · have h1 := joinNl_len hne
    omega

theorem con_page {fa : Addr} {wd : Nat} {head : Row} {ts : List (List Nat)} (G : Gl H₀) (hf : Has prog w H₀ PP ("_law_page" : PySem.Str) fa [("head" : PySem.Str), ("parts" : PySem.Str), ("wide" : PySem.Str)] [])
    (hwd : wd ≤ 3) (hts : ts.length < 64) (htl : ∀ t ∈ ts, t.length ≤ 1048576) (hsz : (pageT wd head ts).length < 1048576)
    (h : Q (.str (S (pageT wd head ts)))) : OpL prog w H₀ (n + 1) (fun vs => PySem.call (.ref fa) vs) [.str (S head), .lst (ts.map fun a => D.str (S a)), .int wd] Q := by
  refine OpL.has hf rfl (by decide) (by decide) ?_
  refine Ex.cons (ExS.assignOwn (EvF.list (EvL.cons (Ev.name rfl (EvL.nil ⟨by rw [sizeLine_eq]; simp, fun a => ?_⟩)))))
  refine Ex.cons (ExS.for (fun _ => True) trivial (Ev.call G.sorted (.inl ⟨_, rfl⟩) rfl (EvL.cons (Ev.name (d := .lst (ts.map fun a => D.str (S a))) rfl (EvL.nil (OpL.sorted hts ?_))))))
  refine ⟨_, PyIt.list, fun k σ => σ ("rows" : PySem.Str) = some (.own a (rowsD (head :: indentFrom wd 0 (((sortT ts).take k).flatMap splitNl)))) ∧ σ ("wide" : PySem.Str) = some (.val (.int wd)), ⟨up0, rfl⟩, ?_, ?_⟩
  · rintro k d σ hd ⟨h1, h2⟩
    rw [List.getElem?_map] at hd
    obtain ⟨t, ht, rfl⟩ := Option.map_eq_some_iff.mp hd
    obtain ⟨hk, hkt⟩ := List.getElem?_eq_some_iff.mp ht
    have htm : t ∈ ts := (sortT_perm ts).mem_iff.mp (List.mem_of_getElem? ht)
    refine AsOk.name ?_
    refine Ex.cons (ExS.for (fun _ => True) trivial (Ev.meth (fun _ => "str.split") (Ev.name up0 ⟨Meth.split, EvL.cons (Ev.lit [10] (EvL.nil (OpL.splitNl (htl t htm) ?_)))⟩)))
    have esplit : sortT ts = (sortT ts).take k ++ t :: (sortT ts).drop (k + 1) := by
      have := List.take_append_drop k (sortT ts)
      rw [List.drop_eq_getElem_cons hk, hkt] at this
      exact this.symm
    refine ⟨_, PyIt.list, fun j σ => σ ("rows" : PySem.Str) = some (.own a (rowsD (head :: indentFrom wd 0 (((sortT ts).take k).flatMap splitNl ++ (splitNl t).take j)))) ∧ σ ("wide" : PySem.Str) = some (.val (.int wd)), ⟨?_, up h2⟩, ?_, ?_⟩
    · rw [List.take_zero, List.append_nil]; exact up h1
    · rintro j d σ hd ⟨h1, h2⟩
      rw [List.getElem?_map] at hd
      obtain ⟨r, hr, rfl⟩ := Option.map_eq_some_iff.mp hd
      obtain ⟨hj, hjr⟩ := List.getElem?_eq_some_iff.mp hr
      have esp2 : splitNl t = (splitNl t).take j ++ r :: (splitNl t).drop (j + 1) := by
        have := List.take_append_drop j (splitNl t)
        rw [List.drop_eq_getElem_cons hj, hjr] at this
        exact this.symm
      have e : (sortT ts).flatMap splitNl = ((((sortT ts).take k).flatMap splitNl ++ (splitNl t).take j)) ++ r :: ((splitNl t).drop (j + 1) ++ ((sortT ts).drop (k + 1)).flatMap splitNl) := by
        have e1 : (sortT ts).flatMap splitNl = ((sortT ts).take k ++ t :: (sortT ts).drop (k + 1)).flatMap splitNl := congrArg (fun q => List.flatMap splitNl q) esplit
        rw [List.flatMap_append, List.flatMap_cons] at e1
        have e2 := congrArg (fun q => ((sortT ts).take k).flatMap splitNl ++ (q ++ ((sortT ts).drop (k + 1)).flatMap splitNl)) esp2
        exact e1.trans (e2.trans (by simp))
      generalize hM : (((sortT ts).take k).flatMap splitNl ++ (splitNl t).take j) = M at *
      have hmem : (List.replicate wd (leadOf M.length) ++ r) ∈ head :: indentFrom wd 0 ((sortT ts).flatMap splitNl) := by
        rw [e, indent_app, Nat.zero_add]
        exact List.mem_cons_of_mem _ (List.mem_append.mpr (.inr List.mem_cons_self))
      have hlen := row_le hsz hmem
      rw [List.length_append, List.length_replicate] at hlen
      have hcnt : M.length + 1 ≤ 1048576 := by
        have := rows_le hsz
        rw [List.length_cons, indent_len, e] at this
        simp only [List.length_append, List.length_cons] at this
        omega
      have hlenD : (rowsD (head :: indentFrom wd 0 M)).length = M.length + 1 := by simp [rowsD, indent_len]
      refine AsOk.name ?_
      refine Ex.cons (ExS.assign (Ev.mono (Q := fun d => d = D.str (S [leadOf M.length])) (Ev.ifexp (EvB.borrow (up h1) (EvB.cmp (Ev.call G.len (.inl ⟨_, rfl⟩) rfl (EvL.cons (Ev.name up0 (EvL.nil (OpL.lenL (by omega) (Ev.int (Op2.eqI ⟨_, rfl, ?_⟩)))))))))) ?_))
      · rw [hlenD]
        by_cases hm : M.length = 1
        · rw [show (((M.length + 1 : Nat) : Int) == 2) = true by rw [hm]; rfl]
          refine Ev.lit [46] ?_
          unfold leadOf; rw [if_pos hm]
        · rw [show (((M.length + 1 : Nat) : Int) == 2) = false by rw [beq_eq_false_iff_ne]; omega]
          refine Ev.lit [32] ?_
          unfold leadOf; rw [if_neg hm]
      · rintro d rfl
        refine Ex.cons (ExS.append (up (up h1)) (Ev.bin (Ev.bin (Ev.name up0 (Ev.name (up (up h2)) (Op2.mulS (by simp; omega) (by omega) (Ev.name (up up0) (Op2.addS (by rw [flatten_rep, List.length_replicate, sizeLine_eq]; omega) ⟨by rw [hlenD, sizeLine_eq]; omega, ?_⟩))))))))
        refine Ex.nil ⟨?_, up (up (up h2))⟩
        have e3 : (splitNl t).take (j + 1) = (splitNl t).take j ++ [r] := by rw [List.take_add_one, hr]; rfl
        rw [e3, ← List.append_assoc, hM, flatten_rep, indent_app, Nat.zero_add]
        have : rowsD (head :: (indentFrom wd 0 M ++ indentFrom wd M.length [r])) = rowsD (head :: indentFrom wd 0 M) ++ [D.str (S (List.replicate wd (leadOf M.length) ++ r))] := by simp [rowsD, indentFrom]
        rw [this]
        exact up0
    · rintro σ ⟨h1, h2⟩
      refine Ex.nil ⟨?_, h2⟩
      rw [List.length_map, List.take_length] at h1
      have : (sortT ts).take (k + 1) = (sortT ts).take k ++ [t] := by rw [List.take_add_one, ht]; rfl
      rw [this, List.flatMap_append]
      simpa using h1
  · rintro σ ⟨h1, h2⟩
    rw [List.length_map, List.take_length] at h1
    refine Ex.cons (ExS.ret (Ev.meth (fun _ => "str.join") (Ev.lit [10] ⟨Meth.join, EvL.cons (Ev.name (Store.fz_own h1) (EvL.nil (OpL.joinNl (by simp) hsz ?_)))⟩)))
    exact h
end
end Mine
end
section
open PySem PySem.W PySem.Calls PyProof.Rows

namespace Mine
def wsum (l : List (List Nat)) : Nat := (l.map fun t => t.length + 1).sum

theorem wsum_app (a b : List (List Nat)) : wsum (a ++ b) = wsum a + wsum b := by simp [wsum]
theorem wsum_mem {l : List (List Nat)} {t : List Nat} (h : t ∈ l) : t.length + 1 ≤ wsum l := mem_le_sum (List.mem_map_of_mem (f := fun t : List Nat => t.length + 1) h)
theorem list_last {α : Type} {l : List α} (h : l ≠ []) : ∃ a x, l = a ++ [x] := ⟨l.dropLast, l.getLast h, (List.dropLast_concat_getLast h).symm⟩
theorem grp_inv : ∀ (l : List Row) (b : Row), isSub b = false → grp (b :: l) ≠ [] ∧ wsum (grp (b :: l)) = wsum (b :: l) ∧ (grp (b :: l)).length ≤ l.length + 1 := by
  intro l b hb
  have key : ∀ (l : List Row) (acc : List (List Nat)), acc ≠ [] → l.foldl grpStep acc ≠ [] ∧ wsum (l.foldl grpStep acc) = wsum acc + wsum l ∧ (l.foldl grpStep acc).length ≤ acc.length + l.length := by
    intro l
    induction l with
    | nil => intro acc h; exact ⟨h, by simp [wsum], by simp⟩
    | cons r l ih =>
      intro acc h
      rw [List.foldl_cons]
      have e : wsum (r :: l) = r.length + 1 + wsum l := by simp [wsum]
      cases hr : isSub r with
      | true =>
        obtain ⟨a, x, rfl⟩ := list_last h
        rw [grpStep_sub hr]
        obtain ⟨h1, h2, h3⟩ := ih (a ++ [x ++ [10] ++ r]) (by simp)
        refine ⟨h1, ?_, by simp at *; omega⟩
        rw [h2, wsum_app, wsum_app, e]
        simp [wsum]; omega
      | false =>
        rw [grpStep_new hr]
        obtain ⟨h1, h2, h3⟩ := ih (acc ++ [r]) (by simp)
        refine ⟨h1, ?_, by simp at *; omega⟩
        rw [h2, wsum_app, e]
        simp [wsum]; omega
  have := key l [b] (by simp)
  unfold grp
  rw [List.foldl_cons, grpStep_new hb]
  refine ⟨this.1, ?_, by have := this.2.2; simp at *; omega⟩
  rw [List.nil_append, this.2.1]
  simp [wsum]
theorem joinNl_wsum {rows : List Row} (h : rows ≠ []) : (joinNl rows).length + 1 = wsum rows := by
  rw [joinNl_len h]; unfold wsum
  clear h
  induction rows with
  | nil => rfl
  | cons r l ih => simp at *; omega

section
variable {prog : Program} {w : World} {H₀ : Heap} {sc : Scope} {σ : Store} {n : Nat} {Q : D → Prop}
set_option maxHeartbeats 1000000 in
theorem con_parts {fa fd : Addr} {wd : Nat} {head : Row} {body : List Row} (G : Gl H₀) (hf : Has prog w H₀ PP ("_law_parts" : PySem.Str) fa [("page" : PySem.Str)] []) (hd : Has prog w H₀ PP ("_dedent" : PySem.Str) fd [("text" : PySem.Str)] [])
    (hh : 10 ∉ head) (hb : ∀ r ∈ body, r ≠ [] ∧ 10 ∉ r) (hb0 : ∀ r, body[0]? = some r → isSub r = false) (hsz : (joinNl (head :: indentFrom wd 0 body)).length < 1048576)
    (h : Q (.tup [.str (S head), .lst ((grp body).map fun a => D.str (S a))])) : OpL prog w H₀ (n + 2) (fun vs => PySem.call (.ref fa) vs) [.str (S (joinNl (head :: indentFrom wd 0 body)))] Q := by
  have hno : ∀ r ∈ head :: indentFrom wd 0 body, 10 ∉ r := fun r hr => by
    rcases List.mem_cons.mp hr with rfl | hr
    · exact hh
    · exact indent_nonl (fun r hr => (hb r hr).2) r hr
  have hcnt : body.length + 1 ≤ 1048576 := by
    have := rows_le hsz
    rw [List.length_cons, indent_len] at this; omega
  refine OpL.has (n := n + 1) hf rfl (by decide) (by decide) ?_
  refine Ex.cons (ExS.assign (Ev.meth (fun _ => "str.split") (Ev.name (d := .str (S (joinNl (head :: indentFrom wd 0 body)))) rfl ⟨Meth.split, EvL.cons (Ev.lit [10] (EvL.nil (OpL.splitNl (by omega) ?_)))⟩)))
  rw [split_join (by simp) hno]
  refine Ex.cons (ExS.assignOwn (EvF.list (EvL.nil ⟨by simp, fun a => ?_⟩)))
  have hlen : (rowsD (head :: indentFrom wd 0 body)).length = body.length + 1 := by simp [rowsD, indent_len]
  have ret : ∀ σ : Store, σ ("parts" : PySem.Str) = some (.own a ((grp body).map fun a => D.str (S a))) → σ ("rows" : PySem.Str) = some (.val (.lst (rowsD (head :: indentFrom wd 0 body)))) →
      Ex prog w H₀ (scopeOf PP ("_law_parts" : PySem.Str)) (n + 1) σ [((bodyOf PP ("_law_parts" : PySem.Str))[3]?).getD (.Pass default)] (RetOf Q) := fun σ h1 h2 => by
    refine Ex.cons (ExS.ret (Ev.tuple (EvL.cons (Ev.sub (Ev.name (Store.fz_val h2) (Ev.int (OpI.lst (j := 0) (seqIndex_nat (by simp)) rfl (by omega) (EvL.cons (Ev.name (Store.fz_own h1) (EvL.nil ⟨by rw [sizeLine_eq]; simp, ?_⟩))))))))))
    exact h
  refine Ex.cons (ExS.if (EvB.cmp (Ev.call G.len (.inl ⟨_, rfl⟩) rfl (EvL.cons (Ev.name (up up0) (EvL.nil (OpL.lenL (Nat.lt_of_le_of_lt (Nat.le_of_eq hlen) (by omega)) (Ev.int (Op2.gtI ⟨_, rfl, ?_⟩)))))))))
  rw [hlen]
  cases body with
  | nil =>
    refine Ex.nil ?_
    exact ret _ up0 (up up0)
  | cons b bs =>
    rw [show decide (((((b :: bs).length + 1 : Nat)) : Int) > 1) = true from decide_eq_true (by simp; omega)]
    obtain ⟨c, r', rfl⟩ : ∃ c r', b = c :: r' := by
      cases b with
      | nil => exact absurd rfl (hb [] List.mem_cons_self).1
      | cons c r' => exact ⟨c, r', rfl⟩
    have hsub0 := hb0 (c :: r') rfl
    have hc : c ≠ 32 := fun e => by subst e; cases hsub0
    have e0 : indentFrom wd 0 ((c :: r') :: bs) = (List.replicate wd 32 ++ c :: r') :: indentFrom wd 1 bs := rfl
    have hsz1 : (joinNl (indentFrom wd 0 ((c :: r') :: bs))).length < 1048576 := by
      rw [joinNl_cons (by rw [e0]; simp)] at hsz
      simp at hsz ⊢; omega
    have hdrop := indent_drop wd ((c :: r') :: bs) 0
    have hsz2 : (joinNl ((c :: r') :: bs)).length < 1048576 := by
      have h1 := joinNl_len (rows := (c :: r') :: bs) (by simp)
      have h2 := joinNl_len (rows := indentFrom wd 0 ((c :: r') :: bs)) (by rw [e0]; simp)
      have key : ∀ (A : List Row) (i : Nat), (A.map List.length).sum ≤ ((indentFrom wd i A).map List.length).sum := by
        intro A
        induction A with
        | nil => intro i; simp [indentFrom]
        | cons a A ih => intro i; have := ih (i + 1); simp [indentFrom] at *; omega
      have := key ((c :: r') :: bs) 0
      rw [indent_len] at h2
      omega
    have hpick : pick (rowsD (head :: indentFrom wd 0 ((c :: r') :: bs))) (some 1) none none = rowsD (indentFrom wd 0 ((c :: r') :: bs)) := by
      have := pick_from (rowsD (head :: indentFrom wd 0 ((c :: r') :: bs))) 1
      exact this.trans (by simp [rowsD])
    refine Ex.cons (ExS.for (fun _ => True) trivial (Ev.meth (fun _ => "str.split") (Ev.def hd rfl (EvL.cons (Ev.meth (fun _ => "str.join") (Ev.lit [10] ⟨Meth.join, EvL.cons (Ev.slice (Ev.name (up up0) (Ev.int ⟨_, rfl, OpS.lst (by simp) (by rw [hlen, sizeLine_eq]; omega) ?_⟩)))⟩))))))
    rw [hpick]
    refine EvL.nil (OpL.joinNl (by rw [e0]; simp) hsz1 (EvL.nil ?_))
    rw [e0] at hsz1 ⊢
    rw [e0] at hdrop
    refine con_dedent hd G.enum (fun r hr => hno r (List.mem_cons_of_mem _ (by rw [e0]; exact hr))) rfl hc hsz1 (by rw [hdrop]; exact hsz2) ?_
    rw [hdrop]
    refine ⟨Meth.split, EvL.cons (Ev.lit [10] (EvL.nil (OpL.splitNl (by omega) ?_)))⟩
    rw [split_join (by simp) fun r hr => (hb r hr).2]
    generalize hbody : (c :: r') :: bs = body at *
    refine ⟨_, PyIt.list, fun k σ => σ ("parts" : PySem.Str) = some (.own a ((grp (body.take k)).map fun a => D.str (S a))) ∧ σ ("rows" : PySem.Str) = some (.val (.lst (rowsD (head :: indentFrom wd 0 body)))), ⟨up0, ?_⟩, ?_, ?_⟩
    · subst hbody; exact up up0
    · rintro k d σ hd ⟨h1, h2⟩
      rw [List.getElem?_map] at hd
      obtain ⟨r, hr, rfl⟩ := Option.map_eq_some_iff.mp hd
      obtain ⟨hrne, hr10⟩ := hb r (List.mem_of_getElem? hr)
      obtain ⟨x, xs, rfl⟩ : ∃ x xs, r = x :: xs := by
        cases r with
        | nil => exact absurd rfl hrne
        | cons x xs => exact ⟨x, xs, rfl⟩
      have hg : grp (body.take (k + 1)) = grpStep (grp (body.take k)) (x :: xs) := by
        unfold grp; exact foldl_take_succ hr
      have hrlen : (x :: xs).length < 1048576 := row_le (rows := body) hsz2 (List.mem_of_getElem? hr)
      have hgl : (grp (body.take k)).length ≤ 1048576 ∧ (isSub (x :: xs) = true → ∃ a t, grp (body.take k) = a ++ [t] ∧ t.length + (x :: xs).length + 1 ≤ 1048576) := by
        cases k with
        | zero =>
          refine ⟨by simp [grp], fun hs => ?_⟩
          have := hb0 _ hr
          rw [hs] at this; cases this
        | succ k =>
          subst hbody
          have e1 : ((c :: r') :: bs).take (k + 1) = (c :: r') :: bs.take k := rfl
          obtain ⟨i1, i2, i3⟩ := grp_inv (bs.take k) (c :: r') hsub0
          rw [e1]
          have i4 : (bs.take k).length ≤ bs.length := by rw [List.length_take]; omega
          refine ⟨by simp at hcnt; omega, fun _ => ?_⟩
          obtain ⟨a, t, e2⟩ := list_last i1
          refine ⟨a, t, e2, ?_⟩
          have i5 : t.length + 1 ≤ wsum (grp ((c :: r') :: bs.take k)) := wsum_mem (by rw [e2]; simp)
          rw [i2] at i5
          have i6 := joinNl_wsum (rows := (c :: r') :: bs) (by simp)
          have i7 : wsum ((c :: r') :: bs) = wsum (((c :: r') :: bs).take (k + 1)) + wsum (((c :: r') :: bs).drop (k + 1)) := by
            rw [← wsum_app, List.take_append_drop]
          have i8 : (x :: xs).length + 1 ≤ wsum (((c :: r') :: bs).drop (k + 1)) := wsum_mem (by
            obtain ⟨hlt, he⟩ := List.getElem?_eq_some_iff.mp hr
            rw [List.drop_eq_getElem_cons hlt, he]; simp)
          rw [e1] at i7
          omega
      refine AsOk.name ?_
      refine Ex.cons (ExS.if (EvB.mono (Q := fun b => b = isSub (x :: xs)) (EvB.or (EvB.cmp (Ev.sub (Ev.name up0 (Ev.int (OpI.str (j := 0) (c := x) (seqIndex_nat (by simp)) rfl (by omega) (Ev.lit [32] (Op2.eqS ⟨_, rfl, ?_⟩)))))))) ?_))
      · by_cases hx : x = 32
        · subst hx
          rw [decide_eq_true rfl]
          rfl
        · rw [decide_eq_false (by simpa using hx)]
          refine EvB.or (EvB.cmp (Ev.sub (Ev.name up0 (Ev.int (OpI.str (j := 0) (c := x) (seqIndex_nat (by simp)) rfl (by omega) (Ev.lit [46] (Op2.eqS ⟨_, rfl, ?_⟩)))))))
          by_cases hx2 : x = 46
          · subst hx2
            rw [decide_eq_true rfl]
            rfl
          · rw [decide_eq_false (by simpa using hx2)]
            refine EvB.or_nil ?_
            simp [isSub, hx, hx2]
      · rintro b rfl
        cases hs : isSub (x :: xs) with
        | true =>
          obtain ⟨ga, gt, ge, gl⟩ := hgl.2 hs
          rw [ge] at h1
          have hset : (((ga ++ [gt]).map fun a => D.str (S a))).length = ga.length + 1 := by simp
          have hget : (((ga ++ [gt]).map fun a => D.str (S a)))[ga.length]? = some (.str (S gt)) := by simp
          have hidx : seqIndex? (-1) (((ga ++ [gt]).map fun a => D.str (S a))).length = some ga.length := by
            rw [hset, seqIndex_neg (by omega) (by omega)]; congr 1; omega
          have hA1 : gt.length + [10].length ≤ sizeLine := by rw [sizeLine_eq, List.length_singleton]; omega
          have hA2 : (gt ++ [10]).length + (x :: xs).length ≤ sizeLine := by rw [sizeLine_eq, List.length_append, List.length_singleton]; omega
          refine Ex.cons (ExS.setOwn (up h1) (Ev.borrow (up h1) (Ev.bin (Ev.bin (Ev.sub (Ev.name up0 (Ev.un (Ev.int (Op1.neg (OpI.lst hidx hget (by omega) (Ev.lit [10] (Op2.addS hA1 (Ev.name (up up0) (Op2.addS hA2 ⟨.str _, Ev.un (Ev.int (Op1.neg ⟨_, _, rfl, hidx, by omega, ?_⟩))⟩))))))))))))))
          refine Ex.nil (Ex.nil ⟨?_, up (up h2)⟩)
          rw [hg, ge, grpStep_sub hs]
          have : ((ga ++ [gt]).map fun a => D.str (S a)).set ga.length (.str (S (gt ++ [10] ++ x :: xs))) = (ga ++ [gt ++ [10] ++ x :: xs]).map fun a => D.str (S a) := by simp
          rw [this]; exact up0
        | false =>
          have hA3 : ((grp (body.take k)).map fun a => D.str (S a)).length ≤ sizeLine := by rw [List.length_map, sizeLine_eq]; exact Nat.le_trans hgl.1 (by omega)
          refine Ex.cons (ExS.append (up h1) (Ev.name up0 ⟨hA3, ?_⟩))
          refine Ex.nil (Ex.nil ⟨?_, up (up h2)⟩)
          rw [hg, grpStep_new hs]
          have : ((grp (body.take k)).map fun a => D.str (S a)) ++ [D.str (S (x :: xs))] = (grp (body.take k) ++ [x :: xs]).map fun a => D.str (S a) := by simp
          rw [this]; exact up0
    · rintro σ ⟨h1, h2⟩
      rw [List.length_map, List.take_length] at h1
      refine Ex.nil ?_
      exact ret σ h1 h2
end
end Mine
end
section
open PySem PySem.W PySem.Calls PyProof.Rows

namespace Mine
theorem fk_keys_dd (P : List (List Nat)) : (fk (P.map S)).map (·.1) = (dd P).map S := by
  have key : ∀ (P : List (List Nat)) (l : KD) (acc : List (List Nat)), l.map (·.1) = acc.map S →
      ((P.map S).foldl (fun l k => putD' l k .none) l).map (·.1) = (P.foldl ddStep acc).map S := by
    intro P
    induction P with
    | nil => intro l acc h; exact h
    | cons p P ih =>
      intro l acc h
      rw [List.map_cons, List.foldl_cons, List.foldl_cons]
      apply ih
      have hany : (l.any fun q => decide (q.1 = S p)) = decide (p ∈ acc) := by
        rw [Bool.eq_iff_iff, List.any_eq_true, decide_eq_true_eq]
        constructor
        · rintro ⟨q, hq, e⟩
          have : q.1 ∈ acc.map S := by rw [← h]; exact List.mem_map_of_mem hq
          rw [of_decide_eq_true e] at this
          obtain ⟨a, ha, e⟩ := List.mem_map.mp this
          rw [← S_inj e]; exact ha
        · intro hp
          have : S p ∈ l.map (·.1) := by rw [h]; exact List.mem_map_of_mem hp
          obtain ⟨q, hq, e⟩ := List.mem_map.mp this
          exact ⟨q, hq, decide_eq_true e⟩
      unfold putD' ddStep
      rw [hany]
      by_cases hp : p ∈ acc
      · rw [if_pos (decide_eq_true hp), if_pos hp, ← h, List.map_map]
        apply List.map_congr_left
        intro q _
        show (if q.1 = S p then (q.1, D.none) else q).1 = q.1
        split <;> rfl
      · rw [if_neg (by simpa using hp), if_neg hp, List.map_append, List.map_append, h]; rfl
  exact key P [] [] rfl

abbrev textsD (P : List (List Nat)) : List D := P.map fun a => D.str (S a)
/-- the program's defs in place -/
structure Defs (prog : Program) (w : World) (H₀ : Heap) (K : Frag) where
  aDed : Addr
  aPar : Addr
  aPag : Addr
  aDup : Addr
  ded : Has prog w H₀ PP ("_dedent" : PySem.Str) aDed [("text" : PySem.Str)] []
  par : Has prog w H₀ PP ("_law_parts" : PySem.Str) aPar [("page" : PySem.Str)] []
  pag : Has prog w H₀ PP ("_law_page" : PySem.Str) aPag [("head" : PySem.Str), ("parts" : PySem.Str), ("wide" : PySem.Str)] []
  dup : Has prog w H₀ PP ("_deduplicate" : PySem.Str) aDup [("params" : PySem.Str)] [(("unhashable_fallback" : PySem.Str), .bool false)]
  X : K.In H₀
  fc : findCls K (.type "dict") (.type "type") (PySem.Str.ofString "fromkeys") = some (.get (.builtin "classmethod_descriptor.__get__") (.builtin "dict.fromkeys") .none (.type "dict"))
  G : Gl H₀

section
variable {prog : Program} {w : World} {H₀ : Heap} {K : Frag} {sc : Scope} {σ : Store} {Q : D → Prop}

theorem con_dup {n : Nat} (d : Defs prog w H₀ K) {P : List (List Nat)} (hsz : P.length ≤ 1000) (h : Q (D.dict (fk (P.map S)))) : OpL prog w H₀ (n + 1) (fun vs => PySem.call (.ref d.aDup) vs) [.lst (textsD P)] Q := by
  have e : textsD P = (P.map S).map D.str := by unfold textsD; rw [List.map_map]; rfl
  rw [e]
  exact con_dedup d.dup d.X d.G.dict d.G.big d.fc (by rw [List.length_map, sizeLine_eq]; omega) h

/-- parts of a tree's page -/
theorem con_partsT {n wd : Nat} (d : Defs prog w H₀ K) (hw : 1 ≤ wd) {h : Row} {ks : List Tr} (g : Good (.node h ks)) (hsz : (text wd (.node h ks)).length < 1048576)
    (hq : Q (.tup [.str (S h), .lst (textsD (sortT (texts wd ks)))])) : OpL prog w H₀ (n + 2) (fun vs => PySem.call (.ref d.aPar) vs) [.str (S (text wd (.node h ks)))] Q := by
  have hp := kids_parts hw g
  have e : text wd (.node h ks) = joinNl (h :: indentFrom wd 0 ((sortT (texts wd ks)).flatMap splitNl)) := rfl
  rw [e] at hsz ⊢
  refine con_parts d.G d.par d.ded g.head.nl (fun r hr => ?_) (fun r hr => ?_) hsz (by rw [grp_page hp]; exact hq)
  · obtain ⟨t, ht, hr⟩ := List.mem_flatMap.mp hr
    exact (hp t ((sortT_perm _).mem_iff.mp ht)).rows r hr
  · cases e : sortT (texts wd ks) with
    | nil => rw [e] at hr; simp at hr
    | cons t ts =>
      obtain ⟨hd, rest, _, e2, gh, _⟩ := (hp t ((sortT_perm _).mem_iff.mp (by rw [e]; exact List.mem_cons_self))).ex
      rw [e, List.flatMap_cons, e2] at hr
      simp at hr
      rw [← hr]; exact gh.top

end
end Mine
end
section
open PySem PySem.W PySem.Calls PyProof.Rows

namespace Mine
section
variable {prog : Program} {w : World} {H₀ : Heap} {n : Nat} {Q : D → Prop}

/-- t[:2] of a tuple of three -/
theorem OpS.tup2 {d1 d2 d3 : D} (h : Q (.tup [d1, d2])) : OpS prog w H₀ n (.tup [d1, d2, d3]) none (some 2) none Q := by
  rintro A s av v vl vu vs sl Q' E rm hp ⟨a, us, rfl, na, ht, v1, _, rfl, z1, v2, _, rfl, z2, v3, _, rfl, z3, rfl⟩ pl pu ps hsl k
  cases pl
  cases ps
  obtain ⟨qu, rfl, eu⟩ := isPart_value pu
  cases qu with
  | none => cases eu
  | some q =>
    obtain ⟨i, u⟩ := q
    obtain rfl : i = 2 := Option.some.inj eu
    have ht' : IsTup s.heap a #[v1, v2, v3] := ht
    refine ⟨"tuple", _, ht.typeIs, F.slot_tuple_getitem.lookup, ?_⟩
    have kp : ∀ b o, s.heap.get? b = some o → (s.heap.push { cls := .type "tuple", data := .seq #[v1, v2] }).get? b = some o := fun b o e => Heap.get?_push_of_some _ e
    have fin : Q' (.ref s.heap.objs.size) { s with heap := s.heap.push { cls := .type "tuple", data := .seq #[v1, v2] } } :=
      k _ _ _ h ⟨_, [v1, v2], rfl, hp.fresh (get_size _), ⟨_, Heap.get?_push_size _ rfl, rfl, _, rfl⟩, v1, _, rfl, z1.keeps kp, v2, _, rfl, z2.keeps kp, rfl⟩ (Grow.push s _ s.toks)
    obtain ⟨os, hos, hcs, hds⟩ := id hsl
    have hds : os.data = .fields #[.none, .int 2 u, .none] := hds
    have hTs : s.TypeIs (.ref sl) "slice" := ⟨os, hos, hcs⟩
    unfold getItem
    try with_reducible refine wpAny_holding ?_
    first | refine wpAny_bind (wpAny_pure ?_) | skip
    refine wpAny_bind (wpAny_sequenceKey ht.typeIs (by decide) ?_)
    refine wpAny_bind (wpAny_callSpecial?_slot (name := Str.ofString "__getitem__") ht.typeIs PyProof.Rows.slot_tuple_getitem
      (wpAny_call_entry PyProof.Rows.slot_tuple_getitem ht.typeIs PyProof.Rows.entry_tuple_getitem ?_ (PyProof.Rows.args_tuple_getitem _ _)))
    show wpAny _ _ (Builtin.Tuple.tupleItemsOf (.ref a) >>= _) _ _ s
    refine wpAny_bind (tupleItemsOf_ ht' ?_)
    refine wpAny_bind (wpAny_typeOf hTs ?_)
    rw [if_pos (by decide)]
    refine wpAny_bind (m := Builtin.Slice.sliceApplied (.ref sl) (pure ((#[v1, v2, v3] : Array Value).size : Int))) ?_
    unfold Builtin.Slice.sliceApplied Builtin.Slice.sliceFields
    refine wpAny_bind (wpAny_bind (wpAny_field hos hds (x := .none) rfl (wpAny_bind (wpAny_field hos hds (x := .int 2 u) rfl (wpAny_bind (wpAny_field hos hds (x := .none) rfl (wpAny_pure ?_)))))))
    refine wpAny_bind (slicePart_none ?_)
    show wpAny _ _ (if ((1 : Int) == 0) = true then _ else _) _ _ s
    rw [if_neg (by decide)]
    refine wpAny_bind (slicePart_none (wpAny_bind (slicePart_int (wpAny_bind (wpAny_pure ?_)))))
    show wpAny _ _ (pure ((0 : Int), (1 : Int), (2 : Nat))) _ _ s
    refine wpAny_pure ?_
    show wpAny _ _ (if ((0 : Int) == 0 && (1 : Int) == 1 && (2 : Nat) == (#[v1, v2, v3] : Array Value).size) = true then _ else _) _ _ s
    rw [if_neg (by simp)]
    first
      | exact wpAny_bind (m := Builtin.Tuple.tupleExact _) (wpAny_newObj_type (wpAny_pure ⟨_, rfl, wpAny_pure fin⟩) (by show 2 ≤ sizeLine; decide))
      | exact wpAny_bind (m := Builtin.Tuple.tupleExact _) (wpAny_newObj_type (wpAny_bind (wpAny_pure (wpAny_pure ⟨_, rfl, wpAny_pure fin⟩))) (by show 2 ≤ sizeLine; decide))
      | exact wpAny_bind (wpAny_bind (m := Builtin.Tuple.tupleExact _) (wpAny_newObj_type (wpAny_pure (wpAny_pure ⟨_, rfl, wpAny_pure fin⟩)) (by show 2 ≤ sizeLine; decide)))
      | exact wpAny_bind (wpAny_bind (m := Builtin.Tuple.tupleExact _) (wpAny_newObj_type (wpAny_pure ⟨_, rfl, wpAny_pure fin⟩) (by show 2 ≤ sizeLine; decide)))

def decL (i : Int) : List Nat := (PySem.Str.ofString (toString i)).cps.toList
def fssT (file : List Nat) (line : Int) (name : List Nat) : List Nat :=
  if file = [126] ∧ line = 0 then (if (Txt.startswith (S name) (S [60]) && Txt.endswith (S name) (S [62])) = true then [123] ++ pick name (some 1) (some (-1)) none ++ [125] else name)
  else file ++ [58] ++ decL line ++ [40] ++ name ++ [41]

theorem con_std {fa : Addr} {file name : List Nat} {line : Int} (hf : Has prog w H₀ PP ("func_std_string" : PySem.Str) fa [("func_name" : PySem.Str)] []) (hfl : file.length ≤ 1000) (hnl : name.length ≤ 1000) (hln : line.natAbs.log2 < 1920) (hll : (PySem.Str.ofString (toString line)).length ≤ 100000)
    (h : Q (.str (S (fssT file line name)))) : OpL prog w H₀ (n + 1) (fun vs => PySem.call (.ref fa) vs) [.tup [.str (S file), .int line, .str (S name)]] Q := by
  refine OpL.has hf rfl (by decide) (by decide) ?_
  refine Ex.cons (ExS.if (EvB.cmp (Ev.slice (Ev.name (d := .tup [.str (S file), .int line, .str (S name)]) rfl ?_))))
  refine Ev.int ⟨_, rfl, OpS.tup2 ?_⟩
  refine Ev.tuple (EvL.cons (Ev.lit [126] (EvL.cons (Ev.int (EvL.nil ⟨by rw [sizeLine_eq]; simp, ?_⟩)))))
  refine Op2.eqTup (fun j d d' h1 h2 => ?_) ⟨_, rfl, ?_⟩
  · match j, h1, h2 with
    | 0, h1, h2 => cases h1; cases h2; rfl
    | 1, h1, h2 => cases h1; cases h2; rfl
    | j + 2, h1, h2 => simp at h1
  have e : feqs [D.str (S file), .int line] [.str (S [126]), .int 0] = decide (file = [126] ∧ line = 0) := by
    show ((feq (.str (S file)) (.str (S [126])) && (feq (.int line) (.int 0) && true)) && _) = _
    show (((S file == S [126]) && ((line == 0) && true)) && true) = _
    rw [S_beq, Bool.eq_iff_iff]
    simp
  rw [e]
  by_cases hc : file = [126] ∧ line = 0
  · rw [decide_eq_true hc]
    refine Ex.cons (ExS.assign (Ev.sub (Ev.name (d := .tup [.str (S file), .int line, .str (S name)]) rfl (Ev.int (OpI.tup (j := 2) (seqIndex_nat (by simp)) rfl (by omega) ?_)))))
    unfold fssT at h
    rw [if_pos hc] at h
    refine Ex.cons (ExS.if (EvB.mono (Q := fun b => b = (Txt.startswith (S name) (S [60]) && Txt.endswith (S name) (S [62]))) (EvB.and (EvB.val (Ev.meth (fun _ => "str.startswith") (Ev.name up0 ⟨Meth.startswith, EvL.cons (Ev.lit [60] (EvL.nil (OpL.startswith ⟨_, rfl, ?_⟩)))⟩)))) ?_))
    · cases Txt.startswith (S name) (S [60]) with
      | false => rfl
      | true =>
        refine EvB.and (EvB.val (Ev.meth (fun _ => "str.endswith") (Ev.name up0 ⟨Meth.endswith, EvL.cons (Ev.lit [62] (EvL.nil (OpL.endswith ⟨_, rfl, ?_⟩)))⟩)))
        cases Txt.endswith (S name) (S [62]) with
        | false => rfl
        | true => exact EvB.and_nil rfl
    · rintro b rfl
      cases hb : (Txt.startswith (S name) (S [60]) && Txt.endswith (S name) (S [62])) with
      | false =>
        rw [hb, if_neg Bool.false_ne_true] at h
        exact Ex.cons (ExS.ret (Ev.name (Store.fz_val up0) h))
      | true =>
        rw [hb, if_pos rfl] at h
        refine Ex.cons (ExS.ret (Ev.bin (Ev.str (Ev.slice (Ev.name (Store.fz_val up0) ?_)))))
        refine Ev.int ⟨_, rfl, Ev.un (Ev.int (Op1.neg ⟨_, rfl, OpS.str (by rw [sizeLine_eq]; omega) ?_⟩))⟩
        have hfmt : (PySem.Str.ofString "{%s}") = (⟨#[123, 37, 115, 125]⟩ : PySem.Str) := Mine.lit rfl
        rw [hfmt]
        have hlen : (pick name (some 1) (some (-1)) none).length ≤ name.length := by
          rw [pick_eq]; exact ((List.take_sublist _ _).trans (List.drop_sublist _ _)).length_le
        refine Op2.brace (by rw [S_len]; omega) ?_
        rw [show PySem.Str.ofString "{" = S [123] from Mine.lit rfl, show PySem.Str.ofString "}" = S [125] from Mine.lit rfl, S_append, S_append]
        exact h
  · rw [decide_eq_false hc]
    refine Ex.cons (ExS.ret (Ev.bin (Ev.str (Ev.name (d := .tup [.str (S file), .int line, .str (S name)]) rfl ?_))))
    have hfmt : (PySem.Str.ofString "%s:%d(%s)") = (⟨#[37, 115, 58, 37, 100, 40, 37, 115, 41]⟩ : PySem.Str) := Mine.lit rfl
    rw [hfmt]
    refine Op2.std (by rw [S_len]; omega) (by rw [S_len]; omega) hln hll ?_
    show Q _
    unfold fssT at h
    rw [if_neg hc] at h
    have e : S file ++ PySem.Str.ofString ":" ++ PySem.Str.ofString (toString line) ++ PySem.Str.ofString "(" ++ S name ++ PySem.Str.ofString ")" = S (file ++ [58] ++ decL line ++ [40] ++ name ++ [41]) := by
      rw [show PySem.Str.ofString ":" = S [58] from Mine.lit rfl, show PySem.Str.ofString "(" = S [40] from Mine.lit rfl, show PySem.Str.ofString ")" = S [41] from Mine.lit rfl]
      rw [show PySem.Str.ofString (toString line) = S (decL line) from (S_eta _).symm]
      simp only [S_append]
    rw [e]; exact h
end
end Mine
end
section
open PySem PySem.W PySem.Calls PyProof.Rows

namespace Mine
def Bd (N : Nat) (a : Int) : Prop := a.natAbs ≤ 2 ^ N
theorem Bd.mul {N M : Nat} {a b : Int} (h : Bd N a) (h' : Bd M b) : Bd (N + M) (a * b) := by
  unfold Bd at *
  rw [Int.natAbs_mul, Nat.pow_add]
  exact Nat.mul_le_mul h h'
theorem Bd.bits {N : Nat} {a : Int} (h : Bd N a) : Builtin.Int.intBits a ≤ N + 1 := by
  unfold Builtin.Int.intBits
  split
  · exact Nat.zero_le _
  · rename_i hz
    have h0 : a.natAbs ≠ 0 := by simpa using hz
    have h1 : a.natAbs < 2 ^ (N + 1) := by unfold Bd at h; rw [Nat.pow_succ]; omega
    exact (Nat.log2_lt h0).mpr h1
theorem mulOk_bd {N M : Nat} {a b : Int} (h : Bd N a) (h' : Bd M b) (hs : N + M + 2 ≤ 134217728) : IntMulOk a b := by
  have h1 := h.bits
  have h2 := h'.bits
  have : Builtin.Int.intTooBig (Builtin.Int.intBits a + Builtin.Int.intBits b) = false := by
    unfold Builtin.Int.intTooBig bitsLine
    exact decide_eq_false (by omega)
  unfold IntMulOk
  rw [this]
  simp

def cAt (cs : List Int) (i : Nat) : Int := cs[i]?.getD 0
theorem fmod_nat (x : Int) {m : Int} (hm : 0 < m) : x.fmod m = ((x.fmod m).toNat : Int) ∧ (x.fmod m).toNat < m.toNat := by
  have h1 := Int.fmod_nonneg_of_pos x hm
  have h2 := Int.fmod_lt_of_pos x hm
  constructor <;> omega
def natsD (l : List Nat) : List D := l.map fun k => D.int (k : Nat)
theorem cAt_get {l : List Int} {i : Nat} (h : i < l.length) : l[i]? = some (cAt l i) := by
  unfold cAt; rw [List.getElem?_eq_getElem h]; rfl
theorem lenI_get {l : List Int} {i : Nat} (h : i < l.length) : (l.map D.int)[i]? = some (.int (cAt l i)) := by
  rw [List.getElem?_map, cAt_get h]; rfl
theorem pick_map {α β : Type} (f : α → β) (l : List α) (lo hi st : Option Int) : pick (l.map f) lo hi st = (pick l lo hi st).map f := by
  unfold pick
  rw [List.length_map, List.map_filterMap]
  congr 1
  funext i
  rw [List.getElem?_map]

theorem swaps_is {sc : Scope} {elt : Expr} {gens : List Comprehension} {scope : Scope} {pos px : Pos} {x : PySem.Str} {line : Nat} {env : Env} {b : Bool} (h : env.scope = sc)
    (hb : ((if sc.kind.isAnnotationScope then ScopeKind.function else sc.kind) == .function && sc.names.lookup x == some .local && px.line == pos.line && !(scope.names.any fun (n, k) => n == x && (k == .local || k == .cell))) = b) :
    swapsWith (.ListComp elt gens scope pos) (some (.Name x px)) line env = pure b := by
  subst h; subst hb; rfl

section
variable {prog : Program} {w : World} {H₀ : Heap} {K : Frag} {n : Nat} {σ : Store} {sc : Scope}
/-- x = [elt for y in e], x a local name -/
theorem ExS.assignMap {x y : PySem.Str} {xp apos px : Pos} {elt e : Expr} {scope : Scope} {pos : Pos} {Q : Fl → Store → Prop} (co : CompOk scope sc) (hky : (relabelS scope sc).names.lookup y = some .local ∨ (relabelS scope sc).names.lookup y = some .cell) (hcap : ¬ capOf scope y)
    (h : Ev prog w H₀ sc n σ e fun d => ∃ ds tt, PyIt prog w H₀ n d ds tt ∧ tt (.Name y px) ∧ ds.length ≤ sizeLine ∧ ∃ f : D → D,
      (∀ d ∈ ds, Ev prog w H₀ (relabelS scope sc) n (upd (inner scope σ) y (.val d)) elt (fun z => z = f d)) ∧ Q .next (upd σ x (.val (.lst (ds.map f)))))
    (hb : ((if sc.kind.isAnnotationScope then ScopeKind.function else sc.kind) == .function && sc.names.lookup x == some .local && xp.line == pos.line && !(scope.names.any fun (n, k) => n == x && (k == .local || k == .cell))) = true)
    (hkind : sc.names.lookup x = some .local ∨ sc.names.lookup x = some .cell := by first | exact .inl rfl | exact .inr rfl)
    (hs : ∀ env x, foldedSetIterable e env x = pure x := by intro _ _; rfl) : ExS prog w H₀ sc n σ (.Assign [.Name x xp] (.ListComp elt [⟨.Name y px, e, [], 0⟩] scope pos) apos) Q := by
  refine ExS.assignComp co (h.mono fun d q => ?_) (fun env he => swaps_is he hb) hkind hs
  obtain ⟨ds, tt, pit, ht, hsz, f, step, fin⟩ := q
  refine ⟨ds, tt, pit, ht, hsz, fun k ys => ys = (ds.take k).map f, rfl, fun k d ys hd hJ => ?_, fun ys hJ => ?_⟩
  · refine AsOk.name ?_ hky hcap
    show Ev prog w H₀ _ n _ elt _
    refine (step d (List.mem_of_getElem? hd)).mono fun y hy => ?_
    show ys ++ [y] = (ds.take (k + 1)).map f
    rw [hJ, hy, List.take_add_one, hd]
    simp
  · rw [hJ, List.take_length]; exact fin

end
def keysI (l : KI) : List PySem.Str := l.map (·.1)
def gsum (G : PySem.Str → Int) (l : KI) : Int := (l.map fun p => p.2 * G p.1).sum
theorem gsum_app (G : PySem.Str → Int) (l m : KI) : gsum G (l ++ m) = gsum G l + gsum G m := by
  unfold gsum; rw [List.map_append, List.sum_append]
theorem any_key {l : KI} {k : PySem.Str} : (l.any fun p => p.1 = k) = true ↔ k ∈ keysI l := by
  unfold keysI
  rw [List.any_eq_true, List.mem_map]
  simp
theorem putI_keys (l : KI) (k : PySem.Str) (v : Int) : keysI (putI l k v) = ddStep (keysI l) k := by
  unfold putI ddStep
  by_cases h : k ∈ keysI l
  · rw [if_pos (any_key.mpr h), if_pos h]
    unfold keysI
    rw [List.map_map]
    apply List.map_congr_left
    intro p _
    show (if p.1 = k then (p.1, v) else p).1 = p.1
    split <;> rfl
  · rw [if_neg (fun q => h (any_key.mp q)), if_neg h]
    unfold keysI
    rw [List.map_append]; rfl
theorem putI_new {l : KI} {k : PySem.Str} {v : Int} (h : k ∉ keysI l) : putI l k v = l ++ [(k, v)] := by
  unfold putI; rw [if_neg fun q => h (any_key.mp q)]
theorem incI_keys (l : KI) (p : PySem.Str × Int) : keysI (incI l p) = ddStep (keysI l) p.1 := by
  unfold incI; split <;> exact putI_keys _ _ _
theorem ddStep_nodup {α : Type} [DecidableEq α] {l : List α} (h : l.Nodup) (x : α) : (ddStep l x).Nodup := by
  unfold ddStep
  split
  · exact h
  · rename_i hx
    exact List.nodup_append.mpr ⟨h, List.pairwise_singleton _ _, fun a ha b hb => by
      rw [List.mem_singleton] at hb; subst hb; intro e; subst e; exact hx ha⟩
theorem incI_nodup {l : KI} (h : (keysI l).Nodup) (p : PySem.Str × Int) : (keysI (incI l p)).Nodup := by
  rw [incI_keys]; exact ddStep_nodup h _
theorem putI_head {k : PySem.Str} {v u : Int} {l : KI} (h : k ∉ keysI l) : putI ((k, v) :: l) k u = (k, u) :: l := by
  unfold putI
  rw [if_pos (by simp)]
  rw [List.map_cons, if_pos rfl]
  congr 1
  have : l.map (fun p => if p.1 = k then (p.1, u) else p) = l.map id := by
    apply List.map_congr_left
    intro p hp
    exact if_neg fun e => h (by rw [← e]; exact List.mem_map_of_mem (f := (·.1)) hp)
  rw [this, List.map_id]
theorem putI_tail {k x : PySem.Str} {v u : Int} {l : KI} (h : x ≠ k) : putI ((x, v) :: l) k u = (x, v) :: putI l k u := by
  unfold putI
  rw [List.any_cons]
  have e : (decide ((x, v).1 = k)) = false := decide_eq_false h
  rw [e, Bool.false_or]
  split
  · rw [List.map_cons]
    rw [if_neg h]
  · rfl
theorem incI_gsum (G : PySem.Str → Int) : ∀ (l : KI), (keysI l).Nodup → ∀ p : PySem.Str × Int, gsum G (incI l p) = gsum G l + p.2 * G p.1
  | [], _, (k, v) => by
    rw [incI_none rfl, putI_new (by simp [keysI]), gsum_app]
    simp [gsum]
  | (x, u) :: l, h, (k, v) => by
    have hn := List.nodup_cons.mp h
    by_cases e : x = k
    · subst e
      have h1 : atI ((x, u) :: l) x = some u := by unfold atI; simp
      rw [incI_some h1, putI_head hn.1]
      unfold gsum
      rw [List.map_cons, List.map_cons, List.sum_cons, List.sum_cons]
      simp only
      rw [Int.add_mul]; omega
    · have h1 : atI ((x, u) :: l) k = atI l k := by
        unfold atI; rw [List.find?_cons]; simp [e]
      have h2 : incI ((x, u) :: l) (k, v) = (x, u) :: incI l (k, v) := by
        unfold incI
        simp only
        rw [h1]
        split <;> exact putI_tail e
      have ih := incI_gsum G l hn.2 (k, v)
      rw [h2]
      unfold gsum at *
      rw [List.map_cons, List.map_cons, List.sum_cons, List.sum_cons, ih]
      omega
theorem foldInc_gsum (G : PySem.Str → Int) : ∀ (s acc : KI), (keysI acc).Nodup → gsum G (s.foldl incI acc) = gsum G acc + gsum G s ∧ (keysI (s.foldl incI acc)).Nodup
  | [], acc, h => ⟨by simp [gsum], h⟩
  | p :: s, acc, h => by
    obtain ⟨h1, h2⟩ := foldInc_gsum G s (incI acc p) (incI_nodup h p)
    refine ⟨?_, h2⟩
    rw [List.foldl_cons, h1, incI_gsum G acc h p]
    unfold gsum
    rw [List.map_cons, List.sum_cons]; omega
theorem copyI_eq {t : KI} (h : (keysI t).Nodup) : copyI t = t := by
  have key : ∀ (t acc : KI), (keysI (acc ++ t)).Nodup → t.foldl (fun acc p => putI acc p.1 p.2) acc = acc ++ t := by
    intro t
    induction t with
    | nil => intro acc _; simp
    | cons p t ih =>
      intro acc h
      rw [List.foldl_cons]
      have hp : p.1 ∉ keysI acc := by
        intro q
        unfold keysI at h q
        rw [List.map_append, List.map_cons] at h
        exact (List.nodup_append.mp h).2.2 _ q _ List.mem_cons_self rfl
      rw [putI_new hp, ih (acc ++ [p]) (by rw [List.append_assoc]; exact h), List.append_assoc]; rfl
  exact key t [] h
theorem addI_gsum (G : PySem.Str → Int) {t s : KI} (h : (keysI t).Nodup) : gsum G (addI t s) = gsum G t + gsum G s := by
  unfold addI
  rw [copyI_eq h]
  exact (foldInc_gsum G s t h).1
theorem addI_one {t : KI} (h : (keysI t).Nodup) (p : PySem.Str × Int) : addI t [p] = incI t p := by
  unfold addI
  rw [copyI_eq h]; rfl
theorem sumI_eq (l : KI) : (l.map (·.2)).sum = gsum (fun _ => 1) l := by
  unfold gsum
  congr 1
  apply List.map_congr_left
  intro p _; simp
theorem DI_vals (l : KI) : (DI l).map (·.2) = (l.map (·.2)).map D.int := by
  unfold DI; rw [List.map_map, List.map_map]; rfl

def TK (T : List (List Nat × Int)) : KI := T.map fun p => (S p.1, p.2)
theorem keysTK (T : List (List Nat × Int)) : keysI (TK T) = (T.map (·.1)).map S := by
  unfold keysI TK; rw [List.map_map, List.map_map]; rfl
theorem gsum_TK (F : List Nat → Int) (T : List (List Nat × Int)) : gsum (fun k => F k.cps.toList) (TK T) = (T.map fun p => p.2 * F p.1).sum := by
  unfold gsum TK
  rw [List.map_map]; congr 1
theorem foldInc_keys : ∀ (s acc : KI), keysI (s.foldl incI acc) = (keysI s).foldl ddStep (keysI acc)
  | [], acc => rfl
  | p :: s, acc => by
    rw [List.foldl_cons, foldInc_keys s, incI_keys]; rfl
theorem dd_map {α β : Type} [DecidableEq α] [DecidableEq β] {f : α → β} (hf : ∀ a b, f a = f b → a = b) (l : List α) : dd (l.map f) = (dd l).map f := by
  refine list_rev_ind (P := fun l => dd (l.map f) = (dd l).map f) rfl (fun l x ih => ?_) l
  rw [List.map_append, List.map_singleton, dd_app, dd_app, ih]
  by_cases h : x ∈ dd l
  · rw [if_pos h, if_pos (List.mem_map_of_mem h)]
  · rw [if_neg h, if_neg (fun q => by obtain ⟨y, hy, e⟩ := List.mem_map.mp q; rw [hf y x e] at hy; exact h hy), List.map_append]; rfl
/-- the table from the list of all pages as they came -/
def tabOf (Z : List (List Nat × Int)) : KI := (TK Z).foldl incI []
theorem tabOf_nodup (Z : List (List Nat × Int)) : (keysI (tabOf Z)).Nodup := (foldInc_gsum (fun _ => 1) (TK Z) [] List.Pairwise.nil).2
theorem tabOf_keys (Z : List (List Nat × Int)) : keysI (tabOf Z) = (dd (Z.map (·.1))).map S := by
  unfold tabOf
  rw [foldInc_keys, keysTK, ← dd_map (fun a b e => S_inj e)]; rfl
theorem tabOf_snoc (Z : List (List Nat × Int)) (q : List Nat × Int) : tabOf (Z ++ [q]) = addI (tabOf Z) [(S q.1, q.2)] := by
  rw [addI_one (tabOf_nodup Z)]
  unfold tabOf TK
  rw [List.map_append, List.foldl_append]; rfl
theorem tabOf_len (Z : List (List Nat × Int)) : (tabOf Z).length ≤ Z.length := by
  have := foldl_length_le incI_length (TK Z) []
  unfold tabOf
  unfold TK at *
  rw [List.length_map] at this
  simpa using this
theorem tabOf_gsum (F : List Nat → Int) (Z : List (List Nat × Int)) : gsum (fun k => F k.cps.toList) (tabOf Z) = (Z.map fun p => p.2 * F p.1).sum := by
  rw [← gsum_TK]
  have := (foldInc_gsum (fun k => F k.cps.toList) (TK Z) [] List.Pairwise.nil).1
  unfold tabOf
  rw [this]; simp [gsum]
theorem fk_none (ts : List PySem.Str) : fk ts = ((fk ts).map (·.1)).map fun k => (k, D.none) := by
  have key : ∀ (ts : List PySem.Str) (l : KD), (∀ p ∈ l, p.2 = D.none) → ∀ p ∈ ts.foldl (fun l k => putD' l k .none) l, p.2 = D.none := by
    intro ts
    induction ts with
    | nil => intro l h; exact h
    | cons t ts ih =>
      intro l h
      refine ih _ fun p hp => ?_
      have hp : p ∈ putD' l t .none := hp
      unfold putD' at hp
      split at hp
      · obtain ⟨q, hq, rfl⟩ := List.mem_map.mp hp
        split
        · rfl
        · exact h q hq
      · rcases List.mem_append.mp hp with hp | hp
        · exact h p hp
        · rw [List.mem_singleton.mp hp]
  have h := key ts [] fun _ q => (nomatch q)
  rw [List.map_map]
  conv => lhs; rw [← List.map_id (fk ts)]
  apply List.map_congr_left
  intro p hp
  have := h p hp
  show p = (p.1, D.none)
  rw [← this]

end Mine
end
section
open PySem PySem.W PySem.Calls PyProof.Rows

namespace Mine
def linksD (ls : List (List Nat)) : D := .lst (ls.map fun l => .lst (natsD l))
/-- a call's text -/
def rowAt (tx : List Row) : Row → Row
  | [j] => tx.getD j []
  | _ => []
theorem neI_cast (a b : Nat) : ((a : Int) != (b : Int)) = !(a == b) := by
  rw [Bool.eq_iff_iff]
  simp only [bne_iff_ne, Bool.not_eq_true', beq_eq_false_iff_ne]
  omega
section
variable {prog : Program} {w : World} {H₀ : Heap} {K : Frag} {n : Nat} {Q : D → Prop}
set_option maxHeartbeats 1000000 in
theorem con_written {fa : Addr} {wd : Nat} {ls : List (List Nat)} {tx : List Row} (G : Gl H₀) (hf : Has prog w H₀ PP ("_law_written" : PySem.Str) fa [("call" : PySem.Str), ("other" : PySem.Str), ("links" : PySem.Str), ("texts" : PySem.Str), ("wide" : PySem.Str)] [])
    (hw3 : wd ≤ 3) (hls : ls.length = 6) (htx : tx.length = 6) (hin : ∀ l ∈ ls, ∀ j ∈ l, j < 6) : ∀ (m c o n : Nat) (Q : D → Prop), c < 6 → ends ls m c o = true → sz (drawn ls m c o) ≤ 6 → Heads 40 (mapTr (rowAt tx) (drawn ls m c o)) →
    Q (.lst (rowsD (rowsU wd (mapTr (rowAt tx) (drawn ls m c o))))) → OpL prog w H₀ (n + 1 + m) (fun vs => PySem.call (.ref fa) vs) [.int c, .int o, linksD ls, .lst (rowsD tx), .int wd] Q := by
  intro m
  induction m with
  | zero => intro c o n Q _ he; cases he
  | succ m ih =>
    intro c o n Q hc he hsz hh hQ
    refine OpL.has (n := n + 1 + m) hf rfl (by decide) (by decide) ?_
    obtain ⟨l, hl⟩ : ∃ l, ls[c]? = some l := ⟨_, List.getElem?_eq_getElem (by omega)⟩
    have hlD : ls.getD c [] = l := by rw [List.getD_eq_getElem?_getD, hl]; rfl
    obtain ⟨r, hr⟩ : ∃ r, tx[c]? = some r := ⟨_, List.getElem?_eq_getElem (by omega)⟩
    have hrD : rowAt tx [c] = r := by show tx.getD c [] = r; rw [List.getD_eq_getElem?_getD, hr]; rfl
    have hlin : ∀ j ∈ l, j < 6 := hin l (List.mem_of_getElem? hl)
    let p : Nat → Bool := fun j => !(j == o)
    let R : Nat → List Row := fun j => rowsU wd (mapTr (rowAt tx) (drawn ls m j c))
    have hT : drawn ls (m + 1) c o = .node [c] ((l.filter p).map fun j => drawn ls m j c) := by show Tr.node [c] (((ls.getD c []).filter _).map _) = _; rw [hlD]
    have hE : ∀ j ∈ l, p j = true → ends ls m j c = true := fun j hj hp => by
      have he : ((ls.getD c []).filter p).all (fun j => ends ls m j c) = true := he
      rw [hlD, List.all_eq_true] at he
      exact he j (List.mem_filter.mpr ⟨hj, hp⟩)
    have hrows : rowsU wd (mapTr (rowAt tx) (drawn ls (m + 1) c o)) = r :: indentFrom wd 0 ((l.filter p).flatMap R) := by
      rw [hT, mapTr_node, rowsU_node, hrD, List.map_map, List.flatMap_map]; rfl
    rw [hrows] at hQ
    have hkid : ∀ j ∈ l, p j = true → sz (drawn ls m j c) ≤ 6 ∧ Heads 40 (mapTr (rowAt tx) (drawn ls m j c)) := fun j hj hp => by
      have hmem : drawn ls m j c ∈ (l.filter p).map fun j => drawn ls m j c := List.mem_map_of_mem (List.mem_filter.mpr ⟨hj, hp⟩)
      refine ⟨?_, ?_⟩
      · rw [hT] at hsz
        have := szs_mem hmem
        have e : sz (.node [c] ((l.filter p).map fun j => drawn ls m j c)) = 1 + szs ((l.filter p).map fun j => drawn ls m j c) := rfl
        omega
      · rw [hT, mapTr_node] at hh
        exact hh.head.2 _ (List.mem_map_of_mem hmem)
    have hfull : ((l.filter p).flatMap R).length ≤ 5 := by
      have h1 := (rowsU_len (wd := wd) (B := 40) _ hh).1
      rw [hrows, mapTr_sz, List.length_cons, indent_len] at h1
      omega
    have hpre : ∀ k, (((l.take k).filter p).flatMap R).length ≤ 5 := fun k => by
      have e : (l.filter p).flatMap R = ((l.take k).filter p).flatMap R ++ ((l.drop k).filter p).flatMap R := by
        rw [← List.flatMap_append, ← List.filter_append, List.take_append_drop]
      rw [e, List.length_append] at hfull; omega
    refine Ex.cons (ExS.assignOwn (EvF.list (EvL.cons (Ev.sub (Ev.name (d := .lst (rowsD tx)) rfl (Ev.name (d := .int c) rfl (OpI.lst (j := c) (d := .str (S r)) (seqIndex_nat (by simp [rowsD]; omega)) (by rw [List.getElem?_map, hr]; rfl) (by omega) ?_)))))))
    refine EvL.nil ⟨by rw [sizeLine_eq]; simp, fun a => ?_⟩
    refine Ex.cons (ExS.for (fun _ => True) trivial (Ev.sub (Ev.name (d := linksD ls) rfl (Ev.name (d := .int c) rfl (OpI.lst (j := c) (d := .lst (natsD l)) (seqIndex_nat (by simp; omega)) (by rw [List.getElem?_map, hl]; rfl) (by omega) ?_)))))
    refine ⟨_, PyIt.list, fun k σ => σ ("rows" : PySem.Str) = some (.own a (rowsD (r :: indentFrom wd 0 (((l.take k).filter p).flatMap R)))) ∧ σ ("wide" : PySem.Str) = some (.val (.int wd)) ∧ σ ("call" : PySem.Str) = some (.val (.int c)) ∧ σ ("other" : PySem.Str) = some (.val (.int o)) ∧
      σ ("links" : PySem.Str) = some (.val (linksD ls)) ∧ σ ("texts" : PySem.Str) = some (.val (.lst (rowsD tx))), ⟨up0, rfl, rfl, rfl, rfl, rfl⟩, ?_, ?_⟩
    · rintro k d σ hd ⟨h1, h2, h3, h4, h5, h6⟩
      unfold natsD at hd
      rw [List.getElem?_map] at hd
      obtain ⟨j, hj, rfl⟩ := Option.map_eq_some_iff.mp hd
      have hjm := List.mem_of_getElem? hj
      have hj6 := hlin j hjm
      have htk : l.take (k + 1) = l.take k ++ [j] := by rw [List.take_add_one, hj]; rfl
      refine AsOk.name ?_
      refine Ex.cons (ExS.if (EvB.cmp (Ev.name up0 (Ev.name (up h4) (Op2.neI ⟨_, rfl, ?_⟩)))))
      rw [neI_cast]
      cases hp : (!(j == o)) with
      | false =>
        refine Ex.nil (Ex.nil ⟨?_, up h2, up h3, up h4, up h5, up h6⟩)
        have e0 : (l.take (k + 1)).filter p = (l.take k).filter p := by rw [htk, List.filter_append, List.filter_cons, if_neg (by show ¬ (!(j == o)) = true; rw [hp]; decide), List.filter_nil, List.append_nil]
        rw [e0]; exact up h1
      | true =>
        obtain ⟨k1, k2⟩ := hkid j hjm hp
        have e0 : ((l.take (k + 1)).filter p).flatMap R = ((l.take k).filter p).flatMap R ++ R j := by
          rw [htk, List.filter_append, List.filter_cons, if_pos (show p j = true from hp), List.filter_nil, List.flatMap_append, List.flatMap_cons, List.flatMap_nil, List.append_nil]
        refine Ex.cons (ExS.for (fun _ => True) trivial (Ev.def hf rfl (EvL.cons (Ev.name up0 (EvL.cons (Ev.name (up h3) (EvL.cons (Ev.name (up h5) (EvL.cons (Ev.name (up h6) (EvL.cons (Ev.name (up h2) (EvL.nil (ih j c n _ hj6 (hE j hjm hp) k1 k2 ?_))))))))))))))
        refine ⟨_, PyIt.list, fun i σ => σ ("rows" : PySem.Str) = some (.own a (rowsD (r :: indentFrom wd 0 (((l.take k).filter p).flatMap R ++ (R j).take i)))) ∧ σ ("wide" : PySem.Str) = some (.val (.int wd)) ∧ σ ("call" : PySem.Str) = some (.val (.int c)) ∧ σ ("other" : PySem.Str) = some (.val (.int o)) ∧
          σ ("links" : PySem.Str) = some (.val (linksD ls)) ∧ σ ("texts" : PySem.Str) = some (.val (.lst (rowsD tx))), ⟨?_, up h2, up h3, up h4, up h5, up h6⟩, ?_, ?_⟩
        · rw [List.take_zero, List.append_nil]; exact up h1
        · rintro i d σ hd ⟨h1, h2, h3, h4, h5, h6⟩
          rw [List.getElem?_map] at hd
          obtain ⟨x, hx, rfl⟩ := Option.map_eq_some_iff.mp hd
          have hxm : x ∈ R j := List.mem_of_getElem? hx
          have hxl : x.length ≤ 58 := by
            have h7 := (rowsU_len (wd := wd) (B := 40) _ k2).2 x hxm
            rw [mapTr_sz] at h7
            have : wd * sz (drawn ls m j c) ≤ 3 * 6 := Nat.mul_le_mul hw3 k1
            omega
          have hMl : (((l.take k).filter p).flatMap R ++ (R j).take i).length ≤ 5 := by
            have h7 := hpre (k + 1)
            rw [e0, List.length_append] at h7
            rw [List.length_append, List.length_take]; omega
          have e3 : (R j).take (i + 1) = (R j).take i ++ [x] := by rw [List.take_add_one, hx]; rfl
          generalize hM : (((l.take k).filter p).flatMap R ++ (R j).take i) = M at *
          have hlenD : (rowsD (r :: indentFrom wd 0 M)).length = M.length + 1 := by simp [rowsD, indent_len]
          refine AsOk.name ?_
          refine Ex.cons (ExS.assign (Ev.mono (Q := fun d => d = D.str (S [leadOf M.length])) (Ev.ifexp (EvB.borrow (up h1) (EvB.cmp (Ev.call G.len (.inl ⟨_, rfl⟩) rfl (EvL.cons (Ev.name up0 (EvL.nil (OpL.lenL (by omega) (Ev.int (Op2.eqI ⟨_, rfl, ?_⟩)))))))))) ?_))
          · rw [hlenD]
            by_cases hm : M.length = 1
            · rw [show (((M.length + 1 : Nat) : Int) == 2) = true by rw [hm]; rfl]
              refine Ev.lit [46] ?_
              unfold leadOf; rw [if_pos hm]
            · rw [show (((M.length + 1 : Nat) : Int) == 2) = false by rw [beq_eq_false_iff_ne]; omega]
              refine Ev.lit [32] ?_
              unfold leadOf; rw [if_neg hm]
          · rintro d rfl
            refine Ex.cons (ExS.append (up (up h1)) (Ev.bin (Ev.bin (Ev.name up0 (Ev.name (up (up h2)) (Op2.mulS (by simp; omega) (by omega) (Ev.name (up up0) (Op2.addS (by rw [flatten_rep, List.length_replicate, sizeLine_eq]; omega) ⟨by rw [hlenD, sizeLine_eq]; omega, ?_⟩))))))))
            refine Ex.nil ⟨?_, up (up (up h2)), up (up (up h3)), up (up (up h4)), up (up (up h5)), up (up (up h6))⟩
            rw [e3, ← List.append_assoc, hM, flatten_rep, indent_app, Nat.zero_add]
            have : rowsD (r :: (indentFrom wd 0 M ++ indentFrom wd M.length [x])) = rowsD (r :: indentFrom wd 0 M) ++ [D.str (S (List.replicate wd (leadOf M.length) ++ x))] := by simp [rowsD, indentFrom]
            rw [this]
            exact up0
        · rintro σ ⟨h1, h2, h3, h4, h5, h6⟩
          refine Ex.nil (Ex.nil ⟨?_, h2, h3, h4, h5, h6⟩)
          rw [List.length_map, List.take_length] at h1
          rw [e0]; exact h1
    · rintro σ ⟨h1, _⟩
      unfold natsD at h1
      rw [List.length_map, List.take_length] at h1
      refine Ex.cons (ExS.ret (Ev.name (Store.fz_own h1) ?_))
      exact hQ
end
end Mine
end
section
open PySem PySem.W PySem.Calls PyProof.Rows

namespace Mine
section
variable {prog : Program} {w : World} {H₀ : Heap} {K : Frag} {n : Nat} {Q : D → Prop}
/-- parts of a page as it is drawn -/
theorem con_partsU {wd : Nat} (d : Defs prog w H₀ K) (hw : 1 ≤ wd) {h : Row} {ks : List Tr} (g : Good (.node h ks)) (hsz : (textU wd (.node h ks)).length < 1048576)
    (hq : Q (.tup [.str (S h), .lst (textsD (ks.map (textU wd)))])) : OpL prog w H₀ (n + 2) (fun vs => PySem.call (.ref d.aPar) vs) [.str (S (textU wd (.node h ks)))] Q := by
  have e : textU wd (.node h ks) = joinNl (h :: indentFrom wd 0 (ks.flatMap (rowsU wd))) := by unfold textU; rw [rowsU_node]
  rw [e] at hsz ⊢
  refine con_parts d.G d.par d.ded g.head.nl (fun r hr => ?_) (fun r hr => ?_) hsz (by rw [grpU hw g.kids]; exact hq)
  · obtain ⟨k, hk, hr⟩ := List.mem_flatMap.mp hr
    exact rowsU_ok hw k (g.kids k hk) r hr
  · cases ks with
    | nil => cases hr
    | cons k ks =>
      have gk := g.kids k List.mem_cons_self
      obtain ⟨hk, kks⟩ := k
      rw [List.flatMap_cons, rowsU_node] at hr
      have : hk = r := by simpa using hr
      rw [← this]; exact gk.head.top
theorem con_settled {fa : Addr} {wd : Nat} (d : Defs prog w H₀ K) (hf : Has prog w H₀ PP ("_law_settled" : PySem.Str) fa [("page" : PySem.Str), ("wide" : PySem.Str)] [])
    (hw : 1 ≤ wd) (hw3 : wd ≤ 3) : ∀ (m : Nat) (t : Tr) (n : Nat) (Q : D → Prop), sz t ≤ m → sz t ≤ 6 → Good t → Heads 40 t → Q (.str (S (text wd t))) →
      OpL prog w H₀ (n + 3 + m) (fun vs => PySem.call (.ref fa) vs) [.str (S (textU wd t)), .int wd] Q := by
  intro m
  induction m with
  | zero => intro t n Q hm; have := sz_pos t; omega
  | succ m ih =>
    intro t n Q hm h6 g hh hQ
    obtain ⟨h, ks⟩ := t
    have e0 : sz (.node h ks) = 1 + szs ks := rfl
    have hkl := szs_len ks
    refine OpL.has (n := n + 3 + m) hf rfl (by decide) (by decide) ?_
    refine Ex.cons (ExS.assignT (Ev.def d.par rfl (EvL.cons (Ev.name (d := .str (S (textU wd (.node h ks)))) rfl (EvL.nil (OpL.level (m := n + 2) (con_partsU d hw g (textU_small hw3 hh h6) ?_) (by omega)))))))
    refine AsOk.pair (AsOk.name (AsOk.name ?_))
    refine Ex.cons (ExS.ret (Ev.def d.pag rfl (EvL.cons (Ev.name (Store.fz_val (up up0)) (EvL.cons (Ev.comp ⟨rfl, by decide, by decide⟩ (Ev.name (Store.fz_val up0) ?_)))))))
    refine ⟨_, fun _ => True, PyIt.list, trivial, by rw [List.length_map, List.length_map, sizeLine_eq]; omega, fun k ys => ys = textsD (texts wd (ks.take k)), rfl, fun k x ys hx hJ => ?_, fun ys hJ => ?_⟩
    · rw [List.getElem?_map, List.getElem?_map] at hx
      obtain ⟨tx, htx, rfl⟩ := Option.map_eq_some_iff.mp hx
      obtain ⟨c, hc, rfl⟩ := Option.map_eq_some_iff.mp htx
      have hcm := List.mem_of_getElem? hc
      have hcs := szs_mem hcm
      refine AsOk.name ?_ (.inl rfl) (by decide)
      show Ev prog w H₀ _ (n + 3 + m) _ _ _
      refine Ev.def hf rfl (EvL.cons (Ev.name up0 (EvL.cons (Ev.name (d := .int wd) (up (inner_val (Store.fz_val rfl) rfl)) (EvL.nil (ih c n _ (by omega) (by omega) (g.kids c hcm) (hh.head.2 c hcm) ?_))))))
      show ys ++ [_] = _
      rw [hJ]
      have : ks.take (k + 1) = ks.take k ++ [c] := by rw [List.take_add_one, hc]; rfl
      rw [this, texts_map, texts_map, List.map_append]
      simp
    · rw [List.length_map, List.length_map, List.take_length] at hJ
      rw [hJ]
      refine EvL.cons (Ev.name (d := .int wd) (Store.fz_val rfl) (EvL.nil (OpL.level (m := n + 2 + m + 1) (con_page d.G d.pag hw3 ?_ ?_ ?_ ?_) (by omega))))
      · rw [texts_map, List.length_map]; omega
      · intro t ht
        have hp := kids_parts hw g
        have h1 := part_le (wd := wd) (h := h) hp ht
        have h2 := text_small6 hw hw3 g hh h6
        have e : text wd (.node h ks) = pageT wd h (texts wd ks) := rfl
        rw [e] at h2; omega
      · exact text_small6 hw hw3 g hh h6
      · exact hQ
end
end Mine
end
section
open PySem PySem.W PySem.Calls PyProof.Rows

namespace Mine
theorem szAdd {a b m n : Nat} (ha : a ≤ m) (hb : b ≤ n) (h : m + n ≤ 100 := by decide) : a + b ≤ sizeLine := by rw [sizeLine_eq]; omega
theorem szOne {a m : Nat} (ha : a ≤ m) (h : m ≤ 100 := by decide) : a ≤ sizeLine := by rw [sizeLine_eq]; omega
theorem lenTD {wd m : Nat} {l : List Tr} (h : l.length ≤ m) : (textsD (texts wd l)).length ≤ m := by rw [List.length_map, texts_map, List.length_map]; exact h
theorem lenTT {f : Tr → List Nat} {m : Nat} {l : List Tr} (h : l.length ≤ m) : (textsD (l.map f)).length ≤ m := by rw [List.length_map, List.length_map]; exact h
theorem lenTP {f : Tr × Tr → List Nat} {m : Nat} {l : List (Tr × Tr)} (h : l.length ≤ m) : (textsD (l.map f)).length ≤ m := by rw [List.length_map, List.length_map]; exact h
theorem lenTX {m : Nat} {l : List (List Nat)} (h : l.length ≤ m) : (textsD l).length ≤ m := by rw [List.length_map]; exact h
theorem lenTk {α : Type} {l : List α} {k m : Nat} (h : l.length ≤ m) : (l.take k).length ≤ m := by rw [List.length_take]; omega
theorem lenDr {α : Type} {l : List α} {k m : Nat} (h : l.length ≤ m) : (l.drop k).length ≤ m := by rw [List.length_drop]; omega
theorem lenAp {α : Type} {a b : List α} {m n : Nat} (ha : a.length ≤ m) (hb : b.length ≤ n) : (a ++ b).length ≤ m + n := by rw [List.length_append]; omega
theorem smallK {k m : Nat} (h : k < m) (hm : m ≤ 6) : -(2 ^ 62) ≤ (k : Int) ∧ (k : Int) < 2 ^ 62 := by omega
theorem len_of_app {α β : Type} {X : List α} {A : List β} {B : List β} {f : β → α} {m : Nat} (e : X ++ A.map f = B.map f) (h : B.length ≤ m) : X.length ≤ m := by
  have := congrArg List.length e
  rw [List.length_append, List.length_map, List.length_map] at this; omega
theorem text_small5 {wd : Nat} (hw : 1 ≤ wd) (hw3 : wd ≤ 3) {t : Tr} (g : Good t) (hb : Heads 40 t) (hs : sz t ≤ 5) : (text wd t).length < 210000 := by
  have h1 := text_bound hw t g hb
  have h2 : (wd + 1) ^ sz t ≤ 4 ^ 5 := Nat.le_trans (Nat.pow_le_pow_left (by omega) _) (Nat.pow_le_pow_right (by decide) hs)
  have h3 : sz t * (wd + 1) ^ sz t ≤ 5 * 4 ^ 5 := Nat.mul_le_mul hs h2
  omega
section
variable {prog : Program} {w : World} {H₀ : Heap} {K : Frag} {n : Nat} {σ : Store} {sc : Scope} {Q : D → Prop}
/-- '\n\n'.join of two texts, sorted -/
theorem OpL.joinTie {a b : List Nat} (ha : a.length < 400000) (hb : b.length < 400000) (h : Q (.str (S (tieT a b)))) : OpL prog w H₀ n (fun vs => call (.builtin "str.join") vs) [.str (S [10, 10]), .lst ((sortT [a, b]).map fun a => D.str (S a))] Q := by
  have e : ((sortT [a, b]).map fun r => D.str (S r)) = ((sortT [a, b]).map S).map D.str := by rw [List.map_map]; rfl
  rw [e]
  refine OpL.join (joinOk_of_weight ?_ (by simp)) ?_
  · rw [sort2]; split <;> simp <;> omega
  · have : PySem.Str.join (S [10, 10]) ((sortT [a, b]).map S) = S (tieT a b) := by
      rw [sort2]
      unfold tieT glue
      split
      · show S a ++ S [10, 10] ++ S b = _
        rw [S_append, S_append]; simp
      · show S b ++ S [10, 10] ++ S a = _
        rw [S_append, S_append]; simp
    rw [this]; exact h
set_option maxHeartbeats 1000000 in
theorem con_round {fa : Addr} {wd : Nat} (d : Defs prog w H₀ K) (hf : Has prog w H₀ PP ("_law_round" : PySem.Str) fa [("page" : PySem.Str), ("behind" : PySem.Str), ("wide" : PySem.Str)] [])
    (hw : 1 ≤ wd) (hw3 : wd ≤ 3) : ∀ (m : Nat) (t : Tr) (b : List Tr) (n : Nat) (Q : D → Prop), sz t ≤ m → sz t + szs b ≤ 6 → Srt wd t → Good t → Heads 40 t → (∀ x ∈ b, Good x ∧ Heads 40 x) →
      Q (.tup [.lst (textsD ((pg t b).map (text wd))), .lst (textsD ((eg t b).map (keyT wd)))]) →
      OpL prog w H₀ (n + 3 + m) (fun vs => PySem.call (.ref fa) vs) [.str (S (text wd t)), .lst (textsD (texts wd b)), .int wd] Q := by
  intro m
  induction m with
  | zero => intro t b n Q hm; have := sz_pos t; omega
  | succ m ih =>
    intro t b n Q hm h6 hsr g hh hb hQ
    obtain ⟨h, ks⟩ := t
    have e0 : sz (.node h ks) = 1 + szs ks := rfl
    have hkl := szs_len ks
    have hbl := szs_len b
    have G := d.G
    obtain ⟨hsrt, hsk⟩ := hsr.out
    have tapp : ∀ a b : List Tr, texts wd (a ++ b) = texts wd a ++ texts wd b := fun a b => by rw [texts_map, texts_map, texts_map, List.map_append]
    have tlen : ∀ l : List Tr, (texts wd l).length = l.length := fun l => by rw [texts_map, List.length_map]
    obtain ⟨hpgs, hegs, hpl, hel⟩ := pg_sz (.node h ks) b
    have hs6 : sz (.node h ks) ≤ 6 := Nat.le_trans (Nat.le_add_right _ _) h6
    have hp6 : (pg (.node h ks) b).length ≤ 6 := Nat.le_trans (Nat.le_of_eq hpl) hs6
    have hq6 : (eg (.node h ks) b).length ≤ 6 := Nat.le_trans (Nat.le_succ _) (Nat.le_trans (Nat.le_of_eq hel) hs6)
    have hk6 : ks.length ≤ 6 := Nat.le_trans hkl (Nat.le_trans (Nat.le_add_left _ 1) hs6)
    have hb6 : b.length ≤ 6 := Nat.le_trans hbl (Nat.le_trans (Nat.le_add_left _ _) h6)
    -- a page of some of the kids
    have page : ∀ (L : List Tr) (n' : Nat) (Q' : D → Prop), 1 + szs L ≤ 6 → (∀ x ∈ L, Good x ∧ Heads 40 x) → Q' (.str (S (text wd (.node h L)))) → OpL prog w H₀ (n' + 1) (fun vs => PySem.call (.ref d.aPag) vs) [.str (S h), .lst (textsD (texts wd L)), .int wd] Q' := fun L n' Q' hL hg hq => by
      have gL : Good (.node h L) := .node g.head fun k hk => (hg k hk).1
      have hL' : Heads 40 (.node h L) := .node hh.head.1 fun k hk => (hg k hk).2
      have hs : sz (.node h L) ≤ 6 := hL
      have hll := szs_len L
      refine con_page G d.pag hw3 (by rw [tlen]; omega) ?_ (text_small6 hw hw3 gL hL' hs) hq
      intro t ht
      have h1 := part_le (wd := wd) (h := h) (kids_parts hw gL) ht
      have h2 := text_small6 hw hw3 gL hL' hs
      have e : text wd (.node h L) = pageT wd h (texts wd L) := rfl
      rw [e] at h2; omega
    have hks : ∀ x ∈ ks, Good x ∧ Heads 40 x := fun x hx => ⟨g.kids x hx, hh.head.2 x hx⟩
    refine OpL.has (n := n + 3 + m) hf rfl (by decide) (by decide) ?_
    refine Ex.cons (ExS.assignT (Ev.def d.par rfl (EvL.cons (Ev.name (d := .str (S (text wd (.node h ks)))) rfl (EvL.nil (OpL.level (m := n + 2) (con_partsT d hw g (text_small6 hw hw3 g hh hs6) ?_) (by omega)))))))
    rw [hsrt]
    refine AsOk.pair (AsOk.name (AsOk.name ?_))
    refine Ex.cons (ExS.assign (Ev.list (EvL.cons (Ev.def d.pag rfl (EvL.cons (Ev.name (up up0) (EvL.cons (Ev.bin (Ev.name up0 (Ev.name (d := .lst (textsD (texts wd b))) rfl (Op2.addL (szAdd (lenTD hk6) (lenTD hb6)) ?_)))))))))))
    have eL : textsD (texts wd ks) ++ textsD (texts wd b) = textsD (texts wd (ks ++ b)) := by unfold textsD; rw [tapp, List.map_append]
    rw [eL]
    refine EvL.cons (Ev.name (d := .int wd) rfl (EvL.nil (OpL.level (m := n + 2 + m + 1) (page (ks ++ b) _ _ (by rw [szs_app]; omega) (fun x hx => (List.mem_append.mp hx).elim (hks x) (hb x)) (EvL.nil ⟨szOne (m := 1) (Nat.le_refl 1), ?_⟩)) (by omega))))
    refine Ex.cons (ExS.assignOwn (EvF.list (EvL.nil ⟨by simp, fun a => ?_⟩)))
    refine Ex.cons (ExS.for (fun _ => True) trivial (Ev.call G.range (.inr (.inl ⟨_, rfl⟩)) rfl (EvL.cons (Ev.call G.len (.inl ⟨_, rfl⟩) rfl (EvL.cons (Ev.name (up (up up0)) (EvL.nil (OpL.lenL (Nat.lt_of_le_of_lt (lenTD hk6) (by decide)) (EvL.nil (OpL.range ?_))))))))))
    have el : (textsD (texts wd ks)).length = ks.length := by rw [List.length_map, tlen]
    rw [el]
    refine ⟨_, PyIt.rng (by omega), fun k σ => ∃ X Y a, σ ("pages" : PySem.Str) = some (.val (.lst (textsD X))) ∧ X ++ (pgL h (ks.take k) (ks.drop k) b).map (text wd) = (pg (.node h ks) b).map (text wd) ∧ σ ("pairs" : PySem.Str) = some (.own a (textsD Y)) ∧ Y ++ (egL h (ks.take k) (ks.drop k) b).map (keyT wd) = (eg (.node h ks) b).map (keyT wd) ∧
      σ ("head" : PySem.Str) = some (.val (.str (S h))) ∧ σ ("parts" : PySem.Str) = some (.val (.lst (textsD (texts wd ks)))) ∧ σ ("behind" : PySem.Str) = some (.val (.lst (textsD (texts wd b)))) ∧ σ ("wide" : PySem.Str) = some (.val (.int wd)), ⟨[text wd (.node h (ks ++ b))], [], a, up up0, rfl, up0, rfl, up (up (up up0)), up (up up0), rfl, rfl⟩, ?_, ?_⟩
    · rintro k x σ hx ⟨X, Y, a, h1, e1, h2, e2, h3, h4, h5, h7⟩
      rw [List.getElem?_map] at hx
      obtain ⟨k', hk', rfl⟩ := Option.map_eq_some_iff.mp hx
      obtain ⟨hkk, hkr⟩ := List.getElem?_eq_some_iff.mp hk'
      rw [List.length_range] at hkk
      rw [List.getElem_range] at hkr
      subst hkr
      have hc : ks[k]? = some ks[k] := List.getElem?_eq_getElem hkk
      have hdrop : ks.drop k = ks[k] :: ks.drop (k + 1) := List.drop_eq_getElem_cons hkk
      have htake : ks.take (k + 1) = ks.take k ++ [ks[k]] := by rw [List.take_add_one, hc]; rfl
      have hcm : ks[k] ∈ ks := List.getElem_mem hkk
      generalize ks[k] = c at *
      let L : List Tr := ks.take k ++ ks.drop (k + 1) ++ b
      have hperm : ks.Perm (c :: (ks.take k ++ ks.drop (k + 1))) := by
        have : ks = ks.take k ++ c :: ks.drop (k + 1) := by rw [← hdrop, List.take_append_drop]
        conv => lhs; rw [this]
        exact List.perm_middle
      have hszL : szs L + sz c = szs ks + szs b := by
        show szs (ks.take k ++ ks.drop (k + 1) ++ b) + sz c = _
        rw [szs_app, szs_perm hperm]
        show _ = sz c + szs (ks.take k ++ ks.drop (k + 1)) + szs b
        omega
      have hcp := sz_pos c
      have hcs := szs_mem hcm
      have hLg : ∀ x ∈ L, Good x ∧ Heads 40 x := fun x hx => by
        rcases List.mem_append.mp hx with hx | hx
        · rcases List.mem_append.mp hx with hx | hx
          · exact hks x (List.mem_of_mem_take hx)
          · exact hks x (List.mem_of_mem_drop hx)
        · exact hb x hx
      have gL : Good (.node h L) := .node g.head fun k hk => (hLg k hk).1
      have hL' : Heads 40 (.node h L) := .node hh.head.1 fun k hk => (hLg k hk).2
      have hsL : sz (.node h L) = 1 + szs L := rfl
      obtain ⟨gc, hhc⟩ := hks c hcm
      have lc := text_small5 hw hw3 gc hhc (by omega)
      have lL := text_small5 hw hw3 gL hL' (by omega)
      have lenX : X.length ≤ 6 := len_of_app e1 hp6
      have lenY : Y.length ≤ 6 := len_of_app e2 hq6
      obtain ⟨_, _, cpl, cel⟩ := pg_sz c [.node h L]
      have hc6 : sz c ≤ 6 := Nat.le_trans hcs (Nat.le_trans (Nat.le_add_left _ 1) hs6)
      have he6 : (eg c [.node h L]).length ≤ 6 := Nat.le_trans (Nat.le_succ _) (Nat.le_trans (Nat.le_of_eq cel) hc6)
      have hkE : k < (textsD (texts wd ks)).length := el ▸ hkk
      refine AsOk.name ?_
      refine Ex.cons (ExS.assign (Ev.def d.pag rfl (EvL.cons (Ev.name (up h3) (EvL.cons (Ev.bin (Ev.bin (Ev.slice (Ev.name (up h4) ?_)))))))))
      refine Ev.name up0 ⟨_, rfl, OpS.lst (by simp) (szOne (lenTD hk6)) ?_⟩
      rw [pick_to']
      refine Ev.slice (Ev.name (up h4) ?_)
      refine Ev.bin (Ev.name up0 (Ev.int (Op2.add ⟨_, rfl, OpS.lst (by simp) (szOne (lenTD hk6)) ?_⟩)))
      rw [pick_from']
      refine Op2.addL (szAdd (lenTk (lenTD hk6)) (lenDr (lenTD hk6))) ?_
      refine Ev.name (up h5) (Op2.addL (szAdd (lenAp (lenTk (lenTD hk6)) (lenDr (lenTD hk6))) (lenTD hb6)) ?_)
      have eLL : (textsD (texts wd ks)).take k ++ (textsD (texts wd ks)).drop (k + 1) ++ textsD (texts wd b) = textsD (texts wd L) := by
        show _ = textsD (texts wd (ks.take k ++ ks.drop (k + 1) ++ b))
        rw [tapp, tapp]
        simp only [textsD, texts_map, List.map_append, List.map_take, List.map_drop]
      rw [eLL]
      refine EvL.cons (Ev.name (up h7) (EvL.nil (OpL.level (m := n + 2 + m + 1) (page L _ _ (by omega) hLg ?_) (by omega))))
      have hcD : (textsD (texts wd ks))[k]? = some (D.str (S (text wd c))) := by rw [List.getElem?_map, texts_map, List.getElem?_map, hc]; rfl
      refine Ex.cons (ExS.append (up (up h2)) (Ev.meth (fun _ => "str.join") (Ev.lit [10, 10] ⟨Meth.join, ?_⟩)))
      refine EvL.cons (Ev.call G.sorted (.inl ⟨_, rfl⟩) rfl (EvL.cons (Ev.list (EvL.cons (Ev.name up0 ?_)))))
      refine EvL.cons (Ev.sub (Ev.name (up (up h4)) (Ev.name (up up0) (OpI.lst (j := k) (seqIndex_nat hkE) hcD (smallK hkk hk6) ?_))))
      refine EvL.nil ⟨szOne (m := 2) (Nat.le_refl 2), EvL.nil (OpL.sorted (ts := [text wd (.node h L), text wd c]) (by simp) (EvL.nil (OpL.joinTie (Nat.lt_trans lL (by decide)) (Nat.lt_trans lc (by decide)) ⟨szOne (lenTX lenY), ?_⟩)))⟩
      refine Ex.cons (ExS.assignT (Ev.def hf rfl (EvL.cons (Ev.sub (Ev.name (up (up (up h4))) (Ev.name (up (up up0)) (OpI.lst (j := k) (seqIndex_nat hkE) hcD (smallK hkk hk6) ?_)))))))
      refine EvL.cons (Ev.list (EvL.cons (Ev.name (up up0) (EvL.nil ⟨szOne (m := 1) (Nat.le_refl 1), ?_⟩))))
      refine EvL.cons (Ev.name (up (up (up h7))) (EvL.nil (ih c [.node h L] n _ (by omega) ?_ (hsk c hcm) gc hhc (fun x hx => by rw [List.mem_singleton.mp hx]; exact ⟨gL, hL'⟩) ?_)))
      · show sz c + (sz (.node h L) + 0) ≤ 6
        omega
      refine AsOk.pair (AsOk.name (AsOk.name ?_))
      refine Ex.cons (ExS.assign (Ev.bin (Ev.name (up (up (up (up (up h1))))) (Ev.name (up up0) (Op2.addL (szAdd (lenTX lenX) (lenTT (Nat.le_trans (Nat.le_of_eq cpl) hc6))) ?_)))))
      refine Ex.cons (ExS.assignOwn (EvF.addOwn (up (up (up up0))) (Ev.name (up up0) ⟨_, rfl, szAdd (lenAp (n := 1) (lenTX lenY) (Nat.le_refl 1)) (lenTP he6), fun a' => ?_⟩)))
      refine Ex.nil ⟨X ++ (pg c [.node h L]).map (text wd), Y ++ [keyT wd (.node h L, c)] ++ (eg c [.node h L]).map (keyT wd), a', ?_, ?_, ?_, ?_, up (up (up (up (up (up (up h3)))))), up (up (up (up (up (up (up h4)))))), up (up (up (up (up (up (up h5)))))), up (up (up (up (up (up (up h7))))))⟩
      · have : textsD (X ++ (pg c [.node h L]).map (text wd)) = textsD X ++ textsD ((pg c [.node h L]).map (text wd)) := by unfold textsD; rw [List.map_append]
        rw [this]; exact up up0
      · rw [← e1, htake, hdrop, List.append_assoc]
        show _ = X ++ (pg c [.node h L] ++ pgL h (ks.take k ++ [c]) (ks.drop (k + 1)) b).map (text wd)
        rw [List.map_append]
      · have : textsD (Y ++ [keyT wd (.node h L, c)] ++ (eg c [.node h L]).map (keyT wd)) = textsD Y ++ [D.str (S (keyT wd (.node h L, c)))] ++ textsD ((eg c [.node h L]).map (keyT wd)) := by unfold textsD; simp
        rw [this]; exact up0
      · rw [← e2, htake, hdrop, List.append_assoc, List.append_assoc]
        show _ = Y ++ ((.node h L, c) :: (eg c [.node h L] ++ egL h (ks.take k ++ [c]) (ks.drop (k + 1)) b)).map (keyT wd)
        rw [List.map_cons, List.map_append]; rfl
    · rintro σ ⟨X, Y, a, h1, e1, h2, e2, _⟩
      rw [List.length_map, List.length_range, List.drop_length] at e1 e2
      have e1' : X = (pg (.node h ks) b).map (text wd) := by rw [← e1]; show X = X ++ []; rw [List.append_nil]
      have e2' : Y = (eg (.node h ks) b).map (keyT wd) := by rw [← e2]; show Y = Y ++ []; rw [List.append_nil]
      refine Ex.cons (ExS.ret (Ev.tuple (EvL.cons (Ev.name (Store.fz_val h1) (EvL.cons (Ev.name (Store.fz_own h2) (EvL.nil ⟨szOne (m := 2) (Nat.le_refl 2), ?_⟩)))))))
      rw [e1', e2']; exact hQ
end
end Mine
end
section
open PySem PySem.W PySem.Calls PyProof.Rows

namespace Mine
/-! the turns of a page, as _law_turns tells them -/
def facN : Nat → Nat
  | 0 => 1
  | k + 1 => facN k * (k + 1)
/-- each unlike one as often as it is there, all its orders -/
def turnsF (f : List Nat → Nat) (P : List (List Nat)) (u : List Nat) : Nat := f u ^ P.count u * facN (P.count u)
def prodN (l : List Nat) : Nat := l.foldr (· * ·) 1
theorem prodN_cons (a : Nat) (l : List Nat) : prodN (a :: l) = a * prodN l := rfl
theorem prodN_app : ∀ a b : List Nat, prodN (a ++ b) = prodN a * prodN b
  | [], b => by show prodN b = 1 * prodN b; omega
  | x :: a, b => by rw [List.cons_append, prodN_cons, prodN_cons, prodN_app a b, Nat.mul_assoc]
theorem prodN_congr {α : Type} {f g : α → Nat} : ∀ {l : List α}, (∀ x ∈ l, f x = g x) → prodN (l.map f) = prodN (l.map g)
  | [], _ => rfl
  | a :: l, h => by rw [List.map_cons, List.map_cons, prodN_cons, prodN_cons, h a List.mem_cons_self, prodN_congr fun x hx => h x (List.mem_cons_of_mem _ hx)]
theorem prodN_one {α : Type} {f : α → Nat} {l : List α} (h : ∀ x ∈ l, f x = 1) : prodN (l.map f) = 1 := by
  rw [prodN_congr (g := fun _ => 1) h]
  induction l with
  | nil => rfl
  | cons a l ih => rw [List.map_cons, prodN_cons, ih fun x hx => h x (List.mem_cons_of_mem _ hx)]
theorem prodN_turn (f : List Nat → Nat) (p : List Nat) (P : List (List Nat)) : ∀ U : List (List Nat), U.Nodup → p ∈ U → prodN (U.map (turnsF f (p :: P))) = f p * (P.count p + 1) * prodN (U.map (turnsF f P))
  | u :: U, hn, hp => by
    have other : ∀ x, x ≠ p → turnsF f (p :: P) x = turnsF f P x := fun x hx => by
      unfold turnsF; rw [List.count_cons_of_ne (fun e => hx e.symm)]
    rw [List.map_cons, List.map_cons, prodN_cons, prodN_cons]
    have hn' := List.nodup_cons.mp hn
    by_cases hu : u = p
    · subst hu
      rw [prodN_congr (g := turnsF f P) fun x hx => other x fun e => hn'.1 (e ▸ hx)]
      unfold turnsF
      rw [List.count_cons_self, Nat.pow_succ]
      show f u ^ P.count u * f u * (facN (P.count u) * (P.count u + 1)) * _ = f u * (P.count u + 1) * (f u ^ P.count u * facN (P.count u) * _)
      generalize prodN _ = z
      generalize f u ^ P.count u = x
      generalize facN (P.count u) = y
      generalize P.count u + 1 = c
      simp only [Nat.mul_comm, Nat.mul_left_comm, Nat.mul_assoc]
    · rw [other u hu, prodN_turn f p P U hn'.2 ((List.mem_cons.mp hp).resolve_left fun e => hu e.symm)]
      generalize prodN _ = z
      simp only [Nat.mul_comm, Nat.mul_left_comm, Nat.mul_assoc]
theorem prodN_dd (wd : Nat) (f : List Nat → Nat) : ∀ ks : List Tr, (∀ k ∈ ks, tn wd k = f (text wd k)) → ∀ U : List (List Nat), U.Nodup → (∀ x ∈ texts wd ks, x ∈ U) → prodN (U.map (turnsF f (texts wd ks))) = tns wd ks
  | [], _, U, _, _ => prodN_one fun x _ => by
    show f x ^ ([] : List (List Nat)).count x * facN (([] : List (List Nat)).count x) = 1
    rw [List.count_nil]; rfl
  | k :: ks, hf, U, hn, hU => by
    show prodN (U.map (turnsF f (text wd k :: texts wd ks))) = tn wd k * (text wd k :: texts wd ks).count (text wd k) * tns wd ks
    rw [prodN_turn f _ _ U hn (hU _ List.mem_cons_self), prodN_dd wd f ks (fun x hx => hf x (List.mem_cons_of_mem _ hx)) U hn fun x hx => hU x (List.mem_cons_of_mem _ hx), List.count_cons_self, hf k List.mem_cons_self]
theorem tns_le (wd : Nat) : ∀ ks : List Tr, (∀ k ∈ ks, tn wd k ≤ 2 ^ (sz k * sz k)) → tns wd ks ≤ 2 ^ (szs ks * szs ks)
  | [], _ => Nat.le_refl _
  | k :: ks, h => by
    have h1 := h k List.mem_cons_self
    have h2 := tns_le wd ks fun x hx => h x (List.mem_cons_of_mem _ hx)
    have h3 : (texts wd (k :: ks)).count (text wd k) ≤ 2 ^ (szs ks) := by
      have a := List.count_le_length (a := text wd k) (l := texts wd (k :: ks))
      rw [texts_map, List.length_map, List.length_cons] at a
      have b := szs_len ks
      have c : szs ks + 1 ≤ 2 ^ szs ks := Nat.lt_two_pow_self
      rw [texts_map]; omega
    have hp := sz_pos k
    show tn wd k * _ * tns wd ks ≤ 2 ^ ((sz k + szs ks) * (sz k + szs ks))
    refine Nat.le_trans (Nat.mul_le_mul (Nat.mul_le_mul h1 h3) h2) ?_
    rw [← Nat.pow_add, ← Nat.pow_add]
    refine Nat.pow_le_pow_right (by decide) ?_
    have e : (sz k + szs ks) * (sz k + szs ks) = sz k * sz k + sz k * szs ks + (szs ks * sz k + szs ks * szs ks) := by rw [Nat.add_mul, Nat.mul_add, Nat.mul_add]
    have i : 1 * szs ks ≤ sz k * szs ks := Nat.mul_le_mul_right _ hp
    omega
theorem tn_le (wd : Nat) : ∀ t, tn wd t ≤ 2 ^ (sz t * sz t) :=
  Tr.ind fun h ks ih => by
    refine Nat.le_trans (tns_le wd ks ih) (Nat.pow_le_pow_right (by decide) ?_)
    show szs ks * szs ks ≤ (1 + szs ks) * (1 + szs ks)
    exact Nat.mul_le_mul (by omega) (by omega)
theorem facN_le : ∀ k, facN k ≤ 2 ^ (k * k)
  | 0 => Nat.le_refl _
  | k + 1 => by
    show facN k * (k + 1) ≤ _
    refine Nat.le_trans (Nat.mul_le_mul (facN_le k) (show k + 1 ≤ 2 ^ k from Nat.lt_two_pow_self)) ?_
    rw [← Nat.pow_add]
    refine Nat.pow_le_pow_right (by decide) ?_
    rw [Nat.add_mul, Nat.mul_add]; omega
theorem bdN {N a : Nat} (h : a ≤ 2 ^ N) : Bd N (a : Int) := by unfold Bd; rw [Int.natAbs_natCast]; exact h
theorem pow_le_two {a N k : Nat} (h : a ≤ 2 ^ N) : a ^ k ≤ 2 ^ (N * k) := by
  rw [Nat.pow_mul]; exact Nat.pow_le_pow_left h k
section
variable {prog : Program} {w : World} {H₀ : Heap} {K : Frag} {n : Nat} {σ : Store} {sc : Scope} {Q : D → Prop}
set_option maxHeartbeats 1000000 in
theorem con_turns {fa : Addr} {wd : Nat} (d : Defs prog w H₀ K) (hf : Has prog w H₀ PP ("_law_turns" : PySem.Str) fa [("page" : PySem.Str)] [])
    (hw : 1 ≤ wd) (hw3 : wd ≤ 3) : ∀ (m : Nat) (t : Tr) (n : Nat) (Q : D → Prop), sz t ≤ m → sz t ≤ 6 → Good t → Heads 40 t → Q (.int (tn wd t)) →
      OpL prog w H₀ (n + 3 + m) (fun vs => PySem.call (.ref fa) vs) [.str (S (text wd t))] Q := by
  intro m
  induction m with
  | zero => intro t n Q hm; have := sz_pos t; omega
  | succ m ih =>
    intro t n Q hm h6 g hh hQ
    obtain ⟨h, ks⟩ := t
    have e0 : sz (.node h ks) = 1 + szs ks := rfl
    have hkl := szs_len ks
    have G := d.G
    generalize hP : sortT (texts wd ks) = P
    have hPp : P.Perm (texts wd ks) := by rw [← hP]; exact sortT_perm _
    have hPl : P.length ≤ 5 := by rw [hPp.length_eq, texts_map, List.length_map]; omega
    let f : List Nat → Nat := fun x => tn wd (kd wd ks x)
    have hkd : ∀ p ∈ P, kd wd ks p ∈ ks ∧ text wd (kd wd ks p) = p := fun p hp => kd_ok (hPp.mem_iff.mp hp)
    have hfk : ∀ k ∈ ks, tn wd k = f (text wd k) := fun k hk => by
      have hm : text wd k ∈ texts wd ks := by rw [texts_map]; exact List.mem_map_of_mem hk
      obtain ⟨a, b⟩ := kd_ok hm
      exact tn_congr hw _ (g.kids k hk) _ (g.kids _ a) b.symm
    have htot : prodN ((dd P).map (turnsF f P)) = tn wd (.node h ks) := by
      have e := prodN_dd wd f ks hfk (dd P) (dd_nodup P) fun x hx => (dd_mem P).mpr (hPp.mem_iff.mpr hx)
      show _ = tns wd ks
      rw [← e]
      exact prodN_congr fun x _ => by unfold turnsF; rw [hPp.count_eq]
    have hfle : ∀ p ∈ P, f p ≤ 2 ^ 36 := fun p hp => by
      obtain ⟨a, _⟩ := hkd p hp
      have hs := szs_mem a
      refine Nat.le_trans (tn_le wd _) (Nat.pow_le_pow_right (by decide) ?_)
      exact Nat.mul_le_mul (show sz (kd wd ks p) ≤ 6 by omega) (show sz (kd wd ks p) ≤ 6 by omega)
    have hstep : ∀ p ∈ P, ∀ j, j ≤ 5 → f p ^ j * facN j ≤ 2 ^ 300 := fun p hp j hj => by
      refine Nat.le_trans (Nat.mul_le_mul (pow_le_two (hfle p hp)) (facN_le j)) ?_
      rw [← Nat.pow_add]
      refine Nat.pow_le_pow_right (by decide) ?_
      have : j * j ≤ 5 * 5 := Nat.mul_le_mul hj hj
      omega
    have hpre : ∀ k, prodN (((dd P).take k).map (turnsF f P)) ≤ 2 ^ (300 * k) := fun k => by
      have : ∀ l : List (List Nat), (∀ x ∈ l, x ∈ P) → prodN (l.map (turnsF f P)) ≤ 2 ^ (300 * l.length) := by
        intro l
        induction l with
        | nil => intro _; exact Nat.le_refl _
        | cons a l ihl =>
          intro hl
          rw [List.map_cons, prodN_cons, List.length_cons, Nat.mul_add, Nat.mul_one, Nat.add_comm, Nat.pow_add]
          exact Nat.mul_le_mul (hstep a (hl a List.mem_cons_self) _ (Nat.le_trans List.count_le_length hPl)) (ihl fun x hx => hl x (List.mem_cons_of_mem _ hx))
      refine Nat.le_trans (this _ fun x hx => (dd_mem P).mp (List.mem_of_mem_take hx)) (Nat.pow_le_pow_right (by decide) (Nat.mul_le_mul_left _ ?_))
      rw [List.length_take]; omega
    refine OpL.has (n := n + 3 + m) hf rfl (by decide) (by decide) ?_
    refine Ex.cons (ExS.assignT (Ev.def d.par rfl (EvL.cons (Ev.name (d := .str (S (text wd (.node h ks)))) rfl (EvL.nil (OpL.level (m := n + 2) (con_partsT d hw g (text_small6 hw hw3 g hh h6) ?_) (by omega)))))))
    rw [hP]
    refine AsOk.pair (AsOk.name (AsOk.name ?_))
    refine Ex.cons (ExS.assign (Ev.int ?_))
    refine Ex.cons (ExS.for (fun _ => True) trivial (Ev.def d.dup rfl (EvL.cons (Ev.name (up up0) (EvL.nil (OpL.level (m := n + 1) (con_dup d (by omega) ?_) (by omega)))))))
    refine ⟨_, PyIt.dct, fun k σ => σ ("told" : PySem.Str) = some (.val (.int (prodN (((dd P).take k).map (turnsF f P)) : Nat))) ∧ σ ("parts" : PySem.Str) = some (.val (.lst (textsD P))), ⟨up0, up up0⟩, ?_, ?_⟩
    · rintro k x σ hx ⟨h1, h2⟩
      rw [fk_keys_dd, List.map_map, List.getElem?_map] at hx
      obtain ⟨p, hpk, rfl⟩ := Option.map_eq_some_iff.mp hx
      obtain ⟨hk, hkp⟩ := List.getElem?_eq_some_iff.mp hpk
      have hpP : p ∈ P := (dd_mem P).mp (List.mem_of_getElem? hpk)
      obtain ⟨hk1, hk2⟩ := hkd p hpP
      have hkk : k < 5 := by have := dd_len P; omega
      have hcs := szs_mem hk1
      have htk : (dd P).take (k + 1) = (dd P).take k ++ [p] := by rw [List.take_add_one, hpk]; rfl
      have hpre' := hpre k
      refine AsOk.name ?_
      have e1 : D.str (S p) = D.str (S (text wd (kd wd ks p))) := by rw [hk2]
      show Ex prog w H₀ _ _ (upd σ _ (.val (D.str (S p)))) _ _
      refine Ex.cons (ExS.assign (Ev.def hf rfl (EvL.cons (Ev.name up0 (EvL.nil ?_)))))
      rw [e1]
      refine ih (kd wd ks p) n _ (by omega) (by omega) (g.kids _ hk1) (hh.head.2 _ hk1) ?_
      show Ex prog w H₀ _ _ (upd (upd σ _ _) _ (.val (.int (f p : Nat)))) _ _
      rw [hk2]
      refine Ex.cons (ExS.for (fun _ => True) trivial (Ev.call G.range (.inr (.inl ⟨_, rfl⟩)) rfl (EvL.cons (Ev.meth (fun _ => "list.count") (Ev.name (up (up h2)) ⟨Meth.countL, EvL.cons (Ev.name (up up0) (EvL.nil (OpL.countT (EvL.nil (OpL.range ?_)))))⟩)))))
      have hcnt : P.count p ≤ 5 := Nat.le_trans List.count_le_length hPl
      generalize hA : prodN (((dd P).take k).map (turnsF f P)) = A at *
      refine ⟨_, PyIt.rng (by omega), fun j σ => σ ("told" : PySem.Str) = some (.val (.int (A * (f p ^ j * facN j) : Nat))) ∧ σ ("each" : PySem.Str) = some (.val (.int (f p : Nat))) ∧ σ ("parts" : PySem.Str) = some (.val (.lst (textsD P))), ⟨?_, up0, up (up h2)⟩, ?_, ?_⟩
      · rw [Nat.pow_zero]
        show _ = some (Slot.val (D.int ((A * (1 * 1) : Nat) : Int)))
        rw [Nat.mul_one]
        exact up (up h1)
      · rintro j x σ hx ⟨q1, q2, q3⟩
        rw [List.getElem?_map] at hx
        obtain ⟨j', hj', rfl⟩ := Option.map_eq_some_iff.mp hx
        obtain ⟨hjj, hjr⟩ := List.getElem?_eq_some_iff.mp hj'
        rw [List.length_range] at hjj
        rw [List.getElem_range] at hjr
        subst hjr
        have b1 : A * (f p ^ j * facN j) ≤ 2 ^ (300 * k + 300) := by rw [Nat.pow_add]; exact Nat.mul_le_mul hpre' (hstep p hpP j (by omega))
        have b2 := hfle p hpP
        refine AsOk.name ?_
        refine Ex.cons (ExS.assign (Ev.bin (Ev.bin (Ev.name (up q1) (Ev.name (up q2) (Op2.mul (mulOk_bd (bdN b1) (bdN b2) (by omega)) ?_))))))
        refine Ev.bin (Ev.name up0 (Ev.int (Op2.add (Op2.mul (mulOk_bd (N := 300 * k + 300 + 36) (M := 5) ((bdN b1).mul (bdN b2)) (by show ((j : Int) + 1).natAbs ≤ 2 ^ 5; omega) (by omega)) ?_))))
        refine Ex.nil ⟨?_, up (up q2), up (up q3)⟩
        have e : ((A * (f p ^ j * facN j) : Nat) : Int) * ((f p : Nat) : Int) * ((j : Int) + 1) = ((A * (f p ^ (j + 1) * facN (j + 1)) : Nat) : Int) := by
          rw [show ((j : Int) + 1) = ((j + 1 : Nat) : Int) by omega, ← Int.natCast_mul, ← Int.natCast_mul]
          congr 1
          rw [Nat.pow_succ]
          show _ = A * (f p ^ j * f p * (facN j * (j + 1)))
          generalize f p ^ j = x
          simp only [Nat.mul_comm, Nat.mul_left_comm, Nat.mul_assoc]
        rw [e]
        exact up0
      · rintro σ ⟨q1, q2, q3⟩
        rw [List.length_map, List.length_range] at q1
        refine Ex.nil ⟨?_, q3⟩
        rw [htk, List.map_append, prodN_app, hA]
        show _ = some (Slot.val (D.int ((A * (turnsF f P p * 1) : Nat) : Int)))
        rw [Nat.mul_one]
        exact q1
    · rintro σ ⟨h1, _⟩
      have : (List.map D.str ((fk (P.map S)).map (·.1))).length = (dd P).length := by rw [fk_keys_dd, List.length_map, List.length_map]
      rw [this, List.take_length, htot] at h1
      refine Ex.cons (ExS.ret (Ev.name (Store.fz_val h1) ?_))
      exact hQ
end
end Mine
end
section
open PySem PySem.W PySem.Calls PyProof.Rows

namespace Mine
theorem eqI_cast (a b : Nat) : ((a : Int) == (b : Int)) = (a == b) := by
  rw [Bool.eq_iff_iff]
  simp only [beq_iff_eq]
  omega
def base3 : List Int := [44, 3340, 44]
def cells3 (ns : List Int) : List Int := (List.range 3).map fun (k : Nat) => cAt base3 k + (pick ns (some (k : Int)) none (some 3)).sum
/-- the remainders that tell the drawing -/
def dr (cs : List Int) : Nat → Nat
  | 0 => ((cAt cs 0).fmod 2).toNat
  | 1 => (((cAt cs 0).fdiv 2).fmod 3).toNat
  | 2 => (((cAt cs 0).fdiv 6).fmod 3).toNat
  | _ => (((cAt cs 0).fdiv 18).fmod 3).toNat
theorem dr_lt (cs : List Int) : dr cs 0 < 2 ∧ dr cs 1 < 3 ∧ dr cs 2 < 3 ∧ dr cs 3 < 3 :=
  ⟨(fmod_nat _ (by decide)).2, (fmod_nat _ (by decide)).2, (fmod_nat _ (by decide)).2, (fmod_nat _ (by decide)).2⟩
def uOf (cs : List Int) : List Nat := underL (dr cs 0) (dr cs 1) (dr cs 2) (dr cs 3)
theorem natsD_get {l : List Nat} {i : Nat} (h : i < l.length) : (natsD l)[i]? = some (.int (l.getD i 0 : Nat)) := by
  unfold natsD
  rw [List.getElem?_map, List.getD_eq_getElem?_getD, List.getElem?_eq_getElem h]; rfl
theorem natsD_len (l : List Nat) : (natsD l).length = l.length := by unfold natsD; rw [List.length_map]
section
variable {prog : Program} {w : World} {H₀ : Heap} {K : Frag} {n : Nat} {σ : Store}
set_option maxHeartbeats 1000000 in
theorem law_A {ns : List Int} {P : Fl → Store → Prop} (G : Gl H₀) (hs : σ ("script" : PySem.Str) = some (.val (.lst (ns.map D.int)))) (hl : ns.length ≤ 63)
    (h : ∀ σ', σ' ("cells" : PySem.Str) = some (.val (.lst ((cells3 ns).map D.int))) → σ' ("under" : PySem.Str) = some (.val (.lst (natsD (uOf (cells3 ns))))) → σ' ("links" : PySem.Str) = some (.val (linksD (linksL (uOf (cells3 ns))))) →
      Ex prog w H₀ (scopeOf PP "law") n σ' ((bodyOf PP "law").drop 5) P) :
    Ex prog w H₀ (scopeOf PP "law") n σ (bodyOf PP "law") P := by
  refine Ex.cons (ExS.assign (Ev.list ?_))
  refine EvL.cons (Ev.int (EvL.cons (Ev.int (EvL.cons (Ev.int (EvL.nil ⟨by rw [sizeLine_eq]; simp, ?_⟩))))))
  show Ex prog w H₀ _ n (upd σ ("bases" : PySem.Str) (.val (.lst (base3.map D.int)))) _ _
  refine Ex.cons (ExS.assign (Ev.compMap ⟨rfl, by decide, by decide⟩ (.inl rfl) (by decide) ?_) (.inr rfl) fun _ e => swaps_is e rfl)
  refine Ev.call G.range (.inr (.inl ⟨_, rfl⟩)) rfl (EvL.cons (Ev.int (EvL.nil (OpL.range (m := 3) ?_))))
  refine ⟨_, _, PyIt.rng (by decide), trivial, by rw [sizeLine_eq]; simp, fun d => match d with | .int k => .int (cAt base3 k.toNat + (pick ns (some k) none (some 3)).sum) | d => d, ?_, ?_⟩
  · rintro d hd
    obtain ⟨k, hk, rfl⟩ := List.mem_map.mp hd
    rw [List.mem_range] at hk
    refine Ev.bin (Ev.sub (Ev.name (d := .lst (base3.map D.int)) (up (inner_val up0 rfl)) (Ev.name up0 ?_)))
    refine OpI.lst (j := k) (d := .int (cAt base3 k)) (seqIndex_nat (by simpa [base3] using hk)) (by rw [List.getElem?_map, cAt_get (by simpa [base3] using hk)]; rfl) (by omega) ?_
    refine Ev.call G.sum (.inl ⟨_, rfl⟩) rfl (EvL.cons (Ev.slice (Ev.name (d := .lst (ns.map D.int)) (up (inner_val (up hs) rfl)) ?_)))
    refine Ev.name up0 ⟨_, rfl, Ev.int ⟨_, rfl, OpS.lst (by decide) (by rw [List.length_map, sizeLine_eq]; omega) ?_⟩⟩
    refine EvL.nil (OpL.sumOf (pick_map _ _ _ _ _) (Op2.add ?_))
    rfl
  · rw [List.map_map]
    have e : ((List.range 3).map ((fun d : D => match d with | .int k => D.int (cAt base3 k.toNat + (pick ns (some k) none (some 3)).sum) | d => d) ∘ fun i => D.int (i : Nat))) = (cells3 ns).map D.int := by
      unfold cells3
      rw [List.map_map]; rfl
    rw [e]
    clear e
    have hcl : (cells3 ns).length = 3 := by unfold cells3; simp
    generalize cells3 ns = cs at *
    -- drawn
    have hc0 : (cs.map D.int)[0]? = some (.int (cAt cs 0)) := lenI_get (by omega)
    have hix : seqIndex? (0 : Int) (cs.map D.int).length = some 0 := seqIndex_nat (by simp; omega)
    refine Ex.cons (ExS.assign (Ev.list ?_))
    refine EvL.cons (Ev.bin (Ev.sub (Ev.name up0 (Ev.int (OpI.lst hix hc0 (by omega) (Ev.int (Op2.mod (by decide) ?_)))))))
    refine EvL.cons (Ev.bin (Ev.bin (Ev.sub (Ev.name up0 (Ev.int (OpI.lst hix hc0 (by omega) (Ev.int (Op2.floordiv (by decide) (by decide) (Ev.int (Op2.mod (by decide) ?_))))))))))
    refine EvL.cons (Ev.bin (Ev.bin (Ev.sub (Ev.name up0 (Ev.int (OpI.lst hix hc0 (by omega) (Ev.int (Op2.floordiv (by decide) (by decide) (Ev.int (Op2.mod (by decide) ?_))))))))))
    refine EvL.cons (Ev.bin (Ev.bin (Ev.sub (Ev.name up0 (Ev.int (OpI.lst hix hc0 (by omega) (Ev.int (Op2.floordiv (by decide) (by decide) (Ev.int (Op2.mod (by decide) ?_))))))))))
    refine EvL.nil ⟨by rw [sizeLine_eq]; simp, ?_⟩
    have e : ([.int ((cAt cs 0).fmod 2), .int (((cAt cs 0).fdiv 2).fmod 3), .int (((cAt cs 0).fdiv 6).fmod 3), .int (((cAt cs 0).fdiv 18).fmod 3)] : List D) = natsD [dr cs 0, dr cs 1, dr cs 2, dr cs 3] := by
      show _ = [D.int ((dr cs 0 : Nat) : Int), D.int ((dr cs 1 : Nat) : Int), D.int ((dr cs 2 : Nat) : Int), D.int ((dr cs 3 : Nat) : Int)]
      rw [(fmod_nat (cAt cs 0) (m := 2) (by decide)).1, (fmod_nat ((cAt cs 0).fdiv 2) (m := 3) (by decide)).1, (fmod_nat ((cAt cs 0).fdiv 6) (m := 3) (by decide)).1, (fmod_nat ((cAt cs 0).fdiv 18) (m := 3) (by decide)).1]
      rfl
    rw [e]
    clear e
    obtain ⟨l0, l1, l2, l3⟩ := dr_lt cs
    -- under
    refine Ex.cons (ExS.assign (Ev.bin (Ev.list ?_)))
    refine EvL.cons (Ev.int (EvL.cons (Ev.int (EvL.nil ⟨by rw [sizeLine_eq]; simp, ?_⟩))))
    refine Ev.compMap ⟨rfl, by decide, by decide⟩ (.inl rfl) (by decide) ?_
    refine Ev.call G.range (.inr (.inl ⟨_, rfl⟩)) rfl (EvL.cons (Ev.int (EvL.nil (OpL.range (m := 4) ?_))))
    refine ⟨_, _, PyIt.rng (by decide), trivial, by rw [sizeLine_eq]; simp, fun d => match d with | .int k => .int (k + 1 - ((([dr cs 0, dr cs 1, dr cs 2, dr cs 3] : List Nat).getD k.toNat 0 : Nat) : Int)) | d => d, ?_, ?_⟩
    · rintro d hd
      obtain ⟨k, hk, rfl⟩ := List.mem_map.mp hd
      rw [List.mem_range] at hk
      refine Ev.bin (Ev.bin (Ev.name up0 (Ev.int (Op2.add ?_))))
      refine Ev.sub (Ev.name (d := .lst (natsD [dr cs 0, dr cs 1, dr cs 2, dr cs 3])) (up (inner_val up0 rfl)) (Ev.name up0 ?_))
      refine OpI.lst (j := k) (seqIndex_nat (by rw [natsD_len]; exact hk)) (natsD_get (by exact hk)) (by omega) ?_
      exact Op2.sub rfl
    · refine Op2.addL (by rw [sizeLine_eq]; simp) ?_
      have e : ([.int 0, .int 0] : List D) ++ ((List.range 4).map fun i => D.int (i : Nat)).map (fun d : D => match d with | .int k => .int (k + 1 - ((([dr cs 0, dr cs 1, dr cs 2, dr cs 3] : List Nat).getD k.toNat 0 : Nat) : Int)) | d => d) = natsD (uOf cs) := by
        show [D.int 0, D.int 0, D.int (((0 : Nat) : Int) + 1 - ((dr cs 0 : Nat) : Int)), D.int (((1 : Nat) : Int) + 1 - ((dr cs 1 : Nat) : Int)), D.int (((2 : Nat) : Int) + 1 - ((dr cs 2 : Nat) : Int)), D.int (((3 : Nat) : Int) + 1 - ((dr cs 3 : Nat) : Int))] =
          [D.int ((0 : Nat) : Int), D.int ((0 : Nat) : Int), D.int ((1 - dr cs 0 : Nat) : Int), D.int ((2 - dr cs 1 : Nat) : Int), D.int ((3 - dr cs 2 : Nat) : Int), D.int ((4 - dr cs 3 : Nat) : Int)]
        rw [show ((0 : Nat) : Int) + 1 - ((dr cs 0 : Nat) : Int) = ((1 - dr cs 0 : Nat) : Int) by omega, show ((1 : Nat) : Int) + 1 - ((dr cs 1 : Nat) : Int) = ((2 - dr cs 1 : Nat) : Int) by omega,
          show ((2 : Nat) : Int) + 1 - ((dr cs 2 : Nat) : Int) = ((3 - dr cs 2 : Nat) : Int) by omega, show ((3 : Nat) : Int) + 1 - ((dr cs 3 : Nat) : Int) = ((4 - dr cs 3 : Nat) : Int) by omega]
        rfl
      rw [e]
      clear e
      have hul : (uOf cs).length = 6 := rfl
      -- links
      refine Ex.cons (ExS.assign (Ev.compMap ⟨rfl, by decide, by decide⟩ (.inr rfl) (by decide) ?_) (.inr rfl) fun _ e => swaps_is e rfl)
      refine Ev.call G.range (.inr (.inl ⟨_, rfl⟩)) rfl (EvL.cons (Ev.int (EvL.nil (OpL.range (m := 6) ?_))))
      refine ⟨_, _, PyIt.rng (by decide), trivial, by rw [sizeLine_eq]; simp, fun d => match d with | .int k => .lst (natsD ((List.range 6).filter fun j => !(j == k.toNat) && ((uOf cs).getD j 0 == k.toNat || (uOf cs).getD k.toNat 0 == j))) | d => d, ?_, ?_⟩
      · rintro d hd
        obtain ⟨k, hk, rfl⟩ := List.mem_map.mp hd
        rw [List.mem_range] at hk
        refine Ev.compFilter ⟨rfl, by decide, by decide⟩ (.inl rfl) (by decide) ?_
        refine Ev.call G.range (.inr (.inl ⟨_, rfl⟩)) rfl (EvL.cons (Ev.int (EvL.nil (OpL.range (m := 6) ?_))))
        refine ⟨_, _, PyIt.rng (by decide), trivial, by rw [sizeLine_eq]; simp, id, fun d => match d with | .int j => !(j.toNat == k) && ((uOf cs).getD j.toNat 0 == k || (uOf cs).getD k 0 == j.toNat) | _ => false, ?_, ?_, ?_⟩
        · rintro d hd
          obtain ⟨j, hj, rfl⟩ := List.mem_map.mp hd
          rw [List.mem_range] at hj
          refine EvB.and (EvB.cmp (Ev.name up0 (Ev.name (d := .int (k : Nat)) (up (inner_val up0 rfl)) (Op2.neI ⟨_, rfl, ?_⟩))))
          rw [neI_cast]
          show if (!(j == k)) = true then _ else _
          cases hjk : (!(j == k)) with
          | false =>
            show false = (!(j == k) && _)
            rw [hjk]; rfl
          | true =>
            have huj : (natsD (uOf cs))[j]? = some (.int ((uOf cs).getD j 0 : Nat)) := natsD_get (by rw [hul]; exact hj)
            have huk : (natsD (uOf cs))[k]? = some (.int ((uOf cs).getD k 0 : Nat)) := natsD_get (by rw [hul]; exact hk)
            refine EvB.and (EvB.or (EvB.cmp (Ev.sub (Ev.name (d := .lst (natsD (uOf cs))) (up (inner_val (up (inner_val up0 rfl)) rfl)) (Ev.name up0 (OpI.lst (j := j) (seqIndex_nat (by rw [natsD_len, hul]; exact hj)) huj (by omega) ?_))))))
            refine Ev.name (d := .int (k : Nat)) (up (inner_val up0 rfl)) (Op2.eqI ⟨_, rfl, ?_⟩)
            rw [eqI_cast]
            cases h1 : ((uOf cs).getD j 0 == k) with
            | true =>
              refine EvB.and_nil ?_
              show true = (!(j == k) && ((uOf cs).getD j 0 == k || (uOf cs).getD k 0 == j))
              rw [hjk, h1]; rfl
            | false =>
              refine EvB.or (EvB.cmp (Ev.sub (Ev.name (d := .lst (natsD (uOf cs))) (up (inner_val (up (inner_val up0 rfl)) rfl)) (Ev.name (d := .int (k : Nat)) (up (inner_val up0 rfl)) (OpI.lst (j := k) (seqIndex_nat (by rw [natsD_len, hul]; exact hk)) huk (by omega) ?_)))))
              refine Ev.name up0 (Op2.eqI ⟨_, rfl, ?_⟩)
              rw [eqI_cast]
              cases h2 : ((uOf cs).getD k 0 == j) with
              | true =>
                refine EvB.and_nil ?_
                show true = (!(j == k) && ((uOf cs).getD j 0 == k || (uOf cs).getD k 0 == j))
                rw [hjk, h2, Bool.or_true]; rfl
              | false =>
                refine EvB.or_nil ?_
                show false = (!(j == k) && ((uOf cs).getD j 0 == k || (uOf cs).getD k 0 == j))
                rw [h1, h2]; simp
        · rintro d hd _
          exact Ev.name up0 rfl
        · show D.lst _ = D.lst (natsD ((List.range 6).filter fun j => !(j == k) && ((uOf cs).getD j 0 == k || (uOf cs).getD k 0 == j)))
          congr 1
          rw [List.filter_map, List.map_map]
          rfl
      · refine h _ (up (up (up up0))) (up up0) ?_
        have e : ((List.range 6).map fun i => D.int (i : Nat)).map (fun d : D => match d with | .int k => .lst (natsD ((List.range 6).filter fun j => !(j == k.toNat) && ((uOf cs).getD j 0 == k.toNat || (uOf cs).getD k.toNat 0 == j))) | d => d) = (linksL (uOf cs)).map fun l => D.lst (natsD l) := by
          unfold linksL
          rw [List.map_map, List.map_map]; rfl
        rw [e]
        exact up0
end
end Mine
end
section
open PySem PySem.W PySem.Calls PyProof.Rows

namespace Mine
def mOf (cs : List Int) : Nat := ((cAt cs 2).fmod 3).toNat
def oOf (cs : List Int) : Nat := (((cAt cs 2).fdiv 3).fmod 2).toNat
def lOf (cs : List Int) : Nat := (((cAt cs 2).fdiv 6).fmod 5).toNat
def sOf (cs : List Int) : Nat := (((cAt cs 2).fdiv 90).fmod 5).toNat
def wOf (cs : List Int) : Nat := (((cAt cs 2).fdiv 30).fmod 3).toNat + 1
theorem mosl_lt (cs : List Int) : mOf cs < 3 ∧ oOf cs < 2 ∧ lOf cs < 5 ∧ sOf cs < 5 ∧ 1 ≤ wOf cs ∧ wOf cs ≤ 3 :=
  ⟨(fmod_nat _ (by decide)).2, (fmod_nat _ (by decide)).2, (fmod_nat _ (by decide)).2, (fmod_nat _ (by decide)).2, Nat.le_add_left _ _, (fmod_nat ((cAt cs 2).fdiv 30) (m := 3) (by decide)).2⟩
def moreI (m : Nat) : Int := (m : Int) - 1
def lineI (l : Nat) : Int := (l : Int) - 2
def namesL (l : Nat) : List (List Nat) := [[123, 102, 125], [60, 102, 102], [102, 102, 62], [60, 102, 62, 62], [112, 58] ++ decL (lineI l) ++ [40, 60, 102, 62, 41]]
def kindsL (m o l s : Nat) : List (List Nat × Int × List Nat) := [([126], 0, [60, 102, 62]), ([126], 0, (namesL l).getD s []), ([126], moreI m, [60, 102, 62]), ([112], lineI l, [60, 102, 62]), ([112], lineI l + moreI m, ([[60, 102, 62], [123, 102, 125]] : List (List Nat)).getD o [])]
def kindD (x : List Nat × Int × List Nat) : D := .tup [.str (S x.1), .int x.2.1, .str (S x.2.2)]
def kindT (x : List Nat × Int × List Nat) : List Nat := fssT x.1 x.2.1 x.2.2
def alikeL (m o s : Nat) : List Nat := [0, ([0, 4, 4, 4, 2] : List Nat).getD s 0, if m = 1 then 0 else 1, 2, if m = 1 ∧ o = 0 then 2 else 3]
def rowGood (r : List Nat) : Bool := !r.isEmpty && !r.contains 10 && !isSub r && decide (r.length ≤ 40)
def kindOk (x : List Nat × Int × List Nat) : Bool := decide (x.1.length ≤ 1000) && decide (x.2.2.length ≤ 1000) && decide (x.2.1.natAbs ≤ 3) && decide ((PySem.Str.ofString (toString x.2.1)).length ≤ 100000)
def gr (m o l s : Nat) : Bool :=
  (kindsL m o l s).all kindOk && ((kindsL m o l s).map kindT).all rowGood &&
  (((kindsL m o l s).map kindT).zip (alikeL m o s)).all fun a => (((kindsL m o l s).map kindT).zip (alikeL m o s)).all fun b => (a.1 == b.1) == (a.2 == b.2)
theorem gr_0_0 : ∀ l : Fin 5, ∀ s : Fin 5, gr 0 0 l s = true := by decide +kernel
theorem gr_0_1 : ∀ l : Fin 5, ∀ s : Fin 5, gr 0 1 l s = true := by decide +kernel
theorem gr_1_0 : ∀ l : Fin 5, ∀ s : Fin 5, gr 1 0 l s = true := by decide +kernel
theorem gr_1_1 : ∀ l : Fin 5, ∀ s : Fin 5, gr 1 1 l s = true := by decide +kernel
theorem gr_2_0 : ∀ l : Fin 5, ∀ s : Fin 5, gr 2 0 l s = true := by decide +kernel
theorem gr_2_1 : ∀ l : Fin 5, ∀ s : Fin 5, gr 2 1 l s = true := by decide +kernel
theorem gr_all {m o l s : Nat} (hm : m < 3) (ho : o < 2) (hl : l < 5) (hs : s < 5) : gr m o l s = true := by
  match m, hm, o, ho with
  | 0, _, 0, _ => exact gr_0_0 ⟨l, hl⟩ ⟨s, hs⟩
  | 0, _, 1, _ => exact gr_0_1 ⟨l, hl⟩ ⟨s, hs⟩
  | 1, _, 0, _ => exact gr_1_0 ⟨l, hl⟩ ⟨s, hs⟩
  | 1, _, 1, _ => exact gr_1_1 ⟨l, hl⟩ ⟨s, hs⟩
  | 2, _, 0, _ => exact gr_2_0 ⟨l, hl⟩ ⟨s, hs⟩
  | 2, _, 1, _ => exact gr_2_1 ⟨l, hl⟩ ⟨s, hs⟩
structure Gr (m o l s : Nat) : Prop where
  kind : ∀ a, a < 5 → ∃ x, (kindsL m o l s)[a]? = some x ∧ x.1.length ≤ 1000 ∧ x.2.2.length ≤ 1000 ∧ x.2.1.natAbs ≤ 3 ∧ (PySem.Str.ofString (toString x.2.1)).length ≤ 100000 ∧ GoodHead (kindT x) ∧ (kindT x).length ≤ 40
  same : ∀ a, a < 5 → ∀ b, b < 5 → (((kindsL m o l s).map kindT).getD a [] = ((kindsL m o l s).map kindT).getD b [] ↔ (alikeL m o s).getD a 0 = (alikeL m o s).getD b 0)
theorem gr_out {m o l s : Nat} (h : gr m o l s = true) : Gr m o l s := by
  unfold gr at h
  rw [Bool.and_eq_true, Bool.and_eq_true, List.all_eq_true, List.all_eq_true, List.all_eq_true] at h
  obtain ⟨⟨h1, h2⟩, h3⟩ := h
  have hlen : (kindsL m o l s).length = 5 := rfl
  have hal : (alikeL m o s).length = 5 := rfl
  refine ⟨fun a ha => ?_, fun a ha b hb => ?_⟩
  · have hx : (kindsL m o l s)[a]? = some (kindsL m o l s)[a] := List.getElem?_eq_getElem (by omega)
    have hm := List.getElem_mem (l := kindsL m o l s) (n := a) (by omega)
    generalize (kindsL m o l s)[a] = x at *
    have k1 := h1 x hm
    have k2 := h2 (kindT x) (List.mem_map_of_mem hm)
    unfold kindOk at k1
    unfold rowGood at k2
    simp only [Bool.and_eq_true, decide_eq_true_eq] at k1 k2
    obtain ⟨⟨⟨a1, a2⟩, a3⟩, a4⟩ := k1
    obtain ⟨⟨⟨b1, b2⟩, b3⟩, b4⟩ := k2
    refine ⟨x, hx, a1, a2, a3, a4, ⟨fun e => ?_, fun e => ?_, by simpa using b3⟩, b4⟩
    · rw [e] at b1; cases b1
    · rw [List.contains_eq_mem, decide_eq_true e] at b2; cases b2
  · have key : ∀ a, a < 5 → (((kindsL m o l s).map kindT).getD a [], (alikeL m o s).getD a 0) ∈ ((kindsL m o l s).map kindT).zip (alikeL m o s) := fun a ha => by
      refine List.mem_of_getElem? (i := a) ?_
      rw [List.getElem?_zip_eq_some]
      constructor
      · rw [List.getD_eq_getElem?_getD, List.getElem?_eq_getElem (by rw [List.length_map]; omega)]; rfl
      · show (alikeL m o s)[a]? = some ((alikeL m o s).getD a 0)
        rw [List.getD_eq_getElem?_getD, List.getElem?_eq_getElem (by omega)]; rfl
    have := h3 _ (key a ha)
    rw [List.all_eq_true] at this
    have := this _ (key b hb)
    rw [beq_iff_eq, Bool.eq_iff_iff, beq_iff_eq, beq_iff_eq] at this
    exact this
def markAt (cs : List Int) (k : Nat) : Nat := (((cAt cs 1).fdiv (5 ^ k)).fmod 5).toNat
theorem markAt_lt (cs : List Int) (k : Nat) : markAt cs k < 5 := (fmod_nat _ (by decide)).2
def kindsOf (cs : List Int) : List (List Nat × Int × List Nat) := kindsL (mOf cs) (oOf cs) (lOf cs) (sOf cs)
def textAt (cs : List Int) (k : Nat) : Row := ((kindsOf cs).map kindT).getD (markAt cs k) []
def textsOf (cs : List Int) : List Row := (List.range 6).map (textAt cs)
end Mine
end
section
open PySem PySem.W PySem.Calls PyProof.Rows

namespace Mine
theorem log2_small {i : Int} (h : i.natAbs ≤ 3) : i.natAbs.log2 < 1920 := by
  have : i.natAbs = 0 ∨ i.natAbs = 1 ∨ i.natAbs = 2 ∨ i.natAbs = 3 := by omega
  rcases this with e | e | e | e <;> rw [e] <;> decide
theorem decL_len {l : Nat} (h : l < 5) : (decL (lineI l)).length ≤ 10 := by
  have : ∀ l : Fin 5, (decL (lineI l)).length ≤ 10 := by decide +kernel
  exact this ⟨l, h⟩
section
variable {prog : Program} {w : World} {H₀ : Heap} {K : Frag} {n : Nat} {σ : Store}
set_option maxHeartbeats 2000000 in
theorem law_B {cs : List Int} {P : Fl → Store → Prop} (d : Defs prog w H₀ K) {aStd : Addr} (hst : Has prog w H₀ PP ("func_std_string" : PySem.Str) aStd [("func_name" : PySem.Str)] []) (hl : cs.length = 3)
    (hs : σ ("cells" : PySem.Str) = some (.val (.lst (cs.map D.int))))
    (h : ∀ σ', (∀ x : PySem.Str, x ∈ ([("under" : PySem.Str), ("links" : PySem.Str)]) → σ' x = σ x) → σ' ("alike" : PySem.Str) = some (.val (.lst (natsD (alikeL (mOf cs) (oOf cs) (sOf cs))))) → σ' ("marks" : PySem.Str) = some (.val (.lst (natsD ((List.range 6).map (markAt cs))))) →
      σ' ("texts" : PySem.Str) = some (.val (.lst (rowsD (textsOf cs)))) → σ' ("wide" : PySem.Str) = some (.val (.int (wOf cs : Nat))) → Ex prog w H₀ (scopeOf PP "law") (n + 2) σ' ((bodyOf PP "law").drop 16) P) :
    Ex prog w H₀ (scopeOf PP "law") (n + 2) σ ((bodyOf PP "law").drop 5) P := by
  have G := d.G
  obtain ⟨lm, lo, ll, ls, lw⟩ := mosl_lt cs
  have gg := gr_out (gr_all lm lo ll ls)
  have hc2 : (cs.map D.int)[2]? = some (.int (cAt cs 2)) := lenI_get (by omega)
  have hc1 : (cs.map D.int)[1]? = some (.int (cAt cs 1)) := lenI_get (by omega)
  have hix : seqIndex? (2 : Int) (cs.map D.int).length = some 2 := seqIndex_nat (by simp; omega)
  have hix1 : seqIndex? (1 : Int) (cs.map D.int).length = some 1 := seqIndex_nat (by simp; omega)
  -- more, odd, line, second
  refine Ex.cons (ExS.assign (Ev.bin (Ev.bin (Ev.sub (Ev.name hs (Ev.int (OpI.lst hix hc2 (by omega) (Ev.int (Op2.mod (by decide) (Ev.int (Op2.sub ?_)))))))))))
  rw [show (cAt cs 2).fmod 3 - 1 = moreI (mOf cs) by unfold moreI mOf; rw [← (fmod_nat (cAt cs 2) (m := 3) (by decide)).1]]
  refine Ex.cons (ExS.assign (Ev.bin (Ev.bin (Ev.sub (Ev.name (up hs) (Ev.int (OpI.lst hix hc2 (by omega) (Ev.int (Op2.floordiv (by decide) (by decide) (Ev.int (Op2.mod (by decide) ?_)))))))))))
  rw [show ((cAt cs 2).fdiv 3).fmod 2 = ((oOf cs : Nat) : Int) from (fmod_nat _ (by decide)).1]
  refine Ex.cons (ExS.assign (Ev.bin (Ev.bin (Ev.bin (Ev.sub (Ev.name (up (up hs)) (Ev.int (OpI.lst hix hc2 (by omega) (Ev.int (Op2.floordiv (by decide) (by decide) (Ev.int (Op2.mod (by decide) (Ev.int (Op2.sub ?_))))))))))))))
  rw [show ((cAt cs 2).fdiv 6).fmod 5 - 2 = lineI (lOf cs) by unfold lineI lOf; rw [← (fmod_nat ((cAt cs 2).fdiv 6) (m := 5) (by decide)).1]]
  refine Ex.cons (ExS.assign (Ev.bin (Ev.bin (Ev.sub (Ev.name (up (up (up hs))) (Ev.int (OpI.lst hix hc2 (by omega) (Ev.int (Op2.floordiv (by decide) (by decide) (Ev.int (Op2.mod (by decide) ?_)))))))))))
  rw [show ((cAt cs 2).fdiv 90).fmod 5 = ((sOf cs : Nat) : Int) from (fmod_nat _ (by decide)).1]
  -- names
  refine Ex.cons (ExS.assign (Ev.list ?_))
  refine EvL.cons (Ev.lit [123, 102, 125] (EvL.cons (Ev.lit [60, 102, 102] (EvL.cons (Ev.lit [102, 102, 62] (EvL.cons (Ev.lit [60, 102, 62, 62] ?_)))))))
  have hln : (lineI (lOf cs)).natAbs ≤ 3 := by unfold lineI; omega
  have hdl := decL_len ll
  refine EvL.cons (Ev.bin (Ev.bin (Ev.lit [112, 58] (Ev.call G.str (.inr (.inl ⟨_, rfl⟩)) rfl (EvL.cons (Ev.name (up up0) (EvL.nil (OpL.strI (log2_small hln) ?_))))))))
  rw [show PySem.Str.ofString (toString (lineI (lOf cs))) = S (decL (lineI (lOf cs))) from (S_eta _).symm]
  refine Op2.addS (by rw [sizeLine_eq]; simp; omega) (Ev.lit [40, 60, 102, 62, 41] (Op2.addS (by rw [sizeLine_eq]; simp; omega) ?_))
  refine EvL.nil ⟨by rw [sizeLine_eq]; simp, ?_⟩
  show Ex prog w H₀ _ _ (upd _ _ (.val (.lst (textsD (namesL (lOf cs)))))) _ _
  -- kinds
  have hnm : (textsD (namesL (lOf cs)))[sOf cs]? = some (D.str (S ((namesL (lOf cs)).getD (sOf cs) []))) := by
    rw [List.getElem?_map, List.getD_eq_getElem?_getD, List.getElem?_eq_getElem (show sOf cs < (namesL (lOf cs)).length from ls)]; rfl
  refine Ex.cons (ExS.assign (Ev.list ?_))
  refine EvL.cons (Ev.tuple (EvL.cons (Ev.lit [126] (EvL.cons (Ev.int (EvL.cons (Ev.lit [60, 102, 62] (EvL.nil ⟨by rw [sizeLine_eq]; simp, ?_⟩))))))))
  refine EvL.cons (Ev.tuple (EvL.cons (Ev.lit [126] (EvL.cons (Ev.int (EvL.cons (Ev.sub (Ev.name up0 (Ev.name (up up0) (OpI.lst (j := sOf cs) (seqIndex_nat (by rw [List.length_map]; exact ls)) hnm (by omega) (EvL.nil ⟨by rw [sizeLine_eq]; simp, ?_⟩)))))))))))
  refine EvL.cons (Ev.tuple (EvL.cons (Ev.lit [126] (EvL.cons (Ev.name (up (up (up (up up0)))) (EvL.cons (Ev.lit [60, 102, 62] (EvL.nil ⟨by rw [sizeLine_eq]; simp, ?_⟩))))))))
  refine EvL.nil ⟨by rw [sizeLine_eq]; simp, ?_⟩
  refine Ex.cons (ExS.assign (Ev.bin (Ev.name up0 (Ev.list ?_))))
  refine EvL.cons (Ev.tuple (EvL.cons (Ev.lit [112] (EvL.cons (Ev.name (up (up (up up0))) (EvL.cons (Ev.lit [60, 102, 62] (EvL.nil ⟨by rw [sizeLine_eq]; simp, ?_⟩))))))))
  refine EvL.cons (Ev.tuple (EvL.cons (Ev.lit [112] (EvL.cons (Ev.bin (Ev.name (up (up (up up0))) (Ev.name (up (up (up (up (up up0))))) (Op2.add ?_))))))))
  have hod : (textsD [[60, 102, 62], [123, 102, 125]])[oOf cs]? = some (D.str (S (([[60, 102, 62], [123, 102, 125]] : List (List Nat)).getD (oOf cs) []))) := by
    rw [List.getElem?_map, List.getD_eq_getElem?_getD, List.getElem?_eq_getElem (show oOf cs < ([[60, 102, 62], [123, 102, 125]] : List (List Nat)).length from lo)]; rfl
  refine EvL.cons (Ev.sub (Ev.list (EvL.cons (Ev.lit [60, 102, 62] (EvL.cons (Ev.lit [123, 102, 125] (EvL.nil ⟨by rw [sizeLine_eq]; simp, ?_⟩)))))))
  refine Ev.name (up (up (up (up up0)))) (OpI.lst (j := oOf cs) (seqIndex_nat (by exact lo)) hod (by omega) ?_)
  refine EvL.nil ⟨by rw [sizeLine_eq]; simp, EvL.nil ⟨by rw [sizeLine_eq]; simp, Op2.addL (by rw [sizeLine_eq]; simp) ?_⟩⟩
  show Ex prog w H₀ _ _ (upd _ _ (.val (.lst ((kindsOf cs).map kindD)))) _ _
  -- alike
  refine Ex.cons (ExS.assign (Ev.list ?_))
  have hal : (natsD [0, 4, 4, 4, 2])[sOf cs]? = some (D.int ((([0, 4, 4, 4, 2] : List Nat).getD (sOf cs) 0 : Nat) : Int)) := natsD_get (by exact ls)
  refine EvL.cons (Ev.int (EvL.cons (Ev.sub (Ev.list (EvL.cons (Ev.int (EvL.cons (Ev.int (EvL.cons (Ev.int (EvL.cons (Ev.int (EvL.cons (Ev.int (EvL.nil ⟨by rw [sizeLine_eq]; simp, ?_⟩)))))))))))))))
  refine Ev.name (up (up (up up0))) (OpI.lst (j := sOf cs) (seqIndex_nat (by exact ls)) hal (by omega) ?_)
  have hm1 : (moreI (mOf cs) == 0) = decide (mOf cs = 1) := by
    rw [Bool.eq_iff_iff, beq_iff_eq, decide_eq_true_eq]; unfold moreI; omega
  have ho1 : (((oOf cs : Nat) : Int) == 0) = decide (oOf cs = 0) := by
    rw [Bool.eq_iff_iff, beq_iff_eq, decide_eq_true_eq]; omega
  refine EvL.cons (Ev.mono (Q := fun d => d = D.int ((if mOf cs = 1 then 0 else 1 : Nat) : Int)) (Ev.ifexp (EvB.cmp (Ev.name (up (up (up (up (up (up up0)))))) (Ev.int (Op2.eqI ⟨_, rfl, ?_⟩))))) ?_)
  · rw [hm1]
    by_cases hm : mOf cs = 1
    · rw [decide_eq_true hm]; refine Ev.int ?_; rw [if_pos hm]; rfl
    · rw [decide_eq_false hm]; refine Ev.int ?_; rw [if_neg hm]; rfl
  rintro _ rfl
  refine EvL.cons (Ev.int ?_)
  refine EvL.cons (Ev.mono (Q := fun d => d = D.int ((if mOf cs = 1 ∧ oOf cs = 0 then 2 else 3 : Nat) : Int)) (Ev.ifexp (EvB.and (EvB.cmp (Ev.name (up (up (up (up (up (up up0)))))) (Ev.int (Op2.eqI ⟨_, rfl, ?_⟩)))))) ?_)
  · rw [hm1]
    by_cases hm : mOf cs = 1
    · rw [decide_eq_true hm]
      refine EvB.and (EvB.cmp (Ev.name (up (up (up (up (up up0))))) (Ev.int (Op2.eqI ⟨_, rfl, ?_⟩))))
      rw [ho1]
      by_cases ho : oOf cs = 0
      · rw [decide_eq_true ho]; refine EvB.and_nil (Ev.int ?_); rw [if_pos ⟨hm, ho⟩]; rfl
      · rw [decide_eq_false ho]; refine Ev.int ?_; rw [if_neg fun q => ho q.2]; rfl
    · rw [decide_eq_false hm]; refine Ev.int ?_; rw [if_neg fun q => hm q.1]; rfl
  rintro _ rfl
  refine EvL.nil ⟨by rw [sizeLine_eq]; simp, ?_⟩
  show Ex prog w H₀ _ _ (upd _ _ (.val (.lst (natsD (alikeL (mOf cs) (oOf cs) (sOf cs)))))) _ _
  -- marks
  refine Ex.cons (ExS.assignMap ⟨rfl, by decide, by decide⟩ (.inl rfl) (by decide) ?_ rfl)
  refine Ev.call G.range (.inr (.inl ⟨_, rfl⟩)) rfl (EvL.cons (Ev.int (EvL.nil (OpL.range (m := 6) ?_))))
  refine ⟨_, _, PyIt.rng (by decide), trivial, by rw [sizeLine_eq]; simp, fun d => match d with | .int k => .int (markAt cs k.toNat : Nat) | d => d, ?_, ?_⟩
  · rintro d hd
    obtain ⟨k, hk, rfl⟩ := List.mem_map.mp hd
    rw [List.mem_range] at hk
    refine Ev.bin (Ev.bin (Ev.sub (Ev.name (d := .lst (cs.map D.int)) (up (inner_val (up (up (up (up (up (up (up (up hs)))))))) rfl)) (Ev.int (OpI.lst hix1 hc1 (by omega) ?_)))))
    refine Ev.bin (Ev.int (Ev.name up0 (Op2.pow (by omega) (by
      have : Builtin.Int.intBits 5 = 3 := by decide
      rw [this]; omega) ?_)))
    have e3 : ((5 : Int) ^ ((k : Nat) : Int).toNat).natAbs = 5 ^ k := by rw [Int.natAbs_pow]; rfl
    have e4 : 5 ^ k ≤ 5 ^ 5 := Nat.pow_le_pow_right (by decide) (by omega)
    have e5 : 0 < 5 ^ k := Nat.pow_pos (by decide)
    refine Op2.floordiv (by omega) (by omega) ?_
    refine Ev.int (Op2.mod (by decide) ?_)
    show D.int _ = D.int (markAt cs k : Nat)
    rw [(fmod_nat _ (by decide)).1]; rfl
  rw [List.map_map]
  have e : ((List.range 6).map ((fun d : D => match d with | .int k => D.int (markAt cs k.toNat : Nat) | d => d) ∘ fun i => D.int (i : Nat))) = natsD ((List.range 6).map (markAt cs)) := by
    unfold natsD
    rw [List.map_map]; rfl
  rw [e]
  clear e
  -- texts
  refine Ex.cons (ExS.assignMap ⟨rfl, by decide, by decide⟩ (.inl rfl) (by decide) ?_ rfl)
  refine Ev.name up0 ⟨_, _, PyIt.list, trivial, by rw [natsD_len, sizeLine_eq]; simp, fun d => match d with | .int k => .str (S (((kindsOf cs).map kindT).getD k.toNat [])) | d => d, ?_, ?_⟩
  · rintro d' hd
    obtain ⟨k, hk, rfl⟩ := List.mem_map.mp hd
    obtain ⟨j, _, rfl⟩ := List.mem_map.mp hk
    have hk5 := markAt_lt cs j
    generalize markAt cs j = k at *
    obtain ⟨x, hx, x1, x2, x3, x4, _⟩ := gg.kind k hk5
    refine Ev.def hst rfl (EvL.cons (Ev.sub (Ev.name (d := .lst ((kindsOf cs).map kindD)) (up (inner_val (up (up up0)) rfl)) (Ev.name up0 ?_))))
    refine OpI.lst (j := k) (d := kindD x) (seqIndex_nat (by rw [List.length_map]; exact hk5)) (by rw [List.getElem?_map]; show Option.map kindD ((kindsL _ _ _ _)[k]?) = _; rw [hx]; rfl) (by omega) ?_
    refine EvL.nil (OpL.level (m := 1) (con_std (n := 0) hst x1 x2 (log2_small x3) x4 ?_) (by omega))
    show D.str (S (kindT x)) = D.str (S (((kindsOf cs).map kindT).getD k []))
    rw [List.getD_eq_getElem?_getD, List.getElem?_map]
    show _ = D.str (S ((Option.map kindT ((kindsL _ _ _ _)[k]?)).getD []))
    rw [hx]; rfl
  have e : (natsD ((List.range 6).map (markAt cs))).map (fun d : D => match d with | .int k => D.str (S (((kindsOf cs).map kindT).getD k.toNat [])) | d => d) = rowsD (textsOf cs) := by
    unfold natsD rowsD textsOf
    rw [List.map_map, List.map_map, List.map_map]; rfl
  rw [e]
  clear e
  -- wide
  refine Ex.cons (ExS.assign (Ev.bin (Ev.bin (Ev.bin (Ev.sub (Ev.name (up (up (up (up (up (up (up (up (up (up hs)))))))))) (Ev.int (OpI.lst hix hc2 (by omega) ?_))))))))
  refine Ev.int (Op2.floordiv (by decide) (by decide) (Ev.int (Op2.mod (by decide) (Ev.int (Op2.add ?_)))))
  rw [show ((cAt cs 2).fdiv 30).fmod 3 + 1 = ((wOf cs : Nat) : Int) by unfold wOf; rw [Int.natCast_add, ← (fmod_nat ((cAt cs 2).fdiv 30) (m := 3) (by decide)).1]; rfl]
  refine h _ (fun x hx => ?_) (up (up (up up0))) (up (up up0)) (up up0) up0
  have ne : ∀ y : PySem.Str, (y ∈ ([("under" : PySem.Str), ("links" : PySem.Str)])) → y ≠ ("more" : PySem.Str) ∧ y ≠ ("odd" : PySem.Str) ∧ y ≠ ("line" : PySem.Str) ∧ y ≠ ("second" : PySem.Str) ∧ y ≠ ("names" : PySem.Str) ∧ y ≠ ("kinds" : PySem.Str) ∧ y ≠ ("alike" : PySem.Str) ∧ y ≠ ("marks" : PySem.Str) ∧ y ≠ ("texts" : PySem.Str) ∧ y ≠ ("wide" : PySem.Str) := by decide
  obtain ⟨n1, n2, n3, n4, n5, n6, n7, n8, n9, n10⟩ := ne x hx
  rw [upd_ne n10, upd_ne n9, upd_ne n8, upd_ne n7, upd_ne n6, upd_ne n6, upd_ne n5, upd_ne n4, upd_ne n3, upd_ne n2, upd_ne n1]
end
end Mine
end
section
open PySem PySem.W PySem.Calls PyProof.Rows

namespace Mine
theorem drawn_heads {cs : List Int} (k : Chk (dr cs 0) (dr cs 1) (dr cs 2) (dr cs 3)) : (∀ j, j < 6 → GoodHead (rowAt (textsOf cs) [j])) ∧ (∀ j, j < 6 → (rowAt (textsOf cs) [j]).length ≤ 40) ∧ ∀ j, j < 6 → rowAt (textsOf cs) [j] = textAt cs j := by
  obtain ⟨lm, lo, ll, ls, _⟩ := mosl_lt cs
  have gg := gr_out (gr_all lm lo ll ls)
  have e : ∀ j, j < 6 → rowAt (textsOf cs) [j] = textAt cs j := fun j hj => by
    show (textsOf cs).getD j [] = _
    unfold textsOf
    rw [List.getD_eq_getElem?_getD, List.getElem?_map, List.getElem?_range hj]; rfl
  have key : ∀ j, j < 6 → GoodHead (textAt cs j) ∧ (textAt cs j).length ≤ 40 := fun j hj => by
    obtain ⟨x, hx, _, _, _, _, g, l⟩ := gg.kind (markAt cs j) (markAt_lt cs j)
    have : textAt cs j = kindT x := by
      unfold textAt kindsOf
      rw [List.getD_eq_getElem?_getD, List.getElem?_map, hx]; rfl
    rw [this]; exact ⟨g, l⟩
  exact ⟨fun j hj => by rw [e j hj]; exact (key j hj).1, fun j hj => by rw [e j hj]; exact (key j hj).2, e⟩
def colAt (cs : List Int) (k : Nat) : Nat := (alikeL (mOf cs) (oOf cs) (sOf cs)).getD (markAt cs k) 0
theorem col_text (cs : List Int) (a b : Nat) : textAt cs a = textAt cs b ↔ colAt cs a = colAt cs b := by
  obtain ⟨lm, lo, ll, ls, _⟩ := mosl_lt cs
  exact (gr_out (gr_all lm lo ll ls)).same _ (markAt_lt cs a) _ (markAt_lt cs b)
def dT (cs : List Int) : Tr := mapTr (rowAt (textsOf cs)) (treeOf (dr cs 0) (dr cs 1) (dr cs 2) (dr cs 3))
theorem linksL_in (u : List Nat) : ∀ l ∈ linksL u, ∀ j ∈ l, j < 6 := by
  intro l hl j hj
  obtain ⟨k, _, rfl⟩ := List.mem_map.mp hl
  exact List.mem_range.mp (List.mem_filter.mp hj).1
/-- each as often as it comes -/
def ones (X : List (List Nat)) : List (List Nat × Int) := X.map fun x => (x, 1)
section
variable {prog : Program} {w : World} {H₀ : Heap} {K : Frag} {n : Nat} {σ : Store}
set_option maxHeartbeats 2000000 in
theorem law_C {cs : List Int} {P : Fl → Store → Prop} (d : Defs prog w H₀ K) {aWr aSet aRnd aAdd : Addr}
    (hwr : Has prog w H₀ PP ("_law_written" : PySem.Str) aWr [("call" : PySem.Str), ("other" : PySem.Str), ("links" : PySem.Str), ("texts" : PySem.Str), ("wide" : PySem.Str)] [])
    (hset : Has prog w H₀ PP ("_law_settled" : PySem.Str) aSet [("page" : PySem.Str), ("wide" : PySem.Str)] []) (hrnd : Has prog w H₀ PP ("_law_round" : PySem.Str) aRnd [("page" : PySem.Str), ("behind" : PySem.Str), ("wide" : PySem.Str)] [])
    (hadd : Has prog w H₀ PP ("add_callers" : PySem.Str) aAdd [("target" : PySem.Str), ("source" : PySem.Str)] [])
    (h1 : σ ("links" : PySem.Str) = some (.val (linksD (linksL (uOf cs))))) (h2 : σ ("texts" : PySem.Str) = some (.val (.lst (rowsD (textsOf cs))))) (h3 : σ ("wide" : PySem.Str) = some (.val (.int (wOf cs : Nat))))
    (h : ∀ σ' T, (∀ x : PySem.Str, x ∈ ([("under" : PySem.Str), ("links" : PySem.Str), ("alike" : PySem.Str), ("marks" : PySem.Str)]) → σ' x = σ x) → Good T → Heads 40 T → sz T = 6 → text (wOf cs) T = text (wOf cs) (dT cs) →
      σ' ("pages" : PySem.Str) = some (.val (.lst (textsD ((pg T []).map (text (wOf cs)))))) → σ' ("pairs" : PySem.Str) = some (.val (.lst (textsD ((eg T []).map (keyT (wOf cs)))))) →
      σ' ("table" : PySem.Str) = some (.val (D.dict (DI (tabOf (ones ((pg T []).map (text (wOf cs)) ++ (eg T []).map (keyT (wOf cs)))))))) → Ex prog w H₀ (scopeOf PP "law") (n + 9) σ' ((bodyOf PP "law").drop 20) P) :
    Ex prog w H₀ (scopeOf PP "law") (n + 9) σ ((bodyOf PP "law").drop 16) P := by
  have G := d.G
  obtain ⟨lm, lo, ll, ls, lw, lw3⟩ := mosl_lt cs
  obtain ⟨l0, l1, l2, l3⟩ := dr_lt cs
  have ck := chk_out (chk_all l0 l1 l2 l3)
  obtain ⟨hg, hl40, _⟩ := drawn_heads ck
  have gT : Good (dT cs) := heads_all good_iff hg 7 _ ck.heads
  have hT : Heads 40 (dT cs) := heads_all (heads_iff 40) hl40 7 _ ck.heads
  have sT : sz (dT cs) = 6 := by unfold dT; rw [mapTr_sz]; exact ck.size
  have hull : (linksL (uOf cs)).length = 6 := by unfold linksL; simp
  -- page
  refine Ex.cons (ExS.assign (Ev.def hset rfl (EvL.cons (Ev.meth (fun _ => "str.join") (Ev.lit [10] ⟨Meth.join, ?_⟩)))))
  refine EvL.cons (Ev.def hwr rfl (EvL.cons (Ev.int (EvL.cons (Ev.int (EvL.cons (Ev.name h1 (EvL.cons (Ev.name h2 (EvL.cons (Ev.name h3 (EvL.nil ?_))))))))))))
  refine OpL.level (m := n + 1 + 6) (con_written (ls := linksL (uOf cs)) (tx := textsOf cs) (wd := wOf cs) G hwr lw3 hull (by unfold textsOf; simp) (linksL_in _) 6 0 0 n _ (by decide) ck.ends (Nat.le_of_eq ck.size) hT ?_) (by omega)
  refine EvL.nil (OpL.joinNl (rows := rowsU (wOf cs) (dT cs)) (by cases h : dT cs; rw [rowsU_node]; simp) (textU_small lw3 hT (by omega)) ?_)
  refine EvL.cons (Ev.name h3 (EvL.nil (con_settled d hset lw lw3 6 (dT cs) n _ (by omega) (by omega) gT hT ?_)))
  -- pages, pairs
  obtain ⟨T, t1, t2, t3, t4, t5⟩ := exists_srt (wd := wOf cs) (B := 40) (dT cs) gT hT
  rw [← t4]
  refine Ex.cons (ExS.assignT (Ev.def hrnd rfl (EvL.cons (Ev.name up0 (EvL.cons (Ev.list (EvL.nil ⟨by rw [sizeLine_eq]; simp, ?_⟩)))))))
  refine EvL.cons (Ev.name (up h3) (EvL.nil (con_round d hrnd lw lw3 6 T [] n _ (by omega) (by show sz T + 0 ≤ 6; omega) t1 t2 t3 (fun _ q => (nomatch q)) ?_)))
  refine AsOk.pair (AsOk.name (AsOk.name ?_))
  obtain ⟨_, _, zp, ze⟩ := pg_sz T []
  have lp : ((pg T []).map (text (wOf cs))).length = 6 := by rw [List.length_map, zp]; omega
  have le : ((eg T []).map (keyT (wOf cs))).length = 5 := by rw [List.length_map]; omega
  have fin := h (T := T)
  have t4' := t4
  generalize hX1 : (pg T []).map (text (wOf cs)) = X1 at *
  generalize hX2 : (eg T []).map (keyT (wOf cs)) = X2 at *
  -- table
  refine Ex.cons (ExS.assign (Ev.dict0 G.big ?_))
  refine Ex.cons (ExS.for (fun _ => True) trivial (Ev.bin (Ev.name (up (up up0)) (Ev.name (up up0) (Op2.addL (by rw [List.length_map, List.length_map, sizeLine_eq]; omega) ?_)))))
  have eX : textsD X1 ++ textsD X2 = textsD (X1 ++ X2) := by unfold textsD; rw [List.map_append]
  rw [eX]
  refine ⟨_, PyIt.list, fun k σ' => σ' ("table" : PySem.Str) = some (.val (D.dict (DI (tabOf (ones ((X1 ++ X2).take k)))))) ∧ σ' ("pages" : PySem.Str) = some (.val (.lst (textsD X1))) ∧ σ' ("pairs" : PySem.Str) = some (.val (.lst (textsD X2))) ∧
    (∀ x : PySem.Str, x ∈ ([("under" : PySem.Str), ("links" : PySem.Str), ("alike" : PySem.Str), ("marks" : PySem.Str)]) → σ' x = σ x), ⟨up0, up (up up0), up up0, fun x hx => ?_⟩, ?_, ?_⟩
  · have ne : ∀ y : PySem.Str, (y ∈ ([("under" : PySem.Str), ("links" : PySem.Str), ("alike" : PySem.Str), ("marks" : PySem.Str)])) → y ≠ ("page" : PySem.Str) ∧ y ≠ ("pages" : PySem.Str) ∧ y ≠ ("pairs" : PySem.Str) ∧ y ≠ ("table" : PySem.Str) := by decide
    obtain ⟨n1, n2, n3, n4⟩ := ne x hx
    rw [upd_ne n4, upd_ne n3, upd_ne n2, upd_ne n1]
  · rintro k x σ' hx ⟨q1, q2, q3, q4⟩
    rw [List.getElem?_map] at hx
    obtain ⟨y, hy, rfl⟩ := Option.map_eq_some_iff.mp hx
    have htk : (X1 ++ X2).take (k + 1) = (X1 ++ X2).take k ++ [y] := by rw [List.take_add_one, hy]; rfl
    refine AsOk.name ?_
    refine Ex.cons (ExS.assign (Ev.def hadd rfl (EvL.cons (Ev.name (up q1) (EvL.cons (Ev.dict1 G.big (Ev.name up0 ⟨_, rfl, Ev.int (EvL.nil ?_)⟩)))))))
    show OpL prog w H₀ _ _ [D.dict (DI (tabOf (ones ((X1 ++ X2).take k)))), D.dict (DI [(S y, 1)])] _
    have hlen : (tabOf (ones ((X1 ++ X2).take k))).length ≤ 11 := by
      have := tabOf_len (ones ((X1 ++ X2).take k))
      unfold ones at this ⊢
      rw [List.length_map, List.length_take, List.length_append] at this
      omega
    refine OpL.level (m := 1) (con_add (n := 0) hadd G.big G.isinst G.tuple (by rw [sizeLine_eq, List.length_singleton]; omega) ?_) (by omega)
    rw [← tabOf_snoc (ones ((X1 ++ X2).take k)) (y, 1)]
    refine Ex.nil ⟨?_, up (up q2), up (up q3), fun x hx => ?_⟩
    · have : ones ((X1 ++ X2).take (k + 1)) = ones ((X1 ++ X2).take k) ++ [(y, 1)] := by unfold ones; rw [htk, List.map_append]; rfl
      rw [this]; exact up0
    · have ne : ∀ y : PySem.Str, (y ∈ ([("under" : PySem.Str), ("links" : PySem.Str), ("alike" : PySem.Str), ("marks" : PySem.Str)])) → y ≠ ("text" : PySem.Str) ∧ y ≠ ("table" : PySem.Str) := by decide
      obtain ⟨n1, n2⟩ := ne x hx
      rw [upd_ne n2, upd_ne n1]; exact q4 x hx
  · rintro σ' ⟨q1, q2, q3, q4⟩
    rw [List.length_map, List.take_length] at q1
    exact fin σ' q4 t2 t3 (by omega) t4' q2 q3 q1
end
end Mine
end
section
open PySem PySem.W PySem.Calls PyProof.Rows

namespace Mine
def mvD (mv : List Nat) : D := .lst (natsD mv)
def decN : D → List Nat
  | .lst ds => ds.map fun d => match d with | .int i => i.toNat | _ => 0
  | _ => []
theorem decN_mvD (mv : List Nat) : decN (mvD mv) = mv := by
  show (natsD mv).map _ = mv
  unfold natsD
  rw [List.map_map]
  conv => rhs; rw [← List.map_id mv]
  apply List.map_congr_left
  intro i _; rfl
theorem natsD_ints (l : List Nat) : natsD l = (l.map fun (j : Nat) => (j : Int)).map D.int := by unfold natsD; rw [List.map_map]; rfl
theorem any_nat (l : List Nat) (j : Nat) : (l.map fun (j : Nat) => (j : Int)).any (· == (j : Int)) = l.contains j := by
  rw [List.any_map, Bool.eq_iff_iff, List.any_eq_true, List.contains_iff_mem]
  constructor
  · rintro ⟨x, hx, e⟩
    have e : ((x : Int) == (j : Int)) = true := e
    rw [eqI_cast, beq_iff_eq] at e
    exact e ▸ hx
  · intro h
    exact ⟨j, h, by show ((j : Int) == (j : Int)) = true; simp⟩
theorem nearL_lt (ls : List (List Nat)) (u : List Nat) (k : Nat) (mv : List Nat) : ∀ j ∈ nearL ls u k mv, j < 6 := fun j hj => List.mem_range.mp (List.mem_filter.mp hj).1
theorem nearL_len (ls : List (List Nat)) (u : List Nat) (k : Nat) (mv : List Nat) : (nearL ls u k mv).length ≤ 6 := by
  unfold nearL; exact Nat.le_trans (List.length_filter_le _ _) (by rw [List.length_range]; exact Nat.le_refl _)
theorem movesN_in (ls : List (List Nat)) (u : List Nat) (c : Nat → Nat) : ∀ k, ∀ mv ∈ movesN ls u c k, ∀ j ∈ mv, j < 6
  | 0, mv, h, j, hj => by rw [List.mem_singleton.mp h] at hj; cases hj
  | k + 1, mv, h, j, hj => by
    obtain ⟨m, hm, h⟩ := List.mem_flatMap.mp h
    obtain ⟨x, hx, rfl⟩ := List.mem_map.mp h
    rcases List.mem_append.mp hj with hj | hj
    · exact movesN_in ls u c k m hm j hj
    · rw [List.mem_singleton.mp hj]; exact nearL_lt ls u k m x (List.mem_filter.mp hx).1
theorem stepL_len (ls : List (List Nat)) (u : List Nat) (c : Nat → Nat) (k : Nat) (mv : List Nat) : (stepL ls u c k mv).length ≤ 6 := by
  unfold stepL; rw [List.length_map]; exact Nat.le_trans (List.length_filter_le _ _) (nearL_len ls u k mv)
theorem flat_len {f : List Nat → List (List Nat)} (hf : ∀ x, (f x).length ≤ 6) : ∀ l : List (List Nat), (l.flatMap f).length ≤ 6 * l.length
  | [] => by simp
  | a :: l => by rw [List.flatMap_cons, List.length_append, List.length_cons]; have := flat_len hf l; have := hf a; omega
theorem movesN_size (ls : List (List Nat)) (u : List Nat) (c : Nat → Nat) : ∀ k, (movesN ls u c k).length ≤ 6 ^ k
  | 0 => Nat.le_refl _
  | k + 1 => by
    have h1 := flat_len (stepL_len ls u c k) (movesN ls u c k)
    have h2 := movesN_size ls u c k
    show ((movesN ls u c k).flatMap _).length ≤ _
    rw [Nat.pow_succ]; omega
theorem uOf_lt (cs : List Int) : ∀ k, 1 ≤ k → k < 6 → (uOf cs).getD k 0 < k := by
  intro k h1 h6
  have : k = 1 ∨ k = 2 ∨ k = 3 ∨ k = 4 ∨ k = 5 := by omega
  rcases this with rfl | rfl | rfl | rfl | rfl
  · show (0 : Nat) < 1; omega
  · show 1 - dr cs 0 < 2; omega
  · show 2 - dr cs 1 < 3; omega
  · show 3 - dr cs 2 < 4; omega
  · show 4 - dr cs 3 < 5; omega
section
variable {prog : Program} {w : World} {H₀ : Heap} {K : Frag} {n : Nat} {σ : Store}
abbrev keepE : List PySem.Str := [("pages" : PySem.Str), ("pairs" : PySem.Str), ("table" : PySem.Str)]
set_option maxHeartbeats 4000000 in
theorem law_D {cs : List Int} {P : Fl → Store → Prop} (G : Gl H₀)
    (h1 : σ ("links" : PySem.Str) = some (.val (linksD (linksL (uOf cs))))) (h2 : σ ("under" : PySem.Str) = some (.val (.lst (natsD (uOf cs))))) (h3 : σ ("alike" : PySem.Str) = some (.val (.lst (natsD (alikeL (mOf cs) (oOf cs) (sOf cs)))))) (h4 : σ ("marks" : PySem.Str) = some (.val (.lst (natsD ((List.range 6).map (markAt cs))))))
    (h : ∀ σ', (∀ x : PySem.Str, x ∈ keepE → σ' x = σ x) → σ' ("moves" : PySem.Str) = some (.val (.lst ((movesN (linksL (uOf cs)) (uOf cs) (colAt cs) 6).map mvD))) → Ex prog w H₀ (scopeOf PP "law") n σ' ((bodyOf PP "law").drop 23) P) :
    Ex prog w H₀ (scopeOf PP "law") n σ ((bodyOf PP "law").drop 20) P := by
  -- colours
  refine Ex.cons (ExS.assign (Ev.compMap ⟨rfl, by decide, by decide⟩ (.inl rfl) (by decide) ?_) (.inr rfl) fun _ e => swaps_is e rfl)
  refine Ev.name h4 ⟨_, _, PyIt.list, trivial, by rw [natsD_len, sizeLine_eq]; simp, fun d => match d with | .int k => .int ((alikeL (mOf cs) (oOf cs) (sOf cs)).getD k.toNat 0 : Nat) | d => d, ?_, ?_⟩
  · rintro d' hd
    obtain ⟨k, hk, rfl⟩ := List.mem_map.mp hd
    obtain ⟨j, _, rfl⟩ := List.mem_map.mp hk
    have hk5 := markAt_lt cs j
    refine Ev.sub (Ev.name (d := .lst (natsD (alikeL (mOf cs) (oOf cs) (sOf cs)))) (up (inner_val h3 rfl)) (Ev.name up0 ?_))
    exact OpI.lst (j := markAt cs j) (seqIndex_nat (by rw [natsD_len]; exact hk5)) (natsD_get (by exact hk5)) (by omega) rfl
  have e : (natsD ((List.range 6).map (markAt cs))).map (fun d : D => match d with | .int k => D.int ((alikeL (mOf cs) (oOf cs) (sOf cs)).getD k.toNat 0 : Nat) | d => d) = natsD ((List.range 6).map (colAt cs)) := by
    unfold natsD
    rw [List.map_map, List.map_map, List.map_map]; rfl
  rw [e]
  clear e
  have hcol : ∀ j, j < 6 → (natsD ((List.range 6).map (colAt cs)))[j]? = some (.int (colAt cs j : Nat)) := fun j hj => by
    unfold natsD
    rw [List.getElem?_map, List.getElem?_map, List.getElem?_range hj]; rfl
  have hcl : (natsD ((List.range 6).map (colAt cs))).length = 6 := by rw [natsD_len]; simp
  -- moves
  refine Ex.cons (ExS.assign (Ev.list (EvL.cons (Ev.list (EvL.nil ⟨by rw [sizeLine_eq]; simp, ?_⟩)))))
  refine EvL.nil ⟨by rw [sizeLine_eq]; simp, ?_⟩
  have hull : (linksL (uOf cs)).length = 6 := by unfold linksL; simp
  have hul : (uOf cs).length = 6 := rfl
  have hu := uOf_lt cs
  generalize hls : linksL (uOf cs) = ls at *
  generalize huu : uOf cs = u at *
  generalize hcc : colAt cs = c at *
  refine Ex.cons (ExS.for (fun _ => True) trivial (Ev.call G.range (.inr (.inl ⟨_, rfl⟩)) rfl (EvL.cons (Ev.int (EvL.nil (OpL.range (m := 6) ?_))))))
  refine ⟨_, PyIt.rng (by decide), fun k σ' => σ' ("moves" : PySem.Str) = some (.val (.lst ((movesN ls u c k).map mvD))) ∧ σ' ("colours" : PySem.Str) = some (.val (.lst (natsD ((List.range 6).map c)))) ∧ σ' ("links" : PySem.Str) = some (.val (linksD ls)) ∧ σ' ("under" : PySem.Str) = some (.val (.lst (natsD u))) ∧
    (∀ x : PySem.Str, x ∈ keepE → σ' x = σ x), ⟨up0, up up0, up (up h1), up (up h2), fun x hx => ?_⟩, ?_, ?_⟩
  · have ne : ∀ y : PySem.Str, y ∈ keepE → y ≠ ("colours" : PySem.Str) ∧ y ≠ ("moves" : PySem.Str) := by decide
    obtain ⟨n1, n2⟩ := ne x hx
    rw [upd_ne n2, upd_ne n1]
  · rintro k x σ' hx ⟨q1, q2, q3, q4, q5⟩
    rw [List.getElem?_map] at hx
    obtain ⟨k', hk', rfl⟩ := Option.map_eq_some_iff.mp hx
    obtain ⟨hk6, hkr⟩ := List.getElem?_eq_some_iff.mp hk'
    rw [List.length_range] at hk6
    rw [List.getElem_range] at hkr
    subst hkr
    have hmlen := movesN_len ls u c k
    have hmin := movesN_in ls u c k
    have hmsz : (movesN ls u c k).length ≤ 7776 := Nat.le_trans (movesN_size ls u c k) (Nat.le_trans (Nat.pow_le_pow_right (by decide) (show k ≤ 5 by omega)) (by decide))
    have hnext : movesN ls u c (k + 1) = (movesN ls u c k).flatMap (stepL ls u c k) := rfl
    generalize movesN ls u c k = mvs at *
    refine AsOk.name ?_
    -- near
    refine Ex.cons (ExS.assign (Ev.compMap ⟨rfl, by decide, by decide⟩ (.inr rfl) (by decide) ?_) (.inr rfl) fun _ e => swaps_is e rfl)
    refine Ev.name (up q1) ⟨_, _, PyIt.list, trivial, by rw [List.length_map, sizeLine_eq]; omega, fun d => mvD (nearL ls u k (decN d)), ?_, ?_⟩
    · rintro d hd
      obtain ⟨mv, hmv, rfl⟩ := List.mem_map.mp hd
      refine Ev.compFilter ⟨rfl, by decide, by decide⟩ (.inl rfl) (by decide) ?_
      refine Ev.call G.range (.inr (.inl ⟨_, rfl⟩)) rfl (EvL.cons (Ev.int (EvL.nil (OpL.range (m := 6) ?_))))
      refine ⟨_, _, PyIt.rng (by decide), trivial, by rw [sizeLine_eq]; simp, id, fun d => match d with | .int j => k == 0 || (ls.getD (mv.getD (u.getD k 0) 0) []).contains j.toNat | _ => false, ?_, ?_, ?_⟩
      · rintro d hd
        obtain ⟨j, hj, rfl⟩ := List.mem_map.mp hd
        rw [List.mem_range] at hj
        refine EvB.or (EvB.cmp (Ev.name (d := .int (k : Nat)) (up (inner_val (up (inner_val up0 rfl)) rfl)) (Ev.int (Op2.eqI ⟨_, rfl, ?_⟩))))
        have ek : (((k : Nat) : Int) == 0) = (k == 0) := by rw [Bool.eq_iff_iff, beq_iff_eq, beq_iff_eq]; omega
        rw [ek]
        cases hk0 : (k == 0) with
        | true =>
          show true = (true || _)
          rfl
        | false =>
          have hk1 : 1 ≤ k := by
            rcases Nat.eq_zero_or_pos k with e | e
            · rw [e] at hk0; cases hk0
            · exact e
          have huk := hu k hk1 hk6
          have hml := hmlen mv hmv
          have m1 : (natsD u)[k]? = some (.int (u.getD k 0 : Nat)) := natsD_get (by omega)
          have m2 : (natsD mv)[u.getD k 0]? = some (.int (mv.getD (u.getD k 0) 0 : Nat)) := natsD_get (by omega)
          have m3 : mv.getD (u.getD k 0) 0 < 6 := by
            rw [List.getD_eq_getElem?_getD, List.getElem?_eq_getElem (by omega)]
            exact hmin mv hmv _ (List.getElem_mem _)
          have m4' : ∀ q, q < 6 → (ls.map fun l => D.lst (natsD l))[q]? = some (.lst (((ls.getD q []).map fun (j : Nat) => (j : Int)).map D.int)) := fun q hq => by
            rw [List.getElem?_map, List.getD_eq_getElem?_getD, List.getElem?_eq_getElem (by omega)]
            show some (D.lst (natsD _)) = _
            rw [natsD_ints]; rfl
          have m4 := m4' _ m3
          refine EvB.or (EvB.cmp (Ev.name up0 (Ev.sub (Ev.name (d := linksD ls) (up (inner_val (up (inner_val (up q3) rfl)) rfl)) ?_))))
          refine Ev.sub (Ev.name (d := mvD mv) (up (inner_val up0 rfl)) (Ev.sub (Ev.name (d := .lst (natsD u)) (up (inner_val (up (inner_val (up q4) rfl)) rfl)) ?_)))
          refine Ev.name (d := .int (k : Nat)) (up (inner_val (up (inner_val up0 rfl)) rfl)) (OpI.lst (j := k) (seqIndex_nat (by rw [natsD_len]; omega)) m1 (by omega) ?_)
          refine OpI.lst (j := u.getD k 0) (seqIndex_nat (by rw [natsD_len]; omega)) m2 (by omega) ?_
          refine OpI.lst (j := mv.getD (u.getD k 0) 0) (seqIndex_nat (by rw [List.length_map]; omega)) m4 (by omega) ?_
          refine Op2.inI ⟨_, rfl, ?_⟩
          rw [any_nat]
          cases hcn : (ls.getD (mv.getD (u.getD k 0) 0) []).contains j with
          | true =>
            show true = (false || (ls.getD (mv.getD (u.getD k 0) 0) []).contains j)
            rw [hcn]; rfl
          | false =>
            refine EvB.or_nil ?_
            show false = (false || (ls.getD (mv.getD (u.getD k 0) 0) []).contains j)
            rw [hcn]; rfl
      · rintro d hd _
        exact Ev.name up0 rfl
      · show D.lst _ = mvD (nearL ls u k (decN (mvD mv)))
        rw [decN_mvD]
        unfold mvD nearL
        congr 1
        rw [List.filter_map, List.map_map]
        rfl
    have enear : (mvs.map mvD).map (fun d => mvD (nearL ls u k (decN d))) = mvs.map fun mv => mvD (nearL ls u k mv) := by
      rw [List.map_map]
      apply List.map_congr_left
      intro mv _
      show mvD (nearL ls u k (decN (mvD mv))) = _
      rw [decN_mvD]
    rw [enear]
    clear enear
    -- moves
    refine Ex.cons (ExS.assign (Ev.comp2 ⟨rfl, by decide, by decide⟩ ?_) (.inr rfl) fun _ e => swaps_is e rfl)
    refine Ev.call G.range (.inr (.inl ⟨_, rfl⟩)) rfl (EvL.cons (Ev.call G.len (.inl ⟨_, rfl⟩) rfl (EvL.cons (Ev.name (up (up q1)) (EvL.nil (OpL.lenL (by rw [List.length_map]; omega) (EvL.nil (OpL.range ?_))))))))
    rw [List.length_map]
    refine ⟨_, _, PyIt.rng (by omega), trivial, fun i ys => ys = ((mvs.take i).flatMap (stepL ls u c k)).map mvD, rfl, ?_, ?_⟩
    · intro i x ys hx hJ
      rw [List.getElem?_map] at hx
      obtain ⟨i', hi', rfl⟩ := Option.map_eq_some_iff.mp hx
      obtain ⟨hil, hir⟩ := List.getElem?_eq_some_iff.mp hi'
      rw [List.length_range] at hil
      rw [List.getElem_range] at hir
      subst hir
      have hmv : mvs[i]? = some mvs[i] := List.getElem?_eq_getElem hil
      have hmm : mvs[i] ∈ mvs := List.getElem_mem hil
      have htk : mvs.take (i + 1) = mvs.take i ++ [mvs[i]] := by rw [List.take_add_one, hmv]; rfl
      generalize mvs[i] = mv at *
      have hml := hmlen mv hmm
      have hbase : (((mvs.take i).flatMap (stepL ls u c k)).map mvD).length ≤ 50000 := by
        rw [List.length_map]
        have h1 := flat_len (stepL_len ls u c k) (mvs.take i)
        rw [List.length_take] at h1
        omega
      refine AsOk.name ?_ (.inl rfl) (by decide)
      refine Ev.sub (Ev.name (d := .lst (mvs.map fun mv => mvD (nearL ls u k mv))) (up (inner_val up0 rfl)) (Ev.name up0 ?_))
      refine OpI.lst (j := i) (d := mvD (nearL ls u k mv)) (seqIndex_nat (by rw [List.length_map]; exact hil)) (by rw [List.getElem?_map, hmv]; rfl) (by omega) ?_
      have hmvD : (mvs.map mvD)[i]? = some (.lst ((mv.map fun (j : Nat) => (j : Int)).map D.int)) := by
        rw [List.getElem?_map, hmv]
        show some (D.lst (natsD mv)) = _
        rw [natsD_ints]
      refine ⟨_, fun _ => True, PyIt.list, trivial, fun q ys' σ₂ => ys' = ((mvs.take i).flatMap (stepL ls u c k)).map mvD ++ ((((nearL ls u k mv).take q).filter fun j => !mv.contains j && c j == c k).map fun j => mvD (mv ++ [j])) ∧ σ₂ ("i" : PySem.Str) = some (.val (.int (i : Nat))) ∧
        σ₂ ("moves" : PySem.Str) = some (.val (.lst (mvs.map mvD))) ∧ σ₂ ("colours" : PySem.Str) = some (.val (.lst (natsD ((List.range 6).map c)))) ∧ σ₂ ("k" : PySem.Str) = some (.val (.int (k : Nat))), ⟨?_, up0, up (inner_val (up (up q1)) rfl), up (inner_val (up (up q2)) rfl), up (inner_val (up up0) rfl)⟩, ?_, ?_, ?_⟩
      · rw [hJ]; simp
      · rintro q x ys' σ₂ hx ⟨e, s1, s2, s3, s4⟩
        unfold natsD at hx
        rw [List.getElem?_map] at hx
        obtain ⟨j, hj, rfl⟩ := Option.map_eq_some_iff.mp hx
        have hj6 := nearL_lt ls u k mv j (List.mem_of_getElem? hj)
        have htq : (nearL ls u k mv).take (q + 1) = (nearL ls u k mv).take q ++ [j] := by rw [List.take_add_one, hj]; rfl
        refine AsOk.name ?_ (.inl rfl) (by decide)
        refine EvB.mono (Q := fun b => b = (!mv.contains j && c j == c k)) (EvB.and (EvB.cmp (Ev.name up0 (Ev.sub (Ev.name (up s2) (Ev.name (up s1) (OpI.lst (j := i) (seqIndex_nat (by rw [List.length_map]; exact hil)) hmvD (by omega) (Op2.notinI ⟨_, rfl, ?_⟩)))))))) ?_
        · rw [any_nat]
          cases hcn : (!mv.contains j) with
          | false => rfl
          | true =>
            refine EvB.and (EvB.cmp (Ev.sub (Ev.name (up s3) (Ev.name up0 (OpI.lst (j := j) (seqIndex_nat (by rw [hcl]; exact hj6)) (hcol j hj6) (by omega) (Ev.sub (Ev.name (up s3) (Ev.name (up s4) (OpI.lst (j := k) (seqIndex_nat (by rw [hcl]; exact hk6)) (hcol k hk6) (by omega) (Op2.eqI ⟨_, rfl, ?_⟩))))))))))
            rw [eqI_cast]
            cases hce : (c j == c k) with
            | false => rfl
            | true => exact EvB.and_nil rfl
        · rintro _ rfl
          cases hok : (!mv.contains j && c j == c k) with
          | false =>
            refine ⟨?_, up s1, up s2, up s3, up s4⟩
            rw [htq, List.filter_append, List.filter_cons, if_neg (by rw [hok]; decide), List.filter_nil, List.append_nil]
            exact e
          | true =>
            show Ev prog w H₀ _ n _ _ _
            refine Ev.bin (Ev.sub (Ev.name (up s2) (Ev.name (up s1) (OpI.lst (j := i) (d := mvD mv) (seqIndex_nat (by rw [List.length_map]; exact hil)) (by rw [List.getElem?_map, hmv]; rfl) (by omega) ?_))))
            refine Ev.list (EvL.cons (Ev.name up0 (EvL.nil ⟨by rw [sizeLine_eq]; simp, Op2.addL (by rw [natsD_len, sizeLine_eq]; simp; omega) ?_⟩)))
            refine ⟨?_, up s1, up s2, up s3, up s4⟩
            rw [htq, List.filter_append, List.filter_cons, if_pos hok, List.filter_nil, List.map_append, ← List.append_assoc, ← e]
            have : D.lst (natsD mv ++ [D.int ((j : Nat) : Int)]) = mvD (mv ++ [j]) := by unfold mvD natsD; rw [List.map_append]; rfl
            rw [this]; rfl
      · rintro q ys' σ₂ ⟨e, _⟩
        rw [e, List.length_append, List.length_map (as := List.filter _ _)]
        have h1 := List.length_filter_le (fun j => !mv.contains j && c j == c k) ((nearL ls u k mv).take q)
        have h2 := nearL_len ls u k mv
        rw [List.length_take] at h1
        rw [sizeLine_eq]; omega
      · rintro ys' σ₂ ⟨e, _⟩
        rw [natsD_len, List.take_length] at e
        rw [e, htk, List.flatMap_append, List.map_append, List.flatMap_cons, List.flatMap_nil, List.append_nil]
        congr 1
        unfold stepL
        rw [List.map_map]; rfl
    · intro ys hJ
      rw [List.length_map, List.length_range, List.take_length] at hJ
      subst hJ
      refine Ex.nil ⟨by show _ = some (Slot.val (D.lst ((movesN ls u c (k + 1)).map mvD))); rw [hnext]; exact up0, up (up (up q2)), up (up (up q3)), up (up (up q4)), fun x hx => ?_⟩
      have ne : ∀ y : PySem.Str, y ∈ keepE → y ≠ ("k" : PySem.Str) ∧ y ≠ ("near" : PySem.Str) ∧ y ≠ ("moves" : PySem.Str) := by decide
      obtain ⟨n1, n2, n3⟩ := ne x hx
      rw [upd_ne n3, upd_ne n2, upd_ne n1]; exact q5 x hx
  · rintro σ' ⟨q1, _, _, _, q5⟩
    rw [List.length_map, List.length_range] at q1
    exact h σ' q5 q1
end
end Mine
end
section
open PySem PySem.W PySem.Calls PyProof.Rows

namespace Mine
theorem atI_gsum : ∀ (l : KI), (keysI l).Nodup → ∀ k ∈ keysI l, atI l k = some (gsum (fun k' => if k' = k then 1 else 0) l)
  | (k0, v) :: l, hn, k, hk => by
    have hn' := List.nodup_cons.mp hn
    have e : gsum (fun k' => if k' = k then 1 else 0) ((k0, v) :: l) = v * (if k0 = k then 1 else 0) + gsum (fun k' => if k' = k then 1 else 0) l := by
      unfold gsum; rw [List.map_cons, List.sum_cons]
    rw [e]
    by_cases h : k0 = k
    · subst h
      have hz : gsum (fun k' => if k' = k0 then 1 else 0) l = 0 := by
        unfold gsum
        refine sum_zero fun p hp => ?_
        have : p.1 ≠ k0 := fun q => hn'.1 (List.mem_map.mpr ⟨p, hp, q⟩)
        show p.2 * (if p.1 = k0 then 1 else 0) = 0
        rw [if_neg this]; simp
      rw [if_pos rfl, hz]
      unfold atI
      rw [List.find?_cons, decide_eq_true (show (k0, v).1 = k0 from rfl)]
      show some v = _
      congr 1; omega
    · rw [if_neg h]
      have ih := atI_gsum l hn'.2 k ((List.mem_cons.mp hk).resolve_left fun q => h q.symm)
      unfold atI at ih ⊢
      rw [List.find?_cons, decide_eq_false (show ¬ (k0, v).1 = k from h)]
      rw [show v * 0 + gsum (fun k' => if k' = k then 1 else 0) l = gsum (fun k' => if k' = k then 1 else 0) l by omega]
      exact ih
theorem tab_at {X : List (List Nat)} {x : List Nat} (hx : x ∈ X) : atI (tabOf (ones X)) (S x) = some ((X.count x : Nat) : Int) := by
  have hk : S x ∈ keysI (tabOf (ones X)) := by
    rw [tabOf_keys]
    refine List.mem_map_of_mem ((dd_mem _).mpr ?_)
    unfold ones; rw [List.map_map]
    have : ((fun p : List Nat × Int => p.1) ∘ fun x => (x, (1 : Int))) = id := rfl
    rw [this, List.map_id]; exact hx
  rw [atI_gsum _ (tabOf_nodup _) _ hk]
  congr 1
  have h1 := tabOf_gsum (fun y => if y = x then 1 else 0) (ones X)
  have h2 : gsum (fun k => if k.cps.toList = x then 1 else 0) (tabOf (ones X)) = gsum (fun k' => if k' = S x then 1 else 0) (tabOf (ones X)) := by
    unfold gsum
    congr 1
    apply List.map_congr_left
    intro p _
    congr 1
    show (if p.1.cps.toList = x then (1 : Int) else 0) = if p.1 = S x then 1 else 0
    by_cases h : p.1.cps.toList = x
    · rw [if_pos h, if_pos (by rw [← h, S_eta])]
    · rw [if_neg h, if_neg fun q => h (by rw [q]; rfl)]
  rw [← h2, h1]
  unfold ones
  rw [List.map_map]
  clear hk h1 h2 hx
  induction X with
  | nil => rfl
  | cons a X ih =>
    rw [List.map_cons, List.sum_cons, ih, List.count_cons]
    show 1 * (if a = x then 1 else 0) + _ = _
    by_cases h : a = x
    · rw [if_pos h, if_pos (by simpa using h), Int.natCast_add]; omega
    · rw [if_neg h, if_neg (by simpa using h)]; omega
section
variable {prog : Program} {w : World} {H₀ : Heap} {K : Frag} {n : Nat} {σ : Store} {Q : D → Prop}
abbrev keepS : List PySem.Str := [("pages" : PySem.Str), ("pairs" : PySem.Str), ("table" : PySem.Str), ("moves" : PySem.Str)]
theorem sums_add {aAdd : Addr} {sm : KI} {x : List Nat} {v : Int} (d : Defs prog w H₀ K) (hadd : Has prog w H₀ PP ("add_callers" : PySem.Str) aAdd [("target" : PySem.Str), ("source" : PySem.Str)] []) (hl : sm.length ≤ 100)
    (hq : Q (D.dict (DI (addI sm [(S x, v)])))) : OpL prog w H₀ (n + 1) (fun vs => PySem.call (.ref aAdd) vs) [D.dict (DI sm), D.dict [(S x, .int v)]] Q :=
  con_add (t := sm) (s := [(S x, v)]) hadd d.G.big d.G.isinst d.G.tuple (by rw [sizeLine_eq, List.length_singleton]; omega) hq
set_option maxHeartbeats 4000000 in
theorem law_E {wd : Nat} {T : Tr} {mvs : List (List Nat)} (d : Defs prog w H₀ K) {aAdd aCnt aTrn : Addr} (hadd : Has prog w H₀ PP ("add_callers" : PySem.Str) aAdd [("target" : PySem.Str), ("source" : PySem.Str)] []) (hcnt : Has prog w H₀ PP ("count_calls" : PySem.Str) aCnt [("callers" : PySem.Str)] [])
    (htrn : Has prog w H₀ PP ("_law_turns" : PySem.Str) aTrn [("page" : PySem.Str)] []) (hw : 1 ≤ wd) (hw3 : wd ≤ 3) (gT : Good T) (hT : Heads 40 T) (sT : sz T = 6) (hM : mvs.length = WW wd (pg T []) T) (hM2 : mvs.length ≤ 100000)
    (h1 : σ ("pages" : PySem.Str) = some (.val (.lst (textsD (pagesX wd T))))) (h2 : σ ("pairs" : PySem.Str) = some (.val (.lst (textsD (tiesX wd T))))) (h3 : σ ("table" : PySem.Str) = some (.val (D.dict (DI (tabOf (ones (pagesX wd T ++ tiesX wd T)))))))
    (h4 : σ ("moves" : PySem.Str) = some (.val (.lst (mvs.map mvD)))) (hQ : Q (.bool true)) : Ex prog w H₀ (scopeOf PP "law") (n + 9) σ ((bodyOf PP "law").drop 23) (RetOf Q) := by
  have G := d.G
  obtain ⟨_, _, zp, ze⟩ := pg_sz T []
  have lp : (pagesX wd T).length = 6 := by unfold pagesX; rw [List.length_map, zp]; omega
  have le : (tiesX wd T).length = 5 := by unfold tiesX; rw [List.length_map]; omega
  have hsum := sumX hw gT (mvs.length : Int)
  have half : ∀ x ∈ pagesX wd T ++ tiesX wd T, ∃ l, Half wd T mvs.length x l := fun x hx => by rw [hM]; exact half_of hw hw3 gT hT sT hx
  have eX : textsD (pagesX wd T) ++ textsD (tiesX wd T) = textsD (pagesX wd T ++ tiesX wd T) := by unfold textsD; rw [List.map_append]
  have hXl : (pagesX wd T ++ tiesX wd T).length = 11 := by rw [List.length_append]; omega
  have hap := apart hw gT
  generalize hXX : pagesX wd T ++ tiesX wd T = X at *
  have hdl := dd_len X
  refine Ex.cons (ExS.assign (Ev.dict0 G.big ?_))
  refine Ex.cons (ExS.for (fun _ => True) trivial (Ev.def d.dup rfl (EvL.cons (Ev.bin (Ev.name (up h1) (Ev.name (up h2) (Op2.addL (by rw [List.length_map, List.length_map, sizeLine_eq]; omega) ?_)))))))
  rw [eX]
  refine EvL.nil (OpL.level (m := 1) (con_dup (n := 0) d (by omega) ?_) (by omega))
  refine ⟨_, PyIt.dct, fun k σ' => ∃ sm : KI, σ' ("sums" : PySem.Str) = some (.val (D.dict (DI sm))) ∧ (keysI sm).Nodup ∧ gsum (fun _ => 1) sm = (((dd X).take k).map (valX wd T (mvs.length : Int))).sum ∧ sm.length ≤ k ∧ (∀ y : PySem.Str, y ∈ keepS → σ' y = σ y),
    ⟨[], up0, List.Pairwise.nil, rfl, Nat.le_refl _, fun y hy => ?_⟩, ?_, ?_⟩
  · have ne : ∀ y : PySem.Str, y ∈ keepS → y ≠ ("sums" : PySem.Str) := by decide
    exact upd_ne (ne y hy)
  · rintro k z σ' hz ⟨sm, s1, s2, s3, s4, s5⟩
    rw [fk_keys_dd, List.map_map, List.getElem?_map] at hz
    obtain ⟨x, hx, rfl⟩ := Option.map_eq_some_iff.mp hz
    have hkl := (List.getElem?_eq_some_iff.mp hx).1
    have hxX : x ∈ X := (dd_mem X).mp (List.mem_of_getElem? hx)
    have htk : (dd X).take (k + 1) = (dd X).take k ++ [x] := by rw [List.take_add_one, hx]; rfl
    obtain ⟨hs, hf⟩ := half x hxX
    have hval : (((dd X).take (k + 1)).map (valX wd T (mvs.length : Int))).sum = (((dd X).take k).map (valX wd T (mvs.length : Int))).sum + valX wd T (mvs.length : Int) x := by
      rw [htk, List.map_append, List.sum_append]; simp
    have q1 := (s5 _ (by decide)).trans h1
    have q3 := (s5 _ (by decide)).trans h3
    have q4 := (s5 _ (by decide)).trans h4
    have hat : atD (DI (tabOf (ones X))) (S x) = some (.int ((X.count x : Nat) : Int)) := by rw [atD_DI, tab_at hxX]; rfl
    have hcx : X.count x ≤ 11 := by have := List.count_le_length (a := x) (l := X); omega
    -- the halves
    have split : ∀ Q' : D → Prop, Q' (.lst (textsD (hs.map (text wd)))) → OpL prog w H₀ (n + 9) (fun vs => call (.builtin "str.split") vs) [.str (S x), .str (S [10, 10])] Q' := fun Q' q => by
      have hlen := hf.len
      have sp : ∀ a ∈ hs, Sep (text wd a) := fun a ha => sep_text hw (hf.all a ha).1
      rcases hf.case with ⟨a, rfl, rfl, _⟩ | ⟨a, b, rfl, rfl, _⟩ | ⟨a, b, rfl, rfl, _⟩
      · exact OpL.splitSep (sp a List.mem_cons_self) (by omega) q
      · exact OpL.splitGlue (sp a List.mem_cons_self) (sp b (List.mem_cons_of_mem _ List.mem_cons_self)) (by omega) q
      · exact OpL.splitGlue (sp a List.mem_cons_self) (sp b (List.mem_cons_of_mem _ List.mem_cons_self)) (by omega) q
    have hsl : hs.length ≤ 2 := by
      rcases hf.case with ⟨a, rfl, _⟩ | ⟨a, b, rfl, _⟩ | ⟨a, b, rfl, _⟩ <;> simp
    have htl : (textsD (hs.map (text wd))).length = hs.length := by rw [List.length_map, List.length_map]
    have hpb : ∀ i, X.count x * prodN ((hs.take i).map (tn wd)) ≤ 2 ^ 80 := fun i => by
      have h36 : ∀ a ∈ hs, tn wd a ≤ 2 ^ 36 := fun a ha => by
        have := (hf.all a ha).2.2
        exact Nat.le_trans (tn_le wd a) (Nat.pow_le_pow_right (by decide) (Nat.mul_le_mul this this))
      have : ∀ l : List Tr, (∀ a ∈ l, a ∈ hs) → prodN (l.map (tn wd)) ≤ 2 ^ (36 * l.length) := by
        intro l
        induction l with
        | nil => intro _; exact Nat.le_refl _
        | cons a l ih =>
          intro hm
          rw [List.map_cons, prodN_cons, List.length_cons, Nat.mul_add, Nat.mul_one, Nat.add_comm, Nat.pow_add]
          exact Nat.mul_le_mul (h36 a (hm a List.mem_cons_self)) (ih fun x hx => hm x (List.mem_cons_of_mem _ hx))
      have h5 := this (hs.take i) fun a ha => List.mem_of_mem_take ha
      refine Nat.le_trans (Nat.mul_le_mul (show X.count x ≤ 2 ^ 8 by omega) h5) ?_
      rw [← Nat.pow_add]
      refine Nat.pow_le_pow_right (by decide) ?_
      rw [List.length_take]; omega
    refine AsOk.name ?_
    refine Ex.cons (ExS.assign (Ev.meth (fun _ => "str.split") (Ev.name up0 ⟨Meth.split, EvL.cons (Ev.lit [10, 10] (EvL.nil (split _ ?_)))⟩)))
    refine Ex.cons (ExS.assign (Ev.sub (Ev.name (up (up q3)) (Ev.name (up up0) (OpI.dict hat ?_)))))
    refine Ex.cons (ExS.for (fun _ => True) trivial (Ev.name (up up0) ?_))
    refine ⟨_, PyIt.list, fun i σ₂ => σ₂ ("ways" : PySem.Str) = some (.val (.int ((X.count x * prodN ((hs.take i).map (tn wd)) : Nat) : Int))) ∧ σ₂ ("halves" : PySem.Str) = some (.val (.lst (textsD (hs.map (text wd))))) ∧ σ₂ ("text" : PySem.Str) = some (.val (.str (S x))) ∧ σ₂ ("sums" : PySem.Str) = some (.val (D.dict (DI sm))) ∧ (∀ y : PySem.Str, y ∈ keepS → σ₂ y = σ y),
      ⟨?_, up up0, up (up up0), up (up (up s1)), fun y hy => ?_⟩, ?_, ?_⟩
    · rw [List.take_zero]
      show _ = some (Slot.val (D.int ((X.count x * 1 : Nat) : Int)))
      rw [Nat.mul_one]; exact up0
    · have ne : ∀ y : PySem.Str, y ∈ keepS → y ≠ ("text" : PySem.Str) ∧ y ≠ ("halves" : PySem.Str) ∧ y ≠ ("ways" : PySem.Str) := by decide
      obtain ⟨n1, n2, n3⟩ := ne y hy
      rw [upd_ne n3, upd_ne n2, upd_ne n1]; exact s5 y hy
    · rintro i z σ₂ hz ⟨u1, u2, u3, u4, u5⟩
      rw [List.getElem?_map, List.getElem?_map] at hz
      obtain ⟨t', ht', rfl⟩ := Option.map_eq_some_iff.mp hz
      obtain ⟨a, ha, rfl⟩ := Option.map_eq_some_iff.mp ht'
      have ham := List.mem_of_getElem? ha
      obtain ⟨a1, a2, a3⟩ := hf.all a ham
      have hti : hs.take (i + 1) = hs.take i ++ [a] := by rw [List.take_add_one, ha]; rfl
      refine AsOk.name ?_
      refine Ex.cons (ExS.assign (Ev.bin (Ev.name (up u1) (Ev.def htrn rfl (EvL.cons (Ev.name up0 (EvL.nil (con_turns d htrn hw hw3 6 a n _ (by omega) a3 a1 a2 ?_))))))))
      have b36 : tn wd a ≤ 2 ^ 36 := Nat.le_trans (tn_le wd a) (Nat.pow_le_pow_right (by decide) (Nat.mul_le_mul a3 a3))
      refine Op2.mul (mulOk_bd (bdN (hpb i)) (bdN b36) (by omega)) ?_
      refine Ex.nil ⟨?_, up (up u2), up (up u3), up (up u4), fun y hy => ?_⟩
      · have e : ((X.count x * prodN ((hs.take i).map (tn wd)) : Nat) : Int) * ((tn wd a : Nat) : Int) = ((X.count x * prodN ((hs.take (i + 1)).map (tn wd)) : Nat) : Int) := by
          rw [← Int.natCast_mul, hti, List.map_append, prodN_app]
          congr 1
          show _ = X.count x * (prodN ((hs.take i).map (tn wd)) * (tn wd a * 1))
          rw [Nat.mul_one, Nat.mul_assoc]
        rw [e]; exact up0
      · have ne : ∀ y : PySem.Str, y ∈ keepS → y ≠ ("half" : PySem.Str) ∧ y ≠ ("ways" : PySem.Str) := by decide
        obtain ⟨n1, n2⟩ := ne y hy
        rw [upd_ne n2, upd_ne n1]; exact u5 y hy
    · rintro σ₂ ⟨u1, u2, u3, u4, u5⟩
      rw [htl, List.take_length] at u1
      -- what is told at the end of a turn
      have last : ∀ (σ₃ : Store) (W : Int) (sm' : KI), W = (mvs.length : Int) → σ₃ ("ways" : PySem.Str) = some (.val (.int W)) → σ₃ ("sums" : PySem.Str) = some (.val (D.dict (DI sm'))) → (keysI sm').Nodup → gsum (fun _ => 1) sm' = (((dd X).take k).map (valX wd T (mvs.length : Int))).sum + valX wd T (mvs.length : Int) x → sm'.length ≤ k + 1 →
          (∀ y : PySem.Str, y ∈ keepS → σ₃ y = σ y) → Ex prog w H₀ (scopeOf PP "law") (n + 9) σ₃ ([((match (bodyOf PP "law")[24]? with | some (.For _ _ b _ _) => b | _ => [])[4]?).getD (.Pass default)]) (Turn (fun σ' => ∃ sm : KI, σ' ("sums" : PySem.Str) = some (.val (D.dict (DI sm))) ∧ (keysI sm).Nodup ∧ gsum (fun _ => 1) sm = (((dd X).take (k + 1)).map (valX wd T (mvs.length : Int))).sum ∧ sm.length ≤ k + 1 ∧ (∀ y : PySem.Str, y ∈ keepS → σ' y = σ y))
            (fun fl σ' => match fl with | .next => Ex prog w H₀ (scopeOf PP "law") (n + 9) σ' ((bodyOf PP "law").drop 25) (RetOf Q) | fl => RetOf Q fl σ')) := fun σ₃ W sm' hW w1 w2 w3 w4 w5 w6 => by
        have q4' := (w6 _ (by decide)).trans h4
        refine Ex.cons (ExS.if (EvB.cmp (Ev.name w1 (Ev.call G.len (.inl ⟨_, rfl⟩) rfl (EvL.cons (Ev.name q4' (EvL.nil (OpL.lenL (by rw [List.length_map]; omega) (Op2.neI ⟨_, rfl, ?_⟩)))))))))
        rw [List.length_map, hW, show ((mvs.length : Int) != (mvs.length : Int)) = false by simp]
        exact Ex.nil (Ex.nil ⟨sm', w2, w3, by rw [hval]; exact w4, w5, w6⟩)
      have addOk : ∀ v : Int, v = valX wd T (mvs.length : Int) x → (keysI (addI sm [(S x, v)])).Nodup ∧ gsum (fun _ => 1) (addI sm [(S x, v)]) = (((dd X).take k).map (valX wd T (mvs.length : Int))).sum + valX wd T (mvs.length : Int) x ∧ (addI sm [(S x, v)]).length ≤ k + 1 := fun v hv => by
        refine ⟨?_, ?_, ?_⟩
        · rw [addI_one s2]; exact incI_nodup s2 _
        · rw [addI_gsum _ s2, s3, hv]
          congr 1
          unfold gsum; simp
        · rw [addI_one s2]
          exact Nat.le_trans (incI_length _ _) (by omega)
      have keep3 : ∀ (s : Slot), ∀ y : PySem.Str, y ∈ keepS → upd σ₂ ("sums" : PySem.Str) s y = σ y := fun s y hy => by
        have ne : ∀ y : PySem.Str, y ∈ keepS → y ≠ ("sums" : PySem.Str) := by decide
        rw [upd_ne (ne y hy)]; exact u5 y hy
      refine Ex.cons (ExS.if (EvB.cmp (Ev.call G.len (.inl ⟨_, rfl⟩) rfl (EvL.cons (Ev.name u2 (EvL.nil (OpL.lenL (by rw [htl]; omega) (Ev.int (Op2.eqI ⟨_, rfl, ?_⟩)))))))))
      rw [htl]
      rcases hf.case with ⟨a, rfl, rfl, ma, ea⟩ | ⟨a, b, rfl, rfl, mn, ne, mb, eb⟩ | ⟨a, b, rfl, rfl, mn, ne, mb, eb⟩
      · rw [show ((([a] : List Tr).length : Nat) : Int) == 1 from rfl]
        have eW : ((X.count (text wd a) * prodN (([a] : List Tr).map (tn wd)) : Nat) : Int) = (mvs.length : Int) := by
          rw [← ea, hXX]; show ((X.count _ * (tn wd a * 1) : Nat) : Int) = _; rw [Nat.mul_one]
        have vx : valX wd T (mvs.length : Int) (text wd a) = (mvs.length : Int) := by unfold valX; rw [if_pos ma]
        obtain ⟨k1, k2, k3⟩ := addOk _ (eW.trans vx.symm)
        refine Ex.cons (ExS.assign (Ev.def hadd rfl (EvL.cons (Ev.name u4 (EvL.cons (Ev.dict1 G.big (Ev.name u3 ⟨_, rfl, Ev.name u1 (EvL.nil (OpL.level (m := 1) (sums_add (n := 0) d hadd (by omega) ?_) (by omega)))⟩)))))))
        exact Ex.nil (last _ _ _ eW (up u1) up0 k1 k2 k3 (keep3 _))
      · rw [show (((([a, b] : List Tr).length : Nat) : Int) == 1) = false from rfl]
        have eW : ((X.count (glue (text wd a) (text wd b)) * prodN (([a, b] : List Tr).map (tn wd)) : Nat) : Int) = (mvs.length : Int) := by
          rw [← eb, hXX]; show ((X.count _ * (tn wd a * (tn wd b * 1)) : Nat) : Int) = _; rw [Nat.mul_one]
        have vx : valX wd T (mvs.length : Int) (glue (text wd a) (text wd b)) = -(mvs.length : Int) := by unfold valX; rw [if_neg mn, if_pos mb]
        obtain ⟨k1, k2, k3⟩ := addOk _ ((congrArg (fun z => -z) eW).trans vx.symm)
        refine Ex.cons (ExS.if (EvB.cmp (Ev.sub (Ev.name u2 (Ev.int (OpI.lst (j := 0) (seqIndex_nat (by rw [htl]; simp)) rfl (by omega) (Ev.sub (Ev.name u2 (Ev.int (OpI.lst (j := 1) (seqIndex_nat (by rw [htl]; simp)) rfl (by omega) (Op2.neS ⟨_, rfl, ?_⟩)))))))))))
        rw [decide_eq_false ne]
        refine Ex.cons (ExS.assign (Ev.def hadd rfl (EvL.cons (Ev.name u4 (EvL.cons (Ev.dict1 G.big (Ev.name u3 ⟨_, rfl, Ev.un (Ev.name u1 (Op1.neg (EvL.nil (OpL.level (m := 1) (sums_add (n := 0) d hadd (by omega) ?_) (by omega)))))⟩)))))))
        exact Ex.nil (Ex.nil (last _ _ _ eW (up u1) up0 k1 k2 k3 (keep3 _)))
      · rw [show (((([a, b] : List Tr).length : Nat) : Int) == 1) = false from rfl]
        have eW : ((X.count (glue (text wd a) (text wd b)) * prodN (([a, b] : List Tr).map (tn wd)) : Nat) : Int) * 2 = (mvs.length : Int) := by
          rw [← eb, hXX]; show ((X.count _ * (tn wd a * (tn wd b * 1)) : Nat) : Int) * 2 = _; rw [Nat.mul_one]; rw [Int.natCast_mul _ 2]; rfl
        have vx : valX wd T (mvs.length : Int) (glue (text wd a) (text wd b)) = 0 := by unfold valX; rw [if_neg mn, if_neg mb]
        have hb80 := hpb 2
        refine Ex.cons (ExS.if (EvB.cmp (Ev.sub (Ev.name u2 (Ev.int (OpI.lst (j := 0) (seqIndex_nat (by rw [htl]; simp)) rfl (by omega) (Ev.sub (Ev.name u2 (Ev.int (OpI.lst (j := 1) (seqIndex_nat (by rw [htl]; simp)) rfl (by omega) (Op2.neS ⟨_, rfl, ?_⟩)))))))))))
        rw [decide_eq_true ne]
        refine Ex.cons (ExS.assign (Ev.bin (Ev.name u1 (Ev.int (Op2.mul (mulOk_bd (M := 2) (bdN hb80) (by show (2 : Int).natAbs ≤ 2 ^ 2; decide) (by omega)) ?_)))))
        refine Ex.nil (Ex.nil (last _ _ sm eW up0 (up u4) s2 ?_ (by omega) fun y hy => ?_))
        · rw [s3, vx]; omega
        · have ne' : ∀ y : PySem.Str, y ∈ keepS → y ≠ ("ways" : PySem.Str) := by decide
          rw [upd_ne (ne' y hy)]; exact u5 y hy
  · rintro σ' ⟨sm, s1, s2, s3, s4, s5⟩
    have e0 : (List.map D.str ((fk (X.map S)).map (·.1))).length = (dd X).length := by rw [fk_keys_dd, List.length_map, List.length_map]
    rw [e0] at s3 s4
    rw [List.take_length, hsum] at s3
    have q1 := (s5 _ (by decide)).trans h1
    have q2 := (s5 _ (by decide)).trans h2
    have q3 := (s5 _ (by decide)).trans h3
    have q4 := (s5 _ (by decide)).trans h4
    refine Ex.cons (ExS.if (EvB.cmp (Ev.call G.list (.inr (.inl ⟨_, rfl⟩)) rfl (EvL.cons ?_))))
    refine Ev.meth (fun _ => "dict.items") (Ev.def d.dup rfl (EvL.cons (Ev.bin (Ev.name q1 (Ev.name q2 (Op2.addL (by rw [List.length_map, List.length_map, sizeLine_eq]; omega) ?_))))))
    rw [eX]
    refine EvL.nil (OpL.level (m := 1) (con_dup (n := 0) d (by omega) ?_) (by omega))
    have hfl : (fk (X.map S)).length ≤ 100 := by
      have e7 := congrArg List.length (fk_keys_dd X)
      rw [List.length_map, List.length_map] at e7
      omega
    refine ⟨Meth.items, EvL.nil (OpL.items (EvL.nil (OpL.listItems (by rw [sizeLine_eq]; omega) ?_)))⟩
    have eL : ((fk (X.map S)).map fun p => D.tup [.str p.1, p.2]) = (((dd X).map S).map fun k => [D.str k, D.none]).map D.tup := by
      rw [fk_none, fk_keys_dd]; simp only [List.map_map]; rfl
    rw [eL]
    refine Ev.compMap ⟨rfl, by decide, by decide⟩ (.inl rfl) (by decide) ?_
    refine Ev.meth (fun _ => "dict.keys") (Ev.name q3 ⟨Meth.keys, EvL.nil (OpL.keys ?_)⟩)
    have hkeys : (DI (tabOf (ones X))).map (·.1) = (dd X).map S := by
      have e8 : (ones X).map (·.1) = X := by unfold ones; rw [List.map_map]; exact List.map_id X
      have e9 := tabOf_keys (ones X)
      rw [e8] at e9
      rw [← e9]
      unfold DI keysI; rw [List.map_map]; rfl
    refine ⟨_, _, PyIt.keys, trivial, ?_, fun d => .tup [d, .none], ?_, ?_⟩
    · rw [hkeys, sizeLine_eq]
      simp only [List.length_map]; omega
    · rintro d' _
      exact Ev.tuple (EvL.cons (Ev.name up0 (EvL.cons (Ev.none (EvL.nil ⟨by rw [sizeLine_eq]; simp, rfl⟩)))))
    · rw [hkeys]
      have eR : ((((dd X).map S).map D.str).map fun d => D.tup [d, .none]) = (((dd X).map S).map fun k => [D.str k, D.none]).map D.tup := by
        simp only [List.map_map]; rfl
      rw [eR]
      refine Op2.neLT (fun j a b ha hb => ?_) ⟨_, rfl, ?_⟩
      · rw [List.getElem?_map] at ha hb
        obtain ⟨x, _, rfl⟩ := Option.map_eq_some_iff.mp ha
        obtain ⟨y, _, rfl⟩ := Option.map_eq_some_iff.mp hb
        intro j d d' e e'
        match j with
        | 0 => cases e; cases e'; rfl
        | 1 => cases e; cases e'; rfl
        | j + 2 => cases e
      · rw [tfeqs_keys, decide_eq_true rfl]
        refine Ex.nil ?_
        refine Ex.cons (ExS.ret (Ev.cmp (Ev.def hcnt rfl (EvL.cons (Ev.name (Store.fz_val s1) (EvL.nil (OpL.level (m := 1) (con_count (n := 0) hcnt (DI_vals _) ?_) (by omega))))))))
        refine Ev.call G.len (.inl ⟨_, rfl⟩) rfl (EvL.cons (Ev.name (Store.fz_val q4) (EvL.nil (OpL.lenL (by rw [List.length_map]; omega) ?_))))
        rw [sumI_eq, s3, List.length_map]
        refine Op2.eqI ?_
        rw [show ((mvs.length : Int) == (mvs.length : Int)) = true by simp]
        exact hQ
end
end Mine
end
section
open PySem PySem.W PySem.Calls PyProof.Rows

namespace Mine
theorem WW_congr {wd : Nat} (hw : 1 ≤ wd) {T D : Tr} (g : Good T) (g' : Good D) (e : text wd T = text wd D) : WW wd (pg T []) T = WW wd (pg D []) D := by
  unfold WW
  rw [tn_congr hw T g D g' e, (pg_congr hw T g D g' e [] [] (.refl _)).count_eq, e]
section
variable {prog : Program} {w : World} {H₀ : Heap} {K : Frag} {n : Nat} {Q : D → Prop}
theorem con_law {ns : List Int} (d : Defs prog w H₀ K) {aStd aAdd aCnt aWr aSet aRnd aTrn aLaw : Addr}
    (hst : Has prog w H₀ PP ("func_std_string" : PySem.Str) aStd [("func_name" : PySem.Str)] []) (hadd : Has prog w H₀ PP ("add_callers" : PySem.Str) aAdd [("target" : PySem.Str), ("source" : PySem.Str)] []) (hcnt : Has prog w H₀ PP ("count_calls" : PySem.Str) aCnt [("callers" : PySem.Str)] [])
    (hwr : Has prog w H₀ PP ("_law_written" : PySem.Str) aWr [("call" : PySem.Str), ("other" : PySem.Str), ("links" : PySem.Str), ("texts" : PySem.Str), ("wide" : PySem.Str)] [])
    (hset : Has prog w H₀ PP ("_law_settled" : PySem.Str) aSet [("page" : PySem.Str), ("wide" : PySem.Str)] []) (hrnd : Has prog w H₀ PP ("_law_round" : PySem.Str) aRnd [("page" : PySem.Str), ("behind" : PySem.Str), ("wide" : PySem.Str)] [])
    (htrn : Has prog w H₀ PP ("_law_turns" : PySem.Str) aTrn [("page" : PySem.Str)] []) (hlaw : Has prog w H₀ PP ("law" : PySem.Str) aLaw [("script" : PySem.Str)] []) (hl : ns.length ≤ 63) (hQ : Q (.bool true)) :
    OpL prog w H₀ (n + 10) (fun vs => PySem.call (.ref aLaw) vs) [.lst (ns.map D.int)] Q := by
  have G := d.G
  refine OpL.has (n := n + 9) hlaw rfl (by decide) (by decide) ?_
  refine law_A G rfl hl fun σ hs hu hk => ?_
  have hcl : (cells3 ns).length = 3 := by unfold cells3; simp
  generalize cells3 ns = cs at *
  refine law_B (n := n + 7) d hst hcl hs fun σ₁ k1 ha hm ht hw => ?_
  obtain ⟨lm, lo, ll, ls, lw, lw3⟩ := mosl_lt cs
  obtain ⟨l0, l1, l2, l3⟩ := dr_lt cs
  have ck := chk_out (chk_all l0 l1 l2 l3)
  obtain ⟨hg, hl40, he⟩ := drawn_heads ck
  have gD : Good (dT cs) := heads_all good_iff hg 7 _ ck.heads
  have hu1 := (k1 _ (by decide)).trans hu
  have hk1 := (k1 _ (by decide)).trans hk
  refine law_C (n := n) d hwr hset hrnd hadd hk1 ht hw fun σ₂ T k2 gT hT sT eT p1 p2 tb => ?_
  refine law_D (n := n + 9) G ((k2 _ (by decide)).trans hk1) ((k2 _ (by decide)).trans hu1) ((k2 _ (by decide)).trans ha) ((k2 _ (by decide)).trans hm) fun σ₃ k3 hmv => ?_
  have hcf : ∀ a, a < 6 → ∀ b, b < 6 → (rowAt (textsOf cs) [a] = rowAt (textsOf cs) [b] ↔ colAt cs a = colAt cs b) := fun a ha b hb => by
    rw [he a ha, he b hb]; exact col_text cs a b
  have hmc := moves_count ck hcf lw hg
  refine law_E (wd := wOf cs) (T := T) d hadd hcnt htrn lw lw3 gT hT sT ?_ ?_ ((k3 _ (by decide)).trans p1) ((k3 _ (by decide)).trans p2) ((k3 _ (by decide)).trans tb) hmv hQ
  · rw [WW_congr lw gT gD eT]; exact hmc
  · exact Nat.le_trans (movesN_size _ _ _ 6) (by decide)
end
end Mine
end
open PySem PySem.W PySem.Calls PyProof.Rows
namespace Mine
def vw : Program := PySem.W.view PP [2,4,5,6,8,10,11,12,13,14,15,16]
theorem hstd {w : World} {h : Heap} {mg mb : PySem.Str → Option Value} {mean : ExcName → Option Value} (T : Top vw (looseW vw [("_deduplicate" : PySem.Str)]) mean mg mb h) : ∃ fa, mg ("func_std_string" : PySem.Str) = some (.ref fa) ∧ Has PySem.Challenge.rw_wn0019_02.row.prog w h PP ("func_std_string" : PySem.Str) fa [("func_name" : PySem.Str)] [] :=
  Has.ofTop (P := PP) (f := ("func_std_string" : PySem.Str)) [("func_name" : PySem.Str)] T (by kernel_rfl) rfl rfl rfl (by decide +kernel) (by decide +kernel) fun vs hv pm cd doc => by
    obtain ⟨v, rfl⟩ := List.length_eq_one_iff.mp hv
    kernel_rfl
theorem hded {w : World} {h : Heap} {mg mb : PySem.Str → Option Value} {mean : ExcName → Option Value} (T : Top vw (looseW vw [("_deduplicate" : PySem.Str)]) mean mg mb h) : ∃ fa, mg ("_dedent" : PySem.Str) = some (.ref fa) ∧ Has PySem.Challenge.rw_wn0019_02.row.prog w h PP ("_dedent" : PySem.Str) fa [("text" : PySem.Str)] [] :=
  Has.ofTop (P := PP) (f := ("_dedent" : PySem.Str)) [("text" : PySem.Str)] T (by kernel_rfl) rfl rfl rfl (by decide +kernel) (by decide +kernel) fun vs hv pm cd doc => by
    obtain ⟨v, rfl⟩ := List.length_eq_one_iff.mp hv
    kernel_rfl
theorem hadd {w : World} {h : Heap} {mg mb : PySem.Str → Option Value} {mean : ExcName → Option Value} (T : Top vw (looseW vw [("_deduplicate" : PySem.Str)]) mean mg mb h) : ∃ fa, mg ("add_callers" : PySem.Str) = some (.ref fa) ∧ Has PySem.Challenge.rw_wn0019_02.row.prog w h PP ("add_callers" : PySem.Str) fa [("target" : PySem.Str), ("source" : PySem.Str)] [] :=
  Has.ofTop (P := PP) (f := ("add_callers" : PySem.Str)) [("target" : PySem.Str), ("source" : PySem.Str)] T (by kernel_rfl) rfl rfl rfl (by decide +kernel) (by decide +kernel) fun vs hv pm cd doc => by
    obtain ⟨v1, v2, rfl⟩ := Mine.len2 hv
    kernel_rfl
theorem hcnt {w : World} {h : Heap} {mg mb : PySem.Str → Option Value} {mean : ExcName → Option Value} (T : Top vw (looseW vw [("_deduplicate" : PySem.Str)]) mean mg mb h) : ∃ fa, mg ("count_calls" : PySem.Str) = some (.ref fa) ∧ Has PySem.Challenge.rw_wn0019_02.row.prog w h PP ("count_calls" : PySem.Str) fa [("callers" : PySem.Str)] [] :=
  Has.ofTop (P := PP) (f := ("count_calls" : PySem.Str)) [("callers" : PySem.Str)] T (by kernel_rfl) rfl rfl rfl (by decide +kernel) (by decide +kernel) fun vs hv pm cd doc => by
    obtain ⟨v, rfl⟩ := List.length_eq_one_iff.mp hv
    kernel_rfl
theorem hpar {w : World} {h : Heap} {mg mb : PySem.Str → Option Value} {mean : ExcName → Option Value} (T : Top vw (looseW vw [("_deduplicate" : PySem.Str)]) mean mg mb h) : ∃ fa, mg ("_law_parts" : PySem.Str) = some (.ref fa) ∧ Has PySem.Challenge.rw_wn0019_02.row.prog w h PP ("_law_parts" : PySem.Str) fa [("page" : PySem.Str)] [] :=
  Has.ofTop (P := PP) (f := ("_law_parts" : PySem.Str)) [("page" : PySem.Str)] T (by kernel_rfl) rfl rfl rfl (by decide +kernel) (by decide +kernel) fun vs hv pm cd doc => by
    obtain ⟨v, rfl⟩ := List.length_eq_one_iff.mp hv
    kernel_rfl
theorem hpag {w : World} {h : Heap} {mg mb : PySem.Str → Option Value} {mean : ExcName → Option Value} (T : Top vw (looseW vw [("_deduplicate" : PySem.Str)]) mean mg mb h) : ∃ fa, mg ("_law_page" : PySem.Str) = some (.ref fa) ∧ Has PySem.Challenge.rw_wn0019_02.row.prog w h PP ("_law_page" : PySem.Str) fa [("head" : PySem.Str), ("parts" : PySem.Str), ("wide" : PySem.Str)] [] :=
  Has.ofTop (P := PP) (f := ("_law_page" : PySem.Str)) [("head" : PySem.Str), ("parts" : PySem.Str), ("wide" : PySem.Str)] T (by kernel_rfl) rfl rfl rfl (by decide +kernel) (by decide +kernel) fun vs hv pm cd doc => by
    obtain ⟨v1, v2, v3, rfl⟩ := Mine.len3 hv
    kernel_rfl
theorem hwr {w : World} {h : Heap} {mg mb : PySem.Str → Option Value} {mean : ExcName → Option Value} (T : Top vw (looseW vw [("_deduplicate" : PySem.Str)]) mean mg mb h) : ∃ fa, mg ("_law_written" : PySem.Str) = some (.ref fa) ∧ Has PySem.Challenge.rw_wn0019_02.row.prog w h PP ("_law_written" : PySem.Str) fa [("call" : PySem.Str), ("other" : PySem.Str), ("links" : PySem.Str), ("texts" : PySem.Str), ("wide" : PySem.Str)] [] :=
  Has.ofTop (P := PP) (f := ("_law_written" : PySem.Str)) [("call" : PySem.Str), ("other" : PySem.Str), ("links" : PySem.Str), ("texts" : PySem.Str), ("wide" : PySem.Str)] T (by kernel_rfl) rfl rfl rfl (by decide +kernel) (by decide +kernel) fun vs hv pm cd doc => by
    obtain ⟨v1, v2, v3, v4, v5, rfl⟩ := Mine.len5 hv
    kernel_rfl
theorem hset {w : World} {h : Heap} {mg mb : PySem.Str → Option Value} {mean : ExcName → Option Value} (T : Top vw (looseW vw [("_deduplicate" : PySem.Str)]) mean mg mb h) : ∃ fa, mg ("_law_settled" : PySem.Str) = some (.ref fa) ∧ Has PySem.Challenge.rw_wn0019_02.row.prog w h PP ("_law_settled" : PySem.Str) fa [("page" : PySem.Str), ("wide" : PySem.Str)] [] :=
  Has.ofTop (P := PP) (f := ("_law_settled" : PySem.Str)) [("page" : PySem.Str), ("wide" : PySem.Str)] T (by kernel_rfl) rfl rfl rfl (by decide +kernel) (by decide +kernel) fun vs hv pm cd doc => by
    obtain ⟨v1, v2, rfl⟩ := Mine.len2 hv
    kernel_rfl
theorem hrnd {w : World} {h : Heap} {mg mb : PySem.Str → Option Value} {mean : ExcName → Option Value} (T : Top vw (looseW vw [("_deduplicate" : PySem.Str)]) mean mg mb h) : ∃ fa, mg ("_law_round" : PySem.Str) = some (.ref fa) ∧ Has PySem.Challenge.rw_wn0019_02.row.prog w h PP ("_law_round" : PySem.Str) fa [("page" : PySem.Str), ("behind" : PySem.Str), ("wide" : PySem.Str)] [] :=
  Has.ofTop (P := PP) (f := ("_law_round" : PySem.Str)) [("page" : PySem.Str), ("behind" : PySem.Str), ("wide" : PySem.Str)] T (by kernel_rfl) rfl rfl rfl (by decide +kernel) (by decide +kernel) fun vs hv pm cd doc => by
    obtain ⟨v1, v2, v3, rfl⟩ := Mine.len3 hv
    kernel_rfl
theorem htrn {w : World} {h : Heap} {mg mb : PySem.Str → Option Value} {mean : ExcName → Option Value} (T : Top vw (looseW vw [("_deduplicate" : PySem.Str)]) mean mg mb h) : ∃ fa, mg ("_law_turns" : PySem.Str) = some (.ref fa) ∧ Has PySem.Challenge.rw_wn0019_02.row.prog w h PP ("_law_turns" : PySem.Str) fa [("page" : PySem.Str)] [] :=
  Has.ofTop (P := PP) (f := ("_law_turns" : PySem.Str)) [("page" : PySem.Str)] T (by kernel_rfl) rfl rfl rfl (by decide +kernel) (by decide +kernel) fun vs hv pm cd doc => by
    obtain ⟨v, rfl⟩ := List.length_eq_one_iff.mp hv
    kernel_rfl
theorem hlw {w : World} {h : Heap} {mg mb : PySem.Str → Option Value} {mean : ExcName → Option Value} (T : Top vw (looseW vw [("_deduplicate" : PySem.Str)]) mean mg mb h) : ∃ fa, mg ("law" : PySem.Str) = some (.ref fa) ∧ Has PySem.Challenge.rw_wn0019_02.row.prog w h PP ("law" : PySem.Str) fa [("script" : PySem.Str)] [] :=
  Has.ofTop (P := PP) (f := ("law" : PySem.Str)) [("script" : PySem.Str)] T (by kernel_rfl) rfl rfl rfl (by decide +kernel) (by decide +kernel) fun vs hv pm cd doc => by
    obtain ⟨v, rfl⟩ := List.length_eq_one_iff.mp hv
    kernel_rfl
theorem hdup {w : World} {h : Heap} {mg mb : PySem.Str → Option Value} {mean : ExcName → Option Value} (T : Top vw (looseW vw [("_deduplicate" : PySem.Str)]) mean mg mb h) (DD : DupIs PP ("_deduplicate" : PySem.Str) ("unhashable_fallback" : PySem.Str) false h) :
    ∃ fa, Has PySem.Challenge.rw_wn0019_02.row.prog w h PP ("_deduplicate" : PySem.Str) fa [("params" : PySem.Str)] [(("unhashable_fallback" : PySem.Str), .bool false)] :=
  Has.ofKw T DD rfl rfl rfl (by decide +kernel) (by decide +kernel) fun v fd D S L => by
    refine ⟨?F, ?h1, ?h2⟩
    case h1 => rfl
    case h2 => intro c d n sl hh t; rfl
theorem gl_of {h : Heap} {mg mb : PySem.Str → Option Value} {mean : ExcName → Option Value} (T : Top vw (looseW vw [("_deduplicate" : PySem.Str)]) mean mg mb h) (b : ∃ o, h.get? sysModules = some o) : Gl h :=
  ⟨Glob.ofTop T (by decide +kernel) (by kernel_rfl), Glob.ofTop T (by decide +kernel) (by kernel_rfl), Glob.ofTop T (by decide +kernel) (by kernel_rfl), Glob.ofTop T (by decide +kernel) (by kernel_rfl), Glob.ofTop T (by decide +kernel) (by kernel_rfl), Glob.ofTop T (by decide +kernel) (by kernel_rfl), Glob.ofTop T (by decide +kernel) (by kernel_rfl), Glob.ofTop T (by decide +kernel) (by kernel_rfl), Glob.ofTop T (by decide +kernel) (by kernel_rfl), Glob.ofTop T (by decide +kernel) (by kernel_rfl), Glob.ofTop T (by decide +kernel) (by kernel_rfl), b⟩
end Mine
set_option maxHeartbeats 8000000 in
theorem Mine.said : PySem.Challenge.rw_wn0019_02.wellSaid = true := by
  w_on
  kernel_rfl
set_option maxHeartbeats 8000000 in
theorem Mine.left : LeftO PySem.Challenge.rw_wn0019_02.row.prog Mine.vw [("_deduplicate" : PySem.Str)] (fun s => xlAt Mine.vw [] s && recOk (RowW.records PySem.Challenge.rw_wn0019_02.row.toRowW) s) (Hook.obs (Mine.hk Mine.PP ("_deduplicate" : PySem.Str) ("unhashable_fallback" : PySem.Str) false)) (Hook.val (Mine.hk Mine.PP ("_deduplicate" : PySem.Str) ("unhashable_fallback" : PySem.Str) false)) 1046 := by
  w_on
  intro w
  kernel_rfl
set_option maxHeartbeats 8000000 in
theorem PySem.Challenge.cw_wn0019_02_holds : PySem.Challenge.rw_wn0019_02.Holds := by
  w_on
  refine holds_law Mine.said fun said => ?_
  refine holds_open (q := Mine.vw) (loose := [("_deduplicate" : PySem.Str)]) (Xt := fun s => xlAt Mine.vw [] s && recOk (RowW.records PySem.Challenge.rw_wn0019_02.row.toRowW) s) (XP := XL Mine.vw []) (Yf := Hook.obs (Mine.hk Mine.PP ("_deduplicate" : PySem.Str) ("unhashable_fallback" : PySem.Str) false)) (Ya := Hook.val (Mine.hk Mine.PP ("_deduplicate" : PySem.Str) ("unhashable_fallback" : PySem.Str) false)) (YP := Hook.says (Mine.hk Mine.PP ("_deduplicate" : PySem.Str) ("unhashable_fallback" : PySem.Str) false)) (N := 1046) Mine.left (Hook.of (Mine.hk Mine.PP ("_deduplicate" : PySem.Str) ("unhashable_fallback" : PySem.Str) false)) (Hook.keeps (Mine.hk Mine.PP ("_deduplicate" : PySem.Str) ("unhashable_fallback" : PySem.Str) false)) (fun s e => xl_of s (Bool.and_eq_true_iff.mp e).1) XL.keeps (by rfl) (by rfl) (by rfl) (fun s e => recFacts_of (Bool.and_eq_true_iff.mp e).2) (by rfl) (by first | assumption | decide +kernel) (by decide +kernel) ⟨rfl, rfl, rfl, rfl, rfl, by decide +kernel⟩ ?hw ?hc
  case hw => w_witness2
  intro w s₀ s₁ mg mb G y fa o pm cd doc dV kV ho hd hcd hD hmg hg args vals as hpre hlay hrd hwl hlo
  have T := G.T
  have GG := Mine.gl_of T y.1
  wrow_args hpre hlay hrd hwl hlo
  clear hd hcd hD
  rename_i ns hsh hl0 hlay0 hall hl2 as1 as2 a vs as3 hIs ra hwell hreads hints hrall hlen htrue
  obtain ⟨_, _, hstd⟩ := Mine.hstd (w := w) T
  obtain ⟨_, _, hded⟩ := Mine.hded (w := w) T
  obtain ⟨_, _, hadd⟩ := Mine.hadd (w := w) T
  obtain ⟨_, _, hcnt⟩ := Mine.hcnt (w := w) T
  obtain ⟨_, _, hpar⟩ := Mine.hpar (w := w) T
  obtain ⟨_, _, hpag⟩ := Mine.hpag (w := w) T
  obtain ⟨_, _, hwr⟩ := Mine.hwr (w := w) T
  obtain ⟨_, _, hset⟩ := Mine.hset (w := w) T
  obtain ⟨_, _, hrnd⟩ := Mine.hrnd (w := w) T
  obtain ⟨_, _, htrn⟩ := Mine.htrn (w := w) T
  obtain ⟨_, hdup⟩ := Mine.hdup (w := w) T y.2
  obtain ⟨fl, hfl, hlw⟩ := Mine.hlw (w := w) T
  have hfa := Option.some.inj (hmg.symm.trans hfl)
  clear hmg hfl
  rw [hfa]
  have dd : Mine.Defs PySem.Challenge.rw_wn0019_02.row.prog w s₁.heap [] := { aDed := _, aPar := _, aPag := _, aDup := _, ded := hded, par := hpar, pag := hpag, dup := hdup, X := fun _ _ e => (nomatch e), fc := by with_unfolding_all rfl, G := GG }
  have con := Mine.con_law (n := 0) (ns := ns) (Q := fun d => d = .bool true) dd hstd hadd hcnt hwr hset hrnd htrn hlw (by omega) rfl
  refine con.run ⟨rfl, by decide, by decide⟩ (Mine.LstAt.ofWell hwell hIs) hints fun s' g => ?_
  refine ⟨.inl ⟨_, _, _, rfl, fun _ => rfl, ReadsW.bool _, ?_, ?_⟩, OldK.of_keep g.get, ?_, ?_⟩
  · with_unfolding_all rfl
  · exact fun _ => ⟨List.nodup_nil, fun a h => (nomatch h)⟩
  · obtain ⟨h', tk, rfl, _⟩ := g; rfl
  · obtain ⟨h', tk, rfl, _⟩ := g; exact AllBare.of_eq hg
