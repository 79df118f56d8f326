import PyProof.Rows.All
import Wide.FinOn
import OpenK.AllK
import Wide.All
import PySem.Challenge.RW_us0025_01
set_option Elab.async false
section
open PySem PySem.W PySem.Calls PyProof.Rows
namespace Mine
local macro_rules | `(tactic| omega) => `(tactic| lia)

/-- plain data -/
inductive D where
  | none
  | bool (b : Bool)
  | int (i : Int)
  | str (x : Str)
  | bytes (b : Array UInt8)
  | list (l : List D)
  | tup (l : List D)
  | range (lo hi st : Int)
  | raw (v : Value)

mutual
def Rep (h : Heap) (Y : List Addr) : D → Value → Prop
  | .none, v => v = .none
  | .bool b, v => v = .bool b
  | .int i, v => ∃ t, v = .int i t
  | .str x, v => ∃ t, v = .str x t
  | .bytes b, v => ∃ t, v = .bytes b t
  | .list ds, v => ∃ a vs, v = .ref a ∧ a ∉ Y ∧ h.PlainList a vs ∧ RepL h Y ds vs.toList
  | .tup ds, v => ∃ a vs, v = .ref a ∧ a ∉ Y ∧ IsTup h a vs ∧ RepL h Y ds vs.toList
  | .range lo hi st, v => ∃ a t u w, v = .ref a ∧ a ∉ Y ∧ IsRange h a lo hi st t u w
  | .raw u, v => v = u
def RepL (h : Heap) (Y : List Addr) : List D → List Value → Prop
  | [], vs => vs = []
  | d :: ds, vs => ∃ v r, vs = v :: r ∧ Rep h Y d v ∧ RepL h Y ds r
end

/-- an object that a datum may rest upon -/
def SeqO (o : Obj) : Prop := (∃ items n, o.data = .seq items n) ∨ ∃ vs, o.data = .fields vs

mutual
theorem Rep.mono {h h' : Heap} {Y Y' : List Addr} (hk : ∀ b o, h.get? b = some o → SeqO o → b ∉ Y → h'.get? b = some o) (hy : ∀ b o, h.get? b = some o → b ∈ Y' → b ∈ Y) :
    ∀ {d : D} {v : Value}, Rep h Y d v → Rep h' Y' d v
  | .none, _, x => by simpa [Rep] using x
  | .bool b, _, x => by simpa [Rep] using x
  | .int i, _, x => by simpa [Rep] using x
  | .str s, _, x => by simpa [Rep] using x
  | .bytes b, _, x => by simpa [Rep] using x
  | .list ds, v, x => by
    simp only [Rep] at x ⊢
    obtain ⟨a, vs, e, ha, ⟨n, ho⟩, r⟩ := x
    exact ⟨a, vs, e, fun q => ha (hy a _ ho q), ⟨n, hk a _ ho (.inl ⟨_, _, rfl⟩) ha⟩, RepL.mono hk hy r⟩
  | .tup ds, v, x => by
    simp only [Rep] at x ⊢
    obtain ⟨a, vs, e, ha, ⟨o, ho, hc, n, hd⟩, r⟩ := x
    exact ⟨a, vs, e, fun q => ha (hy a o ho q), ⟨o, hk a o ho (.inl ⟨_, _, hd⟩) ha, hc, n, hd⟩, RepL.mono hk hy r⟩
  | .range lo hi st, v, x => by
    simp only [Rep] at x ⊢
    obtain ⟨a, t, u, w, e, ha, ho⟩ := x
    exact ⟨a, t, u, w, e, fun q => ha (hy a _ ho q), hk a _ ho (.inr ⟨_, rfl⟩) ha⟩
  | .raw u, _, x => by simpa [Rep] using x
theorem RepL.mono {h h' : Heap} {Y Y' : List Addr} (hk : ∀ b o, h.get? b = some o → SeqO o → b ∉ Y → h'.get? b = some o) (hy : ∀ b o, h.get? b = some o → b ∈ Y' → b ∈ Y) :
    ∀ {ds : List D} {vs : List Value}, RepL h Y ds vs → RepL h' Y' ds vs
  | [], _, x => by simpa [RepL] using x
  | d :: ds, _, x => by
    simp only [RepL] at x ⊢
    obtain ⟨v, r, e, hv, hr⟩ := x
    exact ⟨v, r, e, Rep.mono hk hy hv, RepL.mono hk hy hr⟩
end

section
variable {h h' : Heap} {Y : List Addr}
theorem Rep.keeps {d v} (hk : ∀ b o, h.get? b = some o → h'.get? b = some o) (x : Rep h Y d v) : Rep h' Y d v := x.mono (fun b o e _ _ => hk b o e) fun _ _ _ q => q
theorem RepL.keeps {d v} (hk : ∀ b o, h.get? b = some o → h'.get? b = some o) (x : RepL h Y d v) : RepL h' Y d v := x.mono (fun b o e _ _ => hk b o e) fun _ _ _ q => q
theorem RepL.length {Y : List Addr} : ∀ {ds : List D} {vs : List Value}, RepL h Y ds vs → vs.length = ds.length
  | [], _, x => by simp only [RepL] at x; subst x; rfl
  | d :: ds, _, x => by
    simp only [RepL] at x
    obtain ⟨v, r, e, _, hr⟩ := x
    subst e; simp [hr.length]
theorem RepL.get {Y : List Addr} : ∀ {ds : List D} {vs : List Value} {i : Nat} {d : D}, RepL h Y ds vs → ds[i]? = some d → ∃ v, vs[i]? = some v ∧ Rep h Y d v
  | [], _, i, d, _, e => by simp at e
  | d' :: ds, _, i, d, x, e => by
    simp only [RepL] at x
    obtain ⟨v, r, rfl, hv, hr⟩ := x
    cases i with
    | zero => simp at e; subst e; exact ⟨v, rfl, hv⟩
    | succ i => simp at e; simpa using hr.get e
theorem RepL.append {Y : List Addr} : ∀ {ds es : List D} {vs us : List Value}, RepL h Y ds vs → RepL h Y es us → RepL h Y (ds ++ es) (vs ++ us)
  | [], _, _, _, x, y => by simp only [RepL] at x; subst x; exact y
  | d :: ds, _, _, _, x, y => by
    simp only [RepL] at x
    obtain ⟨v, r, rfl, hv, hr⟩ := x
    simp only [List.cons_append, RepL]
    exact ⟨v, _, rfl, hv, hr.append y⟩
theorem RepL.of_get {Y : List Addr} : ∀ {ds : List D} {vs : List Value}, vs.length = ds.length → (∀ (i : Nat) (d : D), ds[i]? = some d → ∃ v, vs[i]? = some v ∧ Rep h Y d v) → RepL h Y ds vs
  | [], vs, e, _ => by simp only [RepL]; exact List.length_eq_zero_iff.mp e
  | d :: ds, [], e, _ => by simp at e
  | d :: ds, v :: vs, e, x => by
    simp only [RepL]
    obtain ⟨v', e', hv⟩ := x 0 d rfl
    simp at e'; subst e'
    exact ⟨v, vs, rfl, hv, RepL.of_get (by simpa using e) fun i d hd => by simpa using x (i + 1) d (by simpa using hd)⟩
theorem RepL.ints {Y : List Addr} : ∀ {is : List Int} {vs : List Value}, RepL h Y (is.map .int) vs → IntsAre vs is
  | [], _, x => by simp only [List.map_nil, RepL] at x; subst x; exact .nil
  | i :: is, _, x => by
    simp only [List.map_cons, RepL, Rep] at x
    obtain ⟨v, r, rfl, ⟨t, rfl⟩, hr⟩ := x
    exact .cons i t (RepL.ints hr)
end

/-- what every call may lean upon: the heap behind the top, its names -/
structure Cx where
  prog : Program
  w : World
  fa : Nat → Addr
  base : Heap
  mg : Str → Option Value
  mb : Str → Option Value
  g : base.Ns mainGlobals mg
  b : base.Ns builtinsNs mb
  nolimit : base.NoLimit
  blt : ∀ x : Str, x ≠ "__name__" → mb x = bootBuiltins x
abbrev Cx.M (c : Cx) : Model := model c.prog c.w
def Cx.In (c : Cx) (h : Heap) : Prop := ∀ b o, c.base.get? b = some o → h.get? b = some o

def Room (A : Around) (r : Nat) : Prop := A.handled = none ∧ A.depth + r ≤ 900 ∧ A.units + 10 * r ≤ 9000
theorem Room.le {A r r'} (x : Room A r) (h : r' ≤ r) : Room A r' := ⟨x.1, by have := x.2.1; omega, by have := x.2.2; omega⟩
theorem Room.in1 {A r} (x : Room A (r + 1)) : Room A.in1 r := ⟨x.1, by have := x.2.1; show A.depth + r ≤ 900; omega, by have := x.2.2; show A.units + 1 + 10 * r ≤ 9000; omega⟩
theorem Room.deeper {A r env} (x : Room A (r + 1)) : Room (A.deeper env) r := ⟨x.1, by have := x.2.1; show A.depth + 1 + r ≤ 900; omega, by have := x.2.2; show A.units + 3 + 10 * r ≤ 9000; omega⟩
theorem Room.units {A r} (x : Room A r) : A.units < cLine := by have := x.2.2; unfold cLine; omega

/-- the names' values as they stand -/
structure EnvAt (env : Env) (sc : Scope) (h : Heap) (val : String → Option Value) : Prop where
  scope : env.scope = sc
  kind : sc.kind = .function
  glob : env.globals = mainGlobals
  blt : env.builtins = builtinsNs
  loc : ∃ m, h.Ns env.locals m ∧ ∀ x v, val x = some v → sc.names.lookup (Str.ofString x) = some .local → m (Str.ofString x) = some v
  cel : ∀ n : Str, (sc.names.lookup n = some .cell ∨ sc.names.lookup n = some .free) →
    ∃ c u, env.cells.lookup n = some c ∧ h.IsCell c u ∧ ∀ x v, n = Str.ofString x → val x = some v → u = some v
  inj : ∀ n n' c, env.cells.lookup n = some c → env.cells.lookup n' = some c → n = n'
  kinds : ∀ x v, val x = some v → sc.names.lookup (Str.ofString x) = some .local ∨ sc.names.lookup (Str.ofString x) = some .cell ∨ (sc.names.lookup (Str.ofString x) = some .free ∧ (Str.ofString x == ("__classdict__" : Str)) = false)

def ValOk (h : Heap) (Y : List Addr) (σ : String → Option D) (val : String → Option Value) : Prop := ∀ x d, σ x = some d → ∃ v, val x = some v ∧ Rep h Y d v

theorem EnvAt.keeps {env sc h h' val} (X : EnvAt env sc h val) (hk : ∀ b o, h.get? b = some o → h'.get? b = some o) : EnvAt env sc h' val :=
  ⟨X.scope, X.kind, X.glob, X.blt, let ⟨m, n, q⟩ := X.loc; ⟨m, n.keeps hk, q⟩, fun x hx => let ⟨c, u, a, b, q⟩ := X.cel x hx; ⟨c, u, a, b.keeps hk, q⟩, X.inj, X.kinds⟩
theorem ValOk.keeps {h h' Y σ val} (X : ValOk h Y σ val) (hk : ∀ b o, h.get? b = some o → h'.get? b = some o) : ValOk h' Y σ val := fun x d e => let ⟨v, a, b⟩ := X x d e; ⟨v, a, b.keeps hk⟩

/-- nothing that stood is changed -/
def Kp (s s' : Shared) : Prop := ∃ h' tk, s' = { s with heap := h', toks := tk } ∧ ∀ b o, s.heap.get? b = some o → h'.get? b = some o
theorem Kp.rfl' {s : Shared} : Kp s s := ⟨s.heap, s.toks, rfl, fun _ _ e => e⟩
theorem Kp.tok {s : Shared} (t : Nat) : Kp s { s with toks := t } := ⟨s.heap, t, rfl, fun _ _ e => e⟩
theorem Kp.trans {s s' s'' : Shared} (a : Kp s s') (b : Kp s' s'') : Kp s s'' := by
  obtain ⟨h, t, rfl, k⟩ := a
  obtain ⟨h', t', rfl, k'⟩ := b
  exact ⟨h', t', rfl, fun b o e => k' b o (k b o e)⟩
theorem Kp.k {s s' : Shared} (a : Kp s s') : ∀ b o, s.heap.get? b = some o → s'.heap.get? b = some o := by
  obtain ⟨h, t, rfl, k⟩ := a
  exact k
theorem Kp.size {s s' : Shared} (a : Kp s s') {b : Addr} (hb : ∃ o, s.heap.get? b = some o) : ∃ o, s'.heap.get? b = some o := let ⟨o, e⟩ := hb; ⟨o, a.k b o e⟩
theorem Kp.push {s : Shared} (o : Obj) : Kp s { s with heap := s.heap.push o } := ⟨_, s.toks, rfl, fun _ _ e => Heap.get?_push_of_some _ e⟩
theorem Kp.mk' {s : Shared} {h' : Heap} {t : Nat} (k : ∀ b o, s.heap.get? b = some o → h'.get? b = some o) : Kp s { s with heap := h', toks := t } := ⟨h', t, rfl, k⟩

def Live (h : Heap) (Y : List Addr) : Prop := ∀ a ∈ Y, ∃ o, h.get? a = some o
theorem Live.keeps {h h' Y} (X : Live h Y) (hk : ∀ b o, h.get? b = some o → h'.get? b = some o) : Live h' Y := fun a ha => let ⟨o, e⟩ := X a ha; ⟨o, hk a o e⟩
theorem Live.fresh {h : Heap} {Y : List Addr} (X : Live h Y) {a : Addr} (ha : h.objs.size ≤ a) : a ∉ Y := fun q => by
  obtain ⟨o, e⟩ := X a q
  exact absurd (Heap.lt_size e) (Nat.not_lt.mpr ha)

/-- what a reckoning gives: the heap is kept, the value is the datum's -/
def Gives (Y : List Addr) (d : D) (s : Shared) (v : Value) (s' : Shared) : Prop := Kp s s' ∧ Rep s'.heap Y d v

/-- the state that an expression starts from -/
structure At (c : Cx) (env : Env) (sc : Scope) (Y : List Addr) (σ : String → Option D) (val : String → Option Value) (s : Shared) : Prop where
  base : c.In s.heap
  env : EnvAt env sc s.heap val
  ok : ValOk s.heap Y σ val
  live : Live s.heap Y
theorem At.keeps {c env sc Y σ val} {s s' : Shared} (X : At c env sc Y σ val s) (k : Kp s s') : At c env sc Y σ val s' :=
  ⟨fun b o e => k.k b o (X.base b o e), X.env.keeps k.k, X.ok.keeps k.k, X.live.keeps k.k⟩

abbrev noE : Value → Shared → Prop := fun _ _ => False
theorem weak {α : Type} {M : Model} {A : Around} {t : Sem α} {Q Q' : α → Shared → Prop} {E : Value → Shared → Prop} {s : Shared} (h : wpAny M A t Q noE s) (k : ∀ a s', Q a s' → Q' a s') : wpAny M A t Q' E s :=
  wpAny_mono h k fun _ _ f => f.elim

/-- the expression's value is the datum -/
structure Ev (c : Cx) (r : Nat) (sc : Scope) (σ : String → Option D) (e : Expr) (d : D) : Prop where
  go : ∀ env Y val A s, Room A r → At c env sc Y σ val s → wpAny c.M A (eval e env) (Gives Y d s) noE s
/-- the test's outcome -/
structure Tr (c : Cx) (r : Nat) (sc : Scope) (σ : String → Option D) (e : Expr) (b : Bool) : Prop where
  go : ∀ env Y val A s, Room A r → At c env sc Y σ val s → wpAny c.M A (isTrue e env (eval e env)) (fun b' s' => b' = b ∧ Kp s s') noE s
/-- a whole list of expressions -/
structure EvL (c : Cx) (r : Nat) (sc : Scope) (σ : String → Option D) (es : List Expr) (ds : List D) : Prop where
  go : ∀ env Y val A s pos, Room A r → At c env sc Y σ val s → wpAny c.M A (spliced (backTo pos (starEach es env))) (fun vs s' => Kp s s' ∧ RepL s'.heap Y ds vs) noE s

section
variable {c : Cx} {r : Nat} {sc : Scope} {σ : String → Option D}

theorem Ev.int {i : Int} {k pos} : Ev c r sc σ (.Constant (.int i) k pos) (.int i) := ⟨fun _ _ _ _ _ _ _ =>
  wpAny_Constant_int ⟨Kp.tok _, by simp only [Rep]; exact ⟨_, rfl⟩⟩⟩
theorem Ev.str {x : Str} {k pos} : Ev c r sc σ (.Constant (.str x) k pos) (.str x) := ⟨fun _ _ _ _ _ _ _ =>
  wpAny_Constant_str ⟨Kp.tok _, by simp only [Rep]; exact ⟨_, rfl⟩⟩⟩
theorem Ev.bool {x : Bool} {k pos} : Ev c r sc σ (.Constant (.bool x) k pos) (.bool x) := ⟨fun _ _ _ _ _ _ _ =>
  wpAny_Constant_bool ⟨Kp.rfl', by simp only [Rep]⟩⟩
theorem Ev.none {k pos} : Ev c r sc σ (.Constant .none k pos) .none := ⟨fun _ _ _ _ _ _ _ =>
  wpAny_Constant_none ⟨Kp.rfl', by simp only [Rep]⟩⟩

theorem Ev.name {x : String} {pos} {d : D} (hx : σ x = some d) (hd : (Str.ofString x == ("__debug__" : Str)) = false := by decide) : Ev c r sc σ (.Name (Str.ofString x) pos) d := ⟨fun env Y val A s _ X => by
  obtain ⟨v, hv, hr⟩ := X.ok x d hx
  have hk : env.scope.kind = .function := X.env.scope ▸ X.env.kind
  refine wpAny_Name ?_ hd
  rcases X.env.kinds x v hv with q | q | ⟨q, qn⟩
  · obtain ⟨m, hm, hq⟩ := X.env.loc
    exact wpAny_loadName_local hk (by unfold Env.kindOf; rw [X.env.scope]; exact q) hm (hq x v hv q) ⟨Kp.rfl', hr⟩
  · obtain ⟨ca, u, h1, h2, h3⟩ := X.env.cel _ (.inl q)
    exact wpAny_loadName_cell hk (by unfold Env.kindOf; rw [X.env.scope]; exact q) h1 (h3 x v rfl hv ▸ h2) ⟨Kp.rfl', hr⟩
  · obtain ⟨ca, u, h1, h2, h3⟩ := X.env.cel _ (.inr q)
    exact wpAny_loadName_free hk (by unfold Env.kindOf; rw [X.env.scope]; exact q) h1 (h3 x v rfl hv ▸ h2) ⟨Kp.rfl', hr⟩ qn⟩
end
end Mine

end
section
open PySem PySem.W PySem.Calls PyProof.Rows
set_option linter.unusedVariables false
set_option linter.unusedSimpArgs false
namespace Mine
local macro_rules | `(tactic| omega) => `(tactic| lia)

/-- what an operator's reckoning starts from -/
structure Pre (c : Cx) (Y : List Addr) (A : Around) (s : Shared) : Prop where
  base : c.In s.heap
  live : Live s.heap Y
  room : Room A 20
theorem Pre.keeps {c Y A} {s s' : Shared} (X : Pre c Y A s) (k : Kp s s') : Pre c Y A s' := ⟨fun b o e => k.k b o (X.base b o e), X.live.keeps k.k, X.room⟩

def Bop (c : Cx) (op : Operator) (d₁ d₂ d : D) : Prop := ∀ Y A s v₁ v₂, Pre c Y A s → Rep s.heap Y d₁ v₁ → Rep s.heap Y d₂ v₂ → wpAny c.M A (binaryOp op v₁ v₂) (Gives Y d s) noE s
def Iop (c : Cx) (op : Operator) (d₁ d₂ d : D) : Prop := ∀ Y A s v₁ v₂, Pre c Y A s → Rep s.heap Y d₁ v₁ → Rep s.heap Y d₂ v₂ → wpAny c.M A (inplaceOp op v₁ v₂) (Gives Y d s) noE s
def Cop (c : Cx) (op : CmpOp) (d₁ d₂ : D) (b : Bool) : Prop := ∀ Y A s v₁ v₂, Pre c Y A s → Rep s.heap Y d₁ v₁ → Rep s.heap Y d₂ v₂ → wpAny c.M A (compareOp op v₁ v₂) (fun v s' => v = .bool b ∧ Kp s s') noE s
def Uop (c : Cx) (op : UnaryOp) (d₁ d : D) : Prop := ∀ Y A s v₁, Pre c Y A s → Rep s.heap Y d₁ v₁ → wpAny c.M A (unaryOp op v₁) (Gives Y d s) noE s
def Tru (c : Cx) (d : D) (b : Bool) : Prop := ∀ Y A s v, Pre c Y A s → Rep s.heap Y d v → wpAny c.M A (truthy v) (fun b' s' => b' = b ∧ Kp s s') noE s

section
variable {c : Cx}
theorem gInt {Y s i t tk} : Gives Y (.int i) s (.int i t) { s with toks := tk } := ⟨Kp.tok _, by simp only [Rep]; exact ⟨_, rfl⟩⟩
theorem gStr {Y s i t tk} : Gives Y (.str i) s (.str i t) { s with toks := tk } := ⟨Kp.tok _, by simp only [Rep]; exact ⟨_, rfl⟩⟩
theorem rInt {h Y i v} (x : Rep h Y (.int i) v) : ∃ t, v = .int i t := by simpa only [Rep] using x
theorem rStr {h Y i v} (x : Rep h Y (.str i) v) : ∃ t, v = .str i t := by simpa only [Rep] using x
theorem rBool {h Y i v} (x : Rep h Y (.bool i) v) : v = .bool i := by simpa only [Rep] using x
theorem rNone {h Y v} (x : Rep h Y .none v) : v = .none := by simpa only [Rep] using x
theorem rList {h Y ds v} (x : Rep h Y (.list ds) v) : ∃ a vs, v = .ref a ∧ a ∉ Y ∧ h.PlainList a vs ∧ RepL h Y ds vs.toList := by simpa only [Rep] using x
theorem rTup {h Y ds v} (x : Rep h Y (.tup ds) v) : ∃ a vs, v = .ref a ∧ a ∉ Y ∧ IsTup h a vs ∧ RepL h Y ds vs.toList := by simpa only [Rep] using x

theorem Bop.add {a b} : Bop c .Add (.int a) (.int b) (.int (a + b)) := fun _ _ _ _ _ _ x y => by
  obtain ⟨t, rfl⟩ := rInt x; obtain ⟨u, rfl⟩ := rInt y
  exact add_int gInt
theorem Bop.sub {a b} : Bop c .Sub (.int a) (.int b) (.int (a - b)) := fun _ _ _ _ _ _ x y => by
  obtain ⟨t, rfl⟩ := rInt x; obtain ⟨u, rfl⟩ := rInt y
  exact sub_int' gInt
theorem Bop.mul {a b} (h : IntMulOk a b) : Bop c .Mult (.int a) (.int b) (.int (a * b)) := fun _ _ _ _ _ _ x y => by
  obtain ⟨t, rfl⟩ := rInt x; obtain ⟨u, rfl⟩ := rInt y
  exact mul_int gInt h
theorem Bop.fdiv {a b} (h : b ≠ 0) (h' : Builtin.divisionGoesByPylong a b = false) : Bop c .FloorDiv (.int a) (.int b) (.int (a.fdiv b)) := fun _ _ _ _ _ _ x y => by
  obtain ⟨t, rfl⟩ := rInt x; obtain ⟨u, rfl⟩ := rInt y
  exact floordiv_int h gInt (.inl h')
theorem Bop.mod {a b} (h : b ≠ 0) : Bop c .Mod (.int a) (.int b) (.int (a.fmod b)) := fun _ _ _ _ _ _ x y => by
  obtain ⟨t, rfl⟩ := rInt x; obtain ⟨u, rfl⟩ := rInt y
  exact mod_int' h gInt
theorem Bop.pow {a b} (h : 0 ≤ b) (h' : (Builtin.Int.intBits a : Int) * b ≤ 2 ^ 27) : Bop c .Pow (.int a) (.int b) (.int (a ^ b.toNat)) := fun _ _ _ _ _ _ x y => by
  obtain ⟨t, rfl⟩ := rInt x; obtain ⟨u, rfl⟩ := rInt y
  exact pow_int h h' gInt
theorem Bop.shl {a b} (h : 0 ≤ b) (h' : (Builtin.Int.intBits a : Int) + b ≤ 2 ^ 27) : Bop c .LShift (.int a) (.int b) (.int (a * 2 ^ b.toNat)) := fun _ _ _ _ _ _ x y => by
  obtain ⟨t, rfl⟩ := rInt x; obtain ⟨u, rfl⟩ := rInt y
  exact lshift_int h h' gInt
theorem Bop.shr {a b} (h : 0 ≤ b) : Bop c .RShift (.int a) (.int b) (.int (a.fdiv (2 ^ b.toNat))) := fun _ _ _ _ _ _ x y => by
  obtain ⟨t, rfl⟩ := rInt x; obtain ⟨u, rfl⟩ := rInt y
  exact rshift_int h gInt
theorem Bop.band {a b} : Bop c .BitAnd (.int a) (.int b) (.int (Builtin.bitAnd a b)) := fun _ _ _ _ _ _ x y => by
  obtain ⟨t, rfl⟩ := rInt x; obtain ⟨u, rfl⟩ := rInt y
  exact and_int gInt
theorem Bop.bor {a b} : Bop c .BitOr (.int a) (.int b) (.int (Builtin.bitOr a b)) := fun _ _ _ _ _ _ x y => by
  obtain ⟨t, rfl⟩ := rInt x; obtain ⟨u, rfl⟩ := rInt y
  exact or_int gInt
theorem Bop.bxor {a b} : Bop c .BitXor (.int a) (.int b) (.int (Builtin.bitXor a b)) := fun _ _ _ _ _ _ x y => by
  obtain ⟨t, rfl⟩ := rInt x; obtain ⟨u, rfl⟩ := rInt y
  exact xor_int gInt
theorem Bop.addStr {a b} (h : a.length + b.length ≤ sizeLine) : Bop c .Add (.str a) (.str b) (.str (a ++ b)) := fun _ _ _ _ _ _ x y => by
  obtain ⟨t, rfl⟩ := rStr x; obtain ⟨u, rfl⟩ := rStr y
  exact add_str (fun t' tk => gStr) h
theorem gList {Y ds} {vs : List Value} {s : Shared} (hv : RepL s.heap Y ds vs) (hl : Live s.heap Y) : Gives Y (.list ds) s (.ref s.heap.objs.size) { s with heap := s.heap.push { cls := .type "list", data := .seq vs.toArray } } := by
  refine ⟨Kp.push _, ?_⟩
  simp only [Rep]
  exact ⟨_, vs.toArray, rfl, hl.fresh (Nat.le_refl _), ⟨0, Heap.get?_push_size _ rfl⟩, hv.keeps fun b o e => Heap.get?_push_of_some _ e⟩
theorem gTup {Y ds} {vs : List Value} {s : Shared} (hv : RepL s.heap Y ds vs) (hl : Live s.heap Y) : Gives Y (.tup ds) s (.ref s.heap.objs.size) { s with heap := s.heap.push { cls := .type "tuple", data := .seq vs.toArray } } := by
  refine ⟨Kp.push _, ?_⟩
  simp only [Rep]
  exact ⟨_, vs.toArray, rfl, hl.fresh (Nat.le_refl _), ⟨_, Heap.get?_push_size _ rfl, rfl, 0, rfl⟩, hv.keeps fun b o e => Heap.get?_push_of_some _ e⟩
theorem Bop.addList {a b} (h : a.length + b.length ≤ sizeLine) : Bop c .Add (.list a) (.list b) (.list (a ++ b)) := fun Y A s v₁ v₂ P x y => by
  obtain ⟨l, vs, rfl, hn, hl, hv⟩ := rList x
  obtain ⟨k, ws, rfl, hn', hk, hw⟩ := rList y
  obtain ⟨n, ho⟩ := id hl
  obtain ⟨n2, ho2⟩ := id hk
  refine concat_meets ⟨_, ho, rfl⟩ ⟨_, ho2, rfl⟩ noFill_list_add seq_list_add PySem.F.slot_list_add PySem.F.entry_list_add (PySem.F.args_list_add_2 _ _)
    (list_addW l k vs ws n n2 none none #[] #[] (by have := hv.length; have := hw.length; simp at *; omega)) ⟨ho, ho2, ?_⟩
  have e : vs ++ ws = (vs.toList ++ ws.toList).toArray := by simp
  rw [e]
  exact gList (hv.append hw) P.live

theorem Iop.add {a b} : Iop c .Add (.int a) (.int b) (.int (a + b)) := fun _ _ _ _ _ _ x y => by
  obtain ⟨t, rfl⟩ := rInt x; obtain ⟨u, rfl⟩ := rInt y
  exact wpAny_iadd_int gInt
theorem Iop.sub {a b} : Iop c .Sub (.int a) (.int b) (.int (a - b)) := fun _ _ _ _ _ _ x y => by
  obtain ⟨t, rfl⟩ := rInt x; obtain ⟨u, rfl⟩ := rInt y
  exact wpAny_inplaceOp_same (op := .Sub) (T := "int") (typeIs_int _ a t) (typeIs_int _ b u) no_int_isub fills_int_sub slot_int_sub (call_int_sub gInt)
theorem Iop.mul {a b} (h : IntMulOk a b) : Iop c .Mult (.int a) (.int b) (.int (a * b)) := fun _ _ _ _ _ _ x y => by
  obtain ⟨t, rfl⟩ := rInt x; obtain ⟨u, rfl⟩ := rInt y
  exact wpAny_inplaceOp_same (op := .Mult) (T := "int") (typeIs_int _ a t) (typeIs_int _ b u) no_int_imul fills_int_mul slot_int_mul (call_int_mul gInt h)
theorem Iop.shl {a b} (h : 0 ≤ b) (h' : (Builtin.Int.intBits a : Int) + b ≤ 2 ^ 27) : Iop c .LShift (.int a) (.int b) (.int (a * 2 ^ b.toNat)) := fun _ _ _ _ _ _ x y => by
  obtain ⟨t, rfl⟩ := rInt x; obtain ⟨u, rfl⟩ := rInt y
  exact wpAny_inplaceOp_same (op := .LShift) (T := "int") (typeIs_int _ a t) (typeIs_int _ b u) no_int_ilshift fills_int_lshift slot_int_lshift (call_int_lshift h h' gInt)
theorem Iop.shr {a b} (h : 0 ≤ b) : Iop c .RShift (.int a) (.int b) (.int (a.fdiv (2 ^ b.toNat))) := fun _ _ _ _ _ _ x y => by
  obtain ⟨t, rfl⟩ := rInt x; obtain ⟨u, rfl⟩ := rInt y
  exact wpAny_inplaceOp_same (op := .RShift) (T := "int") (typeIs_int _ a t) (typeIs_int _ b u) no_int_irshift PyProof.Rows.fills_int_rshift PyProof.Rows.slot_int_rshift (call_int_rshift h gInt)
theorem Iop.bor {a b} : Iop c .BitOr (.int a) (.int b) (.int (Builtin.bitOr a b)) := fun _ _ _ _ _ _ x y => by
  obtain ⟨t, rfl⟩ := rInt x; obtain ⟨u, rfl⟩ := rInt y
  exact wpAny_inplaceOp_same (op := .BitOr) (T := "int") (typeIs_int _ a t) (typeIs_int _ b u) no_int_ior fills_int_or slot_int_or (call_int_or gInt)
theorem Iop.bxor {a b} : Iop c .BitXor (.int a) (.int b) (.int (Builtin.bitXor a b)) := fun _ _ _ _ _ _ x y => by
  obtain ⟨t, rfl⟩ := rInt x; obtain ⟨u, rfl⟩ := rInt y
  exact wpAny_inplaceOp_same (op := .BitXor) (T := "int") (typeIs_int _ a t) (typeIs_int _ b u) no_int_ixor fills_int_xor slot_int_xor (call_int_xor gInt)

theorem Uop.neg {a} : Uop c .USub (.int a) (.int (-a)) := fun _ _ _ _ _ x => by
  obtain ⟨t, rfl⟩ := rInt x
  exact neg_int gInt
theorem Uop.inv {a} : Uop c .Invert (.int a) (.int (Builtin.bitNot a)) := fun _ _ _ _ _ x => by
  obtain ⟨t, rfl⟩ := rInt x
  exact invert_int gInt

theorem Cop.eqInt {a b} : Cop c .Eq (.int a) (.int b) (a == b) := fun _ _ _ _ _ _ x y => by
  obtain ⟨t, rfl⟩ := rInt x; obtain ⟨u, rfl⟩ := rInt y
  exact eq_int ⟨rfl, Kp.rfl'⟩
theorem Cop.neInt {a b} : Cop c .NotEq (.int a) (.int b) (a != b) := fun _ _ _ _ _ _ x y => by
  obtain ⟨t, rfl⟩ := rInt x; obtain ⟨u, rfl⟩ := rInt y
  exact IsLeap.wpAny_ne_int ⟨rfl, Kp.rfl'⟩
theorem Cop.ltInt {a b} : Cop c .Lt (.int a) (.int b) (decide (a < b)) := fun _ _ _ _ _ _ x y => by
  obtain ⟨t, rfl⟩ := rInt x; obtain ⟨u, rfl⟩ := rInt y
  exact wpAny_lt_int ⟨rfl, Kp.rfl'⟩
theorem Cop.gtInt {a b} : Cop c .Gt (.int a) (.int b) (decide (a > b)) := fun _ _ _ _ _ _ x y => by
  obtain ⟨t, rfl⟩ := rInt x; obtain ⟨u, rfl⟩ := rInt y
  exact SiftDown.gt_int ⟨rfl, Kp.rfl'⟩
theorem Cop.leInt {a b} : Cop c .LtE (.int a) (.int b) (decide (a ≤ b)) := fun _ _ _ _ _ _ x y => by
  obtain ⟨t, rfl⟩ := rInt x; obtain ⟨u, rfl⟩ := rInt y
  exact le_int ⟨rfl, Kp.rfl'⟩
theorem Cop.eqStr {a b} : Cop c .Eq (.str a) (.str b) (a == b) := fun _ _ _ _ _ _ x y => by
  obtain ⟨t, rfl⟩ := rStr x; obtain ⟨u, rfl⟩ := rStr y
  exact eq_str ⟨rfl, Kp.rfl'⟩
theorem Cop.neStr {a b} : Cop c .NotEq (.str a) (.str b) (a != b) := fun _ _ _ _ _ _ x y => by
  obtain ⟨t, rfl⟩ := rStr x; obtain ⟨u, rfl⟩ := rStr y
  exact ne_str ⟨rfl, Kp.rfl'⟩

theorem Tru.int {a : Int} : Tru c (.int a) (a != 0) := fun _ _ _ _ _ x => by
  obtain ⟨t, rfl⟩ := rInt x
  exact P.truthy_int ⟨rfl, Kp.rfl'⟩
theorem Tru.bool {a : Bool} : Tru c (.bool a) a := fun _ _ _ _ _ x => by
  obtain rfl := rBool x
  exact wpAny_truthy_bool ⟨rfl, Kp.rfl'⟩
theorem Tru.none : Tru c .none false := fun _ _ _ _ _ x => by
  obtain rfl := rNone x
  exact fun _ _ _ => ⟨rfl, Kp.rfl'⟩
theorem Tru.str {a : Str} (h : a.length ≤ sizeLine) : Tru c (.str a) (decide (a.length ≠ 0)) := fun _ _ s _ _ x => by
  obtain ⟨t, rfl⟩ := rStr x
  refine P.truthy_str (by unfold sizeLine at h; omega) ⟨?_, Kp.tok _⟩
  by_cases e : a.length = 0
  · simp [e]
  · have : (a.length : Int) ≠ 0 := by omega
    simp [e, this]
theorem Tru.list {a : List D} (h : a.length ≤ sizeLine) : Tru c (.list a) (!a.isEmpty) := fun _ _ s _ _ x => by
  obtain ⟨l, vs, rfl, _, hl, hv⟩ := rList x
  have e := hv.length
  refine wpAny_truthy_list hl.isList (by unfold sizeLine at h; simp at e; omega) ⟨?_, Kp.tok _⟩
  cases a with
  | nil => simp at e; simp [e]
  | cons d r => have : vs.size ≠ 0 := by simp at e; omega
                simp [Array.isEmpty, this]
end

section
variable {c : Cx} {r : Nat} {sc : Scope} {σ : String → Option D}
theorem At.pre {env Y val A s} (X : At c env sc Y σ val s) (R : Room A 20) : Pre c Y A s := ⟨X.base, X.live, R⟩
theorem Gives.trans {Y d} {s s' s'' : Shared} {v} (k : Kp s s') (g : Gives Y d s' v s'') : Gives Y d s v s'' := ⟨k.trans g.1, g.2⟩

theorem Ev.bin {l e op pos d₁ d₂ d} (hr : 20 ≤ r) (h₁ : Ev c r sc σ l d₁) (h₂ : Ev c r sc σ e d₂) (h : Bop c op d₁ d₂ d) : Ev c r sc σ (.BinOp l op e pos) d := ⟨fun env Y val A s R X =>
  wpAny_BinOp (weak (h₁.go env Y val A s R X) fun a s₁ g₁ => weak (h₂.go env Y val A s₁ R (X.keeps g₁.1)) fun b s₂ g₂ =>
    weak (h Y A s₂ a b (((X.keeps g₁.1).keeps g₂.1).pre (R.le hr)) (g₁.2.keeps g₂.1.k) g₂.2) fun v s₃ g₃ => (g₃.trans g₂.1).trans g₁.1)⟩
theorem Ev.una {e op pos d₁ d} (hr : 20 ≤ r) (h₁ : Ev c r sc σ e d₁) (h : Uop c op d₁ d) : Ev c r sc σ (.UnaryOp op e pos) d := ⟨fun env Y val A s R X =>
  wpAny_UnaryOp (weak (h₁.go env Y val A s R X) fun a s₁ g₁ => weak (h Y A s₁ a ((X.keeps g₁.1).pre (R.le hr)) g₁.2) fun v s₃ g₃ => g₃.trans g₁.1)⟩
theorem Tr.cmp {l op e pos d₁ d₂ b} (hr : 20 ≤ r) (h₁ : Ev c r sc σ l d₁) (h₂ : Ev c r sc σ e d₂) (h : Cop c op d₁ d₂ b) (hm : behindInMarks op e = false := by rfl) : Tr c r sc σ (.Compare l [op] [e] pos) b := ⟨fun env Y val A s R X =>
  wpAny_isTrue_Compare1 (weak (h₁.go env Y val A s R X) fun a s₁ g₁ => weak (h₂.go env Y val A s₁ R (X.keeps g₁.1)) fun b s₂ g₂ =>
    weak (h Y A s₂ a b (((X.keeps g₁.1).keeps g₂.1).pre (R.le hr)) (g₁.2.keeps g₂.1.k) g₂.2) fun v s₃ ⟨e, k⟩ => by subst e; exact wpAny_truthy_bool ⟨rfl, (g₁.1.trans g₂.1).trans k⟩) hm⟩
theorem Ev.cmp {l op e pos d₁ d₂ b} (hr : 20 ≤ r) (h₁ : Ev c r sc σ l d₁) (h₂ : Ev c r sc σ e d₂) (h : Cop c op d₁ d₂ b) (hm : behindInMarks op e = false := by rfl) : Ev c r sc σ (.Compare l [op] [e] pos) (.bool b) := ⟨fun env Y val A s R X =>
  wpAny_Compare1 (weak (h₁.go env Y val A s R X) fun a s₁ g₁ => weak (h₂.go env Y val A s₁ R (X.keeps g₁.1)) fun b s₂ g₂ =>
    weak (h Y A s₂ a b (((X.keeps g₁.1).keeps g₂.1).pre (R.le hr)) (g₁.2.keeps g₂.1.k) g₂.2) fun v s₃ ⟨e, k⟩ => ⟨(g₁.1.trans g₂.1).trans k, by subst e; simp only [Rep]⟩) hm⟩
theorem Tr.not {e pos b} (h : Tr c r sc σ e b) : Tr c r sc σ (.UnaryOp .Not e pos) (!b) := ⟨fun env Y val A s R X =>
  wpAny_isTrue_Not (weak (h.go env Y val A s R X) fun b' s₁ ⟨e, k⟩ => ⟨by rw [e], k⟩)⟩
theorem Tr.val {e d b} (hr : 20 ≤ r) (h : Ev c r sc σ e d) (ht : Tru c d b) (he : ∀ env whole, isTrue e env whole = (do let v ← whole; standAt e.pos; holding [v] (truthy v)) := by intros; rfl) : Tr c r sc σ e b := ⟨fun env Y val A s R X =>
  wpAny_isTrue_value (weak (h.go env Y val A s R X) fun v s₁ g => weak (ht Y A s₁ v ((X.keeps g.1).pre (R.le hr)) g.2) fun b' s₂ ⟨e, k⟩ => ⟨e, g.1.trans k⟩) (he _ _)⟩
theorem Ev.ifT {t b e pos d} (h : Tr c r sc σ t true) (h₁ : Ev c r sc σ b d) : Ev c r sc σ (.IfExp t b e pos) d := ⟨fun env Y val A s R X =>
  wpAny_IfExp (weak (h.go env Y val A s R X) fun b' s₁ ⟨e, k⟩ => by subst e; exact weak (h₁.go env Y val A s₁ R (X.keeps k)) fun v s₂ g => g.trans k)⟩
theorem Ev.ifF {t b e pos d} (h : Tr c r sc σ t false) (h₁ : Ev c r sc σ e d) : Ev c r sc σ (.IfExp t b e pos) d := ⟨fun env Y val A s R X =>
  wpAny_IfExp (weak (h.go env Y val A s R X) fun b' s₁ ⟨e, k⟩ => by subst e; exact weak (h₁.go env Y val A s₁ R (X.keeps k)) fun v s₂ g => g.trans k)⟩
theorem EvL.nil : EvL c r sc σ [] [] := ⟨fun env Y val A s pos R X => wpAny_pure ⟨Kp.rfl', by simp only [RepL]⟩⟩
theorem EvL.cons0 {e es d ds} (h : Ev c r sc σ e d) (hs : EvL c r sc σ es ds) (he : ∀ env, starEach (e :: es) env = (false, eval e env) :: starEach es env := by intro _; rfl) : EvL c r sc σ (e :: es) (d :: ds) := ⟨fun env Y val A s pos R X => by
  rw [he]
  show wpAny _ A (spliced ((false, eval e env) :: backTo pos (starEach es env))) _ _ s
  unfold spliced
  refine wpAny_bind (weak (h.go env Y val A s R X) fun v s₁ g => ?_)
  simp only [Bool.false_eq_true, if_false]
  refine wpAny_bind (wpAny_pure (wpAny_bind (wpAny_holding (weak (hs.go env Y val A s₁ pos R (X.keeps g.1)) fun vs s₂ g₂ => wpAny_pure ⟨g.1.trans g₂.1, ?_⟩))))
  simp only [List.cons_append, List.nil_append, RepL]
  exact ⟨v, vs, rfl, g.2.keeps g₂.1.k, g₂.2⟩⟩
def starred : Expr → Bool
  | .Starred .. => true
  | _ => false
theorem star_cons {e : Expr} {es : List Expr} (h : starred e = false) (env : Env) : starEach (e :: es) env = (false, eval e env) :: starEach es env := by
  cases e <;> first | rfl | cases h
theorem EvL.cons {e es d ds} (h : Ev c r sc σ e d) (hs : EvL c r sc σ es ds) (he : starred e = false := by rfl) : EvL c r sc σ (e :: es) (d :: ds) := EvL.cons0 h hs (star_cons he)
theorem Ev.list {es pos ds} (h : EvL c r sc σ es ds) (hn : ds.length ≤ sizeLine) : Ev c r sc σ (.List es pos) (.list ds) := ⟨fun env Y val A s R X =>
  List_ (weak (h.go env Y val A s pos R X) fun vs s₁ ⟨k, hv⟩ => wpAny_newList ((gList hv (X.keeps k).live).trans k) (by rw [hv.length]; exact hn))⟩
theorem Ev.tup {es k pos ds} (h : EvL c r sc σ es ds) (hn : ds.length ≤ sizeLine) : Ev c r sc σ (.Tuple es k pos) (.tup ds) := ⟨fun env Y val A s R X =>
  Tuple_ (weak (h.go env Y val A s pos R X) fun vs s₁ ⟨k, hv⟩ => wpAny_newTuple ((gTup hv (X.keeps k).live).trans k) (by rw [hv.length]; exact hn))⟩
end
end Mine

end
section
open PySem PySem.W PySem.Calls PyProof.Rows
set_option linter.unusedVariables false
namespace Mine

def upd {α : Type} (σ : String → Option α) (x : String) (d : α) : String → Option α := fun y => if y = x then some d else σ y

theorem ofString_inj {a b : String} (h : Str.ofString a = Str.ofString b) : a = b := by
  rw [Str.ofString_eq_byList] at h
  unfold Str.ofStringByList at h
  have h1 : a.toList.map Char.toNat = b.toList.map Char.toNat := by simpa using h
  have h2 : a.toList = b.toList := (List.map_inj_right (f := Char.toNat) (fun x y e => Char.toNat_inj.mp e)).mp h1
  exact String.toList_inj.mp h2

/-- what a store may touch -/
def Mu (env : Env) (sc : Scope) (ow : Option Addr) (b : Addr) : Prop :=
  b = env.locals ∨ (∃ x : Str, sc.names.lookup x = some .cell ∧ env.cells.lookup x = some b) ∨ ow = some b
def KpS (M : Addr → Prop) (s s' : Shared) : Prop := ∃ h' tk, s' = { s with heap := h', toks := tk } ∧ ∀ b o, s.heap.get? b = some o → ¬ M b → h'.get? b = some o
theorem KpS.k {M s s'} (a : KpS M s s') : ∀ b o, s.heap.get? b = some o → ¬ M b → s'.heap.get? b = some o := by
  obtain ⟨h, t, rfl, k⟩ := a; exact k
theorem Kp.s {M s s'} (a : Kp s s') : KpS M s s' := let ⟨h, t, e, k⟩ := a; ⟨h, t, e, fun b o q _ => k b o q⟩
theorem KpS.trans {M s s' s''} (a : KpS M s s') (b : KpS M s' s'') : KpS M s s'' := by
  obtain ⟨h, t, rfl, k⟩ := a
  obtain ⟨h', t', rfl, k'⟩ := b
  exact ⟨h', t', rfl, fun b o e n => k' b o (k b o e n) n⟩
theorem KpS.mono {M M' : Addr → Prop} {s s'} (a : KpS M s s') (h : ∀ b, M b → M' b) : KpS M' s s' := let ⟨x, t, e, k⟩ := a; ⟨x, t, e, fun b o q n => k b o q fun m => n (h b m)⟩

theorem EnvAt.loc_notSeq {env sc h val} (X : EnvAt env sc h val) {o : Obj} (e : h.get? env.locals = some o) : ¬ SeqO o := by
  obtain ⟨m, ⟨o', es, ep, e', hd, _⟩, _⟩ := X.loc
  rw [e] at e'; cases e'
  rintro (⟨items, n, q⟩ | ⟨vs, q⟩) <;> rw [hd] at q <;> cases q
theorem cell_notSeq {h : Heap} {c : Addr} {u} (X : h.IsCell c u) {o : Obj} (e : h.get? c = some o) : ¬ SeqO o := by
  obtain ⟨o', e', hd⟩ := X
  rw [e] at e'; cases e'
  rintro (⟨items, n, q⟩ | ⟨vs, q⟩) <;> rw [hd] at q <;> cases q
theorem EnvAt.notSeq {env sc h val b} (X : EnvAt env sc h val) (hb : Mu env sc none b) {o : Obj} (e : h.get? b = some o) : ¬ SeqO o := by
  rcases hb with rfl | ⟨x, h1, h2⟩ | q
  · exact X.loc_notSeq e
  · obtain ⟨c, u, h3, h4, _⟩ := X.cel x (.inl h1)
    rw [h2] at h3; cases h3
    exact cell_notSeq h4 e
  · cases q

/-- where a name of the block stands -/
def Slot_ (env : Env) (sc : Scope) (x : String) (b : Addr) : Prop :=
  (sc.names.lookup (Str.ofString x) = some .local ∧ b = env.locals) ∨ (sc.names.lookup (Str.ofString x) = some .cell ∧ env.cells.lookup (Str.ofString x) = some b)
theorem EnvAt.store1 {c : Cx} {env sc A} {s : Shared} {val : String → Option Value} {x : String} {v : Value} {Q : Unit → Shared → Prop} {E : Value → Shared → Prop} (X : EnvAt env sc s.heap val)
    (hk : sc.names.lookup (Str.ofString x) = some .local ∨ sc.names.lookup (Str.ofString x) = some .cell)
    (h : ∀ b s', Slot_ env sc x b → KpS (fun z => z = b) s s' → (∃ o, s'.heap.get? b = some o) → EnvAt env sc s'.heap (upd val x v) → Q () s') : wpAny c.M A (storeName env (Str.ofString x) v) Q E s := by
  have hkf : env.scope.kind = .function := X.scope ▸ X.kind
  rcases hk with hk | hk
  · obtain ⟨m, hm, hq⟩ := X.loc
    refine wpAny_storeName_local (by unfold Env.kindOf; rw [X.scope]; exact hk) hm (fun h' hn hs => h _ _ (.inl ⟨hk, rfl⟩) ⟨h', _, rfl, fun b o e n => (hs.2 b n) ▸ e⟩ (let ⟨o, _, _, e, _⟩ := hn; ⟨o, e⟩) ?_) (by rw [hkf]; rfl)
    refine ⟨X.scope, X.kind, X.glob, X.blt, ⟨_, hn, fun y w hy hl => ?_⟩, fun y hy => ?_, X.inj, fun y w hy => ?_⟩
    · by_cases e : y = x
      · subst e; simp [upd] at hy; subst hy; simp
      · have : Str.ofString y ≠ Str.ofString x := fun q => e (ofString_inj q)
        simp [upd, e] at hy
        simp [this]; exact hq y w hy hl
    · obtain ⟨ca, u, a1, a2, a3⟩ := X.cel y hy
      refine ⟨ca, u, a1, a2.sameBut hs fun q => ?_, fun z w hz hw => ?_⟩
      · subst q
        obtain ⟨o', e', hd⟩ := a2
        obtain ⟨oL, es, ep, eL, hdL, _⟩ := hm
        rw [e'] at eL; cases eL; rw [hd] at hdL; cases hdL
      · by_cases e : z = x
        · subst e; subst hz; rcases hy with q | q <;> rw [hk] at q <;> cases q
        · simp [upd, e] at hw; exact a3 z w hz hw
    · by_cases e : y = x
      · subst e; exact .inl hk
      · simp [upd, e] at hy; exact X.kinds y w hy
  · obtain ⟨ca, u, a1, a2, a3⟩ := X.cel _ (.inl hk)
    refine wpAny_storeName_cell hkf (by unfold Env.kindOf; rw [X.scope]; exact hk) a1 a2 fun h' hc hs => h ca _ (.inr ⟨hk, a1⟩) ⟨h', s.toks, rfl, fun b o e n => (hs.2 b n) ▸ e⟩ (let ⟨o, e, _⟩ := hc; ⟨o, e⟩) ?_
    have hLc : env.locals ≠ ca := fun q => by
      obtain ⟨m, hm, _⟩ := X.loc
      obtain ⟨o', e', hd⟩ := a2
      obtain ⟨oL, es, ep, eL, hdL, _⟩ := hm
      rw [q] at eL; rw [e'] at eL; cases eL; rw [hd] at hdL; cases hdL
    refine ⟨X.scope, X.kind, X.glob, X.blt, ?_, fun y hy => ?_, X.inj, fun y w hy => ?_⟩
    · obtain ⟨m, hm, hq⟩ := X.loc
      refine ⟨m, hm.sameBut hs hLc, fun y w hy hl => ?_⟩
      by_cases e : y = x
      · subst e; rw [hk] at hl; cases hl
      · simp [upd, e] at hy; exact hq y w hy hl
    · by_cases e : y = Str.ofString x
      · subst e
        refine ⟨ca, some v, a1, hc, fun z w hz hw => ?_⟩
        rw [← ofString_inj hz] at hw
        simp [upd] at hw; rw [hw]
      · obtain ⟨ca', u', b1, b2, b3⟩ := X.cel y hy
        refine ⟨ca', u', b1, b2.sameBut hs fun q => ?_, fun z w hz hw => ?_⟩
        · subst q
          exact e (X.inj _ _ _ b1 a1)
        · have e' : z ≠ x := fun q => e (q ▸ hz)
          simp [upd, e'] at hw; exact b3 z w hz hw
    · by_cases e : y = x
      · subst e; exact .inr (.inl hk)
      · simp [upd, e] at hy; exact X.kinds y w hy
/-- a store keeps the data -/
theorem EnvAt.store {c : Cx} {env sc A} {s : Shared} {val : String → Option Value} {x : String} {v : Value} {Q : Unit → Shared → Prop} {E : Value → Shared → Prop} (X : EnvAt env sc s.heap val)
    (hk : sc.names.lookup (Str.ofString x) = some .local ∨ sc.names.lookup (Str.ofString x) = some .cell)
    (h : ∀ s', KpS (Mu env sc none) s s' → EnvAt env sc s'.heap (upd val x v) → Q () s') : wpAny c.M A (storeName env (Str.ofString x) v) Q E s :=
  X.store1 (c := c) hk fun b s' hb k _ e => h s' (k.mono fun z q => by
    subst q
    rcases hb with ⟨_, q⟩ | ⟨q1, q2⟩
    · exact .inl q
    · exact .inr (.inl ⟨_, q1, q2⟩)) e

/-- the state of a block: the names' data, and one list that the block may change -/
structure StA (c : Cx) (env : Env) (sc : Scope) (Y : List Addr) (σ : String → Option D) (o : Option (String × List D)) (a : Addr) (val : String → Option Value) (s : Shared) : Prop where
  base : c.In s.heap
  mine : ∀ b, Mu env sc none b → c.base.get? b = none
  env : EnvAt env sc s.heap val
  live : Live s.heap Y
  ok : match o with
    | none => ValOk s.heap Y σ val
    | some (x, ds) => a ∉ Y ∧ c.base.get? a = none ∧ ValOk s.heap (a :: Y) σ val ∧ val x = some (.ref a) ∧ ∃ vs, s.heap.PlainList a vs ∧ RepL s.heap (a :: Y) ds vs.toList

def own (o : Option (String × List D)) (a : Addr) : Option Addr := o.map fun _ => a
/-- the names as they are read -/
def full (σ : String → Option D) : Option (String × List D) → String → Option D
  | none => σ
  | some (x, ds) => upd σ x (.list ds)

theorem ValOk.weaken {h Y Y' σ val} (X : ValOk h Y σ val) (hy : ∀ a ∈ Y', a ∈ Y) : ValOk h Y' σ val := fun x d e => let ⟨v, a, b⟩ := X x d e; ⟨v, a, b.mono (fun _ _ q _ _ => q) fun _ _ _ q => hy _ q⟩
theorem ValOk.upd {h Y σ val x d v} (X : ValOk h Y σ val) (hv : Rep h Y d v) : ValOk h Y (Mine.upd σ x d) (Mine.upd val x v) := fun y e hy => by
  by_cases q : y = x
  · subst q; simp [Mine.upd] at hy; subst hy; exact ⟨v, by simp [Mine.upd], hv⟩
  · simp [Mine.upd, q] at hy
    obtain ⟨w, a, b⟩ := X y e hy
    exact ⟨w, by simp [Mine.upd, q, a], b⟩
theorem ValOk.updV {h Y σ val x v} (X : ValOk h Y σ val) (hx : σ x = none) : ValOk h Y σ (Mine.upd val x v) := fun y e hy => by
  by_cases q : y = x
  · subst q; rw [hx] at hy; cases hy
  · obtain ⟨w, a, b⟩ := X y e hy
    exact ⟨w, by simp [Mine.upd, q, a], b⟩

theorem StA.at {c env sc Y σ o a val s} (X : StA c env sc Y σ o a val s) : At c env sc Y (full σ o) val s := by
  refine ⟨X.base, X.env, ?_, X.live⟩
  have h := X.ok
  match o, h with
  | none, h => exact h
  | some (x, ds), ⟨ha, hb, h1, h2, vs, h3, h4⟩ =>
    intro y d hy
    by_cases q : y = x
    · subst q
      simp [full, Mine.upd] at hy; subst hy
      refine ⟨_, h2, ?_⟩
      simp only [Rep]
      exact ⟨a, vs, rfl, ha, h3, h4.mono (fun _ _ q _ _ => q) fun _ _ _ q => List.mem_cons_of_mem _ q⟩
    · simp [full, Mine.upd, q] at hy
      exact (h1.weaken fun b hb => List.mem_cons_of_mem _ hb) y d hy
/-- the state without the list that may change -/
theorem StA.at' {c env sc Y σ x ds a val s} (X : StA c env sc Y σ (some (x, ds)) a val s) : At c env sc (a :: Y) σ val s := by
  obtain ⟨ha, hb, h1, h2, vs, h3, h4⟩ := X.ok
  exact ⟨X.base, X.env, h1, fun b hb => by
    rcases List.mem_cons.mp hb with rfl | hb
    · obtain ⟨n, ho⟩ := h3; exact ⟨_, ho⟩
    · exact X.live b hb⟩
theorem StA.keeps {c env sc Y σ o a val} {s s' : Shared} (X : StA c env sc Y σ o a val s) (k : Kp s s') : StA c env sc Y σ o a val s' := by
  refine ⟨fun b o e => k.k b o (X.base b o e), X.mine, X.env.keeps k.k, X.live.keeps k.k, ?_⟩
  have h := X.ok
  match o, h with
  | none, h => exact h.keeps k.k
  | some (x, ds), ⟨ha, hb, h1, h2, vs, ⟨n, e⟩, h4⟩ => exact ⟨ha, hb, h1.keeps k.k, h2, vs, ⟨n, k.k _ _ e⟩, h4.keeps k.k⟩

/-- how a block ends -/
inductive Fl where
  | next | brk | cont
  | ret (d : D)
def FlowR (h : Heap) (Y : List Addr) : Fl → Flow → Prop
  | .next, f => f = .next
  | .brk, f => f = .brk
  | .cont, f => f = .cont
  | .ret d, f => ∃ v, f = .ret v ∧ Rep h Y d v
def isRet : Fl → Bool
  | .ret _ => true
  | _ => false

structure Post (c : Cx) (env : Env) (sc : Scope) (Y : List Addr) (o : Option (String × List D)) (a : Addr) (s : Shared) (fl : Fl) (σ' : String → Option D) (o' : Option (String × List D)) (f : Flow) (s' : Shared) : Prop where
  kp : KpS (Mu env sc (own o a)) s s'
  flow : FlowR s'.heap Y fl f
  st : isRet fl = false → ∃ a' val', (o' ≠ none → (o ≠ none ∧ a' = a) ∨ s.heap.get? a' = none) ∧ StA c env sc Y σ' o' a' val' s'

structure ExB (c : Cx) (r : Nat) (sc : Scope) (σ : String → Option D) (o : Option (String × List D)) (t : Env → Sem Flow) (fl : Fl) (σ' : String → Option D) (o' : Option (String × List D)) : Prop where
  go : ∀ env Y a val A s, Room A r → StA c env sc Y σ o a val s → wpAny c.M A (t env) (Post c env sc Y o a s fl σ' o') noE s
/-- one statement -/
abbrev Ex1 (c : Cx) (r : Nat) (sc : Scope) (σ : String → Option D) (o : Option (String × List D)) (st : Stmt) := ExB c r sc σ o (exec st)
/-- a block -/
abbrev Ex (c : Cx) (r : Nat) (sc : Scope) (σ : String → Option D) (o : Option (String × List D)) (ss : List Stmt) := ExB c r sc σ o (execs ss)

theorem KpS.glue {env sc o a o' a' val'} {c : Cx} {Y σ'} {s s' s'' : Shared} (k : KpS (Mu env sc (own o a)) s s') (hr : o' ≠ none → (o ≠ none ∧ a' = a) ∨ s.heap.get? a' = none) (X : StA c env sc Y σ' o' a' val' s')
    (k' : KpS (Mu env sc (own o' a')) s' s'') : KpS (Mu env sc (own o a)) s s'' := by
  obtain ⟨h, t, rfl, k⟩ := k
  obtain ⟨h', t', rfl, k'⟩ := k'
  refine ⟨h', t', rfl, fun b ob e n => k' b ob (k b ob e n) fun m => ?_⟩
  rcases m with m | m | m
  · exact n (.inl m)
  · exact n (.inr (.inl m))
  · cases o' with
    | none => cases m
    | some p =>
      have ha : a' = b := by simpa [own] using m
      subst ha
      rcases hr (by simp) with ⟨q, rfl⟩ | q
      · cases o with
        | none => exact q rfl
        | some p' => exact n (.inr (.inr rfl))
      · rw [q] at e; cases e
theorem rel_glue {c : Cx} {env : Env} {sc : Scope} {Y : List Addr} {σ' : String → Option D} {o o' o'' : Option (String × List D)} {a a' a'' : Addr} {val' val₀ : String → Option Value} {s s' : Shared} (k : KpS (Mu env sc (own o a)) s s') (hr : o' ≠ none → (o ≠ none ∧ a' = a) ∨ s.heap.get? a' = none)
    (X : StA c env sc Y σ' o' a' val' s') (X₀ : EnvAt env sc s.heap val₀) (hr' : o'' ≠ none → (o' ≠ none ∧ a'' = a') ∨ s'.heap.get? a'' = none) : o'' ≠ none → (o ≠ none ∧ a'' = a) ∨ s.heap.get? a'' = none := fun h => by
  rcases hr' h with ⟨q, rfl⟩ | q
  · exact hr q
  · cases e : s.heap.get? a'' with
    | none => exact .inr rfl
    | some ob =>
      left
      have hm : Mu env sc (own o a) a'' := Classical.byContradiction fun n => by rw [k.k _ _ e n] at q; cases q
      rcases hm with rfl | ⟨x, h1, h2⟩ | m
      · obtain ⟨m, ⟨oL, es, ep, eL, _⟩, _⟩ := X.env.loc
        rw [eL] at q; cases q
      · obtain ⟨ca, u, h3, ⟨oc, ec, _⟩, _⟩ := X.env.cel x (.inl h1)
        rw [h2] at h3; cases h3
        rw [ec] at q; cases q
      · cases o with
        | none => cases m
        | some p => exact ⟨by simp, by simpa [own] using m.symm⟩

section
variable {c : Cx} {r : Nat} {sc : Scope} {σ σ' σ'' : String → Option D} {o o' o'' : Option (String × List D)} {fl : Fl}

theorem Ex.nil : Ex c r sc σ o [] .next σ o := ⟨fun env Y a val A s R X => wpAny_pure ⟨Kp.rfl'.s, rfl, fun _ => ⟨a, val, fun h => .inl ⟨h, rfl⟩, X⟩⟩⟩
theorem Ex.cons {st rest} (h : Ex1 c r sc σ o st .next σ' o') (h' : Ex c r sc σ' o' rest fl σ'' o'') : Ex c r sc σ o (st :: rest) fl σ'' o'' := ⟨fun env Y a val A s R X => by
  refine wpAny_execs_cons (weak (h.go env Y a val A s R X) fun f s₁ P => ?_)
  have e : f = .next := P.flow
  subst e
  obtain ⟨a', val', hr, X'⟩ := P.st rfl
  refine weak (h'.go env Y a' val' A s₁ R X') fun f s₂ P' => ⟨P.kp.glue hr X' P'.kp, P'.flow, fun hn => ?_⟩
  obtain ⟨a'', val'', hr', X''⟩ := P'.st hn
  exact ⟨a'', val'', rel_glue P.kp hr X' X.env hr', X''⟩⟩
theorem Ex.stop {st rest} (h : Ex1 c r sc σ o st fl σ' o') (hf : fl ≠ .next) : Ex c r sc σ o (st :: rest) fl σ' o' := ⟨fun env Y a val A s R X => by
  refine wpAny_execs_cons (weak (h.go env Y a val A s R X) fun f s₁ P => ?_)
  have hfl := P.flow
  cases fl with
  | next => exact absurd rfl hf
  | brk => have e : f = .brk := hfl; subst e; exact P
  | cont => have e : f = .cont := hfl; subst e; exact P
  | ret d => obtain ⟨v, e, hv⟩ := hfl; subst e; exact P⟩
end
end Mine

end
section
open PySem PySem.W PySem.Calls PyProof.Rows
set_option linter.unusedVariables false
namespace Mine
local macro_rules | `(tactic| omega) => `(tactic| lia)

/-- an iterator over the data stands ready -/
def IterPost (c : Cx) (Y : List Addr) (ds : List D) (s : Shared) (it : Value) (s₂ : Shared) : Prop :=
  ∃ I fp P St, it = .ref I ∧ (∀ A' : Around, A'.handled = none → Walks c.prog c.w A' I fp [I] ds.length P St) ∧ Kp s s₂ ∧ s.heap.get? I = none ∧ St 0 s₂.heap ∧
    (∀ b ∈ fp, b ∉ Y ∧ ∃ o, s₂.heap.get? b = some o ∧ SeqO o) ∧ (∀ i h, St i h → ∃ o, h.get? I = some o ∧ SeqO o) ∧ ∀ (i : Nat) (d : D) v, ds[i]? = some d → P i v → Rep s₂.heap (I :: Y) d v
def Iters (c : Cx) (d : D) (ds : List D) : Prop := ∀ Y A s v, Pre c Y A s → Rep s.heap Y d v → wpAny c.M A (pyIter v) (IterPost c Y ds s) noE s
structure EvI (c : Cx) (r : Nat) (sc : Scope) (σ : String → Option D) (e : Expr) (ds : List D) : Prop where
  go : ∀ env Y val A s, Room A r → At c env sc Y σ val s → wpAny c.M A (eval e env) (fun x s₁ => wpAny c.M A (pyIter x) (IterPost c Y ds s) noE s₁) noE s

section
variable {c : Cx} {r : Nat} {sc : Scope} {σ : String → Option D}
theorem IterPost.back {Y ds it} {s s' s'' : Shared} (k : Kp s s') (h : IterPost c Y ds s' it s'') : IterPost c Y ds s it s'' := by
  obtain ⟨I, fp, P, St, a1, a2, a3, a4, a5, a6, a6', a7⟩ := h
  refine ⟨I, fp, P, St, a1, a2, k.trans a3, ?_, a5, a6, a6', a7⟩
  cases e : s.heap.get? I with
  | none => rfl
  | some o => rw [k.k _ _ e] at a4; cases a4
theorem EvI.of {e d ds} (hr : 20 ≤ r) (h : Ev c r sc σ e d) (hi : Iters c d ds) : EvI c r sc σ e ds := ⟨fun env Y val A s R X =>
  weak (h.go env Y val A s R X) fun v s₁ g => weak (hi Y A s₁ v ((X.keeps g.1).pre (R.le hr)) g.2) fun it s₂ p => p.back g.1⟩
theorem fresh_none {h : Heap} : h.get? h.objs.size = none := by
  cases e : h.get? h.objs.size with
  | none => rfl
  | some o => exact absurd (Heap.lt_size e) (Nat.lt_irrefl _)

theorem Iters.list {ds} : Iters c (.list ds) ds := fun Y A s v P x => by
  obtain ⟨l, vs, rfl, hY, hl, hv⟩ := rList x
  have hlen : vs.size = ds.length := by have := hv.length; simpa using this
  have hne : l ≠ s.heap.objs.size := by obtain ⟨n, ho⟩ := hl; exact Nat.ne_of_lt (Heap.lt_size ho)
  refine wpAny_pyIter_list hl.isList ⟨s.heap.objs.size, [s.heap.objs.size, l], fun i v => vs[i]? = some v, fun i h => h.IsListIter s.heap.objs.size l i ∧ h.IsList l vs, rfl,
    fun A' hA => hlen ▸ Walks.list hA _ l hne vs, Kp.push _, fresh_none, ⟨⟨_, Heap.get?_push_size _ rfl, rfl, rfl⟩, hl.isList.push _⟩, fun b hb => ?_, fun i h hst => let ⟨o, ho, hc, hd⟩ := hst.1; ⟨o, ho, .inr ⟨_, hd⟩⟩, fun i d v hd hp => ?_⟩
  · simp only [List.mem_cons, List.not_mem_nil, or_false] at hb
    rcases hb with rfl | rfl
    · exact ⟨P.live.fresh (Nat.le_refl _), _, Heap.get?_push_size _ rfl, .inr ⟨_, rfl⟩⟩
    · obtain ⟨n, ho⟩ := hl
      exact ⟨hY, _, Heap.get?_push_of_some _ ho, .inl ⟨_, _, rfl⟩⟩
  · obtain ⟨v', e, hr⟩ := hv.get hd
    rw [Array.getElem?_toList, hp] at e; cases e
    exact hr.mono (fun b o e _ _ => Heap.get?_push_of_some _ e) fun b o e q => by
      rcases List.mem_cons.mp q with rfl | q
      · exact absurd (Heap.lt_size e) (Nat.lt_irrefl _)
      · exact q

def signs (x : Str) : List D := x.cps.toList.map fun n => .str ⟨#[n]⟩
theorem Iters.str {x : Str} : Iters c (.str x) (signs x) := fun Y A s v P h => by
  obtain ⟨t, rfl⟩ := rStr h
  have hlen : x.cps.size = (signs x).length := by simp [signs]
  have key : ∀ (i : Nat) (d : D) v, (signs x)[i]? = some d → SignAt x i v → ∀ h Y, Rep h Y d v := fun i d v hd hp h Y => by
    obtain ⟨ci, u, e, rfl⟩ := hp
    simp only [signs, List.getElem?_map, Array.getElem?_toList] at hd
    rw [e] at hd; simp at hd; subst hd
    simp only [Rep]; exact ⟨_, rfl⟩
  have one : ∀ (o : Obj) (vs : Array Value), o.data = .fields vs → ∀ b ∈ [s.heap.objs.size], b ∉ Y ∧ ∃ o', (s.heap.push o).get? b = some o' ∧ SeqO o' := fun o vs e b hb => by
    simp only [List.mem_cons, List.not_mem_nil, or_false] at hb
    subst hb
    refine ⟨P.live.fresh (Nat.le_refl _), o, Heap.get?_push_size _ ?_, .inr ⟨vs, e⟩⟩
    obtain ⟨c1, d1, dt, sl⟩ := o
    simp only at e; subst e; rfl
  cases ha : x.cps.all (· < 128)
  · exact wpAny_pyIter_wide ha ⟨_, _, SignAt x, _, rfl, fun A' hA => hlen ▸ Walks.strWide hA _ x t, Kp.push _, fresh_none, ⟨_, Heap.get?_push_size _ rfl, rfl, rfl⟩, one _ _ rfl, fun i h hst => let ⟨o, ho, hc, hd⟩ := hst; ⟨o, ho, .inr ⟨_, hd⟩⟩, fun i d v hd hp => key i d v hd hp _ _⟩
  · exact wpAny_pyIter_ascii ha ⟨_, _, SignAt x, _, rfl, fun A' hA => hlen ▸ Walks.strAscii hA _ x t, Kp.push _, fresh_none, ⟨_, Heap.get?_push_size _ rfl, rfl, rfl⟩, one _ _ rfl, fun i h hst => let ⟨o, ho, hc, hd⟩ := hst; ⟨o, ho, .inr ⟨_, hd⟩⟩, fun i d v hd hp => key i d v hd hp _ _⟩
theorem Iters.range {lo hi st : Int} {n : Nat} (hs : Builtin.Range.small lo hi st = true) (hn : Builtin.Range.rangeSize lo hi st = n) : Iters c (.range lo hi st) ((List.range n).map fun i => .int (lo + (i : Nat) * st)) := fun Y A s v P x => by
  simp only [Rep] at x
  obtain ⟨l, t, u, w, rfl, hY, hr⟩ := x
  refine wpAny_pyIter_range hr hs ⟨s.heap.objs.size, [s.heap.objs.size], _, _, rfl, fun A' hA => by rw [List.length_map, List.length_range]; exact Walks.range hA _ lo st n, Kp.push _, fresh_none, ?_, fun b hb => ?_, fun i h hst => ⟨_, hst, .inr ⟨_, rfl⟩⟩, fun i d v hd hp => ?_⟩
  · show IsRangeIter _ _ _ _ _
    have e : lo + ((0 : Nat) : Int) * st = lo := by simp
    rw [e, ← hn]
    have e2 : Builtin.Range.rangeSize lo hi st - ((0 : Nat) : Int) = Builtin.Range.rangeSize lo hi st := by simp
    rw [e2]
    exact Heap.get?_push_size _ rfl
  · simp only [List.mem_cons, List.not_mem_nil, or_false] at hb
    subst hb
    exact ⟨P.live.fresh (Nat.le_refl _), _, Heap.get?_push_size _ rfl, .inr ⟨_, rfl⟩⟩
  · obtain ⟨t, rfl⟩ := hp
    simp only [List.getElem?_map] at hd
    cases q : (List.range n)[i]? with
    | none => rw [q] at hd; cases hd
    | some j =>
      rw [q] at hd
      simp at hd; subst hd
      rw [List.getElem?_range (by by_cases h : i < n; exact h; rw [List.getElem?_eq_none (by simp; omega)] at q; cases q)] at q
      cases q
      simp only [Rep]; exact ⟨_, rfl⟩
end

theorem KpS.glueM {M M' : Addr → Prop} {s s' s'' : Shared} (k : KpS M s s') (k' : KpS M' s' s'') (h : ∀ b ob, s.heap.get? b = some ob → M' b → M b) : KpS M s s'' := by
  obtain ⟨h1, t, rfl, k⟩ := k
  obtain ⟨h2, t', rfl, k'⟩ := k'
  exact ⟨h2, t', rfl, fun b ob e n => k' b ob (k b ob e n) fun m => n (h b ob e m)⟩

/-- the owned list's address, as it goes on -/
def Rel (o : Option (String × List D)) (a : Addr) (s : Shared) (o' : Option (String × List D)) (a' : Addr) : Prop := o' ≠ none → (o ≠ none ∧ a' = a) ∨ s.heap.get? a' = none
theorem Rel.rfl' {o a s} : Rel o a s o a := fun h => .inl ⟨h, rfl⟩
theorem own_eq {o a b} (h : own o a = some b) : o ≠ none ∧ b = a := by
  cases o with
  | none => cases h
  | some p => exact ⟨by simp, by simpa [own] using h.symm⟩
theorem own_some {o : Option (String × List D)} {a} (h : o ≠ none) : own o a = some a := by
  cases o with
  | none => exact absurd rfl h
  | some p => rfl
theorem Rel.mu {env sc o a s o' a'} (R : Rel o a s o' a') {b : Addr} {ob : Obj} (e : s.heap.get? b = some ob) (m : Mu env sc (own o' a') b) : Mu env sc (own o a) b := by
  rcases m with m | m | m
  · exact .inl m
  · exact .inr (.inl m)
  · obtain ⟨h, rfl⟩ := own_eq m
    rcases R h with ⟨q, rfl⟩ | q
    · exact .inr (.inr (own_some q))
    · rw [q] at e; cases e
theorem Rel.trans {env : Env} {sc : Scope} {val : String → Option Value} {M : Addr → Prop} {o o' o'' a a' a''} {s s' : Shared} (R : Rel o a s o' a') (R' : Rel o' a' s' o'' a'') (k : KpS M s s') (X : EnvAt env sc s'.heap val)
    (hM : ∀ b, M b → Mu env sc (own o a) b ∨ ∃ ob, s'.heap.get? b = some ob) : Rel o a s o'' a'' := fun h => by
  rcases R' h with ⟨q, rfl⟩ | q
  · exact R q
  · cases e : s.heap.get? a'' with
    | none => exact .inr rfl
    | some ob =>
      left
      have hm : M a'' := Classical.byContradiction fun n => by rw [k.k _ _ e n] at q; cases q
      rcases hM _ hm with hm | ⟨ob', q'⟩
      · rcases hm with rfl | ⟨x, h1, h2⟩ | m
        · obtain ⟨m, ⟨oL, es, ep, eL, _⟩, _⟩ := X.loc
          rw [eL] at q; cases q
        · obtain ⟨ca, u, h3, ⟨oc, ec, _⟩, _⟩ := X.cel x (.inl h1)
          rw [h2] at h3; cases h3
          rw [ec] at q; cases q
        · obtain ⟨q, e⟩ := own_eq m
          exact ⟨q, e⟩
      · rw [q'] at q; cases q

section
variable {c : Cx} {env : Env} {sc : Scope} {Y : List Addr} {σ : String → Option D} {o : Option (String × List D)} {a : Addr} {val : String → Option Value} {s : Shared}

/-- what stood before an object came does not rest upon it -/
theorem StA.addI (X : StA c env sc Y σ o a val s) {s' : Shared} (k : Kp s s') {I : Addr} (hI : s.heap.get? I = none) (hI' : ∃ ob, s'.heap.get? I = some ob) : StA c env sc (I :: Y) σ o a val s' := by
  have X' := X.keeps k
  refine ⟨X'.base, X.mine, X'.env, fun b hb => ?_, ?_⟩
  · rcases List.mem_cons.mp hb with rfl | hb
    · exact hI'
    · exact X'.live b hb
  · have h := X.ok
    match o, h with
    | none, h => exact fun x d e => let ⟨v, a1, a2⟩ := h x d e; ⟨v, a1, a2.mono (fun b o e _ _ => k.k b o e) fun b o e q => by
        rcases List.mem_cons.mp q with rfl | q
        · rw [hI] at e; cases e
        · exact q⟩
    | some (x, ds), ⟨ha, hb, h1, h2, vs, h3, h4⟩ =>
      have swap : ∀ b o, s.heap.get? b = some o → b ∈ a :: I :: Y → b ∈ a :: Y := fun b o e q => by
        rcases List.mem_cons.mp q with rfl | q
        · exact .head _
        · rcases List.mem_cons.mp q with rfl | q
          · rw [hI] at e; cases e
          · exact .tail _ q
      obtain ⟨n, ho⟩ := h3
      refine ⟨fun q => ?_, hb, fun x d e => ?_, h2, vs, ⟨n, k.k _ _ ho⟩, h4.mono (fun b o e _ _ => k.k b o e) swap⟩
      · rcases List.mem_cons.mp q with rfl | q
        · rw [hI] at ho; cases ho
        · exact ha q
      · obtain ⟨v, a1, a2⟩ := h1 x d e
        exact ⟨v, a1, a2.mono (fun b o e _ _ => k.k b o e) swap⟩
/-- a step that changes an object that nothing rests upon -/
theorem StA.offI {I : Addr} (X : StA c env sc (I :: Y) σ o a val s) (hS : ∃ ob, s.heap.get? I = some ob ∧ SeqO ob) (hb : c.base.get? I = none) (hIY : I ∉ Y) {h' : Heap} {t : Nat}
    (k : ∀ b ob, b ≠ I → s.heap.get? b = some ob → h'.get? b = some ob) : StA c env sc Y σ o a val { s with heap := h', toks := t } ∧ ((∃ ob, h'.get? I = some ob) → StA c env sc (I :: Y) σ o a val { s with heap := h', toks := t }) := by
  obtain ⟨obI, eI, sI⟩ := hS
  have hbase : c.In h' := fun b ob e => k b ob (by rintro rfl; rw [hb] at e; cases e) (X.base b ob e)
  have henv : EnvAt env sc h' val := by
    refine ⟨X.env.scope, X.env.kind, X.env.glob, X.env.blt, ?_, fun n hn => ?_, X.env.inj, X.env.kinds⟩
    · obtain ⟨m, ⟨oL, es, ep, eL, r⟩, q⟩ := X.env.loc
      refine ⟨m, ⟨oL, es, ep, k _ _ ?_ eL, r⟩, q⟩
      rintro rfl
      exact X.env.loc_notSeq eI sI
    · obtain ⟨ca, u, a1, ⟨oc, ec, r⟩, a3⟩ := X.env.cel n hn
      refine ⟨ca, u, a1, ⟨oc, k _ _ ?_ ec, r⟩, a3⟩
      rintro rfl
      exact cell_notSeq ⟨oc, ec, r⟩ eI sI
  have gen : ∀ Y', (∀ b ∈ Y', b ∈ I :: Y) → Live h' Y' → StA c env sc Y' σ o a val { s with heap := h', toks := t } := fun Y' hy hl => by
    refine ⟨hbase, X.mine, henv, hl, ?_⟩
    have h := X.ok
    match o, h with
    | none, h => exact fun x d e => let ⟨v, a1, a2⟩ := h x d e; ⟨v, a1, a2.mono (fun b o e _ n => k b o (fun q => n (q ▸ .head _)) e) fun b o e q => hy b q⟩
    | some (x, ds), ⟨ha, hb', h1, h2, vs, ⟨n, ho⟩, h4⟩ =>
      have sub : ∀ b o, s.heap.get? b = some o → b ∈ a :: Y' → b ∈ a :: I :: Y := fun b o e q => by
        rcases List.mem_cons.mp q with rfl | q
        · exact .head _
        · exact .tail _ (hy b q)
      have keep : ∀ b ob, s.heap.get? b = some ob → SeqO ob → b ∉ a :: I :: Y → h'.get? b = some ob := fun b o e _ n => k b o (fun q => n (q ▸ .tail _ (.head _))) e
      exact ⟨fun q => ha (hy a q), hb', fun x d e => let ⟨v, a1, a2⟩ := h1 x d e; ⟨v, a1, a2.mono keep sub⟩, h2, vs, ⟨n, k _ _ (by rintro rfl; exact ha (.head _)) ho⟩, h4.mono keep sub⟩
  refine ⟨?_, fun hI' => gen _ (fun b hb => hb) fun b hb' => ?_⟩
  · exact gen Y (fun b hb => .tail _ hb) fun b hb' => let ⟨ob, e⟩ := X.live b (.tail _ hb'); ⟨ob, k b ob (by rintro rfl; exact hIY hb') e⟩
  · rcases List.mem_cons.mp hb' with rfl | hb'
    · exact hI'
    · obtain ⟨ob, e⟩ := X.live b (.tail _ hb')
      by_cases q : b = I
      · subst q; exact hI'
      · exact ⟨ob, k b ob q e⟩
end
end Mine

end
section
open PySem PySem.W PySem.Calls PyProof.Rows
set_option linter.unusedVariables false
namespace Mine
local macro_rules | `(tactic| omega) => `(tactic| lia)

/-- data without addresses -/
def atom : D → Bool
  | .none | .bool _ | .int _ | .str _ | .bytes _ | .raw _ => true
  | _ => false
theorem Rep.atom {h h' : Heap} {Y Y' : List Addr} {d v} (ha : Mine.atom d = true) (x : Rep h Y d v) : Rep h' Y' d v := by
  cases d <;> simp_all [Mine.atom, Rep]

/-- a name that this block may store -/
def Sto (sc : Scope) (x : String) : Prop := sc.names.lookup (Str.ofString x) = some .local ∨ sc.names.lookup (Str.ofString x) = some .cell
def Yo (o : Option (String × List D)) (a : Addr) (Y : List Addr) : List Addr := match o with | none => Y | some _ => a :: Y
def ownName : Option (String × List D) → Option String
  | none => none
  | some p => some p.1

section
variable {c : Cx} {r : Nat} {sc : Scope} {σ σ' σ₁ : String → Option D} {o o' o₁ : Option (String × List D)} {fl : Fl}

theorem StA.toks {env Y a val} {s : Shared} (X : StA c env sc Y σ o a val s) : StA c env sc Y σ o a val s := X

theorem KpS.keepStore {env : Env} {s s' : Shared} {val : String → Option Value} (k : KpS (Mu env sc none) s s') (X : EnvAt env sc s.heap val) : ∀ b o, s.heap.get? b = some o → SeqO o → s'.heap.get? b = some o :=
  fun b o e q => k.k b o e fun m => X.notSeq m e q
theorem inStore {env : Env} {s s' : Shared} (k : KpS (Mu env sc none) s s') (hb : c.In s.heap) (hm : ∀ b, Mu env sc none b → c.base.get? b = none) : c.In s'.heap := fun b o e =>
  k.k b o (hb b o e) fun m => by rw [hm b m] at e; cases e

/-- storing a datum under a name -/
theorem StA.store {env Y a val A x d v} {s : Shared} {Q : Unit → Shared → Prop} {E : Value → Shared → Prop} (X : StA c env sc Y σ o a val s) (hx : Sto sc x) (hox : ownName o ≠ some x)
    (hv : Rep s.heap (Yo o a Y) d v)
    (h : ∀ s', KpS (Mu env sc none) s s' → StA c env sc Y (upd σ x d) o a (upd val x v) s' → Q () s') : wpAny c.M A (storeName env (Str.ofString x) v) Q E s := by
  refine X.env.store (c := c) hx fun s' k e' => h s' k ⟨inStore k X.base X.mine, X.mine, e', fun b hb => ?_, ?_⟩
  · obtain ⟨ob, e⟩ := X.live b hb
    by_cases q : Mu env sc none b
    · rcases q with rfl | ⟨n, h1, h2⟩ | q
      · obtain ⟨m, ⟨oL, _, _, eL, _⟩, _⟩ := e'.loc; exact ⟨oL, eL⟩
      · obtain ⟨ca, u, h3, ⟨oc, ec, _⟩, _⟩ := e'.cel n (.inl h1); rw [h2] at h3; cases h3; exact ⟨oc, ec⟩
      · cases q
    · exact ⟨ob, k.k b ob e q⟩
  · have hk := k.keepStore X.env
    have h0 := X.ok
    match o, h0, hv, hox with
    | none, h0, hv, _ => exact ValOk.upd (fun y e hy => let ⟨w, a1, a2⟩ := h0 y e hy; ⟨w, a1, a2.mono (fun b o e q _ => hk b o e q) fun _ _ _ q => q⟩) (hv.mono (fun b o e q _ => hk b o e q) fun _ _ _ q => q)
    | some (y, ds), ⟨ha, hb', h1, h2, vs, ⟨n, ho⟩, h4⟩, hv, hox =>
      refine ⟨ha, hb', ValOk.upd (fun y e hy => let ⟨w, a1, a2⟩ := h1 y e hy; ⟨w, a1, a2.mono (fun b o e q _ => hk b o e q) fun _ _ _ q => q⟩) (hv.mono (fun b o e q _ => hk b o e q) fun _ _ _ q => q), ?_,
        vs, ⟨n, hk _ _ ho (.inl ⟨_, _, rfl⟩)⟩, h4.mono (fun b o e q _ => hk b o e q) fun _ _ _ q => q⟩
      have : y ≠ x := fun q => hox (by simp [ownName, q])
      simp [Mine.upd, this, h2]


theorem StA.at0 {env Y a val} {s : Shared} (X : StA c env sc Y σ o a val s) : At c env sc (Yo o a Y) σ val s := by
  cases o with
  | none => exact X.at
  | some p => exact X.at'

theorem ldName {env Y val A x d} {s : Shared} (X : At c env sc Y σ val s) (hx : σ x = some d) : wpAny c.M A (loadName env (Str.ofString x)) (Gives Y d s) noE s := by
  obtain ⟨v, hv, hr⟩ := X.ok x d hx
  have hk : env.scope.kind = .function := X.env.scope ▸ X.env.kind
  rcases X.env.kinds x v hv with q | q | ⟨q, qn⟩
  · obtain ⟨m, hm, hq⟩ := X.env.loc
    exact wpAny_loadName_local hk (by unfold Env.kindOf; rw [X.env.scope]; exact q) hm (hq x v hv q) ⟨Kp.rfl', hr⟩
  · obtain ⟨ca, u, h1, h2, h3⟩ := X.env.cel _ (.inl q)
    exact wpAny_loadName_cell hk (by unfold Env.kindOf; rw [X.env.scope]; exact q) h1 (h3 x v rfl hv ▸ h2) ⟨Kp.rfl', hr⟩
  · obtain ⟨ca, u, h1, h2, h3⟩ := X.env.cel _ (.inr q)
    exact wpAny_loadName_free hk (by unfold Env.kindOf; rw [X.env.scope]; exact q) h1 (h3 x v rfl hv ▸ h2) ⟨Kp.rfl', hr⟩ qn

theorem mu0 {env : Env} {ow : Option Addr} {b : Addr} (h : Mu env sc none b) : Mu env sc ow b := by
  rcases h with h | h | h
  · exact .inl h
  · exact .inr (.inl h)
  · cases h

theorem Ex1.assign {x : String} {p pos : Pos} {e : Expr} {d : D} (h : Ev c r sc σ e d) (hx : Sto sc x) (hox : ownName o ≠ some x)
    (hs : ∀ env, swapsWith e (some (.Name (Str.ofString x) p)) pos.line env = pure false := by intros; rfl) : Ex1 c r sc σ o (.Assign [.Name (Str.ofString x) p] e pos) .next (upd σ x d) o := ⟨fun env Y a val A s R X => by
  refine wpAny_Assign_Name (weak (h.go env _ val A s R X.at0) fun v s₁ g => ?_) (hs env)
  exact StA.store (X.keeps g.1) hx hox g.2 fun s' k X' => ⟨(g.1.s (M := Mu env sc (own o a))).trans (k.mono fun b m => mu0 m), rfl, fun _ => ⟨a, _, Rel.rfl', X'⟩⟩⟩
theorem Ex1.assignA {x : String} {p pos : Pos} {e : Expr} {d : D} (h : Ev c r sc (full σ o) e d) (ha : atom d = true) (hx : Sto sc x) (hox : ownName o ≠ some x)
    (hs : ∀ env, swapsWith e (some (.Name (Str.ofString x) p)) pos.line env = pure false := by intros; rfl) : Ex1 c r sc σ o (.Assign [.Name (Str.ofString x) p] e pos) .next (upd σ x d) o := ⟨fun env Y a val A s R X => by
  refine wpAny_Assign_Name (weak (h.go env _ val A s R X.at) fun v s₁ g => ?_) (hs env)
  exact StA.store (X.keeps g.1) hx hox (g.2.atom ha) fun s' k X' => ⟨(g.1.s (M := Mu env sc (own o a))).trans (k.mono fun b m => mu0 m), rfl, fun _ => ⟨a, _, Rel.rfl', X'⟩⟩⟩

/-- a list of the block's own, made just now -/
structure EvF (c : Cx) (r : Nat) (sc : Scope) (σ : String → Option D) (e : Expr) (ds : List D) : Prop where
  go : ∀ env Y val A s, Room A r → At c env sc Y σ val s → wpAny c.M A (eval e env) (fun v s' => Kp s s' ∧ ∃ a vs, v = .ref a ∧ s.heap.get? a = none ∧ s'.heap.PlainList a vs ∧ RepL s'.heap (a :: Y) ds vs.toList) noE s
theorem Ex1.assignOwn {x : String} {p pos : Pos} {e : Expr} {ds : List D} (h : EvF c r sc σ e ds) (hx : Sto sc x) (hox : σ x = none)
    (hs : ∀ env, swapsWith e (some (.Name (Str.ofString x) p)) pos.line env = pure false := by intros; rfl) : Ex1 c r sc σ none (.Assign [.Name (Str.ofString x) p] e pos) .next σ (some (x, ds)) := ⟨fun env Y a val A s R X => by
  refine wpAny_Assign_Name (weak (h.go env Y val A s R X.at) fun v s₁ ⟨k₁, a', vs, e, hn, hl, hv⟩ => ?_) (hs env)
  subst e
  have X₁ := X.keeps k₁
  refine X₁.env.store (c := c) hx fun s' k e' => ⟨(k₁.s (M := Mu env sc (own none a))).trans (k.mono fun b m => mu0 m), rfl, fun _ => ⟨a', upd val x (.ref a'), fun _ => .inr hn, ?_⟩⟩
  have hk := k.keepStore X₁.env
  obtain ⟨n, ho⟩ := hl
  refine ⟨inStore k X₁.base X₁.mine, X₁.mine, e', fun b hb => ?_, ?_, ?_, ?_, by simp [Mine.upd], vs, ⟨n, hk _ _ ho (.inl ⟨_, _, rfl⟩)⟩, hv.mono (fun b o e q _ => hk b o e q) fun _ _ _ q => q⟩
  · obtain ⟨ob, e⟩ := X₁.live b hb
    by_cases q : Mu env sc none b
    · rcases q with rfl | ⟨n, h1, h2⟩ | q
      · obtain ⟨m, ⟨oL, _, _, eL, _⟩, _⟩ := e'.loc; exact ⟨oL, eL⟩
      · obtain ⟨ca, u, h3, ⟨oc, ec, _⟩, _⟩ := e'.cel n (.inl h1); rw [h2] at h3; cases h3; exact ⟨oc, ec⟩
      · cases q
    · exact ⟨ob, k.k b ob e q⟩
  · exact fun q => by obtain ⟨o', e''⟩ := X.live _ q; rw [hn] at e''; cases e''
  · cases e'' : c.base.get? a' with
    | none => rfl
    | some o' => rw [X.base _ _ e''] at hn; cases hn
  · refine ValOk.updV (fun y d hy => ?_) hox
    obtain ⟨w, a1, a2⟩ := X.ok y d hy
    exact ⟨w, a1, a2.mono (fun b o e q _ => hk b o (k₁.k b o e) q) fun b o e q => by
      rcases List.mem_cons.mp q with rfl | q
      · rw [hn] at e; cases e
      · exact q⟩⟩
theorem EvF.nil {pos} : EvF c r sc σ (.List [] pos) [] := ⟨fun env Y val A s R X => by
  refine List_ (wpAny_pure ?_)
  refine wpAny_newList ⟨Kp.push _, _, #[], rfl, fresh_none, ⟨0, Heap.get?_push_size _ rfl⟩, by simp [RepL]⟩ (by decide)⟩

theorem StA.freeze {env Y a val x ds} {s : Shared} (X : StA c env sc Y σ (some (x, ds)) a val s) : StA c env sc Y (upd σ x (.list ds)) none a val s := ⟨X.base, X.mine, X.env, X.live, X.at.ok⟩
theorem ExB.freeze {t x ds} (h : ExB c r sc (upd σ x (.list ds)) none t fl σ' o') : ExB c r sc σ (some (x, ds)) t fl σ' o' := ⟨fun env Y a val A s R X =>
  weak (h.go env Y a val A s R X.freeze) fun f s' P => ⟨P.kp.mono fun b m => mu0 m, P.flow, fun hn => by
    obtain ⟨a', val', h1, h2⟩ := P.st hn
    exact ⟨a', val', fun q => .inr ((h1 q).resolve_left fun z => z.1 rfl), h2⟩⟩⟩

theorem Ex1.aug {x : String} {p pos : Pos} {op : Operator} {e : Expr} {d₀ d₁ d : D} (hr : 20 ≤ r) (h₀ : σ x = some d₀) (h : Ev c r sc σ e d₁) (hop : Iop c op d₀ d₁ d) (hx : Sto sc x) (hox : ownName o ≠ some x) :
    Ex1 c r sc σ o (.AugAssign (.Name (Str.ofString x) p) op e pos) .next (upd σ x d) o := ⟨fun env Y a val A s R X => by
  refine wpAny_AugAssign_Name (weak (ldName X.at0 h₀) fun v₀ s₁ g₁ => weak (h.go env _ val A s₁ R (X.at0.keeps g₁.1)) fun v₁ s₂ g₂ =>
    weak (hop _ A s₂ v₀ v₁ (((X.at0.keeps g₁.1).keeps g₂.1).pre (R.le hr)) (g₁.2.keeps g₂.1.k) g₂.2) fun v s₃ g₃ => ?_)
  have k : Kp s s₃ := (g₁.1.trans g₂.1).trans g₃.1
  exact StA.store (X.keeps k) hx hox g₃.2 fun s' k' X' => ⟨(k.s (M := Mu env sc (own o a))).trans (k'.mono fun b m => mu0 m), rfl, fun _ => ⟨a, _, Rel.rfl', X'⟩⟩⟩

theorem Post.back {env Y a s s' s'' f val} (k : Kp s s') (P : Post c env sc Y o a s' fl σ' o' f s'') (X : StA c env sc Y σ o a val s) : Post c env sc Y o a s fl σ' o' f s'' :=
  ⟨(k.s).trans P.kp, P.flow, fun hn => by
    obtain ⟨a', val', h1, h2⟩ := P.st hn
    refine ⟨a', val', fun q => (h1 q).imp id fun z => ?_, h2⟩
    cases e : s.heap.get? a' with
    | none => rfl
    | some ob => rw [k.k _ _ e] at z; cases z⟩
theorem Ex1.ifT {t : Expr} {b e : List Stmt} {pos : Pos} (h : Tr c r sc (full σ o) t true) (h₁ : Ex c r sc σ o b fl σ' o') : Ex1 c r sc σ o (.If t b e pos) fl σ' o' := ⟨fun env Y a val A s R X =>
  wpAny_If (weak (h.go env Y val A s R X.at) fun b' s₁ ⟨e, k⟩ => by subst e; exact weak (h₁.go env Y a val A s₁ R (X.keeps k)) fun f s₂ P => P.back k X)⟩
theorem Ex1.ifF {t : Expr} {b e : List Stmt} {pos : Pos} (h : Tr c r sc (full σ o) t false) (h₁ : Ex c r sc σ o e fl σ' o') : Ex1 c r sc σ o (.If t b e pos) fl σ' o' := ⟨fun env Y a val A s R X =>
  wpAny_If (weak (h.go env Y val A s R X.at) fun b' s₁ ⟨e, k⟩ => by subst e; exact weak (h₁.go env Y a val A s₁ R (X.keeps k)) fun f s₂ P => P.back k X)⟩
theorem Ex1.ret {e : Expr} {pos : Pos} {d : D} (h : Ev c r sc (full σ o) e d) : Ex1 c r sc σ o (.Return (some e) pos) (.ret d) σ' o' := ⟨fun env Y a val A s R X =>
  wpAny_Return_some (weak (h.go env Y val A s R X.at) fun v s₁ g => ⟨g.1.s, ⟨v, rfl, g.2⟩, fun q => by cases q⟩)⟩
theorem Ex1.brk {pos : Pos} : Ex1 c r sc σ o (.Break pos) .brk σ o := ⟨fun env Y a val A s R X => wpAny_Break ⟨Kp.rfl'.s, rfl, fun _ => ⟨a, val, Rel.rfl', X⟩⟩⟩

/-- the turns of a while -/
inductive WhR (c : Cx) (r : Nat) (sc : Scope) (t : Expr) (b : List Stmt) : Nat → (String → Option D) → Option (String × List D) → Fl → (String → Option D) → Option (String × List D) → Prop
  | stop {n σ o} : Tr c r sc (full σ o) t false → WhR c r sc t b n σ o .next σ o
  | turn {n σ o σ₁ o₁ fl σ' o'} : Tr c r sc (full σ o) t true → Ex c r sc σ o b .next σ₁ o₁ → WhR c r sc t b n σ₁ o₁ fl σ' o' → WhR c r sc t b (n + 1) σ o fl σ' o'
theorem Ex1.while {t : Expr} {b : List Stmt} {pos : Pos} {n : Nat} (h : WhR c r sc t b n σ o fl σ' o') : Ex1 c r sc σ o (.While t b [] pos) fl σ' o' := ⟨fun env Y a val A s R X => by
  refine wpAny_While ?_
  refine codeAny_whileLoop (fun n s' => ∃ σ₁ o₁ a₁ val₁, WhR c r sc t b n σ₁ o₁ fl σ' o' ∧ KpS (Mu env sc (own o a)) s s' ∧ Rel o a s o₁ a₁ ∧ StA c env sc Y σ₁ o₁ a₁ val₁ s') ?_ n ⟨σ, o, a, val, h, Kp.rfl'.s, Rel.rfl', X⟩
  rintro n s' ⟨σ₁, o₁, a₁, val₁, hw, k, rel, X₁⟩
  cases hw with
  | stop ht =>
    refine weak (ht.go env Y val₁ A s' R X₁.at) fun b' s₂ ⟨e, k₂⟩ => ?_
    subst e
    exact wpAny_execs_nil ⟨k.trans k₂.s, rfl, fun _ => ⟨a₁, val₁, rel, X₁.keeps k₂⟩⟩
  | turn ht hb hw =>
    refine weak (ht.go env Y val₁ A s' R X₁.at) fun b' s₂ ⟨e, k₂⟩ => ?_
    subst e
    have X₂ := X₁.keeps k₂
    have k' : KpS (Mu env sc (own o a)) s s₂ := k.trans k₂.s
    refine weak (hb.go env Y a₁ val₁ A s₂ R X₂) fun f s₃ P => ?_
    have e : f = .next := P.flow
    subst e
    obtain ⟨a₃, val₃, rel₃, X₃⟩ := P.st rfl
    have hM : ∀ b, Mu env sc (own o a) b → Mu env sc (own o a) b ∨ ∃ ob, s₂.heap.get? b = some ob := fun b m => .inl m
    exact ⟨_, Nat.lt_succ_self _, _, _, a₃, val₃, hw, k'.glueM P.kp (fun b ob e m => rel.mu e m), rel.trans rel₃ k' X₂.env hM, X₃⟩⟩

/-- the turns of a for; how it ends: all taken (.next), left (.brk), or with a value -/
inductive ForR (c : Cx) (r : Nat) (sc : Scope) (x : String) (b : List Stmt) : List D → (String → Option D) → Option (String × List D) → Fl → (String → Option D) → Option (String × List D) → Prop
  | nil {σ : String → Option D} {o : Option (String × List D)} : ForR c r sc x b [] σ o .next σ o
  | turn {d : D} {ds : List D} {σ σ₁ σ' : String → Option D} {o o₁ o' : Option (String × List D)} {fl : Fl} : ownName o ≠ some x → Ex c r sc (upd σ x d) o b .next σ₁ o₁ → ForR c r sc x b ds σ₁ o₁ fl σ' o' → ForR c r sc x b (d :: ds) σ o fl σ' o'
  | brk {d : D} {ds : List D} {σ σ₁ : String → Option D} {o o₁ : Option (String × List D)} : ownName o ≠ some x → Ex c r sc (upd σ x d) o b .brk σ₁ o₁ → ForR c r sc x b (d :: ds) σ o .brk σ₁ o₁
  | ret {d e : D} {ds : List D} {σ σ₁ : String → Option D} {o o₁ : Option (String × List D)} : ownName o ≠ some x → Ex c r sc (upd σ x d) o b (.ret e) σ₁ o₁ → ForR c r sc x b (d :: ds) σ o (.ret e) σ₁ o₁

def AfterFor (c : Cx) (r : Nat) (sc : Scope) (els : List Stmt) (σ₁ : String → Option D) (o₁ : Option (String × List D)) (fl : Fl) (σ' : String → Option D) (o' : Option (String × List D)) : Fl → Prop
  | .next => Ex c r sc σ₁ o₁ els fl σ' o'
  | .brk => fl = .next ∧ σ' = σ₁ ∧ o' = o₁
  | .cont => False
  | .ret d => fl = .ret d

theorem Ex1.for {x : String} {p pos : Pos} {it : Expr} {b els : List Stmt} {ds : List D} {fl₁ : Fl} (hi : EvI c r sc σ it ds) (hx : Sto sc x) (h : ForR c r sc x b ds σ o fl₁ σ₁ o₁)
    (he : AfterFor c r sc els σ₁ o₁ fl σ' o' fl₁)
    (hs : ∀ env v, foldedSetIterable it env v = pure v := by intros; rfl) (ht : ∀ I v, letOwnedTupleGo (.Name (Str.ofString x) p) (.ref I) v = pure () := by intros; rfl) :
    Ex1 c r sc σ o (.For (.Name (Str.ofString x) p) it b els pos) fl σ' o' := ⟨fun env Y a val A s R X => by
  refine wpAny_For (weak (hi.go env _ val A s R X.at0) fun v s₁ h₁ => weak h₁ fun itv s₂ hp => ?_) (hs env)
  obtain ⟨I, fp, P, St, rfl, hW, k₂, hI, hst, hfp, hlive, hrep⟩ := hp
  have hIn : ∃ ob, s₂.heap.get? I = some ob := let ⟨ob, e, _⟩ := hlive 0 _ hst; ⟨ob, e⟩
  have hIb : c.base.get? I = none := by
    cases e : c.base.get? I with
    | none => rfl
    | some ob => rw [X.base _ _ e] at hI; cases hI
  have hIY : I ∉ Y := fun q => by obtain ⟨ob, e⟩ := X.live _ q; rw [hI] at e; cases e
  have hYo : ∀ b, b ∈ Y → b ∈ Yo o a Y := fun b q => by cases o <;> simp [Yo, q]
  have W := hW A R.1
  have X₂ : EnvAt env sc s₂.heap val := X.env.keeps k₂.k
  let M : Addr → Prop := fun b => Mu env sc (own o a) b ∨ b = I
  have notM : ∀ b ob, s₂.heap.get? b = some ob → SeqO ob → b ∉ I :: Yo o a Y → ¬ M b := fun b ob e q n m => by
    rcases m with m | m
    · rcases m with m | m | m
      · exact X₂.notSeq (.inl m) e q
      · exact X₂.notSeq (.inr (.inl m)) e q
      · obtain ⟨ho, rfl⟩ := own_eq m
        apply n
        cases o with
        | none => exact absurd rfl ho
        | some p => simp [Yo]
    · exact n (m ▸ .head _)
  -- what the iterator rests upon stays
  have fpk : ∀ s', KpS M s₂ s' → ∀ b ∈ fp, b ≠ I → ∃ ob, s₂.heap.get? b = some ob ∧ SeqO ob ∧ s'.heap.get? b = some ob := fun s' k b hb hne => by
    obtain ⟨hn, ob, e, q⟩ := hfp b hb
    exact ⟨ob, e, q, k.k b ob e (notM b ob e q fun z => by rcases List.mem_cons.mp z with z | z; exact hne z; exact hn z)⟩
  let Inv : Nat → Shared → Prop := fun n s' => ∃ i σi oi ai vali, n = ds.length - i ∧ i ≤ ds.length ∧ ForR c r sc x b (ds.drop i) σi oi fl₁ σ₁ o₁ ∧ KpS M s₂ s' ∧ Rel o a s₂ oi ai ∧ StA c env sc (I :: Y) σi oi ai vali s' ∧ St i s'.heap
  have fin : ∀ s', KpS M s₂ s' → KpS (Mu env sc (own o a)) s s' := fun s' k => by
    obtain ⟨h2, t2, rfl, k2⟩ := k₂
    obtain ⟨h3, t3, rfl, k3⟩ := k
    exact ⟨h3, t3, rfl, fun b ob e n => k3 b ob (k2 b ob e) fun m => m.elim n fun q => by subst q; rw [hI] at e; cases e⟩
  have relS : ∀ {o' a'}, Rel o a s₂ o' a' → Rel o a s o' a' := fun q z => (q z).imp id fun w => by
    cases e : s.heap.get? _ with
    | none => rfl
    | some ob => rw [k₂.k _ _ e] at w; cases w
  refine codeAny_forLoop_any Inv ?_ ds.length ⟨0, σ, o, a, val, by simp, Nat.zero_le _, by simpa using h, Kp.rfl'.s, Rel.rfl', X.addI k₂ hI hIn, hst⟩
  rintro n s' ⟨i, σi, oi, ai, vali, rfl, hile, hF, kM, rel, Xi, hSt⟩
  have hS : ∃ ob, s'.heap.get? I = some ob ∧ SeqO ob := hlive i _ hSt
  by_cases hi' : i < ds.length
  · refine W.item i s' _ _ hi' hSt fun v h' tk hP hSt' hk => ?_
    have hd : ds[i]? = some ds[i] := List.getElem?_eq_getElem hi'
    have hdrop : ds.drop i = ds[i] :: ds.drop (i + 1) := List.drop_eq_getElem_cons hi'
    have hk' : ∀ b ob, b ≠ I → s'.heap.get? b = some ob → h'.get? b = some ob := fun b ob n e => hk b ob (by simpa using n) e
    obtain ⟨_, X2⟩ := Xi.offI hS hIb hIY (h' := h') (t := tk) hk'
    have X2 := X2 (let ⟨ob, e, _⟩ := hlive (i + 1) _ hSt'; ⟨ob, e⟩)
    have kM2 : KpS M s₂ { s' with heap := h', toks := tk } := by
      obtain ⟨h3, t3, rfl, k3⟩ := kM
      exact ⟨h', tk, rfl, fun b ob e n => hk' b ob (fun q => n (.inr q)) (k3 b ob e n)⟩
    dsimp only
    refine wpAny_of_eq (ht I v) ?_
    have hv : Rep h' (Yo oi ai (I :: Y)) ds[i] v := by
      refine (hrep i _ v hd hP).mono (fun b ob e q n => kM2.k b ob e (notM b ob e q n)) fun b ob e q => ?_
      have q' : b = ai ∧ oi ≠ none ∨ b ∈ I :: Y := by
        cases oi with
        | none => exact .inr q
        | some p => rcases List.mem_cons.mp q with q | q; exact .inl ⟨q, by simp⟩; exact .inr q
      rcases q' with ⟨rfl, qo⟩ | q
      · rcases rel qo with ⟨q1, rfl⟩ | q1
        · cases o with
          | none => exact absurd rfl q1
          | some p => simp [Yo]
        · rw [q1] at e; cases e
      · rcases List.mem_cons.mp q with rfl | q
        · exact .head _
        · exact .tail _ (hYo b q)
    -- one turn, whatever its end
    have turn : ∀ {fl' σn on} (hox : ownName oi ≠ some x) (hb : Ex c r sc (upd σi x ds[i]) oi b fl' σn on) (Q : Flow → Shared → Prop) (E : Value → Shared → Prop),
        (∀ f s₃, FlowR s₃.heap (I :: Y) fl' f → KpS M s₂ s₃ → (isRet fl' = false → ∃ an valn, Rel o a s₂ on an ∧ StA c env sc (I :: Y) σn on an valn s₃ ∧ St (i + 1) s₃.heap) → Q f s₃) →
        wpAny c.M A (PySem.assign (.Name (Str.ofString x) p) env v) (fun _ s₄ => wpAny c.M A (execs b env) Q E s₄) E { s' with heap := h', toks := tk } := fun hox hb Q E hQ => by
      refine wpAny_assign_Name (StA.store X2 hx hox hv fun s₄ k₄ X₄ => ?_)
      have kM4 : KpS M s₂ s₄ := kM2.glueM k₄ fun b ob e m => .inl (mu0 m)
      have keepI4 : ∀ ob, h'.get? I = some ob → s₄.heap.get? I = some ob := fun ob e => by
        obtain ⟨ob', e', q⟩ := hlive (i + 1) _ hSt'
        rw [e'] at e; cases e
        exact k₄.k I _ e' fun m => X2.env.notSeq m e' q
      have hSt4 : St (i + 1) s₄.heap := W.frame _ _ _ hSt' fun b hb' ob e => by
        by_cases hbI : b = I
        · subst hbI; exact keepI4 ob e
        · obtain ⟨ob1, e1, q1, e2⟩ := fpk _ kM2 b hb' hbI
          obtain ⟨ob2, e3, q3, e4⟩ := fpk _ kM4 b hb' hbI
          rw [e1] at e3; cases e3
          rw [e2] at e; cases e
          exact e4
      refine weak (hb.go env (I :: Y) ai _ A s₄ R X₄) fun f s₅ P => ?_
      have kM5 : KpS M s₂ s₅ := kM4.glueM P.kp fun b ob e m => .inl (rel.mu e m)
      refine hQ f s₅ P.flow kM5 fun hn => ?_
      obtain ⟨an, valn, reln, Xn⟩ := P.st hn
      refine ⟨an, valn, rel.trans reln kM4 X₄.env (fun b m => m.imp id fun q => ?_), Xn, W.frame _ _ _ hSt4 fun b hb' ob e => ?_⟩
      · subst q; obtain ⟨ob, e, _⟩ := hlive _ _ hSt4; exact ⟨ob, e⟩
      · by_cases hbI : b = I
        · subst hbI
          obtain ⟨ob', e', q⟩ := hlive (i + 1) _ hSt4
          rw [e'] at e; cases e
          refine P.kp.k _ _ e' fun m => ?_
          rcases m with m | m | m
          · exact X₄.env.notSeq (.inl m) e' q
          · exact X₄.env.notSeq (.inr (.inl m)) e' q
          · obtain ⟨ho, rfl⟩ := own_eq m
            have hok := X₄.ok
            cases oi with
            | none => exact ho rfl
            | some p => exact hok.1 (.head _)
        · obtain ⟨ob1, e1, q1, e2⟩ := fpk _ kM4 b hb' hbI
          obtain ⟨ob2, e3, q3, e4⟩ := fpk _ kM5 b hb' hbI
          rw [e1] at e3; cases e3
          rw [e2] at e; cases e
          exact e4
    have back : ∀ {h3 : Heap} {d v}, Rep h3 (I :: Y) d v → Rep h3 Y d v := fun w => w.mono (fun _ _ e _ _ => e) fun _ _ _ q => .tail _ q
    rw [hdrop] at hF
    cases hF with
    | turn hox hb hF =>
      refine turn hox hb _ _ fun f s₃ hf k₃ hst₃ => ?_
      have e : f = .next := hf
      subst e
      obtain ⟨an, valn, reln, Xn, hStn⟩ := hst₃ rfl
      exact ⟨ds.length - (i + 1), by omega, i + 1, _, _, an, valn, rfl, hi', hF, k₃, reln, Xn, hStn⟩
    | brk hox hb =>
      refine turn hox hb _ _ fun f s₃ hf k₃ hst₃ => ?_
      have e : f = .brk := hf
      subst e
      obtain ⟨an, valn, reln, Xn, hStn⟩ := hst₃ rfl
      obtain ⟨rfl, rfl, rfl⟩ := he
      have := (Xn.offI (let ⟨ob, e, q⟩ := hlive _ _ hStn; ⟨ob, e, q⟩) hIb hIY (h' := s₃.heap) (t := s₃.toks) fun _ _ _ e => e).1
      exact ⟨fin _ k₃, rfl, fun _ => ⟨an, valn, relS reln, this⟩⟩
    | ret hox hb =>
      refine turn hox hb _ _ fun f s₃ hf k₃ hst₃ => ?_
      obtain ⟨w, e, hw⟩ := hf
      subst e
      have e : fl = .ret _ := he
      subst e
      exact ⟨fin _ k₃, ⟨w, rfl, back hw⟩, fun q => by cases q⟩
  · have e : i = ds.length := by omega
    subst e
    rw [List.drop_length] at hF
    cases hF
    refine W.done s' _ _ hSt fun h' tk hk => ?_
    have hk' : ∀ b ob, b ≠ I → s'.heap.get? b = some ob → h'.get? b = some ob := fun b ob n e => hk b ob (by simpa using n) e
    have X2 := (Xi.offI hS hIb hIY (h' := h') (t := tk) hk').1
    have kM2 : KpS M s₂ { s' with heap := h', toks := tk } := by
      obtain ⟨h3, t3, rfl, k3⟩ := kM
      exact ⟨h', tk, rfl, fun b ob e n => hk' b ob (fun q => n (.inr q)) (k3 b ob e n)⟩
    refine weak (he.go env Y ai vali A _ R X2) fun f s₃ P => ⟨?_, P.flow, fun hn => ?_⟩
    · exact (fin _ kM2).glueM P.kp fun b ob e m => (relS rel).mu e m
    · obtain ⟨an, valn, reln, Xn⟩ := P.st hn
      exact ⟨an, valn, (relS rel).trans reln (fin _ kM2) X2.env fun b m => .inl m, Xn⟩⟩
end
end Mine

end
section
open PySem PySem.W PySem.Calls PyProof.Rows
set_option linter.unusedVariables false
namespace Mine
local macro_rules | `(tactic| omega) => `(tactic| lia)

/-- the names of a comprehension's block, as it sees them -/
def relS (scope sc : Scope) : Scope :=
  { scope with names := scope.names.map fun (n, k) => if (k == .free && sc.kind == .function && sc.names.lookup n == some .cell) then (n, .cell) else (n, k) }
theorem relabel_eq {scope : Scope} {env : Env} : relabel scope env = relS scope env.scope := rfl
def rk (sc : Scope) (n : Str) (k : NameKind) : NameKind := if (k == .free && sc.kind == .function && sc.names.lookup n == some .cell) then .cell else k
theorem lookup_rel {sc : Scope} : ∀ {names : List (Str × NameKind)} {n : Str},
    (names.map fun (n, k) => if (k == NameKind.free && sc.kind == .function && sc.names.lookup n == some .cell) then (n, NameKind.cell) else (n, k)).lookup n = (names.lookup n).map (rk sc n)
  | [], _ => rfl
  | (m, k) :: r, n => by
    have ih := @lookup_rel sc r n
    have e : (if (k == NameKind.free && sc.kind == .function && sc.names.lookup m == some .cell) = true then (m, NameKind.cell) else (m, k)) = (m, rk sc m k) := by unfold rk; split <;> rfl
    simp only [List.map_cons]
    rw [e, List.lookup_cons, List.lookup_cons, ih]
    cases h : n == m with
    | true => rw [beq_iff_eq.mp h]; rfl
    | false => rfl

theorem cf_app : ∀ (names : List (Str × NameKind)) (n : Nat) (acc : List (Str × Addr)), cellsFrom n names acc = cellsFrom n names [] ++ acc
  | [], _, _ => rfl
  | (m, k) :: r, n, acc => by
    unfold cellsFrom
    split
    · rw [cf_app r (n + 1) ((m, n) :: acc), cf_app r (n + 1) [(m, n)]]; simp
    · exact cf_app r n acc
theorem cf_names : ∀ (names : List (Str × NameKind)) (n : Nat) (m : Str) (c : Addr), (m, c) ∈ cellsFrom n names [] → (m, NameKind.cell) ∈ names
  | [], _, _, _, h => by simp [cellsFrom] at h
  | (x, k) :: r, n, m, c, h => by
    unfold cellsFrom at h
    split at h
    · rename_i hk
      rw [cf_app, List.mem_append] at h
      rcases h with h | h
      · exact .tail _ (cf_names r _ m c h)
      · simp at h; obtain ⟨rfl, rfl⟩ := h; have : k = .cell := by simpa using hk
        subst this; exact .head _
    · exact .tail _ (cf_names r _ m c h)
theorem cf_has : ∀ (names : List (Str × NameKind)) (n : Nat) (m : Str), (m, NameKind.cell) ∈ names → ∃ c, (m, c) ∈ cellsFrom n names []
  | (x, k) :: r, n, m, h => by
    unfold cellsFrom
    rcases List.mem_cons.mp h with e | h
    · cases e; simp only [beq_self_eq_true, if_true]; rw [cf_app]; exact ⟨n, List.mem_append_right _ (.head _)⟩
    · split
      · rw [cf_app]; obtain ⟨c, hc⟩ := cf_has r (n + 1) m h; exact ⟨c, List.mem_append_left _ hc⟩
      · exact cf_has r n m h
theorem lookup_some_of_mem {α : Type} : ∀ {l : List (Str × α)} {n : Str} {c : α}, (n, c) ∈ l → ∃ c', l.lookup n = some c'
  | (m, d) :: r, n, c, h => by
    rw [List.lookup_cons]
    cases e : n == m with
    | true => exact ⟨d, rfl⟩
    | false =>
      rcases List.mem_cons.mp h with q | q
      · cases q; simp at e
      · exact lookup_some_of_mem q

/-- the cells that a comprehension's block takes from the one around it -/
theorem closure_ok {scope : Scope} {env : Env} (h : ∀ n, (n, NameKind.free) ∈ scope.names → ∃ c, env.cells.lookup n = some c) :
    ∃ cl, closureFor scope env = pure cl ∧ (∀ n, (n, NameKind.free) ∈ scope.names → cl.lookup n = env.cells.lookup n) ∧ ∀ n c, cl.lookup n = some c → (n, NameKind.free) ∈ scope.names ∧ env.cells.lookup n = some c := by
  have gen : ∀ (names : List (Str × NameKind)) (acc : List (Str × Addr)), (∀ n, (n, NameKind.free) ∈ names → (n, NameKind.free) ∈ scope.names ∧ ∃ c, env.cells.lookup n = some c) → (∀ n c, acc.lookup n = some c → (n, NameKind.free) ∈ scope.names ∧ env.cells.lookup n = some c) →
      ∃ cl, (forIn names acc fun (x : Str × NameKind) (cs : List (Str × Addr)) => (if (x.2 == NameKind.free) = true then do let a ← cellOf env x.1; pure (ForInStep.yield ((x.1, a) :: cs)) else pure (ForInStep.yield cs) : Sem _)) = pure cl ∧
        (∀ n, (n, NameKind.free) ∈ names ∨ (∃ c, acc.lookup n = some c) → cl.lookup n = env.cells.lookup n) ∧ ∀ n c, cl.lookup n = some c → (n, NameKind.free) ∈ scope.names ∧ env.cells.lookup n = some c := by
    intro names
    induction names with
    | nil => exact fun acc _ ha => ⟨acc, rfl, fun n hn => by rcases hn with hn | ⟨c, hc⟩; cases hn; rw [hc, (ha n c hc).2], ha⟩
    | cons p r ih =>
      intro acc hf ha
      obtain ⟨n, k⟩ := p
      have hr : ∀ m, (m, NameKind.free) ∈ r → (m, NameKind.free) ∈ scope.names ∧ ∃ c, env.cells.lookup m = some c := fun m hm => hf m (.tail _ hm)
      rw [List.forIn_cons]
      by_cases hk : (k == NameKind.free) = true
      · have hk' : k = .free := by simpa using hk
        subst hk'
        obtain ⟨hnm, c, hc⟩ := hf n (.head _)
        have e : cellOf env n = pure c := by unfold cellOf; rw [hc]
        simp only [beq_self_eq_true, if_true, e]
        have ha' : ∀ m c', ((n, c) :: acc).lookup m = some c' → (m, NameKind.free) ∈ scope.names ∧ env.cells.lookup m = some c' := fun m c' q => by
          rw [List.lookup_cons] at q
          cases hb : m == n with
          | true => rw [hb] at q; cases q; rw [beq_iff_eq.mp hb]; exact ⟨hnm, hc⟩
          | false => rw [hb] at q; exact ha m c' q
        obtain ⟨cl, h1, h2, h3⟩ := ih ((n, c) :: acc) hr ha'
        refine ⟨cl, h1, fun m hm => h2 m ?_, h3⟩
        rcases hm with hm | ⟨c', hm⟩
        · rcases List.mem_cons.mp hm with q | q
          · cases q; exact .inr ⟨c, by simp [List.lookup_cons]⟩
          · exact .inl q
        · refine .inr ?_
          rw [List.lookup_cons]
          cases hb : m == n with
          | true => exact ⟨c, rfl⟩
          | false => exact ⟨c', hm⟩
      · simp only [hk]
        obtain ⟨cl, h1, h2, h3⟩ := ih acc hr ha
        refine ⟨cl, h1, fun m hm => h2 m (hm.imp (fun q => ?_) id), h3⟩
        rcases List.mem_cons.mp q with q | q
        · cases q; exact absurd (by decide) hk
        · exact q
  obtain ⟨cl, h1, h2, h3⟩ := gen scope.names [] (fun n hn => ⟨hn, h n hn⟩) (fun n c q => by simp at q)
  refine ⟨cl, ?_, fun n hn => h2 n (.inl hn), h3⟩
  unfold closureFor
  refine Eq.trans ?_ (congrArg (· >>= fun r => pure r) h1) |>.trans rfl
  congr 1

/-- the block's own environment -/
theorem newCompEnv {M : Model} {A : Around} {E : Value → Shared → Prop} {s : Shared} {scope : Scope} {g : Addr} {cl : List (Str × Addr)} {q : Str} {env : Env} {Q : Env → Shared → Prop}
    (h : Q { scope := scope, locals := s.heap.objs.size, globals := g, cells := cellsFrom (s.heap.objs.size + 1) scope.names cl, qual := q, func := none, code := env.code, frame := env.frame, builtins := env.builtins }
      { s with heap := pushCells (s.heap.push { cls := .type "dict", data := .dict #[] }) scope.names }) : wpAny M A (newFunctionEnv scope g cl [] q none .none (some env)) Q E s := by
  simp only [newFunctionEnv, Option.isSome_some, if_true]
  refine wpAny_bind (wpAny_alloc ?_)
  refine wpAny_bind (wpAny_layCells _ (fun name kind cells => by cases hkc : kind == NameKind.cell <;> simp [hkc]) _ _ _ _ ?_)
  rw [show ({ s with heap := s.heap.push { cls := .type "dict", data := .dict #[] } } : Shared).heap.objs.size = s.heap.objs.size + 1 from Heap.size_push ..]
  rw [List.forIn_nil]
  exact wpAny_bind (wpAny_pure (wpAny_pure h))

/-- the tests of a clause -/
def TrA (c : Cx) (r : Nat) (sc : Scope) (σ : String → Option D) : List Expr → Bool → Prop
  | [], b => b = true
  | [e], b => Tr c r sc σ e b
  | _, _ => False
/-- what a comprehension makes of its source -/
inductive CoR (c : Cx) (r : Nat) (sc : Scope) (σ : String → Option D) (x : String) (ifs : List Expr) (elt : Expr) : List D → List D → Prop
  | nil : CoR c r sc σ x ifs elt [] []
  | skip {d : D} {ds es : List D} : TrA c r sc (upd σ x d) ifs false → CoR c r sc σ x ifs elt ds es → CoR c r sc σ x ifs elt (d :: ds) es
  | take {d e : D} {ds es : List D} : TrA c r sc (upd σ x d) ifs true → Ev c r sc (upd σ x d) elt e → CoR c r sc σ x ifs elt ds es → CoR c r sc σ x ifs elt (d :: ds) (e :: es)
/-- the names that the block sees of the one around it -/
def Sees (scope : Scope) (σ σf : String → Option D) : Prop := ∀ y d, σf y = some d → σ y = some d ∧ scope.names.lookup (Str.ofString y) = some .free ∧ (Str.ofString y == ("__classdict__" : Str)) = false
theorem Sees.nil {scope σ} : Sees scope σ (fun _ => none) := fun _ _ h => by cases h
theorem Sees.add {scope σ σf} {y : String} {d : D} (h : Sees scope σ σf) (h1 : σ y = some d) (h2 : scope.names.lookup (Str.ofString y) = some .free) (h3 : (Str.ofString y == ("__classdict__" : Str)) = false := by decide) : Sees scope σ (upd σf y d) := fun z e hz => by
  by_cases q : z = y
  · subst q; simp [upd] at hz; subst hz; exact ⟨h1, h2, h3⟩
  · simp [upd, q] at hz; exact h z e hz

structure CompOk (scope sc : Scope) (x : String) : Prop where
  kind : scope.kind = .function
  x : scope.names.lookup (Str.ofString x) = some .local ∨ scope.names.lookup (Str.ofString x) = some .cell
  names : ∀ z ∈ scope.names, z.2 = .local → scope.names.lookup z.1 = some .local
  free : ∀ z ∈ scope.names, z.2 = .free → sc.names.lookup z.1 = some .cell ∨ sc.names.lookup z.1 = some .free
  uniq : ∀ z ∈ scope.names, scope.names.lookup z.1 = some z.2

section
variable {c : Cx} {r : Nat} {sc : Scope} {σ σf : String → Option D}

theorem CoR.len {x ifs elt ds es} (h : CoR c r sc σ x ifs elt ds es) : es.length ≤ ds.length := by
  induction h with
  | nil => simp
  | skip _ _ ih => simp; omega
  | take _ _ _ ih => simp; omega

/-- the block of a comprehension, from its iterator on -/
theorem comp_core {x : String} {px : Pos} {iter elt : Expr} {ifs : List Expr} {scope : Scope} {pos : Pos} {ds es : List D} {env : Env} {Y : List Addr} {val : String → Option Value} {A : Around} {s s₂ : Shared} {cl : List (Str × Addr)}
    {I : Addr} {fp : List Addr} {P : Nat → Value → Prop} {St : Nat → Heap → Prop} {RR : Value → Addr → Result → Shared → Prop} {E : Value → Shared → Prop}
    (R : Room A r) (X : At c env sc Y σ val s) (ok : CompOk scope sc x) (hs : Sees scope σ σf) (hn : ds.length ≤ sizeLine) (hco : CoR c r (relS scope sc) σf x ifs elt ds es)
    (hcl1 : ∀ n, (n, NameKind.free) ∈ scope.names → cl.lookup n = env.cells.lookup n) (hcl2 : ∀ n c, cl.lookup n = some c → (n, NameKind.free) ∈ scope.names ∧ env.cells.lookup n = some c)
    (hW : ∀ A' : Around, A'.handled = none → Walks c.prog c.w A' I fp [I] ds.length P St) (k₂ : Kp s s₂) (hI : s.heap.get? I = none) (hst : St 0 s₂.heap)
    (hfp : ∀ b ∈ fp, b ∉ Y ∧ ∃ o, s₂.heap.get? b = some o ∧ SeqO o) (hlive : ∀ i h, St i h → ∃ o, h.get? I = some o ∧ SeqO o) (hrep : ∀ (i : Nat) (d : D) v, ds[i]? = some d → P i v → Rep s₂.heap (I :: Y) d v)
    (hRR : ∀ L C h' tk, s₂.heap.get? C = none → (∃ m, h'.Ns C m) → (∀ h'' tk', (∀ b o, b ≠ C → h'.get? b = some o → h''.get? b = some o) → s.heap.get? L = none ∧ Kp s { s with heap := h'', toks := tk' } ∧ ∃ vs, h''.PlainList L vs ∧ RepL h'' (L :: Y) es vs.toList) →
      RR (.ref L) C (.ok .next) { s with heap := h', toks := tk }) :
    wpAny c.M A (newList []) (fun acc s₃ => wpAny c.M A (newFunctionEnv scope env.globals cl [] env.qual none .none (some env)) (fun cenv s₄ =>
      codeAny c.M A (.compStart (.ListComp elt [⟨.Name (Str.ofString x) px, iter, ifs, 0⟩] scope pos) 0 (.ref I) acc { cenv with scope := relabel scope env }) (RR acc cenv.locals) s₄) E s₃) E s₂ := by
  refine wpAny_newList (newCompEnv ?_) (by decide)
  generalize hH3 : s₂.heap.push { cls := .type "list", data := .seq ([] : List Value).toArray } = H3
  have hL3 : H3.objs.size = s₂.heap.objs.size + 1 := by rw [← hH3, Heap.size_push]
  generalize hL : s₂.heap.objs.size = L at hL3 ⊢
  dsimp only
  generalize hC : H3.objs.size = C at hL3 ⊢
  generalize hH4 : pushCells (H3.push { cls := .type "dict", data := .dict #[] }) scope.names = H4
  have lt2 : ∀ (b : Nat) o, s₂.heap.get? b = some o → b < L := fun b o e => hL ▸ Heap.lt_size e
  have keep3 : ∀ b o, H3.get? b = some o → H4.get? b = some o := fun b o e => hH4 ▸ pushCells_keeps _ _ b o (Heap.get?_push_of_some _ e)
  have keep4 : ∀ b o, s₂.heap.get? b = some o → H4.get? b = some o := fun b o e => keep3 b o (hH3 ▸ Heap.get?_push_of_some _ e)
  have listL : H4.PlainList L #[] := ⟨0, keep3 _ _ (hH3 ▸ hL ▸ Heap.get?_push_size _ rfl)⟩
  have nsC : H4.Ns C (fun _ => none) := hC ▸ hH4 ▸ (Heap.Ns.new H3 (.type "dict")).keeps (pushCells_keeps _ _)
  have cok : CellsOk H4 (C + 1) (cellsFrom (C + 1) scope.names []) := by
    have := cellsFrom_ok scope.names (H3.push { cls := .type "dict", data := .dict #[] }) (C + 1) [] ⟨fun _ _ hm => (nomatch hm), List.Pairwise.nil⟩ (by rw [Heap.size_push, hC]; exact Nat.le_refl _)
    rw [Heap.size_push, hC, hH4] at this
    exact this
  have hcells : ∀ n, (cellsFrom (C + 1) scope.names cl).lookup n = ((cellsFrom (C + 1) scope.names []).lookup n).or (cl.lookup n) := fun n => by rw [cf_app, List.lookup_append]
  have noCell : ∀ n, (n, NameKind.free) ∈ scope.names → (cellsFrom (C + 1) scope.names []).lookup n = none := fun n hn => by
    cases e : (cellsFrom (C + 1) scope.names []).lookup n with
    | none => rfl
    | some k =>
      have h1 := ok.uniq _ (cf_names _ _ _ _ (mem_of_lookup e))
      have h2 := ok.uniq _ hn
      dsimp only at h1 h2
      rw [h1] at h2; cases h2
  have hfree : ∀ n, scope.names.lookup n = some .free → ∃ ca u, (cellsFrom (C + 1) scope.names cl).lookup n = some ca ∧ H4.IsCell ca u ∧ env.cells.lookup n = some ca ∧ ca < L ∧ ∀ y v, n = Str.ofString y → val y = some v → u = some v := fun n hn => by
    have hm := mem_of_lookup hn
    obtain ⟨ca, u, a1, a2, a3⟩ := X.env.cel n (ok.free _ hm rfl)
    refine ⟨ca, u, ?_, (a2.keeps k₂.k).keeps keep4, a1, ?_, a3⟩
    · rw [hcells, noCell n hm, hcl1 n hm, a1]; rfl
    · obtain ⟨oc, ec, _⟩ := a2; exact lt2 _ _ (k₂.k _ _ ec)
  let sc' := relS scope sc
  let val0 : String → Option Value := fun y => if scope.names.lookup (Str.ofString y) = some .free ∧ (Str.ofString y == ("__classdict__" : Str)) = false then val y else none
  have hv0 : ∀ y v, val0 y = some v → scope.names.lookup (Str.ofString y) = some .free ∧ (Str.ofString y == ("__classdict__" : Str)) = false ∧ val y = some v := fun y v h => by
    simp only [val0] at h
    split at h
    · rename_i q; exact ⟨q.1, q.2, h⟩
    · cases h
  have relFree : ∀ n, scope.names.lookup n = some .free → sc'.names.lookup n = some .cell ∨ sc'.names.lookup n = some .free := fun n hn => by
    have e : sc'.names.lookup n = _ := lookup_rel
    rw [e, hn]
    simp only [Option.map_some, rk]
    split
    · exact .inl rfl
    · exact .inr rfl
  have hrel : relabel scope env = sc' := by rw [relabel_eq, X.env.scope]
  generalize hcenv : ({ scope := relabel scope env, locals := C, globals := env.globals, cells := cellsFrom (C + 1) scope.names cl, qual := env.qual, func := none, code := env.code, frame := env.frame, builtins := env.builtins } : Env) = cenv
  have E4 : EnvAt cenv sc' H4 val0 := by
    subst hcenv
    refine ⟨hrel, ok.kind, X.env.glob, X.env.blt, ⟨_, nsC, fun y v hy hl => ?_⟩, fun n hn => ?_, fun n n' k h1 h2 => ?_, fun y v hy => ?_⟩
    · rcases relFree _ (hv0 y v hy).1 with q | q <;> rw [q] at hl <;> cases hl
    · have e : sc'.names.lookup n = _ := lookup_rel
      rw [e] at hn
      cases hk : scope.names.lookup n with
      | none => rw [hk] at hn; simp at hn
      | some k =>
        by_cases hkf : k = .free
        · subst hkf
          obtain ⟨ca, u, a1, a2, _, _, a3⟩ := hfree n hk
          exact ⟨ca, u, a1, a2, fun y v e hy => a3 y v e (hv0 y v hy).2.2⟩
        · have hkc : k = .cell := by
            rw [hk] at hn
            have : rk sc n k = k := by unfold rk; rw [if_neg]; simp [hkf]
            simp only [Option.map_some, this] at hn
            rcases hn with hn | hn <;> cases hn
            · rfl
            · exact absurd rfl hkf
          subst hkc
          obtain ⟨k1, hk1⟩ := cf_has scope.names (C + 1) n (mem_of_lookup hk)
          obtain ⟨k2, hk2⟩ := lookup_some_of_mem hk1
          refine ⟨k2, none, by rw [hcells, hk2]; rfl, (cok.empty _ _ (mem_of_lookup hk2)).1, fun y v e hy => ?_⟩
          have := (hv0 y v hy).1
          rw [← e, hk] at this; cases this
    · rw [hcells] at h1 h2
      cases e1 : (cellsFrom (C + 1) scope.names []).lookup n with
      | some k1 =>
        rw [e1] at h1
        cases h1
        have g1 := (cok.empty _ _ (mem_of_lookup e1)).2
        cases e2 : (cellsFrom (C + 1) scope.names []).lookup n' with
        | some k2 => rw [e2] at h2; cases h2; exact name_of_addr cok.apart (mem_of_lookup e1) (mem_of_lookup e2)
        | none =>
          rw [e2] at h2
          obtain ⟨hm, he⟩ := hcl2 n' _ h2
          obtain ⟨ca, u, a1, ⟨oc, ec, _⟩, _⟩ := X.env.cel n' (ok.free _ hm rfl)
          rw [he] at a1; cases a1
          have := lt2 _ _ (k₂.k _ _ ec); omega
      | none =>
        rw [e1] at h1
        obtain ⟨hm1, he1⟩ := hcl2 n _ h1
        cases e2 : (cellsFrom (C + 1) scope.names []).lookup n' with
        | some k2 =>
          rw [e2] at h2; cases h2
          have g1 := (cok.empty _ _ (mem_of_lookup e2)).2
          obtain ⟨ca, u, a1, ⟨oc, ec, _⟩, _⟩ := X.env.cel n (ok.free _ hm1 rfl)
          rw [he1] at a1; cases a1
          have := lt2 _ _ (k₂.k _ _ ec); omega
        | none =>
          rw [e2] at h2
          obtain ⟨hm2, he2⟩ := hcl2 n' _ h2
          exact X.env.inj _ _ _ he1 he2
    · obtain ⟨q1, q2, _⟩ := hv0 y v hy
      rcases relFree _ q1 with q | q
      · exact .inr (.inl q)
      · exact .inr (.inr ⟨q, q2⟩)
  have hxk : sc'.names.lookup (Str.ofString x) = some .local ∨ sc'.names.lookup (Str.ofString x) = some .cell := by
    have e : sc'.names.lookup (Str.ofString x) = _ := lookup_rel
    rw [e]
    rcases ok.x with q | q <;> rw [q] <;> simp [rk]
  have slotF : ∀ (b : Nat), Slot_ cenv sc' x b → L < b := fun b hb => by
    subst hcenv
    rcases hb with ⟨_, q⟩ | ⟨q1, q2⟩
    · rw [q]; show L < C; omega
    · have hxc : scope.names.lookup (Str.ofString x) = some .cell := by
        rcases ok.x with q | q
        · have e : sc'.names.lookup (Str.ofString x) = _ := lookup_rel
          rw [e, q] at q1; simp [rk] at q1
        · exact q
      obtain ⟨k1, hk1⟩ := cf_has scope.names (C + 1) _ (mem_of_lookup hxc)
      obtain ⟨k2, hk2⟩ := lookup_some_of_mem hk1
      have q2' : (cellsFrom (C + 1) scope.names cl).lookup (Str.ofString x) = some b := q2
      rw [hcells, hk2] at q2'
      cases q2'
      have := (cok.empty _ _ (mem_of_lookup hk2)).2
      omega
  have hIL : I < L := by obtain ⟨o, e, _⟩ := hlive 0 _ hst; exact lt2 _ _ e
  have hlocals : cenv.locals = C := by subst hcenv; rfl
  have hLC : L ≠ C := by omega
  have hbC : ∀ (b : Nat) o, s₂.heap.get? b = some o → b ≠ C := fun b o e => by have := lt2 b o e; omega
  -- the turns
  let Y' := L :: I :: Y
  have listO : ∀ {h : Heap} {vs : Array Value}, h.PlainList L vs → ∃ o, h.get? L = some o ∧ SeqO o := fun ⟨n, e⟩ => ⟨_, e, .inl ⟨_, _, rfl⟩⟩
  have W := hW A R.1
  let Inv : Nat → Shared → Prop := fun n s' => ∃ i esd esr vs val1, n = ds.length - i ∧ i ≤ ds.length ∧ CoR c r sc' σf x ifs elt (ds.drop i) esr ∧ es = esd ++ esr ∧ KpS (fun b => b = I) s₂ s' ∧ St i s'.heap ∧
    EnvAt cenv sc' s'.heap val1 ∧ (∀ y, y ≠ x → val1 y = val0 y) ∧ s'.heap.PlainList L vs ∧ RepL s'.heap Y' esd vs.toList
  have k4 : KpS (fun b => b = I) s₂ { s₂ with heap := H4 } := ⟨H4, s₂.toks, rfl, fun b o e _ => keep4 b o e⟩
  have hst4 : St 0 H4 := W.frame _ _ _ hst fun b _ o e => keep4 b o e
  have inv0 : Inv ds.length { s₂ with heap := H4 } := ⟨0, [], es, #[], val0, by simp, Nat.zero_le _, by simpa using hco, rfl, k4, hst4, E4, fun _ _ => rfl, listL, by simp [RepL]⟩
  have liveS : ∀ {s'}, KpS (fun b => b = I) s₂ s' → ∀ b o, s.heap.get? b = some o → s'.heap.get? b = some o := fun k b o e => k.k b o (k₂.k b o e) fun q => by rw [q, hI] at e; cases e
  -- reading, within the block
  have atIn : ∀ {s' val1 i vs d v}, KpS (fun b => b = I) s₂ s' → St i s'.heap → EnvAt cenv sc' s'.heap val1 → (∀ y, y ≠ x → val1 y = val0 y) → s'.heap.PlainList L vs → val1 x = some v → Rep s'.heap Y' d v → At c cenv sc' Y' (upd σf x d) val1 s' := fun {s' val1 i vs d v} k hSt hE hval hl hx hv => by
    refine ⟨fun b o e => liveS k b o (X.base b o e), hE, fun y e hy => ?_, fun b hb => ?_⟩
    · by_cases q : y = x
      · subst q; simp [upd] at hy; subst hy; exact ⟨v, hx, hv⟩
      · simp [upd, q] at hy
        obtain ⟨h1, h2, h3⟩ := hs y e hy
        obtain ⟨w, a1, a2⟩ := X.ok y e h1
        refine ⟨w, by rw [hval y q]; simp only [val0]; rw [if_pos ⟨h2, h3⟩]; exact a1, a2.mono (fun b o e _ _ => liveS k b o e) fun b o e hb => ?_⟩
        rcases List.mem_cons.mp hb with rfl | hb
        · exact absurd (lt2 _ _ (k₂.k _ _ e)) (Nat.lt_irrefl _)
        · rcases List.mem_cons.mp hb with rfl | hb
          · rw [hI] at e; cases e
          · exact hb
    · rcases List.mem_cons.mp hb with rfl | hb
      · obtain ⟨o, e, _⟩ := listO hl; exact ⟨o, e⟩
      · rcases List.mem_cons.mp hb with rfl | hb
        · obtain ⟨o, e, _⟩ := hlive _ _ hSt; exact ⟨o, e⟩
        · obtain ⟨o, e⟩ := X.live b hb; exact ⟨o, liveS k b o e⟩
  have tests : ∀ {b : Bool} {σ' : String → Option D} {s' : Shared} {val1 : String → Option Value} {Q : Bool → Shared → Prop} {E' : Value → Shared → Prop}, TrA c r sc' σ' ifs b → At c cenv sc' Y' σ' val1 s' → (∀ s'', Kp s' s'' → Q b s'') →
      wpAny c.M A (forIn ifs true fun cd rr => if rr = true then do let ok ← isTrue cd cenv (eval cd cenv); pure (ForInStep.yield ok) else pure (ForInStep.yield rr)) Q E' s' := fun {b σ' s' val1 Q E'} ht hA hQ => by
    match ifs, ht with
    | [], ht => subst ht; exact wpAny_tests_nil (hQ s' Kp.rfl')
    | [e], ht => exact wpAny_tests_one (weak (ht.go cenv Y' val1 A s' R hA) fun b' s'' ⟨e, k⟩ => by subst e; exact hQ s'' k)
  have loop : codeAny c.M A (.compLoop (.ListComp elt [⟨.Name (Str.ofString x) px, iter, ifs, 0⟩] scope pos) 0 (.ref I) (.ref L) cenv) (RR (.ref L) C) { s₂ with heap := H4 } := by
    refine codeAny_compLoop_tests Inv ?_ ds.length inv0
    rintro n s' ⟨i, esd, esr, vs, val1, rfl, hile, hF, rfl, kI, hSt, hE, hval, hl, hv⟩
    obtain ⟨hh, tt, rfl, kk⟩ := id kI
    dsimp only at hSt hE hl hv
    by_cases hi' : i < ds.length
    · refine W.item i _ _ _ hi' hSt fun v h' tk hP hSt' hk => ?_
      have hk' : ∀ b ob, b ≠ I → hh.get? b = some ob → h'.get? b = some ob := fun b ob n e => hk b ob (by simpa using n) e
      have kI2 : KpS (fun b => b = I) s₂ { s₂ with heap := h', toks := tk } := ⟨h', tk, rfl, fun b o e n => hk' b o n (kk b o e n)⟩
      have hdrop : ds.drop i = ds[i] :: ds.drop (i + 1) := List.drop_eq_getElem_cons hi'
      have hIo : ∃ ob, hh.get? I = some ob ∧ SeqO ob := hlive _ _ hSt
      have hE2 : EnvAt cenv sc' h' val1 := by
        obtain ⟨obI, eI, sI⟩ := hIo
        refine ⟨hE.scope, hE.kind, hE.glob, hE.blt, ?_, fun n hn => ?_, hE.inj, hE.kinds⟩
        · obtain ⟨m, ⟨oL, es', ep, eL, rr⟩, q⟩ := hE.loc
          exact ⟨m, ⟨oL, es', ep, hk' _ _ (by rintro rfl; exact hE.loc_notSeq eI sI) eL, rr⟩, q⟩
        · obtain ⟨ca, u, a1, ⟨oc, ec, rr⟩, a3⟩ := hE.cel n hn
          exact ⟨ca, u, a1, ⟨oc, hk' _ _ (by rintro rfl; exact cell_notSeq ⟨oc, ec, rr⟩ eI sI) ec, rr⟩, a3⟩
      have hLI : L ≠ I := fun q => by rw [q] at hIL; exact Nat.lt_irrefl _ hIL
      have hl2 : h'.PlainList L vs := let ⟨n, e⟩ := hl; ⟨n, hk' _ _ hLI e⟩
      have hv2 : RepL h' Y' esd vs.toList := hv.mono (fun b o e _ n => hk' b o (fun q => n (q ▸ .tail _ (.head _))) e) fun _ _ _ q => q
      have hd2 : Rep h' Y' ds[i] v := (hrep i _ v (List.getElem?_eq_getElem hi') hP).mono (fun b o e _ n => kI2.k b o e fun q => n (q ▸ .head _)) fun b o e q => by
        rcases List.mem_cons.mp q with rfl | q
        · exact absurd (lt2 _ _ e) (Nat.lt_irrefl _)
        · exact q
      dsimp only
      refine wpAny_assign_Name (hE2.store1 (c := c) (s := { s₂ with heap := h', toks := tk }) hxk fun B s₄ hB k₄ hBo E₅ => ?_)
      have hBL := slotF B hB
      obtain ⟨h₄, t₄, rfl, kk4⟩ := k₄
      dsimp only at kk4 hBo E₅ ⊢
      have kI4 : KpS (fun b => b = I) s₂ { s₂ with heap := h₄, toks := t₄ } := ⟨h₄, t₄, rfl, fun b o e n => kk4 b o (kI2.k b o e n) fun (q : b = B) => by have := lt2 _ _ e; subst q; omega⟩
      have hl4 : h₄.PlainList L vs := let ⟨n, e⟩ := hl2; ⟨n, kk4 _ _ e (fun (q : L = B) => by omega)⟩
      have notB : ∀ (b : Nat) o, h'.get? b = some o → SeqO o → b ≠ B := fun b o e q z => by
        subst z
        rcases hB with ⟨_, w⟩ | ⟨w1, w2⟩
        · exact hE2.loc_notSeq (w ▸ e) q
        · obtain ⟨ca, u, a1, a2, _⟩ := hE2.cel _ (.inl w1)
          rw [w2] at a1; cases a1
          exact cell_notSeq a2 e q
      have hv4 : RepL h₄ Y' esd vs.toList := hv2.mono (fun b o e q _ => kk4 b o e (notB b o e q)) fun _ _ _ q => q
      have hd4 : Rep h₄ Y' ds[i] v := hd2.mono (fun b o e q _ => kk4 b o e (notB b o e q)) fun _ _ _ q => q
      have hfpB : ∀ h : Heap, (∀ b o, s₂.heap.get? b = some o → b ≠ I → h.get? b = some o) → ∀ b ∈ fp, b ≠ I → ∃ o, s₂.heap.get? b = some o ∧ SeqO o ∧ h.get? b = some o := fun h kh b hb n => by
        obtain ⟨_, o, e, q⟩ := hfp b hb
        exact ⟨o, e, q, kh b o e n⟩
      have frame : ∀ {j : Nat} {h1 h2 : Heap}, St j h1 → (∀ b o, s₂.heap.get? b = some o → b ≠ I → h1.get? b = some o) → (∀ b o, s₂.heap.get? b = some o → b ≠ I → h2.get? b = some o) → (∀ o, h1.get? I = some o → h2.get? I = some o) → St j h2 := fun {j h1 h2} q1 q2 q3 q4 =>
        W.frame _ _ _ q1 fun b hb o e => by
          by_cases z : b = I
          · subst z; exact q4 o e
          · obtain ⟨o1, e1, _, e2⟩ := hfpB h1 q2 b hb z
            obtain ⟨o2, e3, _, e4⟩ := hfpB h2 q3 b hb z
            rw [e1] at e3; cases e3; rw [e2] at e; cases e; exact e4
      have hSt4 : St (i + 1) h₄ := frame hSt' (fun b o e n => kI2.k b o e n) (fun b o e n => kI4.k b o e n) fun o e => by
        obtain ⟨o', e', q⟩ := hlive _ _ hSt'
        exact kk4 _ _ e (notB _ _ e' q)
      have hval4 : ∀ y, y ≠ x → upd val1 x v y = val0 y := fun y q => by simp [upd, q, hval y q]
      have hAt := atIn (d := ds[i]) kI4 hSt4 E₅ hval4 hl4 (by simp [upd]) hd4
      rw [hdrop] at hF
      cases hF with
      | skip ht hF =>
        refine tests ht hAt fun s₅ k₅ => ?_
        rw [if_neg (by decide)]
        obtain ⟨h₅, t₅, rfl, kk5⟩ := k₅
        dsimp only at kk5
        refine ⟨ds.length - (i + 1), by omega, i + 1, esd, esr, vs, _, rfl, hi', hF, rfl, ⟨h₅, t₅, rfl, fun b o e n => kk5 b o (kI4.k b o e n)⟩, W.frame _ _ _ hSt4 fun b _ o e => kk5 b o e, E₅.keeps kk5, hval4, ?_, hv4.keeps kk5⟩
        obtain ⟨n, e⟩ := hl4; exact ⟨n, kk5 _ _ e⟩
      | take ht he hF =>
        rename_i e₀ es₀
        refine tests ht hAt fun s₅ k₅ => ?_
        rw [if_pos rfl]
        refine weak (he.go cenv Y' _ A s₅ R (hAt.keeps k₅)) fun w s₆ g => ?_
        obtain ⟨h₆, t₆, rfl, kk6⟩ := k₅.trans g.1
        dsimp only at kk6
        have hl6 : h₆.PlainList L vs := let ⟨n, e⟩ := hl4; ⟨n, kk6 _ _ e⟩
        have hsz : vs.size ≤ sizeLine := by
          have h1 := hv4.length
          have h2 := hco.len
          simp at h1 h2; omega
        refine wpAny_list_append_plain hl6 (fun h₇ hl7 hs7 => ?_) hsz
        have kk7 : ∀ b o, b ≠ L → h₆.get? b = some o → h₇.get? b = some o := fun b o n e => (hs7.2 b n).trans e
        have hC7 : C ≠ L := by omega
        refine ⟨ds.length - (i + 1), by omega, i + 1, esd ++ [e₀], es₀, vs.push w, _, rfl, hi', hF, by simp, ⟨h₇, t₆, rfl, fun b o e n => kk7 b o (by have := lt2 _ _ e; omega) (kk6 b o (kI4.k b o e n))⟩, ?_, ?_, hval4, hl7, ?_⟩
        · refine W.frame _ _ _ hSt4 fun b hb o e => kk7 b o (fun q => ?_) (kk6 b o e)
          subst q
          obtain ⟨_, o', e', _⟩ := hfp b hb
          exact absurd (lt2 _ _ e') (Nat.lt_irrefl _)
        · have E₆ := E₅.keeps kk6
          obtain ⟨oL, eL, sL⟩ := listO hl6
          refine ⟨E₆.scope, E₆.kind, E₆.glob, E₆.blt, ?_, fun n hn => ?_, E₆.inj, E₆.kinds⟩
          · obtain ⟨m, ⟨oC, es', ep, eC, rr⟩, q⟩ := E₆.loc
            exact ⟨m, ⟨oC, es', ep, kk7 _ _ (by rintro q; exact E₆.loc_notSeq (q ▸ eL) sL) eC, rr⟩, q⟩
          · obtain ⟨ca, u, a1, ⟨oc, ec, rr⟩, a3⟩ := E₆.cel n hn
            exact ⟨ca, u, a1, ⟨oc, kk7 _ _ (by rintro rfl; exact cell_notSeq ⟨oc, ec, rr⟩ eL sL) ec, rr⟩, a3⟩
        · rw [Array.toList_push]
          have keepR : ∀ b o, h₆.get? b = some o → SeqO o → b ∉ Y' → h₇.get? b = some o := fun b o e _ n => kk7 b o (fun q => n (q ▸ .head _)) e
          refine RepL.append ((hv4.keeps kk6).mono keepR fun _ _ _ q => q) ?_
          simp only [RepL]
          exact ⟨w, [], rfl, g.2.mono keepR fun _ _ _ q => q, rfl⟩
    · have e : i = ds.length := by omega
      subst e
      rw [List.drop_length] at hF
      cases hF
      refine W.done _ _ _ hSt fun h' tk hk => ?_
      have hk' : ∀ b ob, b ≠ I → hh.get? b = some ob → h'.get? b = some ob := fun b ob n e => hk b ob (by simpa using n) e
      dsimp only
      obtain ⟨h2, t2, rfl, kk2⟩ := k₂
      dsimp only at *
      have hLI : L ≠ I := fun q => by rw [q] at hIL; exact Nat.lt_irrefl _ hIL
      have hsI : ∀ b o, s.heap.get? b = some o → b ≠ I := fun b o e q => by rw [q, hI] at e; cases e
      refine hRR L C h' tk ?_ ?_ fun h'' tk' kC => ⟨?_, ⟨h'', tk', rfl, fun b o e => ?_⟩, vs, ?_, ?_⟩
      · cases q : h2.get? C with
        | none => rfl
        | some o => have := lt2 _ _ q; omega
      · obtain ⟨m, ⟨oL, es', ep, eL, rr⟩, q⟩ := hE.loc
        obtain ⟨obI, eI, sI⟩ := hlive _ _ hSt
        rw [hlocals] at eL
        exact ⟨m, oL, es', ep, hk' _ _ (by rintro rfl; exact hE.loc_notSeq (hlocals ▸ eI) sI) eL, rr⟩
      · cases q : s.heap.get? L with
        | none => rfl
        | some o => exact absurd (lt2 _ _ (kk2 _ _ q)) (Nat.lt_irrefl _)
      · exact kC b o (hbC b o (kk2 b o e)) (hk' b o (hsI b o e) (kk b o (kk2 b o e) (hsI b o e)))
      · obtain ⟨n, e⟩ := hl; exact ⟨n, kC _ _ hLC (hk' _ _ hLI e)⟩
      · rw [List.append_nil]
        refine hv.mono (fun b o e q n => kC b o ?_ (hk' b o (fun q => n (q ▸ .tail _ (.head _))) e)) fun b o e q => ?_
        · rintro rfl
          exact hE.loc_notSeq (hlocals ▸ e) q
        · rcases List.mem_cons.mp q with rfl | q
          · exact .head _
          · exact .tail _ (.tail _ q)
  have e : ({ cenv with scope := relabel scope env } : Env) = cenv := by subst hcenv; rfl
  refine codeAny_compStart_list ?_ ?_
  · subst hcenv; exact loop
  · refine W.self 0 _ _ _ (by exact hst4) ?_
    subst hcenv; exact loop
end
end Mine

end
section
open PySem PySem.W PySem.Calls PyProof.Rows
set_option linter.unusedVariables false
set_option linter.unusedSimpArgs false
namespace Mine
section
variable {c : Cx} {r : Nat} {sc : Scope} {σ σf σ' : String → Option D} {o o' : Option (String × List D)}

theorem closure_at {scope : Scope} {env : Env} {Y val} {s : Shared} {x : String} (X : At c env sc Y σ val s) (ok : CompOk scope sc x) :
    ∃ cl, closureFor scope env = pure cl ∧ (∀ n, (n, NameKind.free) ∈ scope.names → cl.lookup n = env.cells.lookup n) ∧ ∀ n c, cl.lookup n = some c → (n, NameKind.free) ∈ scope.names ∧ env.cells.lookup n = some c :=
  closure_ok fun n hn => let ⟨ca, u, a1, _⟩ := X.env.cel n (ok.free _ hn rfl); ⟨ca, a1⟩

theorem Ev.comp {x : String} {px : Pos} {iter elt : Expr} {ifs : List Expr} {scope : Scope} {pos : Pos} {ds es : List D} (hi : EvI c r sc σ iter ds) (ok : CompOk scope sc x) (hsee : Sees scope σ σf) (hn : ds.length ≤ sizeLine)
    (hco : CoR c r (relS scope sc) σf x ifs elt ds es) (hs : ∀ env v, foldedSetIterable iter env v = pure v := by intros; rfl) :
    Ev c r sc σ (.ListComp elt [⟨.Name (Str.ofString x) px, iter, ifs, 0⟩] scope pos) (.list es) := ⟨fun env Y val A s R X => by
  obtain ⟨cl, h1, h2, h3⟩ := closure_at X ok
  rw [eval_ListComp]
  refine wpAny_comprehension_free (use := Option.none) rfl (hs env) h1 ok.kind ok.names (weak (hi.go env Y val A s R X) fun xv s₁ hx => weak hx fun it s₂ hp => ?_)
  obtain ⟨I, fp, P, St, rfl, hW, k₂, hI, hst, hfp, hlive, hrep⟩ := hp
  refine comp_core (RR := fun acc C => compPost c.M A noE Option.none (Gives Y (.list es) s) acc C) R X ok hsee hn hco h2 h3 hW k₂ hI hst hfp hlive hrep fun L C h' tk hC hm hfin => ?_
  obtain ⟨m, hm⟩ := hm
  refine ⟨m, hm, fun h'' hs'' => ?_⟩
  obtain ⟨hL, k, vs, hl, hv⟩ := hfin h'' tk fun b o n e => (hs''.2 b n).trans e
  refine ⟨k, ?_⟩
  simp only [Rep]
  refine ⟨L, vs, rfl, fun q => ?_, hl, hv.mono (fun _ _ e _ _ => e) fun _ _ _ q => .tail _ q⟩
  obtain ⟨o, e⟩ := X.live _ q
  rw [hL] at e; cases e⟩

/-- a fresh namespace that goes -/
theorem StA.offC {env Y a val} {s : Shared} {C : Addr} {h' : Heap} {t : Nat} (X : StA c env sc Y σ o a val s) (hC : ∃ m, s.heap.Ns C m) (hb : c.base.get? C = none) (hne : env.locals ≠ C) (hY : C ∉ Y)
    (k : ∀ b ob, b ≠ C → s.heap.get? b = some ob → h'.get? b = some ob) : StA c env sc Y σ o a val { s with heap := h', toks := t } := by
  obtain ⟨mC, oC, es, ep, eC, hdC, hkC⟩ := hC
  have nS : ∀ b ob, s.heap.get? b = some ob → SeqO ob → b ≠ C := fun b ob e q z => by
    subst z; rw [e] at eC; cases eC
    rcases q with ⟨i, n, q⟩ | ⟨vs, q⟩ <;> rw [hdC] at q <;> cases q
  refine ⟨fun b ob e => k b ob (by rintro rfl; rw [hb] at e; cases e) (X.base b ob e), X.mine, ?_, fun b hb' => ?_, ?_⟩
  · refine ⟨X.env.scope, X.env.kind, X.env.glob, X.env.blt, ?_, fun n hn => ?_, X.env.inj, X.env.kinds⟩
    · obtain ⟨m, ⟨oL, es', ep', eL, r⟩, q⟩ := X.env.loc
      exact ⟨m, ⟨oL, es', ep', k _ _ hne eL, r⟩, q⟩
    · obtain ⟨ca, u, a1, ⟨oc, ec, r⟩, a3⟩ := X.env.cel n hn
      refine ⟨ca, u, a1, ⟨oc, k _ _ ?_ ec, r⟩, a3⟩
      rintro rfl
      rw [ec] at eC; cases eC; rw [r] at hdC; cases hdC
  · obtain ⟨ob, e⟩ := X.live b hb'
    exact ⟨ob, k b ob (by rintro rfl; exact hY hb') e⟩
  · have h := X.ok
    match o, h with
    | none, h => exact fun x d e => let ⟨v, a1, a2⟩ := h x d e; ⟨v, a1, a2.mono (fun b o e q _ => k b o (nS b o e q) e) fun _ _ _ q => q⟩
    | some (x, ds), ⟨ha, hb', h1, h2, vs, ⟨n, ho⟩, h4⟩ =>
      exact ⟨ha, hb', fun x d e => let ⟨v, a1, a2⟩ := h1 x d e; ⟨v, a1, a2.mono (fun b o e q _ => k b o (nS b o e q) e) fun _ _ _ q => q⟩, h2, vs, ⟨n, k _ _ (nS _ _ ho (.inl ⟨_, _, rfl⟩)) ho⟩, h4.mono (fun b o e q _ => k b o (nS b o e q) e) fun _ _ _ q => q⟩

theorem Ex1.assignComp {y x : String} {py px spos : Pos} {iter elt : Expr} {ifs : List Expr} {scope : Scope} {pos : Pos} {ds es : List D} (hi : EvI c r sc σ iter ds) (ok : CompOk scope sc x) (hsee : Sees scope σ σf) (hn : ds.length ≤ sizeLine)
    (hco : CoR c r (relS scope sc) σf x ifs elt ds es) (hy : Sto sc y) (hox : ownName o ≠ some y)
    (hsw : ∀ env : Env, env.scope = sc → swapsWith (.ListComp elt [⟨.Name (Str.ofString x) px, iter, ifs, 0⟩] scope pos) (some (.Name (Str.ofString y) py)) spos.line env = pure true)
    (hs : ∀ env v, foldedSetIterable iter env v = pure v := by intros; rfl) :
    Ex1 c r sc σ o (.Assign [.Name (Str.ofString y) py] (.ListComp elt [⟨.Name (Str.ofString x) px, iter, ifs, 0⟩] scope pos) spos) .next (upd σ y (.list es)) o := ⟨fun env Y a val A s R X => by
  have X0 := X.at0
  obtain ⟨cl, h1, h2, h3⟩ := closure_at X0 ok
  rw [exec_Assign_Name_used _ _ _ _ (hsw env X.env.scope)]
  refine wpAny_bind (wpAny_standAt (wpAny_bind ?_))
  show wpAny _ A (do let _ ← comprehension (.ListComp elt [⟨.Name (Str.ofString x) px, iter, ifs, 0⟩] scope pos) scope env _ (newList []) false (eval iter env) (some (PySem.assign (.Name (Str.ofString y) py) env))) _ _ s
  refine wpAny_bind ?_
  refine wpAny_comprehension_free (use := some (PySem.assign (.Name (Str.ofString y) py) env)) rfl (hs env) h1 ok.kind ok.names (weak (hi.go env _ val A s R X0) fun xv s₁ hx => weak hx fun it s₂ hp => ?_)
  obtain ⟨I, fp, P, St, rfl, hW, k₂, hI, hst, hfp, hlive, hrep⟩ := hp
  refine comp_core (RR := fun acc C => compPost c.M A noE (some (PySem.assign (.Name (Str.ofString y) py) env)) _ acc C) R X0 ok hsee hn hco h2 h3 hW k₂ hI hst hfp hlive hrep fun L C h' tk hC hm hfin => ?_
  obtain ⟨m, hm⟩ := hm
  obtain ⟨hL, k, vs, hl, hv⟩ := hfin h' tk fun b o n e => e
  have X' := X.keeps k
  have hLY : L ∉ Yo o a Y := fun q => by
    obtain ⟨ob, e⟩ := X0.live _ q
    rw [hL] at e; cases e
  have hrepL : Rep h' (Yo o a Y) (.list es) (.ref L) := by
    simp only [Rep]
    exact ⟨L, vs, rfl, hLY, hl, hv.mono (fun _ _ e _ _ => e) fun _ _ _ q => .tail _ q⟩
  have sC : s.heap.get? C = none := by
    cases e : s.heap.get? C with
    | none => rfl
    | some ob => rw [k₂.k _ _ e] at hC; cases hC
  have hlC : env.locals ≠ C := fun q => by
    obtain ⟨m, ⟨oL, _, _, eL, _⟩, _⟩ := X.env.loc
    rw [q, sC] at eL; cases eL
  refine wpAny_assign_Name (StA.store X' hy hox hrepL fun s' k' Xs => ?_)
  have notC : ¬ Mu env sc none C := fun q => by
    rcases q with q | ⟨n, q1, q2⟩ | q
    · exact hlC q.symm
    · obtain ⟨ca, u, a1, ⟨oc, ec, _⟩, _⟩ := X.env.cel n (.inl q1)
      rw [q2] at a1; cases a1
      rw [sC] at ec; cases ec
    · cases q
  have hm' : ∃ m, s'.heap.Ns C m := let ⟨oC, es', ep, eC, r⟩ := hm; ⟨m, oC, es', ep, k'.k _ _ eC notC, r⟩
  obtain ⟨m', hm'⟩ := hm'
  refine ⟨m', hm', fun h'' hs'' => ?_⟩
  have hCb : c.base.get? C = none := by
    cases e : c.base.get? C with
    | none => rfl
    | some ob => rw [X.base _ _ e] at sC; cases sC
  have hCY : C ∉ Y := fun q => by obtain ⟨ob, e⟩ := X.live _ q; rw [sC] at e; cases e
  have kC : ∀ b ob, b ≠ C → s'.heap.get? b = some ob → h''.get? b = some ob := fun b ob n e => (hs''.2 b n).trans e
  refine wpAny_pure (wpAny_pure ⟨?_, rfl, fun _ => ⟨a, _, Rel.rfl', Xs.offC (t := s'.toks) ⟨m', hm'⟩ hCb hlC hCY kC⟩⟩)
  obtain ⟨h4, t4, rfl, k4⟩ := k'
  exact ⟨h'', t4, rfl, fun b ob e n => kC b ob (by rintro rfl; rw [sC] at e; cases e) (k4 b ob (k.k b ob e) fun q => n (mu0 q))⟩⟩
end
end Mine

end
section
open PySem PySem.W PySem.Calls PyProof.Rows
set_option linter.unusedVariables false
set_option linter.unusedSimpArgs false
namespace Mine
local macro_rules | `(tactic| omega) => `(tactic| lia)

/-- the name's value (a def, a built-in) -/
def EvV (c : Cx) (sc : Scope) (e : Expr) (v : Value) : Prop := ∀ env Y σ val A s, At c env sc Y σ val s → wpAny c.M A (eval e env) (fun v' s' => v' = v ∧ Kp s s') noE s
def KeepV (c : Cx) (v : Value) : Prop := ∀ h, c.In h → ∃ k, (k = Keeper.frame ∨ k = Keeper.machine ∨ k = Keeper.boundFrame) ∧ Looks c.M h (keeperOf v) k
/-- what a call of the value gives -/
def FnV (c : Cx) (r : Nat) (v : Value) (args : List D) (d : D) : Prop := ∀ Y A s vs, Room A r → c.In s.heap → Live s.heap Y → RepL s.heap Y args vs → wpAny c.M A (call v vs) (Gives Y d s) noE s

section
variable {c : Cx} {r : Nat} {sc : Scope} {σ : String → Option D}
theorem EvV.glob {x : String} {p : Pos} {v : Value} (hm : c.mg (Str.ofString x) = some v) (hk : sc.names.lookup (Str.ofString x) = some .globalImplicit) (hd : (Str.ofString x == ("__debug__" : Str)) = false := by decide) : EvV c sc (.Name (Str.ofString x) p) v :=
  fun env Y σ val A s X => Name_function_global (X.env.scope ▸ X.env.kind) (by unfold Env.kindOf; rw [X.env.scope]; exact hk) (loadGlobal_global (mg := c.mg) (X.env.glob ▸ c.g.keeps X.base) hm ⟨rfl, Kp.rfl'⟩) hd
theorem EvV.blt {x : String} {p : Pos} {v : Value} (hm : c.mg (Str.ofString x) = none) (hv : bootBuiltins (Str.ofString x) = some v) (hk : sc.names.lookup (Str.ofString x) = some .globalImplicit) (hn : Str.ofString x ≠ "__name__" := by decide +kernel) (hd : (Str.ofString x == ("__debug__" : Str)) = false := by decide) : EvV c sc (.Name (Str.ofString x) p) v :=
  fun env Y σ val A s X => Name_function_global (X.env.scope ▸ X.env.kind) (by unfold Env.kindOf; rw [X.env.scope]; exact hk)
    (loadGlobal_builtin (mg := c.mg) (mb := c.mb) (X.env.glob ▸ c.g.keeps X.base) hm (X.env.blt ▸ c.b.keeps X.base) ((c.blt _ hn).trans hv) ⟨rfl, Kp.rfl'⟩) hd
theorem Ev.glob {x : String} {p : Pos} {v : Value} {d : D} (h : EvV c sc (.Name (Str.ofString x) p) v) (ha : atom d = true) (hr : ∀ h Y, Rep h Y d v) : Ev c r sc σ (.Name (Str.ofString x) p) d := ⟨fun env Y val A s R X =>
  weak (h env Y σ val A s X) fun v' s' ⟨e, k⟩ => by subst e; exact ⟨k, hr _ _⟩⟩

theorem KeepV.blt {id : String} : KeepV c (.builtin id) := fun h _ => ⟨.machine, .inr (.inl rfl), Looks.of_pure rfl⟩
theorem KeepV.type {n : String} : KeepV c (.type n) := fun h _ => ⟨.machine, .inr (.inl rfl), Looks.of_pure rfl⟩
theorem KeepV.fn {a : Addr} {o : Obj} {fd : FuncData} (ho : c.base.get? a = some o) (hd : o.data = .func fd) : KeepV c (.ref a) := fun h X => by
  refine ⟨.frame, .inl rfl, (Looks.ld (part := none) (X _ _ ho)).andThen ?_⟩
  rw [hd]; exact .now

theorem Ev.call {x : String} {p pos : Pos} {e : Expr} {es : List Expr} {ds : List D} {d : D} {v : Value} (hf : EvV c sc (.Name (Str.ofString x) p) v) (hk : KeepV c v) (ha : EvL c r sc σ (e :: es) ds) (h : FnV c r v ds d)
    (he : ∀ env, starEach (e :: es) env = (false, eval e env) :: starEach es env := by intro _; rfl) (hp : ∀ env pos, (backTo pos (starEach es env)).any (·.1) = false := by intros; rfl) :
    Ev c r sc σ (.Call (.Name (Str.ofString x) p) (e :: es) [] pos) d := ⟨fun env Y val A s R X => by
  refine wpAny_Call_NameR (weak (hf env Y σ val A s X) fun v' s₁ ⟨e', k⟩ => ?_)
  subst e'
  have X₁ := X.keeps k
  have h2 := ha.go env Y val A s₁ pos R X₁
  rw [he] at h2 ⊢
  refine callWith_of (P := c.In) (by show ((false || (backTo pos (starEach es env)).any (·.1)) || false) = false; rw [hp]; rfl) hk (evalArgs_plain (weak h2 fun vs s₂ ⟨k₂, hv⟩ => ?_))
  have X₂ := X₁.keeps k₂
  exact ⟨X₂.base, weak (h Y A s₂ vs R X₂.base X₂.live hv) fun w s₃ g => (g.trans k₂).trans k⟩⟩
theorem Ev.call0 {x : String} {p pos : Pos} {d : D} {v : Value} (hf : EvV c sc (.Name (Str.ofString x) p) v) (hk : KeepV c v) (h : FnV c r v [] d) :
    Ev c r sc σ (.Call (.Name (Str.ofString x) p) [] [] pos) d := ⟨fun env Y val A s R X => by
  refine wpAny_Call_NameR (weak (hf env Y σ val A s X) fun v' s₁ ⟨e', k⟩ => ?_)
  subst e'
  have X₁ := X.keeps k
  refine callWith_of (P := c.In) rfl hk (evalArgs_nil3 ⟨X₁.base, ?_⟩)
  exact weak (h Y A s₁ [] R X₁.base X₁.live (by simp [RepL])) fun w s₃ g => g.trans k⟩

/-- a method of a built-in type -/
theorem Ev.meth {o : Expr} {name : Str} {ap pos : Pos} {e : Expr} {es : List Expr} {d₀ d : D} {ds : List D} {T id : String} (h₀ : Ev c r sc σ o d₀) (ha : EvL c r sc σ (e :: es) ds)
    (hT : ∀ h Y v (s : Shared), s.heap = h → Rep h Y d₀ v → s.TypeIs v T ∧ ∀ a, v = .ref a → ∃ ob, h.get? a = some ob ∧ ob.dict = Option.none) (h : FnV c r (.builtin id) (d₀ :: ds) d)
    (pa : PlainAttrs T) (slot : Slot T name id) (hty : typeOf (.builtin id) = pure (.type "method_descriptor"))
    (hbase : ∀ env, attributeBase o name env (eval o env) = eval o env := by intros; rfl)
    (he : ∀ env, starEach (e :: es) env = (false, eval e env) :: starEach es env := by intro _; rfl) (hp : ∀ env pos, (backTo pos (starEach es env)).any (·.1) = false := by intros; rfl)
    (hfew : ∀ env, ((backTo pos (starEach (e :: es) env)).all (fun x => !x.1) && (backToKw pos (keywordEach [] env)).all (fun x => x.1.isSome)
      && decide ((e :: es).length + ([] : List Keyword).length + (if ([] : List Keyword).isEmpty then 0 else 1) < 30)) = true := by intros; rfl)
    (hline : (ap.endLine == pos.line) = true := by rfl) : Ev c r sc σ (.Call (.Attribute o name ap) (e :: es) [] pos) d := ⟨fun env Y val A s R X => by
  refine wpAny_Call_method (hbase env) (hfew env) hline pa slot hty (weak (h₀.go env Y val A s R X) fun v₀ s₁ g₀ => ?_)
  have X₁ := X.keeps g₀.1
  obtain ⟨h1, h2⟩ := hT _ Y v₀ s₁ rfl g₀.2
  refine ⟨h1, h2, ?_⟩
  have h3 := ha.go env Y val A s₁ pos R X₁
  rw [he] at h3 ⊢
  refine callWith_of (P := c.In) (by show ((false || (backTo pos (starEach es env)).any (·.1)) || false) = false; rw [hp]; rfl) KeepV.blt (evalArgs_plain (weak h3 fun vs s₂ ⟨k₂, hv⟩ => ?_))
  have X₂ := X₁.keeps k₂
  refine ⟨X₂.base, weak (h Y A s₂ (v₀ :: vs) R X₂.base X₂.live ?_) fun w s₃ g => (g.trans k₂).trans g₀.1⟩
  simp only [RepL]
  exact ⟨v₀, vs, rfl, g₀.2.keeps k₂.k, hv⟩⟩
theorem Ev.meth0 {o : Expr} {name : Str} {ap pos : Pos} {d₀ d : D} {T id : String} (h₀ : Ev c r sc σ o d₀)
    (hT : ∀ h Y v (s : Shared), s.heap = h → Rep h Y d₀ v → s.TypeIs v T ∧ ∀ a, v = .ref a → ∃ ob, h.get? a = some ob ∧ ob.dict = Option.none) (h : FnV c r (.builtin id) [d₀] d)
    (pa : PlainAttrs T) (slot : Slot T name id) (hty : typeOf (.builtin id) = pure (.type "method_descriptor"))
    (hbase : ∀ env, attributeBase o name env (eval o env) = eval o env := by intros; rfl)
    (hline : (ap.endLine == pos.line) = true := by rfl) : Ev c r sc σ (.Call (.Attribute o name ap) [] [] pos) d := ⟨fun env Y val A s R X => by
  refine wpAny_Call_method (hbase env) (by rfl) hline pa slot hty (weak (h₀.go env Y val A s R X) fun v₀ s₁ g₀ => ?_)
  have X₁ := X.keeps g₀.1
  obtain ⟨h1, h2⟩ := hT _ Y v₀ s₁ rfl g₀.2
  refine ⟨h1, h2, ?_⟩
  refine callWith_of (P := c.In) (args := backTo pos (starEach [] env)) rfl KeepV.blt (evalArgs_nil3 ⟨X₁.base, ?_⟩)
  exact weak (h Y A s₁ [v₀] R X₁.base X₁.live (by simp only [RepL]; exact ⟨v₀, [], rfl, g₀.2, rfl⟩)) fun w s₃ g => g.trans g₀.1⟩

/-- the parameters, bound -/
def argσ {α : Type} : List String → List α → String → Option α
  | x :: xs, d :: ds => upd (argσ xs ds) x d
  | _, _ => fun _ => none
theorem argσ_mem {α : Type} : ∀ {xs : List String} {vs : List α} {x : String} {v : α}, argσ xs vs x = some v → (x, v) ∈ xs.zip vs
  | x' :: xs, v' :: vs, x, v, h => by
    by_cases q : x = x'
    · subst q; simp [argσ, upd] at h; subst h; exact .head _
    · simp [argσ, upd, q] at h; exact .tail _ (argσ_mem h)
  | [], _, _, _, h => by simp [argσ] at h
  | _ :: _, [], _, _, h => by simp [argσ] at h
theorem argσ_rep {h : Heap} {Y : List Addr} : ∀ {xs : List String} {ds : List D} {vs : List Value}, RepL h Y ds vs → ValOk h Y (argσ xs ds) (argσ xs vs)
  | [], _, _, _ => fun x d e => by simp [argσ] at e
  | x :: xs, [], _, _ => fun y d e => by simp [argσ] at e
  | x :: xs, d :: ds, _, hr => by
    simp only [RepL] at hr
    obtain ⟨v, r, rfl, hv, hr⟩ := hr
    exact ValOk.upd (argσ_rep hr) hv

theorem bindL_skip {k : Str → Option NameKind} : ∀ {bs : List (Str × Value)} {m : Str → Option Value} {n : Str}, n ∉ bs.map (·.1) → bindL k bs m n = m n
  | [], _, _, _ => rfl
  | (n', v) :: r, m, n, h => by
    simp only [List.map_cons, List.mem_cons, not_or] at h
    unfold bindL
    rw [bindL_skip h.2]
    split
    · simp [h.1]
    · rfl
theorem bindL_get {k : Str → Option NameKind} : ∀ {bs : List (Str × Value)} {m : Str → Option Value} {n : Str} {v : Value}, (bs.map (·.1)).Nodup → (n, v) ∈ bs → k n = some .local → bindL k bs m n = some v
  | (n', v') :: r, m, n, v, hn, h, hk => by
    simp only [List.map_cons, List.nodup_cons] at hn
    unfold bindL
    rcases List.mem_cons.mp h with e | h
    · cases e; rw [bindL_skip hn.1, if_pos hk]; simp
    · exact bindL_get hn.2 h hk
theorem bindC_skip {k : Str → Option NameKind} : ∀ {bs : List (Str × Value)} {m : Str → Option Value} {n : Str}, n ∉ bs.map (·.1) → bindC k bs m n = m n
  | [], _, _, _ => rfl
  | (n', v) :: r, m, n, h => by
    simp only [List.map_cons, List.mem_cons, not_or] at h
    unfold bindC
    rw [bindC_skip h.2]
    split
    · rfl
    · simp [h.1]
theorem bindC_get {k : Str → Option NameKind} : ∀ {bs : List (Str × Value)} {m : Str → Option Value} {n : Str} {v : Value}, (bs.map (·.1)).Nodup → (n, v) ∈ bs → k n ≠ some .local → bindC k bs m n = some v
  | (n', v') :: r, m, n, v, hn, h, hk => by
    simp only [List.map_cons, List.nodup_cons] at hn
    unfold bindC
    rcases List.mem_cons.mp h with e | h
    · cases e; rw [bindC_skip hn.1, if_neg hk]; simp
    · exact bindC_get hn.2 h hk

/-- a def of the text, as it stands behind the top -/
structure FnAt (c : Cx) (a : Addr) (fd : FuncData) (xs : List String) (body : List Stmt) : Prop where
  at_ : ∃ o, c.base.get? a = some o ∧ o.data = .func fd
  body : fd.body = .stmts body
  glob : fd.globals = mainGlobals
  blt : fd.builtins = builtinsNs
  clo : fd.closure = []
  code : c.base.CodeRec fd.code fd.qualname
  bind : ∀ vs : List Value, vs.length = xs.length → bindArgs fd ⟨vs, []⟩ = pure ((xs.map Str.ofString).zip vs)
  nodup : (xs.map Str.ofString).Nodup
  kinds : ∀ x ∈ xs, fd.scope.names.lookup (Str.ofString x) = some .local ∨ fd.scope.names.lookup (Str.ofString x) = some .cell
  co : fd.scope.isCoroutine = false
  gen : fd.scope.isGenerator = false
  kind : fd.scope.kind = .function
  nofree : ∀ z ∈ fd.scope.names, z.2 ≠ .free

theorem zip_fst {xs : List String} {vs : List Value} (h : vs.length = xs.length) : ((xs.map Str.ofString).zip vs).map (·.1) = xs.map Str.ofString := by
  rw [List.map_fst_zip]; simp [h]
theorem zip_mem {x : String} {v : Value} : ∀ {xs : List String} {vs : List Value}, (x, v) ∈ xs.zip vs → (Str.ofString x, v) ∈ (xs.map Str.ofString).zip vs
  | x' :: xs, v' :: vs, h => by
    simp only [List.zip_cons_cons, List.map_cons] at h ⊢
    rcases List.mem_cons.mp h with e | h
    · cases e; exact .head _
    · exact .tail _ (zip_mem h)

theorem FnV.user {a : Addr} {fd : FuncData} {xs : List String} {body : List Stmt} {ds : List D} {d : D} {σ' : String → Option D} {o' : Option (String × List D)} (F : FnAt c a fd xs body) (hlen : ds.length = xs.length)
    (h : Ex c r fd.scope (argσ xs ds) none body (.ret d) σ' o') : FnV c (r + 1) (.ref a) ds d := fun Y A s vs R hb hY hv => by
  obtain ⟨o, ho, hd⟩ := F.at_
  have hvl : vs.length = xs.length := hv.length.trans hlen
  have hcellOf : ∀ n, fd.scope.names.lookup n = some .cell → ∃ c', (cellsFrom (s.heap.objs.size + 1) fd.scope.names []).lookup n = some c' := fun n hn => by
    obtain ⟨k, hk⟩ := cf_has fd.scope.names (s.heap.objs.size + 1) n (mem_of_lookup hn)
    exact lookup_some_of_mem hk
  refine wpAny_call (codeAny_call_cells (by have := R.2.1; unfold recursionLimit; omega) (hb _ _ ho) hd (c.nolimit.keeps hb) (F.code.keeps hb) F.body (F.bind vs hvl) F.clo (fun y hy => ?_) (fun s₁ x => ?_) F.co F.gen F.kind)
  · have hm : y.1 ∈ xs.map Str.ofString := by rw [← zip_fst hvl]; exact List.mem_map_of_mem hy
    obtain ⟨z, hz, e⟩ := List.mem_map.mp hm
    rw [← e]
    rcases F.kinds z hz with q | q
    · exact .inl q
    · exact .inr ⟨q, by obtain ⟨k, hk⟩ := hcellOf _ q; rw [hk]; rfl⟩
  · generalize henv : callEnvC fd s.heap.objs.size a = env at x ⊢
    have hL : env.locals = s.heap.objs.size := by rw [← henv]; rfl
    have hsc : env.scope = fd.scope := by rw [← henv]; rfl
    have hcl : env.cells = cellsFrom (s.heap.objs.size + 1) fd.scope.names [] := by rw [← henv]; rfl
    have hk : ∀ n, env.kindOf n = fd.scope.names.lookup n := fun n => by unfold Env.kindOf; rw [hsc]
    have keep := x.toInCall.keep
    have hmu : ∀ b, Mu env fd.scope none b → s.heap.objs.size ≤ b := fun b hm => by
      rcases hm with rfl | ⟨n, _, q⟩ | q
      · rw [hL]; exact Nat.le_refl _
      · have := x.above n b (mem_of_lookup q); rw [hL] at this; exact Nat.le_of_lt this
      · cases q
    have hnd : (((xs.map Str.ofString).zip vs).map (·.1)).Nodup := by rw [zip_fst hvl]; exact F.nodup
    have E : EnvAt env fd.scope s₁.heap (argσ xs vs) := by
      refine ⟨hsc, F.kind, by rw [← henv]; exact F.glob, by rw [← henv]; exact F.blt, ⟨_, x.toInCall.ns, fun y v hy hl => ?_⟩, fun n hn => ?_, fun n n' k h1 h2 => name_of_addr x.apart (mem_of_lookup h1) (mem_of_lookup h2), fun y v hy => ?_⟩
      · exact bindL_get hnd (zip_mem (argσ_mem hy)) ((hk _).trans hl)
      · have hn' : fd.scope.names.lookup n = some .cell := by
          rcases hn with q | q
          · exact q
          · exact absurd rfl (F.nofree _ (mem_of_lookup q))
        obtain ⟨k, hk'⟩ := hcellOf n hn'
        rw [← hcl] at hk'
        refine ⟨k, _, hk', x.cell n k hk', fun y v e hy => ?_⟩
        subst e
        exact bindC_get hnd (zip_mem (argσ_mem hy)) (by rw [hk, hn']; decide)
      · have hm : y ∈ xs := (List.of_mem_zip (argσ_mem hy)).1
        rcases F.kinds y hm with q | q
        · exact .inl q
        · exact .inr (.inl q)
    have X : StA c env fd.scope Y (argσ xs ds) none 0 (argσ xs vs) s₁ :=
      ⟨fun b ob e => keep b ob (hb b ob e), fun b hm => by
        cases e : c.base.get? b with
        | none => rfl
        | some ob => exact absurd (Heap.lt_size (hb b ob e)) (Nat.not_lt.mpr (hmu b hm)), E, hY.keeps keep, argσ_rep (hv.keeps keep)⟩
    obtain ⟨h₁, t₁, rfl⟩ := x.toInCall.same
    refine weak (h.go env Y 0 _ _ _ (R.deeper) X) fun f s' P => ?_
    obtain ⟨v, e, hw⟩ := P.flow
    subst e
    refine ⟨?_, hw⟩
    obtain ⟨h', t', rfl, k'⟩ := P.kp
    exact ⟨h', t', rfl, fun b ob e => k' b ob (keep b ob e) fun hm => absurd (Heap.lt_size e) (Nat.not_lt.mpr (hmu b hm))⟩
end
end Mine

end
section
open PySem PySem.W PySem.Calls PyProof.Rows PySem.SeqAt Builtin.Str
set_option linter.unusedVariables false
set_option linter.unusedSimpArgs false
namespace Mine
local macro_rules | `(tactic| omega) => `(tactic| lia)

def Idx (c : Cx) (d₁ d₂ d : D) : Prop := ∀ Y A s v₁ v₂, Pre c Y A s → Rep s.heap Y d₁ v₁ → Rep s.heap Y d₂ v₂ →
  (∃ T id, typeLookup (.type T) "__getitem__" = pure (some (.builtin id)) ∧ s.TypeIs v₁ T) ∧ wpAny c.M A (getItem v₁ v₂) (Gives Y d s) noE s
/-- a part of a slice -/
def PartR (p : Option Int) (v : Value) : Prop := match p with | Option.none => v = .none | some i => ∃ t, v = .int i t
structure EvP (c : Cx) (r : Nat) (sc : Scope) (σ : String → Option D) (e : Option Expr) (p : Option Int) : Prop where
  go : ∀ env Y val A s, Room A r → At c env sc Y σ val s → wpAny c.M A (evalPart e env) (fun v s' => PartR p v ∧ Kp s s') noE s
def pickD {α : Type} (ds : List α) (lo hi : Option Int) : List α := (sliceRange (sliceBounds lo hi Option.none ds.length).1 (sliceBounds lo hi Option.none ds.length).2.1 (sliceBounds lo hi Option.none ds.length).2.2).filterMap (ds[·]?)

section
variable {c : Cx} {r : Nat} {sc : Scope} {σ : String → Option D}

theorem Ev.sub {value slice : Expr} {pos : Pos} {d₁ d₂ d : D} (hr : 20 ≤ r) (h₁ : Ev c r sc σ value d₁) (h₂ : Ev c r sc σ slice d₂) (h : Idx c d₁ d₂ d)
    (hs : ∀ o i, subscripted slice false o i = operate [o, i] (getItem o i) := by intros; rfl) : Ev c r sc σ (.Subscript value slice pos) d := ⟨fun env Y val A s R X => by
  refine Subscript_ (weak (h₁.go env Y val A s R X) fun o s₁ g₁ => weak (h₂.go env Y val A s₁ R (X.keeps g₁.1)) fun i s₂ g₂ => ?_)
  obtain ⟨⟨T, id, hl, hT⟩, hg⟩ := h Y A s₂ o i (((X.keeps g₁.1).keeps g₂.1).pre (R.le hr)) (g₁.2.keeps g₂.1.k) g₂.2
  unfold subscriptTail
  refine wpAny_bind ?_
  rw [getitemInPython_of_ne hT.not_modules]
  refine wpAny_bind (wpAny_specialOf hT hl ?_)
  have fin : wpAny c.M A (subscripted slice false o i) (fun r s₃ => wpAny c.M A (letTemporaryGo value o r >>= fun _ => pure r) (Gives Y d s) noE s₃) noE s₂ := by
    rw [hs]
    exact wpAny_operating (weak hg fun v s₃ g => wpAny_bind (wpAny_letTemporaryGo (wpAny_pure ((g.trans g₂.1).trans g₁.1))))
  first
    | exact wpAny_pure (wpAny_bind fin)
    | exact wpAny_bind (wpAny_pure (wpAny_bind fin))
    | exact wpAny_bind fin⟩

theorem Idx.list {ds : List D} {k : Int} {d : D} (h0 : 0 ≤ k) (hk : k < 2 ^ 63) (hd : ds[k.toNat]? = some d) : Idx c (.list ds) (.int k) d := fun Y A s v₁ v₂ P x y => by
  obtain ⟨a, vs, rfl, ha, hl, hv⟩ := rList x
  obtain ⟨t, rfl⟩ := rInt y
  obtain ⟨v, hv', hr⟩ := hv.get hd
  exact ⟨⟨_, _, list_getitem_lookup, hl.isList.typeIs⟩, wpAny_getItem_list hl.isList h0 hk (by rw [← Array.getElem?_toList]; exact hv') ⟨Kp.rfl', hr⟩⟩
theorem Idx.listNeg {ds : List D} {k : Int} {d : D} (h0 : k < 0) (hk : -(2 ^ 63) ≤ k) (h1 : -(ds.length : Int) ≤ k) (hd : ds[(k + ds.length).toNat]? = some d) : Idx c (.list ds) (.int k) d := fun Y A s v₁ v₂ P x y => by
  obtain ⟨a, vs, rfl, ha, hl, hv⟩ := rList x
  obtain ⟨t, rfl⟩ := rInt y
  obtain ⟨v, hv', hr⟩ := hv.get hd
  have e : vs.size = ds.length := by have := hv.length; simpa using this
  exact ⟨⟨_, _, list_getitem_lookup, hl.isList.typeIs⟩, wpAny_getItem_list_neg hl.isList h0 (by rw [e]; exact h1) hk (by rw [e, ← Array.getElem?_toList]; exact hv') ⟨Kp.rfl', hr⟩⟩
theorem Idx.tup {ds : List D} {k : Int} {d : D} (h0 : 0 ≤ k) (hk : k < 2 ^ 63) (hd : ds[k.toNat]? = some d) : Idx c (.tup ds) (.int k) d := fun Y A s v₁ v₂ P x y => by
  obtain ⟨a, vs, rfl, ha, hl, hv⟩ := rTup x
  obtain ⟨t, rfl⟩ := rInt y
  obtain ⟨v, hv', hr⟩ := hv.get hd
  have hlt : k.toNat < vs.size := by
    rcases Nat.lt_or_ge k.toNat vs.toList.length with q | q
    · simpa using q
    · rw [List.getElem?_eq_none q] at hv'; cases hv'
  refine ⟨⟨_, _, slot_tuple_getitem.lookup, hl.typeIs⟩, getItem_tuple (j := k.toNat) hl (by omega) hk ?_ (by rw [← Array.getElem?_toList]; exact hv') ⟨Kp.rfl', hr⟩⟩
  unfold seqIndex?
  simp only [show ¬ k < 0 by omega, if_false]
  rw [if_pos (by simp; omega)]
theorem Idx.str {x : Str} {k : Int} {n : Nat} (hk : -(2 ^ 63) ≤ k) (hk' : k < 2 ^ 63) (hd : (seqIndex? k x.length).bind (x.cps[·]?) = some n) : Idx c (.str x) (.int k) (.str ⟨#[n]⟩) := fun Y A s v₁ v₂ P h y => by
  obtain ⟨t, rfl⟩ := rStr h
  obtain ⟨u, rfl⟩ := rInt y
  exact ⟨⟨_, _, F.slot_str_getitem.lookup, typeIs_str _ x t⟩, getItem_str (by simp; omega) hd gStr⟩

theorem EvP.no : EvP c r sc σ Option.none Option.none := ⟨fun env Y val A s R X => wpAny_pure ⟨rfl, Kp.rfl'⟩⟩
theorem EvP.int {e i} (h : Ev c r sc σ e (.int i)) : EvP c r sc σ (some e) (some i) := ⟨fun env Y val A s R X => weak (h.go env Y val A s R X) fun v s' g => ⟨rInt g.2, g.1⟩⟩
theorem EvP.none {e} (h : Ev c r sc σ e .none) : EvP c r sc σ (some e) Option.none := ⟨fun env Y val A s R X => weak (h.go env Y val A s R X) fun v s' g => ⟨rNone g.2, g.1⟩⟩
theorem PartR.isPart {p v} (h : PartR p v) : IsPart v p := by
  cases p with
  | none => cases h; exact .none
  | some i => obtain ⟨t, rfl⟩ := h; exact .int i t
theorem PartR.val {p v} (h : PartR p v) : ∃ q : Option (Int × Tok), v = partValue q ∧ q.map (·.1) = p := by
  cases p with
  | none => cases h; exact ⟨Option.none, rfl, rfl⟩
  | some i => obtain ⟨t, rfl⟩ := h; exact ⟨some (i, t), rfl, rfl⟩

theorem RepL.pick {h : Heap} {Y : List Addr} {ds : List D} {vs : List Value} (x : RepL h Y ds vs) : ∀ l : List Nat, RepL h Y (l.filterMap (ds[·]?)) (l.filterMap (vs[·]?))
  | [] => by simp [RepL]
  | i :: l => by
    have hl := x.length
    by_cases q : i < ds.length
    · obtain ⟨v, hv, hr⟩ := x.get (i := i) (d := ds[i]) (List.getElem?_eq_getElem q)
      simp only [List.filterMap_cons, hv, List.getElem?_eq_getElem q, RepL]
      exact ⟨v, _, rfl, hr, x.pick l⟩
    · simp only [List.filterMap_cons, List.getElem?_eq_none (Nat.le_of_not_lt q), List.getElem?_eq_none (show vs.length ≤ i by omega)]
      exact x.pick l

theorem Ev.sliceList {value : Expr} {lower upper : Option Expr} {p pos : Pos} {ds : List D} {lo hi : Option Int} (h₁ : Ev c r sc σ value (.list ds)) (h₂ : EvP c r sc σ lower lo) (h₃ : EvP c r sc σ upper hi) (hn : ds.length ≤ sizeLine)
    (ht : ∀ o r, letTemporaryGo value o r = pure () := by intro _ _; rfl) :
    Ev c r sc σ (.Subscript value (.Slice lower upper Option.none p) pos) (.list (pickD ds lo hi)) := ⟨fun env Y val A s R X => by
  refine wpAny_Subscript_list_slice (weak (h₁.go env Y val A s R X) fun o s₁ g₁ => weak (h₂.go env Y val A s₁ R (X.keeps g₁.1)) fun v₂ s₂ g₂ => weak (h₃.go env Y val A s₂ R ((X.keeps g₁.1).keeps g₂.2)) fun v₃ s₃ g₃ => ?_) ht
  obtain ⟨a, vs, rfl, ha, hl, hv⟩ := rList ((g₁.2.keeps g₂.2.k).keeps g₃.2.k)
  have e : vs.size = ds.length := by have := hv.length; simpa using this
  have X₃ := ((X.keeps g₁.1).keeps g₂.2).keeps g₃.2
  refine ⟨a, vs, lo, hi, rfl, hl.isList, by omega, g₂.1.isPart, g₃.1.isPart, ?_⟩
  have key : Gives Y (.list (pickD ds lo hi)) { s₃ with heap := s₃.heap.push { cls := .type "slice", data := .fields #[v₂, v₃, .none] } } (.ref (s₃.heap.objs.size + 1))
      { s₃ with heap := (s₃.heap.push { cls := .type "slice", data := .fields #[v₂, v₃, .none] }).push { cls := .type "list", data := .seq (slicePick vs lo hi Option.none) } } := by
    have e2 : slicePick vs lo hi Option.none = (((sliceRange (sliceBounds lo hi Option.none ds.length).1 (sliceBounds lo hi Option.none ds.length).2.1 (sliceBounds lo hi Option.none ds.length).2.2).filterMap (vs.toList[·]?))).toArray := by
      unfold slicePick; rw [e]; simp
    rw [e2]
    have := gList (s := { s₃ with heap := s₃.heap.push { cls := .type "slice", data := .fields #[v₂, v₃, .none] } }) ((hv.pick (sliceRange (sliceBounds lo hi Option.none ds.length).1 (sliceBounds lo hi Option.none ds.length).2.1 (sliceBounds lo hi Option.none ds.length).2.2)).keeps fun b o e => Heap.get?_push_of_some _ e) (X₃.live.keeps fun b o e => Heap.get?_push_of_some _ e)
    simp only [Heap.size_push] at this
    exact this
  exact (((key.trans (Kp.push _)).trans g₃.2).trans g₂.2).trans g₁.1⟩

theorem Ev.sliceStr {value : Expr} {lower upper : Option Expr} {p pos : Pos} {x : Str} {lo hi : Option Int} (h₁ : Ev c r sc σ value (.str x)) (h₂ : EvP c r sc σ lower lo) (h₃ : EvP c r sc σ upper hi)
    (hn : x.length ≤ sizeLine)
    (ht : ∀ o r, letTemporaryGo value o r = pure () := by intro _ _; rfl) :
    Ev c r sc σ (.Subscript value (.Slice lower upper Option.none p) pos) (.str (Txt.slice x lo hi)) := ⟨fun env Y val A s R X => by
  refine wpAny_Subscript_str_slice (weak (h₁.go env Y val A s R X) fun o s₁ g₁ => weak (h₂.go env Y val A s₁ R (X.keeps g₁.1)) fun v₂ s₂ g₂ => weak (h₃.go env Y val A s₂ R ((X.keeps g₁.1).keeps g₂.2)) fun v₃ s₃ g₃ => ?_) ht
  obtain ⟨t, rfl⟩ := rStr g₁.2
  obtain ⟨l, rfl, hl⟩ := g₂.1.val
  obtain ⟨u, rfl, hu⟩ := g₃.1.val
  refine ⟨x, t, l, u, rfl, rfl, rfl, ?_⟩
  have k : Kp s { s₃ with heap := s₃.heap.push { cls := .type "slice", data := .fields #[partValue l, partValue u, .none] } } := ((g₁.1.trans g₂.2).trans g₃.2).trans (Kp.push _)
  have hp : slicePicked x l u Option.none = strSliceIndices lo hi 1 x.length := by unfold slicePicked; rw [hl, hu]; rfl
  unfold sliceMade
  rw [hp]
  have hle := Txt.slice_le x lo hi
  unfold Txt.slice at hle ⊢
  by_cases q : ((1 : Int) == 1 && (strSliceIndices lo hi 1 x.length).length == x.length) = true
  · rw [if_pos (by simpa using q), if_pos q]
    exact ⟨k, by simp only [Rep]; exact ⟨_, rfl⟩⟩
  · rw [if_neg (by simpa using q), if_neg q]
    rw [if_neg q] at hle
    exact ⟨Nat.le_trans hle hn, k.trans (Kp.tok _), by simp only [Rep]; exact ⟨_, rfl⟩⟩⟩

theorem Ev.orT {x y : Expr} {pos : Pos} {d : D} (hr : 20 ≤ r) (h : Ev c r sc σ x d) (ht : Tru c d true) : Ev c r sc σ (.BoolOp .Or [x, y] pos) d := ⟨fun env Y val A s R X =>
  wpAny_Or2 (weak (h.go env Y val A s R X) fun v s₁ g => weak (ht Y A s₁ v ((X.keeps g.1).pre (R.le hr)) g.2) fun b s₂ ⟨e, k⟩ => by subst e; exact ⟨g.1.trans k, g.2.keeps k.k⟩)⟩
theorem Ev.orF {x y : Expr} {pos : Pos} {d d' : D} (hr : 20 ≤ r) (h : Ev c r sc σ x d) (ht : Tru c d false) (h' : Ev c r sc σ y d') : Ev c r sc σ (.BoolOp .Or [x, y] pos) d' := ⟨fun env Y val A s R X =>
  wpAny_Or2 (weak (h.go env Y val A s R X) fun v s₁ g => weak (ht Y A s₁ v ((X.keeps g.1).pre (R.le hr)) g.2) fun b s₂ ⟨e, k⟩ => by
    subst e; exact weak (h'.go env Y val A s₂ R ((X.keeps g.1).keeps k)) fun v s₃ g' => (g'.trans k).trans g.1)⟩
/-- all of the tests / any of the tests -/
inductive TrB (c : Cx) (r : Nat) (sc : Scope) (σ : String → Option D) : BoolOp → List Expr → Bool → Prop
  | andNil : TrB c r sc σ .And [] true
  | andF {e es} : Tr c r sc σ e false → TrB c r sc σ .And (e :: es) false
  | andT {e es b} : Tr c r sc σ e true → TrB c r sc σ .And es b → TrB c r sc σ .And (e :: es) b
  | orNil : TrB c r sc σ .Or [] false
  | orT {e es} : Tr c r sc σ e true → TrB c r sc σ .Or (e :: es) true
  | orF {e es b} : Tr c r sc σ e false → TrB c r sc σ .Or es b → TrB c r sc σ .Or (e :: es) b
theorem TrB.go {op es b} (h : TrB c r sc σ op es b) : ∀ env Y val A s, Room A r → At c env sc Y σ val s → wpAny c.M A (allTrue op es env) (fun b' s' => b' = b ∧ Kp s s') noE s := by
  induction h with
  | andNil => exact fun env Y val A s R X => wpAny_allTrue_And_nil ⟨rfl, Kp.rfl'⟩
  | andF h => exact fun env Y val A s R X => wpAny_allTrue_And_cons (weak (h.go env Y val A s R X) fun b s₁ ⟨e, k⟩ => by subst e; exact ⟨rfl, k⟩)
  | andT h hs ih => exact fun env Y val A s R X => wpAny_allTrue_And_cons (weak (h.go env Y val A s R X) fun b s₁ ⟨e, k⟩ => by
      subst e; exact weak (ih env Y val A s₁ R (X.keeps k)) fun b' s₂ ⟨e, k'⟩ => ⟨e, k.trans k'⟩)
  | orNil => exact fun env Y val A s R X => wpAny_allTrue_Or_nil ⟨rfl, Kp.rfl'⟩
  | orT h => exact fun env Y val A s R X => wpAny_allTrue_Or_cons (weak (h.go env Y val A s R X) fun b s₁ ⟨e, k⟩ => by subst e; exact ⟨rfl, k⟩)
  | orF h hs ih => exact fun env Y val A s R X => wpAny_allTrue_Or_cons (weak (h.go env Y val A s R X) fun b s₁ ⟨e, k⟩ => by
      subst e; exact weak (ih env Y val A s₁ R (X.keeps k)) fun b' s₂ ⟨e, k'⟩ => ⟨e, k.trans k'⟩)
theorem Tr.bool {op es pos b} (h : TrB c r sc σ op es b) : Tr c r sc σ (.BoolOp op es pos) b := ⟨fun env Y val A s R X => wpAny_isTrue_BoolOp (h.go env Y val A s R X)⟩

def isN : D → Bool
  | .none => true
  | .raw v => v == .none
  | _ => false
theorem Rep.isNone {h : Heap} {Y : List Addr} {d : D} {v : Value} (x : Rep h Y d v) : (v == .none) = isN d := by
  cases d with
  | none => obtain rfl := rNone x; rfl
  | bool b => obtain rfl := rBool x; rfl
  | int i => obtain ⟨t, rfl⟩ := rInt x; rfl
  | str i => obtain ⟨t, rfl⟩ := rStr x; rfl
  | bytes i => simp only [Rep] at x; obtain ⟨t, rfl⟩ := x; rfl
  | list ds => obtain ⟨a, vs, rfl, _⟩ := rList x; rfl
  | tup ds => obtain ⟨a, vs, rfl, _⟩ := rTup x; rfl
  | range a b e => simp only [Rep] at x; obtain ⟨a, t, u, w, rfl, _⟩ := x; rfl
  | raw u => simp only [Rep] at x; subst x; rfl
theorem Cop.isNot {d : D} : Cop c .IsNot d .none (!isN d) := fun Y A s v₁ v₂ P x y => by
  obtain rfl := rNone y
  exact isNot_none ⟨by rw [x.isNone], Kp.rfl'⟩

theorem all_range_eq {a b : List Int} : ∀ (n : Nat), n = a.length → n = b.length → (List.range n).all (fun j => a.getD j 0 == b.getD j 0) = (a == b) := by
  intro n ha hb
  rw [Bool.eq_iff_iff]
  simp only [List.all_eq_true, List.mem_range, beq_iff_eq]
  constructor
  · intro h
    apply List.ext_getElem (by omega)
    intro i h1 h2
    have := h i (by omega)
    simpa [List.getD_eq_getElem?_getD, List.getElem?_eq_getElem h1, List.getElem?_eq_getElem h2] using this
  · rintro rfl i _; rfl

theorem RepL.eqAt {h : Heap} {Y : List Addr} {is js : List Int} {vs ws : Array Value} (x : RepL h Y (is.map .int) vs.toList) (y : RepL h Y (js.map .int) ws.toList) (A : Around) (s : Shared) (j : Nat) (h1 : j < vs.size) (h2 : j < ws.size) :
    EqAt A s vs[j] ws[j] (is.getD j 0 == js.getD j 0) := by
  have e1 : is.length = vs.size := by have := x.length; simpa using this.symm
  have e2 : js.length = ws.size := by have := y.length; simpa using this.symm
  obtain ⟨v, hv, hr⟩ := x.get (i := j) (d := .int (is[j]'(by omega))) (by simp [List.getElem?_eq_getElem (show j < is.length by omega)])
  obtain ⟨u, hu, hq⟩ := y.get (i := j) (d := .int (js[j]'(by omega))) (by simp [List.getElem?_eq_getElem (show j < js.length by omega)])
  obtain ⟨t, rfl⟩ := rInt hr
  obtain ⟨t', rfl⟩ := rInt hq
  rw [Array.getElem?_toList, Array.getElem?_eq_getElem h1] at hv
  rw [Array.getElem?_toList, Array.getElem?_eq_getElem h2] at hu
  cases hv' : vs[j]; all_goals rw [hv'] at hv; cases hv
  cases hu' : ws[j]; all_goals rw [hu'] at hu; cases hu
  rw [List.getD_eq_getElem?_getD, List.getD_eq_getElem?_getD, List.getElem?_eq_getElem (show j < is.length by omega), List.getElem?_eq_getElem (show j < js.length by omega)]
  exact (MeetsSeq.EqGives.int _ _ _ _).at A s

theorem Cop.eqInts {is js : List Int} : Cop c .Eq (.list (is.map .int)) (.list (js.map .int)) (is == js) := fun Y A s v₁ v₂ P x y => by
  obtain ⟨a, vs, rfl, _, hl, hv⟩ := rList x
  obtain ⟨b, ws, rfl, _, hk, hw⟩ := rList y
  have e1 : is.length = vs.size := by have := hv.length; simpa using this.symm
  have e2 : js.length = ws.size := by have := hw.length; simpa using this.symm
  by_cases q : vs.size = ws.size
  · refine eq_listAt hl.isList hk.isList q P.room.units (fun j h1 h2 => hv.eqAt hw _ _ j h1 h2) ⟨?_, Kp.rfl'⟩
    rw [all_range_eq vs.size (by omega) (by omega)]
  · refine eq_list_lengthsAt hl.isList hk.isList (by simpa using q) P.room.units ⟨?_, Kp.rfl'⟩
    have : (is == js) = false := by rw [beq_eq_false_iff_ne]; rintro rfl; omega
    rw [this]
theorem Cop.neInts {is js : List Int} : Cop c .NotEq (.list (is.map .int)) (.list (js.map .int)) (is != js) := fun Y A s v₁ v₂ P x y => by
  obtain ⟨a, vs, rfl, _, hl, hv⟩ := rList x
  obtain ⟨b, ws, rfl, _, hk, hw⟩ := rList y
  have e1 : is.length = vs.size := by have := hv.length; simpa using this.symm
  have e2 : js.length = ws.size := by have := hw.length; simpa using this.symm
  by_cases q : vs.size = ws.size
  · refine RcNeAt.lists hl.isList hk.isList q P.room.units (fun j h1 h2 => hv.eqAt hw _ _ j h1 h2) _ _ _ _ ⟨?_, Kp.rfl'⟩
    rw [all_range_eq vs.size (by omega) (by omega)]; rfl
  · refine RcNeAt.lists_lengths hl.isList hk.isList (by simpa using q) P.room.units _ _ _ _ ⟨?_, Kp.rfl'⟩
    have : (is != js) = true := by rw [bne_iff_ne]; rintro rfl; omega
    rw [this]
theorem Cop.neTup {is js : List Int} (h : is.length = js.length) : Cop c .NotEq (.tup (is.map .int)) (.tup (js.map .int)) (is != js) := fun Y A s v₁ v₂ P x y => by
  obtain ⟨a, vs, rfl, _, hl, hv⟩ := rTup x
  obtain ⟨b, ws, rfl, _, hk, hw⟩ := rTup y
  have e1 : is.length = vs.size := by have := hv.length; simpa using this.symm
  have e2 : js.length = ws.size := by have := hw.length; simpa using this.symm
  refine RcNeAt.tuples hl hk P.room.units (fun j h1 h2 => hv.eqAt hw _ _ j h1 h2) _ _ _ _ ⟨?_, Kp.rfl'⟩
  have e : vs.size = ws.size := by omega
  rw [show min vs.size ws.size = vs.size by omega, all_range_eq vs.size (by omega) (by omega)]
  simp [e, bne]

def mulS (x : Str) (n : Nat) : Str := ⟨(List.replicate n x.cps).foldl (· ++ ·) #[]⟩
theorem foldl_len : ∀ (l : List (Array Nat)) (a : Array Nat), (l.foldl (· ++ ·) a).size = a.size + (l.map Array.size).sum
  | [], a => by simp
  | x :: l, a => by simp [foldl_len l]; omega
theorem mulS_length (x : Str) (n : Nat) : (mulS x n).length = n * x.length := by
  show ((List.replicate n x.cps).foldl (· ++ ·) #[]).size = _
  rw [foldl_len]
  simp [Str.length]
theorem mulS_one (x : Str) : mulS x 1 = x := by simp [mulS]
theorem mulS_nil (x : Str) (n : Nat) (h : x.length = 0) : mulS x n = x := by
  have e : x.cps = #[] := Array.eq_empty_of_size_eq_zero h
  have h2 : (mulS x n).cps = #[] := Array.eq_empty_of_size_eq_zero (by have := mulS_length x n; rw [h, Nat.mul_zero] at this; exact this)
  cases x; cases hm : mulS _ n
  simp_all
theorem Bop.mulStr {x : Str} {n : Int} (h0 : 0 ≤ n) (h1 : n < 2 ^ 20) (h2 : x.length ≤ 4) : Bop c .Mult (.str x) (.int n) (.str (mulS x n.toNat)) := fun Y A s v₁ v₂ P h y => by
  obtain ⟨t, rfl⟩ := rStr h
  obtain ⟨u, rfl⟩ := rInt y
  have hsz : x.length * n.toNat ≤ sizeLine := by
    have : n.toNat ≤ 2 ^ 20 := by omega
    calc x.length * n.toNat ≤ 4 * 2 ^ 20 := Nat.mul_le_mul h2 this
      _ ≤ sizeLine := by decide
  refine PySem.P.mul_str (by simp; omega) (fun _ _ => ?_) (fun _ _ => ?_) ?_
  · have : (x.length : Int) ≤ (2 ^ 63 - 1) / n := by
      rw [Int.le_ediv_iff_mul_le (by omega)]
      calc (x.length : Int) * n ≤ 4 * 2 ^ 20 := Int.mul_le_mul (by omega) (by omega) h0 (by decide)
        _ ≤ 2 ^ 63 - 1 := by decide
    omega
  · simp [Builtin.Str.tooLong]; exact hsz
  · by_cases q : n < 1
    · have e : n = 0 := by omega
      subst e
      rw [if_pos (by decide)]
      refine ⟨by decide, Kp.tok _, ?_⟩
      simp only [Rep]; exact ⟨_, rfl⟩
    · rw [if_neg q]
      by_cases q2 : (n == 1 || x.length == 0) = true
      · rw [if_pos q2]
        refine ⟨Kp.rfl', ?_⟩
        have e : mulS x n.toNat = x := by
          simp only [Bool.or_eq_true, beq_iff_eq] at q2
          rcases q2 with rfl | q2
          · exact mulS_one x
          · exact mulS_nil x _ q2
        rw [e]; simp only [Rep]; exact ⟨_, rfl⟩
      · rw [if_neg q2]
        exact ⟨by have := mulS_length x n.toNat; unfold mulS at this; rw [this, Nat.mul_comm]; exact hsz, gStr⟩
theorem repD_flat {h : Heap} {Y : List Addr} {ds : List D} {vs : List Value} (x : RepL h Y ds vs) : ∀ n : Nat, RepL h Y (List.replicate n ds).flatten (List.replicate n vs).flatten
  | 0 => by simp [RepL]
  | n + 1 => by simp only [List.replicate_succ, List.flatten_cons]; exact x.append (repD_flat x n)
theorem Bop.mulList {ds : List D} {n : Int} (h0 : 0 ≤ n) (h1 : n < 2 ^ 20) (h2 : ds.length ≤ 4) : Bop c .Mult (.list ds) (.int n) (.list (List.replicate n.toNat ds).flatten) := fun Y A s v₁ v₂ P h y => by
  obtain ⟨l, vs, rfl, hY, ⟨k, ho⟩, hv⟩ := rList h
  obtain ⟨u, rfl⟩ := rInt y
  have hlen : vs.size = ds.length := by have := hv.length; simpa using this
  have hsz' : vs.size * n.toNat ≤ 2 ^ 24 := by
    have : n.toNat ≤ 2 ^ 20 := by omega
    calc vs.size * n.toNat ≤ 4 * 2 ^ 20 := Nat.mul_le_mul (by omega) this
      _ ≤ 2 ^ 24 := by decide
  refine wpAny_binaryOp_repeat_ref (T := "list") (U := "int") (by decide) ⟨_, ho, rfl⟩ (fun s' => typeIs_int s' n u) noFill_list_mul F.fills_int_mul F.slot_int_rmul repeat_list F.slot_int_index.lookup
    (call_meets F.slot_int_rmul (typeIs_int s n u) F.entry_int_rmul (F.args_int_rmul_2 _ _) (lm_int_rmul_list_any n u l vs k _ _)
      ⟨ho, rfl, ⟨_, ho, rfl⟩, call_meets F.slot_list_mul ⟨_, ho, rfl⟩ F.entry_list_mul (F.args_list_mul_2 _ _)
        (lm_list_mul_any l vs k _ _ n u (by simp [Builtin.List.listFitsIndex]; omega) (by omega) (by simp [Builtin.List.listTooLong, sizeLine]; omega))
        ⟨ho, ?_⟩⟩)
  have := gList (s := s) (repD_flat hv n.toNat) P.live
  rw [listMul_foldl_if]
  exact this
end
end Mine

end
section
open PySem PySem.W PySem.Calls PyProof.Rows
set_option linter.unusedVariables false
set_option linter.unusedSimpArgs false
namespace Mine
local macro_rules | `(tactic| omega) => `(tactic| lia)

theorem setItem_plain {prog : Program} {w : World} {A : Around} {E : Value → Shared → Prop} {s : Shared} {l : Addr} {items : Array Value} {k : Int} {t : Tok} {v : Value} {Q : Unit → Shared → Prop} (hl : s.heap.PlainList l items)
    (h0 : 0 ≤ k) (hfit : k < 2 ^ 63) (hn : k < items.size)
    (hQ : ∀ h', h'.PlainList l (items.setIfInBounds k.toNat v) → Heap.SameBut l s.heap h' → Q () { s with heap := h' }) :
    wpAny (model prog w) A (setItem (.ref l) (.int k t) v) Q E s := by
  obtain ⟨n, ho⟩ := id hl
  have hT := hl.isList.typeIs
  unfold setItem
  try with_reducible refine wpAny_holding ?_
  first | refine wpAny_bind (wpAny_pure ?_) | skip
  refine wpAny_bind (wpAny_sequenceKey hT (by decide) ?_)
  refine wpAny_bind (wpAny_callSpecial?_slot (name := Str.ofString "__setitem__") hT slot_list_setitem
    (wpAny_call_entry slot_list_setitem hT entry_list_setitem ?_ (args_list_setitem _ _ _)))
  show wpAny _ _ (Builtin.List.listSubscript? (.int k t) >>= _) _ _ s
  refine wpAny_bind (wpAny_listSubscript_int (fitsIndex_of h0 hfit) ?_)
  clear hfit
  obtain ⟨j, rfl⟩ := Int.eq_ofNat_of_zero_le h0
  have hj : j < items.size := by omega
  have hx' : items[j]? = some items[j] := Array.getElem?_eq_getElem hj
  show wpAny _ _ ((seqItemAt l j >>= fun r => pure (r.map (j, ·))) >>= _) _ _ s
  refine wpAny_bind (wpAny_bind (wpAny_seqItemAt ho rfl (wpAny_pure ?_)))
  rw [hx']
  show wpAny _ _ (setSeqItemAt l j v >>= _) _ _ s
  have e : Obj.mapSeq (·.setIfInBounds j v) { cls := .type "list", data := .seq items n } = { cls := .type "list", data := .seq (items.setIfInBounds j v) n } := by simp [Obj.mapSeq]
  have hfin : (s.heap.update l (Obj.mapSeq (·.setIfInBounds j v))).PlainList l (items.setIfInBounds j v) :=
    ⟨n, by rw [Heap.get?_update_self _ ho (by rw [e]; rfl), e]⟩
  refine wpAny_bind (wpAny_setSeqItemAt ho rfl ?_)
  first
    | exact wpAny_bind (wpAny_pure (wpAny_pure ⟨.none, rfl, wpAny_pure (hQ _ hfin (Heap.SameBut.update ..))⟩))
    | exact wpAny_pure ⟨.none, rfl, wpAny_pure (hQ _ hfin (Heap.SameBut.update ..))⟩

section
variable {c : Cx} {r : Nat} {sc : Scope} {σ σ' : String → Option D} {o o' : Option (String × List D)} {fl : Fl}

theorem ldVal {env Y val A x v} {s : Shared} {Q : Value → Shared → Prop} (X : At c env sc Y σ val s) (hv : val x = some v) (h : Q v s) : wpAny c.M A (loadName env (Str.ofString x)) Q noE s := by
  have hk : env.scope.kind = .function := X.env.scope ▸ X.env.kind
  rcases X.env.kinds x v hv with q | q | ⟨q, qn⟩
  · obtain ⟨m, hm, hq⟩ := X.env.loc
    exact wpAny_loadName_local hk (by unfold Env.kindOf; rw [X.env.scope]; exact q) hm (hq x v hv q) h
  · obtain ⟨ca, u, h1, h2, h3⟩ := X.env.cel _ (.inl q)
    exact wpAny_loadName_cell hk (by unfold Env.kindOf; rw [X.env.scope]; exact q) h1 (h3 x v rfl hv ▸ h2) h
  · obtain ⟨ca, u, h1, h2, h3⟩ := X.env.cel _ (.inr q)
    exact wpAny_loadName_free hk (by unfold Env.kindOf; rw [X.env.scope]; exact q) h1 (h3 x v rfl hv ▸ h2) h qn

theorem EnvAt.offSeq {env : Env} {val : String → Option Value} {h h' : Heap} (X : EnvAt env sc h val) {a : Addr} {ob : Obj} (eo : h.get? a = some ob) (hs : SeqO ob) (k : ∀ b o, b ≠ a → h.get? b = some o → h'.get? b = some o) : EnvAt env sc h' val := by
  refine ⟨X.scope, X.kind, X.glob, X.blt, ?_, fun n hn => ?_, X.inj, X.kinds⟩
  · obtain ⟨m, ⟨oL, es, ep, eL, r⟩, q⟩ := X.loc
    refine ⟨m, ⟨oL, es, ep, k _ _ ?_ eL, r⟩, q⟩
    rintro rfl
    exact X.loc_notSeq eo hs
  · obtain ⟨ca, u, a1, ⟨oc, ec, r⟩, a3⟩ := X.cel n hn
    refine ⟨ca, u, a1, ⟨oc, k _ _ ?_ ec, r⟩, a3⟩
    rintro rfl
    exact cell_notSeq ⟨oc, ec, r⟩ eo hs
theorem StA.setOwn {env Y a val x ds ds'} {s : Shared} {h' : Heap} {t : Nat} {vs' : Array Value} (X : StA c env sc Y σ (some (x, ds)) a val s) (hl : h'.PlainList a vs') (k : ∀ b o, b ≠ a → s.heap.get? b = some o → h'.get? b = some o)
    (hv : RepL s.heap (a :: Y) ds' vs'.toList) : StA c env sc Y σ (some (x, ds')) a val { s with heap := h', toks := t } := by
  obtain ⟨ha, hb, h1, h2, vs, ⟨n, ho⟩, h4⟩ := X.ok
  have k2 : ∀ b o, s.heap.get? b = some o → SeqO o → b ∉ a :: Y → h'.get? b = some o := fun b o e _ q => k b o (fun z => q (z ▸ .head _)) e
  exact ⟨fun b ob e => k b ob (by rintro rfl; rw [hb] at e; cases e) (X.base b ob e), X.mine, X.env.offSeq ho (.inl ⟨_, _, rfl⟩) k, fun b hb' => let ⟨ob, e⟩ := X.live b hb'; ⟨ob, k b ob (by rintro rfl; exact ha hb') e⟩,
    ha, hb, fun y d e => let ⟨v, a1, a2⟩ := h1 y d e; ⟨v, a1, a2.mono k2 fun _ _ _ q => q⟩, h2, vs', hl, hv.mono k2 fun _ _ _ q => q⟩

theorem StA.own {env Y a val x ds} {s : Shared} (X : StA c env sc Y σ (some (x, ds)) a val s) : val x = some (.ref a) ∧ ∃ vs, s.heap.PlainList a vs ∧ RepL s.heap (a :: Y) ds vs.toList := by
  obtain ⟨ha, hb, h1, h2, vs, h3, h4⟩ := X.ok; exact ⟨h2, vs, h3, h4⟩
theorem postOwn {env Y a val val' x ds ds'} {s s₁ : Shared} {h' : Heap} (X : StA c env sc Y σ (some (x, ds)) a val s) (k₁ : Kp s s₁) (hs : Heap.SameBut a s₁.heap h') (X' : StA c env sc Y σ' (some (x, ds')) a val' { s₁ with heap := h' }) :
    Post c env sc Y (some (x, ds)) a s .next σ' (some (x, ds')) .next { s₁ with heap := h' } := by
  refine ⟨?_, rfl, fun _ => ⟨a, val', fun _ => .inl ⟨by simp, rfl⟩, X'⟩⟩
  obtain ⟨h1, t1, rfl, k1⟩ := k₁
  exact ⟨h', t1, rfl, fun b ob e n => (hs.2 b fun q => n (.inr (.inr (by rw [q]; rfl)))).trans (k1 b ob e)⟩

theorem Ex1.append {x : String} {p ap pos epos : Pos} {e : Expr} {ds : List D} {d : D} (h : Ev c r sc σ e d) (hn : ds.length ≤ 2 ^ 20)
    (hd : (Str.ofString x == ("__debug__" : Str)) = false := by decide)
    (hi : ∀ env : Env, env.scope.kind = .function → interactive env = false := by intro env he; unfold interactive; simp [he])
    (hs : ∀ env, swapsWith (.Call (.Attribute (.Name (Str.ofString x) p) "append" ap) [e] [] pos) Option.none epos.line env = pure false := by intros; rfl)
    (hbase : ∀ env, attributeBase (.Name (Str.ofString x) p) "append" env (eval (.Name (Str.ofString x) p) env) = eval (.Name (Str.ofString x) p) env := by intros; rfl)
    (hfew : ∀ env, ((backTo pos (starEach [e] env)).all (fun x => !x.1) && (backToKw pos (keywordEach [] env)).all (fun x => x.1.isSome)
      && decide (([e] : List Expr).length + ([] : List Keyword).length + (if ([] : List Keyword).isEmpty then 0 else 1) < 30)) = true := by intros; rfl)
    (hline : (ap.endLine == pos.line) = true := by rfl)
    (htrees : ∀ env, backTo pos (starEach [e] env) = [(false, eval e env)] := by intros; rfl) :
    Ex1 c r sc σ (some (x, ds)) (.Expr (.Call (.Attribute (.Name (Str.ofString x) p) "append" ap) [e] [] pos) epos) .next σ (some (x, ds ++ [d])) := ⟨fun env Y a val A s R X => by
  refine wpAny_Expr_any (wpAny_Call_append (hbase env) (hfew env) hline (htrees env) (wpAny_Name (ldVal X.at' X.own.1 ?_) hd)) (hi env (X.env.scope ▸ X.env.kind)) (hs env)
  obtain ⟨vs, ⟨n, ho⟩, hv⟩ := X.own.2
  refine ⟨a, vs, rfl, ⟨_, n, ho, rfl, rfl, rfl⟩, weak (h.go env (a :: Y) val A s R X.at') fun v s₁ g => ?_⟩
  have hlen : vs.size = ds.length := by have := hv.length; simpa using this
  refine wpAny_list_append_plain ⟨n, g.1.k _ _ ho⟩ (fun h' hl' hsame => ?_) (by unfold sizeLine; omega)
  have X₁ := X.keeps g.1
  refine postOwn X g.1 hsame (X₁.setOwn hl' (fun b o n e => (hsame.2 b n).trans e) ?_)
  rw [Array.toList_push]
  exact (hv.keeps g.1.k).append (by simp only [RepL]; exact ⟨v, [], rfl, g.2, rfl⟩)⟩

theorem RepL.rev {h : Heap} {Y : List Addr} : ∀ {ds : List D} {vs : List Value}, RepL h Y ds vs → RepL h Y ds.reverse vs.reverse
  | [], _, x => by simp only [RepL] at x; subst x; simp [RepL]
  | d :: ds, _, x => by
    simp only [RepL] at x
    obtain ⟨v, r, rfl, hv, hr⟩ := x
    simp only [List.reverse_cons]
    exact hr.rev.append (by simp only [RepL]; exact ⟨v, [], rfl, hv, rfl⟩)
theorem Ex1.reverse {x : String} {p ap pos epos : Pos} {ds : List D} (hn : ds.length ≤ 2 ^ 20)
    (hd : (Str.ofString x == ("__debug__" : Str)) = false := by decide)
    (hi : ∀ env : Env, env.scope.kind = .function → interactive env = false := by intro env he; unfold interactive; simp [he])
    (hs : ∀ env, swapsWith (.Call (.Attribute (.Name (Str.ofString x) p) "reverse" ap) [] [] pos) Option.none epos.line env = pure false := by intros; rfl)
    (hbase : ∀ env, attributeBase (.Name (Str.ofString x) p) "reverse" env (eval (.Name (Str.ofString x) p) env) = eval (.Name (Str.ofString x) p) env := by intros; rfl)
    (hline : (ap.endLine == pos.line) = true := by rfl) :
    Ex1 c r sc σ (some (x, ds)) (.Expr (.Call (.Attribute (.Name (Str.ofString x) p) "reverse" ap) [] [] pos) epos) .next σ (some (x, ds.reverse)) := ⟨fun env Y a val A s R X => by
  refine wpAny_Expr_any (wpAny_Call_method (T := "list") (id := "list.reverse") (hbase env) (by rfl) hline F.plainAttrs_list F.slot_list_reverse F.type_list_reverse (wpAny_Name (ldVal X.at' X.own.1 ?_) hd)) (hi env (X.env.scope ▸ X.env.kind)) (hs env)
  obtain ⟨vs, ⟨n, ho⟩, hv⟩ := X.own.2
  have hlen : vs.size = ds.length := by have := hv.length; simpa using this
  refine ⟨⟨_, ho, rfl⟩, fun b e => by cases e; exact ⟨_, ho, rfl⟩, ?_⟩
  refine PySem.P.reverse_list ho ?_ (by unfold sizeLine; omega)
  have e : Obj.mapSeq (fun x => x.reverse) { cls := .type "list", data := .seq vs n } = { cls := .type "list", data := .seq vs.reverse n } := by simp [Obj.mapSeq]
  have hfin : (s.heap.update a (Obj.mapSeq fun x => x.reverse)).PlainList a vs.reverse := ⟨n, by rw [Heap.get?_update_self _ ho (by rw [e]; rfl), e]⟩
  have hsame : Heap.SameBut a s.heap (s.heap.update a (Obj.mapSeq fun x => x.reverse)) := Heap.SameBut.update ..
  exact postOwn X Kp.rfl' hsame (X.setOwn (t := s.toks) hfin (fun b o n e => (hsame.2 b n).trans e) (by rw [Array.toList_reverse]; exact hv.rev))⟩

theorem RepL.set {h : Heap} {Y : List Addr} {v : Value} {d : D} (hd : Rep h Y d v) : ∀ {ds : List D} {vs : List Value} {i : Nat}, RepL h Y ds vs → RepL h Y (ds.set i d) (vs.set i v)
  | [], _, i, x => by simp only [RepL] at x; subst x; simp [RepL]
  | e :: ds, _, i, x => by
    simp only [RepL] at x
    obtain ⟨u, r, rfl, hu, hr⟩ := x
    cases i with
    | zero => simp only [List.set_cons_zero, RepL]; exact ⟨v, r, rfl, hd, hr⟩
    | succ i => simp only [List.set_cons_succ, RepL]; exact ⟨u, _, rfl, hu, hr.set hd⟩
theorem Ex1.setItem {x : String} {p tp pos : Pos} {i e : Expr} {ds : List D} {d : D} {k : Int} (h : Ev c r sc σ e d) (hi : Ev c r sc σ i (.int k)) (h0 : 0 ≤ k) (hk : k < ds.length) (hn : ds.length ≤ 2 ^ 20)
    (hd : (Str.ofString x == ("__debug__" : Str)) = false := by decide)
    (hs : ∀ env, swapsWith e (some (.Subscript (.Name (Str.ofString x) p) i tp)) pos.line env = pure false := by intros; rfl) :
    Ex1 c r sc σ (some (x, ds)) (.Assign [.Subscript (.Name (Str.ofString x) p) i tp] e pos) .next σ (some (x, ds.set k.toNat d)) := ⟨fun env Y a val A s R X => by
  refine wpAny_Assign_Subscript (weak (h.go env (a :: Y) val A s R X.at') fun v s₁ g₁ => ?_) (hs env)
  have X₁ := X.keeps g₁.1
  refine wpAny_Name (ldVal X₁.at' X₁.own.1 (weak (hi.go env (a :: Y) val A s₁ R X₁.at') fun iv s₂ g₂ => ?_)) hd
  obtain ⟨t, rfl⟩ := rInt g₂.2
  have X₂ := X₁.keeps g₂.1
  obtain ⟨vs, hl, hv⟩ := X₂.own.2
  have hlen : vs.size = ds.length := by have := hv.length; simpa using this
  refine setItem_plain hl h0 (by omega) (by omega) fun h' hl' hsame => ?_
  exact postOwn X (g₁.1.trans g₂.1) hsame (X₂.setOwn hl' (fun b o n e => (hsame.2 b n).trans e) (by rw [Array.toList_setIfInBounds]; exact hv.set (g₁.2.keeps g₂.1.k)))⟩

/-- two names at once -/
theorem Ex1.tup2 {x y : String} {k : Nat} {px py tp pos : Pos} {e : Expr} {d₁ d₂ : D} (h : Ev c r sc σ e (.tup [d₁, d₂])) (hx : Sto sc x) (hy : Sto sc y) (hox : ownName o ≠ some x) (hoy : ownName o ≠ some y)
    (hs : ∀ env, swapsWithSole [.Tuple [.Name (Str.ofString x) px, .Name (Str.ofString y) py] k tp] e pos.line env = pure false := by intros; rfl)
    (hw : ∀ env, swappedStores [.Tuple [.Name (Str.ofString x) px, .Name (Str.ofString y) py] k tp] e env = pure Option.none := by intros; rfl) :
    Ex1 c r sc σ o (.Assign [.Tuple [.Name (Str.ofString x) px, .Name (Str.ofString y) py] k tp] e pos) .next (upd (upd σ x d₁) y d₂) o := ⟨fun env Y a val A s R X => by
  refine Assign_Tuple (weak (h.go env _ val A s R X.at0) fun v s₁ g => ?_) (hs env) (hw env)
  obtain ⟨t, vs, rfl, hY, ht, hv⟩ := rTup g.2
  have X₁ := X.keeps g.1
  simp only [RepL] at hv
  obtain ⟨v₁, r₁, e₁, hv₁, v₂, r₂, e₂, hv₂, e₃⟩ := hv
  subst e₃; subst e₂
  have hsz : vs.size = 2 := by have := congrArg List.length e₁; simpa using this
  refine assign_Tuple_tuple R.1 ht (by rw [hsz]; rfl) rfl fun h' he => ?_
  have k2 : Kp s₁ { s₁ with heap := h' } := ⟨h', s₁.toks, rfl, fun b o eo => he b o (Nat.ne_of_lt (Heap.lt_size eo)) eo⟩
  have X₂ := X₁.keeps k2
  rw [e₁]
  show wpAny _ A (assignInOrder [PySem.assign (.Name (Str.ofString x) px) env, PySem.assign (.Name (Str.ofString y) py) env] [v₁, v₂]) _ _ _
  refine assignInOrder_cons (assign_Name (StA.store X₂ hx hox (hv₁.keeps k2.k) fun s₃ k₃ X₃ => ?_))
  have hk₃ := k₃.keepStore X₂.env
  refine assignInOrder_cons (assign_Name (StA.store X₃ hy hoy ((hv₂.keeps k2.k).mono (fun b o e q _ => hk₃ b o e q) fun _ _ _ q => q) fun s₄ k₄ X₄ => assignInOrder_nil ?_))
  exact ⟨(((g.1.trans k2).s (M := Mu env sc (own o a))).trans (k₃.mono fun b m => mu0 m)).trans (k₄.mono fun b m => mu0 m), rfl, fun _ => ⟨a, _, Rel.rfl', X₄⟩⟩⟩
theorem Ex1.tup2s {x y : String} {k : Nat} {px py tp pos : Pos} {e : Expr} {d₁ d₂ : D} (h : Ev c r sc σ e (.tup [d₁, d₂])) (hx : Sto sc x) (hy : Sto sc y) (hox : ownName o ≠ some x) (hoy : ownName o ≠ some y)
    (hs : ∀ env, swapsWithSole [.Tuple [.Name (Str.ofString x) px, .Name (Str.ofString y) py] k tp] e pos.line env = pure false := by intros; rfl)
    (hw : ∀ env : Env, env.scope = sc → swappedStores [.Tuple [.Name (Str.ofString x) px, .Name (Str.ofString y) py] k tp] e env = pure (some [Str.ofString x, Str.ofString y])) :
    Ex1 c r sc σ o (.Assign [.Tuple [.Name (Str.ofString x) px, .Name (Str.ofString y) py] k tp] e pos) .next (upd (upd σ y d₂) x d₁) o := ⟨fun env Y a val A s R X => by
  refine Assign_Tuple_swapped (weak (h.go env _ val A s R X.at0) fun v s₁ g => ?_) (hs env) (hw env X.env.scope)
  obtain ⟨t, vs, rfl, hY, ht, hv⟩ := rTup g.2
  have X₁ := X.keeps g.1
  simp only [RepL] at hv
  obtain ⟨v₁, r₁, e₁, hv₁, v₂, r₂, e₂, hv₂, e₃⟩ := hv
  subst e₃; subst e₂
  have hsz : vs.size = 2 := by have := congrArg List.length e₁; simpa using this
  show wpAny _ A (unpackItems (.ref t) 2 Option.none) _ _ _
  rw [← hsz]
  refine unpackItems_tuple R.1 ht fun h' he => ?_
  have k2 : Kp s₁ { s₁ with heap := h' } := ⟨h', s₁.toks, rfl, fun b o eo => he b o (Nat.ne_of_lt (Heap.lt_size eo)) eo⟩
  have X₂ := X₁.keeps k2
  rw [e₁]
  show wpAny _ A (assignInOrder [fun v => bindName env (Str.ofString y) v, fun v => bindName env (Str.ofString x) v] [v₂, v₁]) _ _ _
  refine assignInOrder_cons (bindName_ (StA.store X₂ hy hoy (hv₂.keeps k2.k) fun s₃ k₃ X₃ => ?_))
  have hk₃ := k₃.keepStore X₂.env
  refine assignInOrder_cons (bindName_ (StA.store X₃ hx hox ((hv₁.keeps k2.k).mono (fun b o e q _ => hk₃ b o e q) fun _ _ _ q => q) fun s₄ k₄ X₄ => assignInOrder_nil ?_))
  exact ⟨(((g.1.trans k2).s (M := Mu env sc (own o a))).trans (k₃.mono fun b m => mu0 m)).trans (k₄.mono fun b m => mu0 m), rfl, fun _ => ⟨a, _, Rel.rfl', X₄⟩⟩⟩

/-- a call that makes a fresh list -/
def FnF (c : Cx) (r : Nat) (v : Value) (args : List D) (ds : List D) : Prop := ∀ Y A s vs, Room A r → c.In s.heap → Live s.heap Y → RepL s.heap Y args vs →
  wpAny c.M A (call v vs) (fun v s' => Kp s s' ∧ ∃ a vs, v = .ref a ∧ s.heap.get? a = Option.none ∧ s'.heap.PlainList a vs ∧ RepL s'.heap (a :: Y) ds vs.toList) noE s
theorem FnF.v {v args ds} (h : FnF c r v args ds) : FnV c r v args (.list ds) := fun Y A s vs R hb hl hv => weak (h Y A s vs R hb hl hv) fun v s' ⟨k, a, vs, e, hn, hp, hr⟩ => by
  refine ⟨k, ?_⟩
  simp only [Rep]
  exact ⟨a, vs, e, (fun q => by obtain ⟨ob, eo⟩ := hl a q; rw [hn] at eo; cases eo), hp, hr.mono (fun _ _ e _ _ => e) fun _ _ _ q => .tail _ q⟩
theorem EvF.call {x : String} {p pos : Pos} {e : Expr} {es : List Expr} {ds es' : List D} {v : Value} (hf : EvV c sc (.Name (Str.ofString x) p) v) (hk : KeepV c v) (ha : EvL c r sc σ (e :: es) ds) (h : FnF c r v ds es')
    (he : ∀ env, starEach (e :: es) env = (false, eval e env) :: starEach es env := by intro _; rfl) (hp : ∀ env pos, (backTo pos (starEach es env)).any (·.1) = false := by intros; rfl) :
    EvF c r sc σ (.Call (.Name (Str.ofString x) p) (e :: es) [] pos) es' := ⟨fun env Y val A s R X => by
  refine wpAny_Call_NameR (weak (hf env Y σ val A s X) fun v' s₁ ⟨e', k⟩ => ?_)
  subst e'
  have X₁ := X.keeps k
  have h2 := ha.go env Y val A s₁ pos R X₁
  rw [he] at h2 ⊢
  refine callWith_of (P := c.In) (by show ((false || (backTo pos (starEach es env)).any (·.1)) || false) = false; rw [hp]; rfl) hk (evalArgs_plain (weak h2 fun vs s₂ ⟨k₂, hv⟩ => ?_))
  have X₂ := X₁.keeps k₂
  refine ⟨X₂.base, weak (h Y A s₂ vs R X₂.base X₂.live hv) fun w s₃ ⟨k₃, a, us, e, hn, hl, hr⟩ => ⟨(k.trans k₂).trans k₃, a, us, e, ?_, hl, hr⟩⟩
  cases q : s.heap.get? a with
  | none => rfl
  | some ob => rw [(k.trans k₂).k _ _ q] at hn; cases hn⟩

theorem FnV.range1 {n : Int} : FnV c r (.type "range") [.int n] (.range 0 n 1) := fun Y A s vs R hb hl hv => by
  simp only [RepL] at hv
  obtain ⟨v, _, rfl, hv, rfl⟩ := hv
  obtain ⟨t, rfl⟩ := rInt hv
  refine call_range_1 ⟨Kp.mk' fun b o e => Heap.get?_push_of_some _ e, ?_⟩
  simp only [Rep]
  exact ⟨_, _, _, _, rfl, hl.fresh (Nat.le_refl _), IsRange.new ..⟩
theorem FnV.range2 {a b : Int} : FnV c r (.type "range") [.int a, .int b] (.range a b 1) := fun Y A s vs R hb hl hv => by
  simp only [RepL] at hv
  obtain ⟨v, _, rfl, hv, v', _, rfl, hv', rfl⟩ := hv
  obtain ⟨t, rfl⟩ := rInt hv
  obtain ⟨u, rfl⟩ := rInt hv'
  refine call_range_2 ⟨Kp.mk' fun b o e => Heap.get?_push_of_some _ e, ?_⟩
  simp only [Rep]
  exact ⟨_, _, _, _, rfl, hl.fresh (Nat.le_refl _), IsRange.new ..⟩
theorem FnV.range3 {a b st : Int} (hc : st ≠ 0) (hp : Builtin.divisionGoesByPylong (b - a) st = false) : FnV c r (.type "range") [.int a, .int b, .int st] (.range a b st) := fun Y A s vs R hb hl hv => by
  simp only [RepL] at hv
  obtain ⟨v, _, rfl, hv, v', _, rfl, hv', v'', _, rfl, hv'', rfl⟩ := hv
  obtain ⟨t, rfl⟩ := rInt hv
  obtain ⟨u, rfl⟩ := rInt hv'
  obtain ⟨u', rfl⟩ := rInt hv''
  refine call_range_3 hc ⟨Kp.mk' fun b o e => Heap.get?_push_of_some _ e, ?_⟩ (.inl hp)
  simp only [Rep]
  exact ⟨_, _, _, _, rfl, hl.fresh (Nat.le_refl _), IsRange.new ..⟩
theorem FnF.listRange {lo hi st : Int} {n : Nat} (hs : Builtin.Range.small lo hi st = true) (hn : Builtin.Range.rangeSize lo hi st = n) (hlen : n ≤ 2 ^ 20) : FnF c r (.type "list") [.range lo hi st] ((List.range n).map fun i => .int (lo + (i : Nat) * st)) := fun Y A s vs R hb hl hv => by
  simp only [RepL] at hv
  obtain ⟨v, _, rfl, hv, rfl⟩ := hv
  simp only [Rep] at hv
  obtain ⟨a, t, u, w, rfl, ha, hr⟩ := hv
  refine call_list_range R.1 hr hs hn (by omega) fun h' tk acc' c' hk hS hacc => ⟨Kp.mk' hk, _, acc', rfl, fresh_none, ⟨c', hS⟩, ?_⟩
  refine RepL.of_get ?_ fun i d hd => ?_
  · have := hacc.1; simpa using this
  · have hi : i < n := by
      rcases Nat.lt_or_ge i n with q | q
      · exact q
      · rw [List.getElem?_eq_none (by simpa using q)] at hd; cases hd
    have hia : i < acc'.size := by rw [hacc.1]; exact hi
    obtain ⟨t', e⟩ := hacc.2 i acc'[i] (Array.getElem?_eq_getElem hia)
    refine ⟨acc'[i], by rw [Array.getElem?_toList, Array.getElem?_eq_getElem hia], ?_⟩
    simp [List.getElem?_map, List.getElem?_range hi] at hd
    subst hd
    rw [e]; simp only [Rep]; exact ⟨_, rfl⟩
end
end Mine

end
section
open PySem PySem.W PySem.Calls PyProof.Rows Builtin.Str
set_option linter.unusedVariables false
set_option linter.unusedSimpArgs false
namespace Mine
local macro_rules | `(tactic| omega) => `(tactic| lia)
section
variable {c : Cx} {r : Nat} {sc : Scope} {σ σ' : String → Option D} {o o' : Option (String × List D)} {fl : Fl}

theorem rep1 {h Y d vs} (x : RepL h Y [d] vs) : ∃ v, vs = [v] ∧ Rep h Y d v := by
  simp only [RepL] at x; obtain ⟨v, _, rfl, hv, rfl⟩ := x; exact ⟨v, rfl, hv⟩
theorem rep2 {h Y d e vs} (x : RepL h Y [d, e] vs) : ∃ v u, vs = [v, u] ∧ Rep h Y d v ∧ Rep h Y e u := by
  simp only [RepL] at x; obtain ⟨v, _, rfl, hv, u, _, rfl, hu, rfl⟩ := x; exact ⟨v, u, rfl, hv, hu⟩
theorem gInt' {Y i s t} {h' : Heap} {tk : Nat} (k : ∀ b o, s.heap.get? b = some o → h'.get? b = some o) : Gives Y (.int i) s (.int i t) { s with heap := h', toks := tk } := ⟨Kp.mk' k, by simp only [Rep]; exact ⟨_, rfl⟩⟩

theorem FnV.lenList {ds : List D} (hn : ds.length ≤ sizeLine) : FnV c r (.builtin "len") [.list ds] (.int ds.length) := fun Y A s vs R hb hl hvs => by
  obtain ⟨v, rfl, hv⟩ := rep1 hvs
  obtain ⟨a, us, rfl, _, hp, hu⟩ := rList hv
  have e : us.size = ds.length := by have := hu.length; simpa using this
  rw [← e]
  exact call_len_list hp.isList (by unfold sizeLine at hn; omega) (gInt' fun _ _ e => e)
theorem FnV.lenStr {x : Str} (hn : x.length ≤ sizeLine) : FnV c r (.builtin "len") [.str x] (.int x.length) := fun Y A s vs R hb hl hvs => by
  obtain ⟨v, rfl, hv⟩ := rep1 hvs
  obtain ⟨t, rfl⟩ := rStr hv
  exact PyProof.Rows.len_str (by unfold sizeLine at hn; omega) (gInt' fun _ _ e => e)
theorem FnV.min2 {a b : Int} : FnV c r (.builtin "min") [.int a, .int b] (.int (if b < a then b else a)) := fun Y A s vs R hb hl hvs => by
  obtain ⟨v, u, rfl, hv, hu⟩ := rep2 hvs
  obtain ⟨t, rfl⟩ := rInt hv
  obtain ⟨t', rfl⟩ := rInt hu
  refine min_two_ints R.1 fun h' tk hk => ?_
  split <;> exact gInt' hk
theorem FnV.max2 {a b : Int} : FnV c r (.builtin "max") [.int a, .int b] (.int (if b > a then b else a)) := fun Y A s vs R hb hl hvs => by
  obtain ⟨v, u, rfl, hv, hu⟩ := rep2 hvs
  obtain ⟨t, rfl⟩ := rInt hv
  obtain ⟨t', rfl⟩ := rInt hu
  refine max_two_ints R.1 fun h' tk hk => ?_
  split <;> exact gInt' hk
theorem ints_of {h : Heap} {Y : List Addr} {is : List Int} {vs : Array Value} (x : RepL h Y (is.map .int) vs.toList) : ∃ xs : Array (Int × Tok), vs = intItems xs ∧ xs.toList.map (·.1) = is := by
  have hi := x.ints
  obtain ⟨xs, e⟩ := hi.allInts.items
  refine ⟨xs, by simpa using e, ?_⟩
  have h1 := hi.numsOf
  have h2 := nums_intItems xs
  rw [← e] at h2
  exact h2.symm.trans h1
theorem FnV.sum {is : List Int} : FnV c r (.builtin "sum") [.list (is.map .int)] (.int is.sum) := fun Y A s vs R hb hl hvs => by
  obtain ⟨v, rfl, hv⟩ := rep1 hvs
  obtain ⟨a, us, rfl, _, hp, hu⟩ := rList hv
  obtain ⟨xs, rfl, e⟩ := ints_of hu
  refine sum_intListG R.1 hp.isList fun h' tk t' hk => ?_
  rw [preSum_eq, List.take_of_length_le (by simp), e]
  exact gInt' hk
theorem FnV.maxList {is : List Int} {M : Int} (h1 : M ∈ is) (h2 : ∀ a ∈ is, a ≤ M) : FnV c r (.builtin "max") [.list (is.map .int)] (.int M) := fun Y A s vs R hb hl hvs => by
  obtain ⟨v, rfl, hv⟩ := rep1 hvs
  obtain ⟨a, us, rfl, _, hp, hu⟩ := rList hv
  obtain ⟨xs, rfl, e⟩ := ints_of hu
  have hsz : 0 < xs.size := by
    have := congrArg List.length e
    have h3 := List.length_pos_of_mem h1
    simp at this; omega
  refine max_intList R.1 hp.isList hsz fun v h' tk hv hk => ?_
  obtain ⟨t, rfl⟩ := intItems_at hv
  obtain ⟨g1, g2⟩ := argBest_gt (numAt xs) (xs.size - 1)
  have hl := congrArg List.length e
  have q : numAt xs (argBest (fun i j => decide (numAt xs i > numAt xs j)) (xs.size - 1)) = M := by
    apply Int.le_antisymm
    · apply h2; rw [numAt_eq, ← e]; exact getD_mem (by rw [List.length_map, Array.length_toList]; omega)
    · rw [← e] at h1
      obtain ⟨j, hj, e'⟩ := mem_getD h1
      rw [← e', ← numAt_eq]; exact g2 j (by rw [List.length_map, Array.length_toList] at hj; omega)
  rw [q]
  exact gInt' hk
theorem FnV.minList {is : List Int} {M : Int} (h1 : M ∈ is) (h2 : ∀ a ∈ is, M ≤ a) : FnV c r (.builtin "min") [.list (is.map .int)] (.int M) := fun Y A s vs R hb hl hvs => by
  obtain ⟨v, rfl, hv⟩ := rep1 hvs
  obtain ⟨a, us, rfl, _, hp, hu⟩ := rList hv
  obtain ⟨xs, rfl, e⟩ := ints_of hu
  have hsz : 0 < xs.size := by
    have := congrArg List.length e
    have h3 := List.length_pos_of_mem h1
    simp at this; omega
  refine min_intList R.1 hp.isList hsz fun v h' tk hv hk => ?_
  obtain ⟨t, rfl⟩ := intItems_at hv
  obtain ⟨g1, g2⟩ := argBest_lt (numAt xs) (xs.size - 1)
  have hl := congrArg List.length e
  have q : numAt xs (argBest (fun i j => decide (numAt xs i < numAt xs j)) (xs.size - 1)) = M := by
    apply Int.le_antisymm
    · rw [← e] at h1
      obtain ⟨j, hj, e'⟩ := mem_getD h1
      rw [← e', ← numAt_eq]; exact g2 j (by simp at hj; omega)
    · apply h2; rw [numAt_eq, ← e]; exact getD_mem (by rw [List.length_map, Array.length_toList]; omega)
  rw [q]
  exact gInt' hk
theorem FnV.abs {a : Int} : FnV c r (.builtin "abs") [.int a] (.int (if a < 0 then -a else a)) := fun Y A s vs R hb hl hvs => by
  obtain ⟨v, rfl, hv⟩ := rep1 hvs
  obtain ⟨t, rfl⟩ := rInt hv
  exact call_abs_int fun u tk => gInt' fun _ _ e => e
theorem FnV.ord {n : Nat} : FnV c r (.builtin "ord") [.str ⟨#[n]⟩] (.int n) := fun Y A s vs R hb hl hvs => by
  obtain ⟨v, rfl, hv⟩ := rep1 hvs
  obtain ⟨t, rfl⟩ := rStr hv
  exact ord_of_one rfl gInt
theorem FnV.chr {i : Int} (h0 : 0 ≤ i) (h1 : i ≤ 1114111) : FnV c r (.builtin "chr") [.int i] (.str ⟨#[i.toNat]⟩) := fun Y A s vs R hb hl hvs => by
  obtain ⟨v, rfl, hv⟩ := rep1 hvs
  obtain ⟨t, rfl⟩ := rInt hv
  exact chr_of_range h0 h1 gStr
theorem FnV.hex {i : Int} (h : (baseText "0x" 16 i).length ≤ sizeLine) : FnV c r (.builtin "hex") [.int i] (.str (baseText "0x" 16 i)) := fun Y A s vs R hb hl hvs => by
  obtain ⟨v, rfl, hv⟩ := rep1 hvs
  obtain ⟨t, rfl⟩ := rInt hv
  exact PySem.P.hex_of_int gStr h
theorem FnV.divmod {a b : Int} (h : b ≠ 0) (hp : Builtin.divisionGoesByPylong a b = false) : FnV c r (.builtin "divmod") [.int a, .int b] (.tup [.int (a.fdiv b), .int (a.fmod b)]) := fun Y A s vs R hb hl hvs => by
  obtain ⟨v, u, rfl, hv, hu⟩ := rep2 hvs
  obtain ⟨t, rfl⟩ := rInt hv
  obtain ⟨t', rfl⟩ := rInt hu
  refine divmod_int h ⟨Kp.mk' fun b o e => Heap.get?_push_of_some _ e, ?_⟩ (.inl hp)
  simp only [Rep, RepL]
  exact ⟨_, #[.int (a.fdiv b) s.toks, .int (a.fmod b) (s.toks + 1)], rfl, hl.fresh (Nat.le_refl _), ⟨_, Heap.get?_push_size _ rfl, rfl, 0, rfl⟩, _, _, rfl, ⟨_, rfl⟩, _, _, rfl, ⟨_, rfl⟩, rfl⟩

theorem FnV.lower {x : Str} (h : x.length ≤ 1000) : FnV c r (.builtin "str.lower") [.str x] (.str (Txt.lower x)) := fun Y A s vs R hb hl hvs => by
  obtain ⟨v, rfl, hv⟩ := rep1 hvs
  obtain ⟨t, rfl⟩ := rStr hv
  exact SC.lower (fit_lower (by omega)) gStr
theorem strs_of {h : Heap} {Y : List Addr} : ∀ {xs : List Str} {vs : List Value}, RepL h Y (xs.map .str) vs → StrsAre vs xs
  | [], _, x => by simp only [List.map_nil, RepL] at x; subst x; exact .nil
  | y :: xs, _, x => by
    simp only [List.map_cons, RepL, Rep] at x
    obtain ⟨v, r, rfl, ⟨t, rfl⟩, hr⟩ := x
    exact .cons y t (strs_of hr)
theorem FnV.join {x : Str} {ys : List Str} (hok : (ys.map (·.length)).sum + ys.length * x.length ≤ 16777216) : FnV c r (.builtin "str.join") [.str x, .list (ys.map .str)] (.str (Txt.join x ys)) := fun Y A s vs R hb hl hvs => by
  obtain ⟨v, u, rfl, hv, hu⟩ := rep2 hvs
  obtain ⟨t, rfl⟩ := rStr hv
  obtain ⟨a, us, rfl, _, hp, hu⟩ := rList hu
  exact join_list hp.isList (strs_of hu) hok fun t' k => ⟨Kp.tok _, by simp only [Rep]; exact ⟨_, rfl⟩⟩
theorem FnV.count {is : List Int} {k : Int} : FnV c r (.builtin "list.count") [.list (is.map .int), .int k] (.int (is.count k : Nat)) := fun Y A s vs R hb hl hvs => by
  obtain ⟨v, u, rfl, hv, hu⟩ := rep2 hvs
  obtain ⟨t, rfl⟩ := rInt hu
  obtain ⟨a, us, rfl, _, hp, hus⟩ := rList hv
  have e : us = us.toList.toArray := by simp
  exact count_list_ints (vs := us.toList) (by simpa using hp.isList) hus.ints gInt
theorem FnV.bitLength {a : Int} : FnV c r (.builtin "int.bit_length") [.int a] (.int (Builtin.Int.intBits a : Nat)) := fun Y A s vs R hb hl hvs => by
  obtain ⟨v, rfl, hv⟩ := rep1 hvs
  obtain ⟨t, rfl⟩ := rInt hv
  exact call_gives F.slot_int_bit_length (typeIs_int _ _ _) F.entry_int_bit_length (F.args_int_bit_length_1 _) (AutoIntG2.int_bit_length_int_0 a t) gInt

theorem hT_str {x : Str} : ∀ (h : Heap) (Y : List Addr) (v : Value) (s : Shared), s.heap = h → Rep h Y (.str x) v → s.TypeIs v "str" ∧ ∀ a, v = .ref a → ∃ ob, h.get? a = some ob ∧ ob.dict = Option.none := fun h Y v s e hv => by
  obtain ⟨t, rfl⟩ := rStr hv; exact ⟨typeIs_str _ _ _, fun a e => by cases e⟩
theorem hT_int {x : Int} : ∀ (h : Heap) (Y : List Addr) (v : Value) (s : Shared), s.heap = h → Rep h Y (.int x) v → s.TypeIs v "int" ∧ ∀ a, v = .ref a → ∃ ob, h.get? a = some ob ∧ ob.dict = Option.none := fun h Y v s e hv => by
  obtain ⟨t, rfl⟩ := rInt hv; exact ⟨typeIs_int _ _ _, fun a e => by cases e⟩
theorem hT_list {ds : List D} : ∀ (h : Heap) (Y : List Addr) (v : Value) (s : Shared), s.heap = h → Rep h Y (.list ds) v → s.TypeIs v "list" ∧ ∀ a, v = .ref a → ∃ ob, h.get? a = some ob ∧ ob.dict = Option.none := fun h Y v s e hv => by
  obtain ⟨a, us, rfl, _, hp, hu⟩ := rList hv
  subst e
  obtain ⟨n, ho⟩ := id hp
  exact ⟨hp.isList.typeIs, fun b e => by cases e; exact ⟨_, ho, rfl⟩⟩

/-- reversed(list) -/
theorem EvI.reversed {e : Expr} {p pos : Pos} {ds : List D} (hf : EvV c sc (.Name (Str.ofString "reversed") p) (.type "reversed")) (h : Ev c r sc σ e (.list ds))
    (he : ∀ env, starEach [e] env = [(false, eval e env)] := by intro _; rfl) :
    EvI c r sc σ (.Call (.Name (Str.ofString "reversed") p) [e] [] pos) ds.reverse := ⟨fun env Y val A s R X => by
  refine wpAny_Call_NameR (weak (hf env Y σ val A s X) fun v' s₁ ⟨e', k⟩ => ?_)
  subst e'
  have X₁ := X.keeps k
  rw [he]
  refine callWith_of (P := c.In) rfl KeepV.type (evalArgs_plain (Calls.spliced_cons (weak (h.go env Y val A s₁ R X₁) fun v s₂ g => Calls.spliced_nil ?_)))
  have X₂ := X₁.keeps g.1
  refine ⟨X₂.base, ?_⟩
  obtain ⟨l, vs, rfl, hY, hl, hv⟩ := rList g.2
  have hlen : vs.size = ds.length := by have := hv.length; simpa using this
  have hne : l ≠ s₂.heap.objs.size := by obtain ⟨n, ho⟩ := hl; exact Nat.ne_of_lt (Heap.lt_size ho)
  refine call_reversed_list hl.isList ?_
  have hit : (s₂.heap.push (revObj l ((vs.size : Int) - 1))).IsRevIter s₂.heap.objs.size l ((vs.size : Int) - 1) := ⟨_, Heap.get?_push_size _ rfl, rfl, rfl⟩
  refine wpAny_pyIter_revIter hit (IterPost.back (k.trans g.1) ⟨s₂.heap.objs.size, [s₂.heap.objs.size, l], fun i v => vs[vs.size - 1 - i]? = some v, fun i h => i ≤ vs.size ∧ h.IsRevIter s₂.heap.objs.size l ((vs.size : Int) - 1 - (i : Int)) ∧ h.IsList l vs, rfl, fun A' hA => by rw [List.length_reverse, ← hlen]; exact Walks.listRev hA _ l hne vs, Kp.push _, fresh_none, ⟨Nat.zero_le _, by simpa using hit, hl.isList.push _⟩, fun b hb => ?_, fun i h hst => let ⟨o, ho, hc, hd⟩ := hst.2.1; ⟨o, ho, .inr ⟨_, hd⟩⟩, fun i d v hd hp => ?_⟩)
  · simp only [List.mem_cons, List.not_mem_nil, or_false] at hb
    rcases hb with rfl | rfl
    · exact ⟨X₂.live.fresh (Nat.le_refl _), _, Heap.get?_push_size _ rfl, .inr ⟨_, rfl⟩⟩
    · obtain ⟨n, ho⟩ := hl
      exact ⟨hY, _, Heap.get?_push_of_some _ ho, .inl ⟨_, _, rfl⟩⟩
  · have hi : i < ds.length := by
      rcases Nat.lt_or_ge i ds.length with q | q
      · exact q
      · rw [List.getElem?_eq_none (by simpa using q)] at hd; cases hd
    rw [List.getElem?_reverse hi] at hd
    obtain ⟨v', e, hr⟩ := hv.get hd
    rw [Array.getElem?_toList, ← hlen, hp] at e; cases e
    exact hr.mono (fun b o e _ _ => Heap.get?_push_of_some _ e) fun b o e q => by
      rcases List.mem_cons.mp q with rfl | q
      · exact absurd (Heap.lt_size e) (Nat.lt_irrefl _)
      · exact q⟩
end
end Mine

end
section
open PySem PySem.W PySem.Calls PyProof.Rows Builtin.Str
set_option linter.unusedVariables false
set_option linter.unusedSimpArgs false
namespace Mine
section
variable {c : Cx} {r : Nat} {sc : Scope} {σ σ' : String → Option D} {o o' : Option (String × List D)} {fl : Fl}

theorem FnV.bytes {is : List Int} (h : ∀ n ∈ is, 0 ≤ n ∧ n < 256) (hz : is.length ≤ sizeLine) : FnV c r (.type "bytes") [.list (is.map .int)] (.bytes (byteArr is)) := fun Y A s vs R hb hl hvs => by
  obtain ⟨v, rfl, hv⟩ := rep1 hvs
  obtain ⟨a, us, rfl, _, hp, hu⟩ := rList hv
  have hi := hu.ints
  refine call_bytes_ints (vs := us.toList) (by simpa using hp.isList) hi h (by rw [hi.length]; exact hz) R.1 fun h' t k hk => ⟨Kp.mk' hk, ?_⟩
  simp only [Rep]; exact ⟨_, rfl⟩

/-- an operator whose right side is a value of the top -/
theorem Tr.cmpV {l e : Expr} {op : CmpOp} {pos : Pos} {d₁ : D} {v₂ : Value} {b : Bool} (hr : 20 ≤ r) (h₁ : Ev c r sc σ l d₁) (h₂ : EvV c sc e v₂)
    (h : ∀ Y A s v₁, Pre c Y A s → Rep s.heap Y d₁ v₁ → wpAny c.M A (compareOp op v₁ v₂) (fun v s' => v = .bool b ∧ Kp s s') noE s) (hm : behindInMarks op e = false := by rfl) : Tr c r sc σ (.Compare l [op] [e] pos) b := ⟨fun env Y val A s R X =>
  wpAny_isTrue_Compare1 (weak (h₁.go env Y val A s R X) fun a s₁ g₁ => weak (h₂ env Y σ val A s₁ (X.keeps g₁.1)) fun b' s₂ ⟨e₂, k₂⟩ => by
    subst e₂
    exact weak (h Y A s₂ a (((X.keeps g₁.1).keeps k₂).pre (R.le hr)) (g₁.2.keeps k₂.k)) fun v s₃ ⟨e, k⟩ => by subst e; exact wpAny_truthy_bool ⟨rfl, (g₁.1.trans k₂).trans k⟩) hm⟩
theorem Ev.cmpV {l e : Expr} {op : CmpOp} {pos : Pos} {d₁ : D} {v₂ : Value} {b : Bool} (hr : 20 ≤ r) (h₁ : Ev c r sc σ l d₁) (h₂ : EvV c sc e v₂)
    (h : ∀ Y A s v₁, Pre c Y A s → Rep s.heap Y d₁ v₁ → wpAny c.M A (compareOp op v₁ v₂) (fun v s' => v = .bool b ∧ Kp s s') noE s) (hm : behindInMarks op e = false := by rfl) : Ev c r sc σ (.Compare l [op] [e] pos) (.bool b) := ⟨fun env Y val A s R X =>
  wpAny_Compare1 (weak (h₁.go env Y val A s R X) fun a s₁ g₁ => weak (h₂ env Y σ val A s₁ (X.keeps g₁.1)) fun b' s₂ ⟨e₂, k₂⟩ => by
    subst e₂
    exact weak (h Y A s₂ a (((X.keeps g₁.1).keeps k₂).pre (R.le hr)) (g₁.2.keeps k₂.k)) fun v s₃ ⟨e, k⟩ => ⟨(g₁.1.trans k₂).trans k, by subst e; simp only [Rep]⟩) hm⟩
theorem inSet {a : Addr} {S : Int → Bool} {n : Nat} {k : Int} (hS : c.base.SetOf (intKind c.prog c.w) a S n) : ∀ Y A s v₁, Pre c Y A s → Rep s.heap Y (.int k) v₁ → wpAny c.M A (compareOp .In v₁ (.ref a)) (fun v s' => v = .bool (S k) ∧ Kp s s') noE s := fun Y A s v₁ P x => by
  obtain ⟨t, rfl⟩ := rInt x
  have hS' : s.heap.SetOf (intKind c.prog c.w) a S n := let ⟨o, es, ep, t, ho, r⟩ := hS; ⟨o, es, ep, t, P.base _ _ ho, r⟩
  exact wpAny_inSet_of (knd := intKind c.prog c.w) (k := k) (by simp [intKind, Value.isInt]) rfl hS' ⟨rfl, Kp.tok _⟩

/-- a method of a value of the top -/
theorem Ev.methV {o : Expr} {name : Str} {ap pos : Pos} {e : Expr} {es : List Expr} {v₀ : Value} {d : D} {ds : List D} {T id : String} (h₀ : EvV c sc o v₀) (ha : EvL c r sc σ (e :: es) ds)
    (hT : ∀ s : Shared, c.In s.heap → s.TypeIs v₀ T ∧ ∀ a, v₀ = .ref a → ∃ ob, s.heap.get? a = some ob ∧ ob.dict = Option.none)
    (h : ∀ Y A s vs, Room A r → c.In s.heap → Live s.heap Y → RepL s.heap Y ds vs → wpAny c.M A (PySem.call (.builtin id) (v₀ :: vs)) (Gives Y d s) noE s)
    (pa : PlainAttrs T) (slot : Slot T name id) (hty : typeOf (.builtin id) = pure (.type "method_descriptor"))
    (hbase : ∀ env, attributeBase o name env (eval o env) = eval o env := by intros; rfl)
    (he : ∀ env, starEach (e :: es) env = (false, eval e env) :: starEach es env := by intro _; rfl) (hp : ∀ env pos, (backTo pos (starEach es env)).any (·.1) = false := by intros; rfl)
    (hfew : ∀ env, ((backTo pos (starEach (e :: es) env)).all (fun x => !x.1) && (backToKw pos (keywordEach [] env)).all (fun x => x.1.isSome)
      && decide ((e :: es).length + ([] : List Keyword).length + (if ([] : List Keyword).isEmpty then 0 else 1) < 30)) = true := by intros; rfl)
    (hline : (ap.endLine == pos.line) = true := by rfl) : Ev c r sc σ (.Call (.Attribute o name ap) (e :: es) [] pos) d := ⟨fun env Y val A s R X => by
  refine wpAny_Call_method (hbase env) (hfew env) hline pa slot hty (weak (h₀ env Y σ val A s X) fun v s₁ ⟨e₁, k₁⟩ => ?_)
  subst e₁
  have X₁ := X.keeps k₁
  obtain ⟨h1, h2⟩ := hT s₁ X₁.base
  refine ⟨h1, h2, ?_⟩
  have h3 := ha.go env Y val A s₁ pos R X₁
  rw [he] at h3 ⊢
  refine callWith_of (P := c.In) (by show ((false || (backTo pos (starEach es env)).any (·.1)) || false) = false; rw [hp]; rfl) KeepV.blt (evalArgs_plain (weak h3 fun vs s₂ ⟨k₂, hv⟩ => ?_))
  have X₂ := X₁.keeps k₂
  exact ⟨X₂.base, weak (h Y A s₂ vs R X₂.base X₂.live hv) fun w s₃ g => (g.trans k₂).trans k₁⟩⟩

/-- a dict of the top: whole numbers to texts -/
structure MapTx (c : Cx) (a : Addr) (f : Int → Option Value) : Prop where
  map : c.base.MapOf (intKind c.prog c.w) a f
  ns : (a == sysModules) = false
theorem MapTx.at {a : Addr} {f : Int → Option Value} (M : MapTx c a f) {h : Heap} (hb : c.In h) : h.MapOf (intKind c.prog c.w) a f := let ⟨o, es, ep, ho, r⟩ := M.map; ⟨o, es, ep, hb _ _ ho, r⟩
theorem MapTx.hT {a : Addr} {f : Int → Option Value} (M : MapTx c a f) : ∀ s : Shared, c.In s.heap → s.TypeIs (.ref a) "dict" ∧ ∀ b, Value.ref a = .ref b → ∃ ob, s.heap.get? b = some ob ∧ ob.dict = Option.none := fun s hb =>
  ⟨(M.at hb).typeIs, (M.at hb).noDict⟩
theorem MapTx.get1 {a : Addr} {f : Int → Option Value} (M : MapTx c a f) {k : Int} {d : D} (hd : ∀ h Y, Rep h Y d ((f k).getD .none)) :
    ∀ Y A s vs, Room A r → c.In s.heap → Live s.heap Y → RepL s.heap Y [.int k] vs → wpAny c.M A (call (.builtin "dict.get") (.ref a :: vs)) (Gives Y d s) noE s := fun Y A s vs R hb hl hvs => by
  obtain ⟨v, rfl, hv⟩ := rep1 hvs
  obtain ⟨t, rfl⟩ := rInt hv
  have := meets_dict_get (prog := c.prog) (w := c.w) (intKind c.prog c.w) (key := .int k t) (k := k) a (by simp [intKind, Value.isInt]) M.ns
  exact call_meetsIn F.slot_dict_get (M.at hb).typeIs F.entry_dict_get (F.args_dict_get_2 _ _) this ⟨f, M.at hb, ⟨Kp.tok _, hd _ _⟩⟩
theorem MapTx.get2 {a : Addr} {f : Int → Option Value} (M : MapTx c a f) {k : Int} {x : Str} {d : D} (hd : ∀ h Y t, Rep h Y d ((f k).getD (.str x t))) :
    ∀ Y A s vs, Room A r → c.In s.heap → Live s.heap Y → RepL s.heap Y [.int k, .str x] vs → wpAny c.M A (call (.builtin "dict.get") (.ref a :: vs)) (Gives Y d s) noE s := fun Y A s vs R hb hl hvs => by
  obtain ⟨v, u, rfl, hv, hu⟩ := rep2 hvs
  obtain ⟨t, rfl⟩ := rInt hv
  obtain ⟨t', rfl⟩ := rStr hu
  have := meets_dict_get_default (prog := c.prog) (w := c.w) (intKind c.prog c.w) (key := .int k t) (k := k) a (by simp [intKind, Value.isInt]) M.ns (.str x t')
  exact call_meetsIn F.slot_dict_get (M.at hb).typeIs F.entry_dict_get (F.args_dict_get_3 _ _ _) this ⟨f, M.at hb, ⟨Kp.tok _, hd _ _ _⟩⟩
end
end Mine

end
section
open PySem PySem.W PySem.Calls PyProof.Rows Builtin.Str
set_option linter.unusedVariables false
set_option linter.unusedSimpArgs false
namespace Mine

/-- what is known, less -/
def Sub (σ₂ σ₁ : String → Option D) : Prop := ∀ x d, σ₂ x = some d → σ₁ x = some d
def L (l : List (String × D)) : String → Option D := fun x => l.lookup x
theorem Sub.rfl' {σ} : Sub σ σ := fun _ _ h => h
theorem Sub.trans {a b d} (h : Sub a b) (h' : Sub b d) : Sub a d := fun x e q => h' x e (h x e q)
theorem Sub.nil {σ} : Sub (L []) σ := fun _ _ h => by simp [L] at h
theorem Sub.none {σ} : Sub (fun _ => Option.none) σ := fun _ _ h => by cases h
theorem Sub.cons {σ x d l} (h : σ x = some d) (hl : Sub (L l) σ) : Sub (L ((x, d) :: l)) σ := fun y e q => by
  simp only [L, List.lookup_cons] at q
  by_cases z : y = x
  · subst z; simp at q; subst q; exact h
  · have : (y == x) = false := by simpa using z
    rw [this] at q; exact hl y e q

section
variable {c : Cx} {r : Nat} {sc : Scope} {σ σ₁ σ₂ σ' : String → Option D} {o o' o₁ : Option (String × List D)} {fl : Fl}
theorem ValOk.sub {h Y val} (X : ValOk h Y σ₁ val) (s : Sub σ₂ σ₁) : ValOk h Y σ₂ val := fun x d e => X x d (s x d e)
theorem StA.sub {env Y a val} {s : Shared} (X : StA c env sc Y σ₁ o a val s) (q : Sub σ₂ σ₁) : StA c env sc Y σ₂ o a val s := by
  refine ⟨X.base, X.mine, X.env, X.live, ?_⟩
  have h := X.ok
  match o, h with
  | none, h => exact h.sub q
  | some (x, ds), ⟨ha, hb, h1, h2, vs, h3, h4⟩ => exact ⟨ha, hb, h1.sub q, h2, vs, h3, h4⟩
theorem ExB.post {t} (h : ExB c r sc σ o t fl σ₁ o') (q : Sub σ₂ σ₁) : ExB c r sc σ o t fl σ₂ o' := ⟨fun env Y a val A s R X =>
  weak (h.go env Y a val A s R X) fun f s' P => ⟨P.kp, P.flow, fun hn => let ⟨a', val', h1, h2⟩ := P.st hn; ⟨a', val', h1, h2.sub q⟩⟩⟩
theorem ExB.pre {t} (h : ExB c r sc σ₂ o t fl σ' o') (q : Sub σ₂ σ₁) : ExB c r sc σ₁ o t fl σ' o' := ⟨fun env Y a val A s R X => h.go env Y a val A s R (X.sub q)⟩
theorem ExB.retAny {t d σ₃ o₃} (h : ExB c r sc σ o t (.ret d) σ' o') : ExB c r sc σ o t (.ret d) σ₃ o₃ := ⟨fun env Y a val A s R X =>
  weak (h.go env Y a val A s R X) fun f s' P => ⟨P.kp, P.flow, fun hn => by cases hn⟩⟩

/-- one value under two names -/
theorem Ex1.assign2 {x y : String} {px py pos : Pos} {e : Expr} {d : D} (h : Ev c r sc σ e d) (hx : Sto sc x) (hy : Sto sc y) (hox : ownName o ≠ some x) (hoy : ownName o ≠ some y)
    (hw : ∀ env, swappedStores [.Name (Str.ofString x) px, .Name (Str.ofString y) py] e env = pure Option.none := by intros; rfl) :
    Ex1 c r sc σ o (.Assign [.Name (Str.ofString x) px, .Name (Str.ofString y) py] e pos) .next (upd (upd σ x d) y d) o := ⟨fun env Y a val A s R X => by
  refine wpAny_Assign_two (weak (h.go env _ val A s R X.at0) fun v s₁ g => ?_) (by rfl) (hw env)
  have X₁ := X.keeps g.1
  refine assign_Name (StA.store X₁ hx hox g.2 fun s₃ k₃ X₃ => ?_)
  have hk₃ := k₃.keepStore X₁.env
  refine assign_Name (StA.store X₃ hy hoy (g.2.mono (fun b o e q _ => hk₃ b o e q) fun _ _ _ q => q) fun s₄ k₄ X₄ => ?_)
  exact ⟨((g.1.s (M := Mu env sc (own o a))).trans (k₃.mono fun b m => mu0 m)).trans (k₄.mono fun b m => mu0 m), rfl, fun _ => ⟨a, _, Rel.rfl', X₄⟩⟩⟩
end
end Mine

end
section
open PySem PySem.W PySem.Calls PyProof.Rows Builtin.Str
set_option linter.unusedVariables false
set_option linter.unusedSimpArgs false
namespace Mine
local macro_rules | `(tactic| omega) => `(tactic| lia)
section
variable {c : Cx} {r : Nat} {sc : Scope} {σ σ' : String → Option D} {o' : Option (String × List D)}

theorem rRaw {h Y u v} (x : Rep h Y (.raw u) v) : v = u := by simpa only [Rep] using x
/-- an item of a list that stands in the base -/
theorem Idx.rawList {a : Addr} {vs : Array Value} {k : Int} {d : D} {v : Value} (hl : c.base.PlainList a vs) (h0 : 0 ≤ k) (hk : k < 2 ^ 63) (hv : vs[k.toNat]? = some v) (ha : ∀ h Y, Rep h Y d v) : Idx c (.raw (.ref a)) (.int k) d := fun Y A s v₁ v₂ P x y => by
  obtain rfl := rRaw x
  obtain ⟨t, rfl⟩ := rInt y
  have hl' : s.heap.PlainList a vs := let ⟨n, e⟩ := hl; ⟨n, P.base _ _ e⟩
  exact ⟨⟨_, _, list_getitem_lookup, hl'.isList.typeIs⟩, wpAny_getItem_list hl'.isList h0 hk hv ⟨Kp.rfl', ha _ _⟩⟩

theorem Ev.callD {x : String} {p pos : Pos} {e : Expr} {es : List Expr} {ds : List D} {d : D} {v : Value} (hf : Ev c r sc σ (.Name (Str.ofString x) p) (.raw v)) (hk : KeepV c v) (ha : EvL c r sc σ (e :: es) ds) (h : FnV c r v ds d)
    (he : starred e = false := by rfl) (hp : ∀ env pos, (backTo pos (starEach es env)).any (·.1) = false := by intros; rfl) :
    Ev c r sc σ (.Call (.Name (Str.ofString x) p) (e :: es) [] pos) d := ⟨fun env Y val A s R X => by
  refine wpAny_Call_NameR (weak (hf.go env Y val A s R X) fun v' s₁ g => ?_)
  obtain rfl := rRaw g.2
  have k := g.1
  have X₁ := X.keeps k
  have h2 := ha.go env Y val A s₁ pos R X₁
  rw [star_cons he] at h2 ⊢
  refine callWith_of (P := c.In) (by show ((false || (backTo pos (starEach es env)).any (·.1)) || false) = false; rw [hp]; rfl) hk (evalArgs_plain (weak h2 fun vs s₂ ⟨k₂, hv⟩ => ?_))
  have X₂ := X₁.keeps k₂
  exact ⟨X₂.base, weak (h Y A s₂ vs R X₂.base X₂.live hv) fun w s₃ g => (g.trans k₂).trans k⟩⟩

/-- a def that closes over cells of the base; none of its own -/
structure FnAtC (c : Cx) (a : Addr) (fd : FuncData) (xs : List String) (body : List Stmt) (fv : String → Option D) : Prop where
  at_ : ∃ o, c.base.get? a = some o ∧ o.data = .func fd
  body : fd.body = .stmts body
  glob : fd.globals = mainGlobals
  blt : fd.builtins = builtinsNs
  code : c.base.CodeRec fd.code fd.qualname
  bind : ∀ vs : List Value, vs.length = xs.length → bindArgs fd ⟨vs, []⟩ = pure ((xs.map Str.ofString).zip vs)
  nodup : (xs.map Str.ofString).Nodup
  kinds : ∀ x ∈ xs, fd.scope.names.lookup (Str.ofString x) = some .local
  co : fd.scope.isCoroutine = false
  gen : fd.scope.isGenerator = false
  kind : fd.scope.kind = .function
  nocell : ∀ z ∈ fd.scope.names, z.2 ≠ .cell
  free : ∀ n, fd.scope.names.lookup n = some .free → ∃ ca u, fd.closure.lookup n = some ca ∧ c.base.IsCell ca u
  inj : ∀ n n' ca, fd.closure.lookup n = some ca → fd.closure.lookup n' = some ca → n = n'
  fv : ∀ x d, fv x = some d → fd.scope.names.lookup (Str.ofString x) = some .free ∧ (Str.ofString x == ("__classdict__" : Str)) = false ∧ ∃ ca v, fd.closure.lookup (Str.ofString x) = some ca ∧ c.base.IsCell ca (some v) ∧ ∀ h Y, Rep h Y d v
theorem IsCell.uniq {h : Heap} {a : Addr} {u u' : Option Value} (x : h.IsCell a u) (y : h.IsCell a u') : u = u' := by
  obtain ⟨o, e, d⟩ := x
  obtain ⟨o', e', d'⟩ := y
  rw [e] at e'; cases e'
  rw [d] at d'; cases d'; rfl

/-- the parameters' and the closed names' data -/
def both {α : Type} (p q : String → Option α) : String → Option α := fun x => (p x).or (q x)
theorem both_val {h Y σ σ' val val'} (X : ValOk h Y σ val) (X' : ValOk h Y σ' val') (hd : ∀ x, σ x = none → val x = none) : ValOk h Y (both σ σ') (both val val') := fun x d e => by
  unfold both at e ⊢
  cases q : σ x with
  | none => rw [q, Option.none_or] at e; rw [hd x q, Option.none_or]; exact X' x d e
  | some d' => rw [q, Option.some_or] at e; cases e; obtain ⟨v, a, b⟩ := X x _ q; exact ⟨v, by rw [a, Option.some_or], b⟩
theorem argσ_none {α β : Type} : ∀ {xs : List String} {ds : List α} {vs : List β} {x : String}, vs.length = ds.length → argσ xs ds x = none → argσ xs vs x = none
  | [], ds, vs, x, h, e => by simp [argσ]
  | y :: xs, [], [], x, h, e => by simp [argσ]
  | y :: xs, [], v :: vs, x, h, e => by simp at h
  | y :: xs, d :: ds, [], x, h, e => by simp at h
  | y :: xs, d :: ds, v :: vs, x, h, e => by
    by_cases q : x = y
    · subst q; simp [argσ, upd] at e
    · simp [argσ, upd, q] at e ⊢; exact argσ_none (by simpa using h) e

theorem lookup_app {α : Type} {l l' : List (Str × α)} {n : Str} : (l ++ l').lookup n = (l.lookup n).or (l'.lookup n) := by
  induction l with
  | nil => simp
  | cons x l ih =>
    obtain ⟨k, v⟩ := x
    simp only [List.cons_append, List.lookup_cons]
    cases n == k <;> simp [ih]
theorem lookup_rev {α : Type} : ∀ {l : List (Str × α)} {n : Str} {v : α}, (l.map (·.1)).Nodup → (n, v) ∈ l → l.reverse.lookup n = some v
  | (k, u) :: l, n, v, hn, h => by
    simp only [List.map_cons, List.nodup_cons] at hn
    rw [List.reverse_cons, lookup_app]
    rcases List.mem_cons.mp h with e | h
    · cases e
      have : l.reverse.lookup k = none := by
        cases q : l.reverse.lookup k with
        | none => rfl
        | some w => exact absurd (List.mem_map_of_mem (f := (·.1)) (List.mem_reverse.mp (mem_of_lookup q))) hn.1
      rw [this]; simp
    · rw [lookup_rev hn.2 h]; rfl
theorem FnAtC.enter {a : Addr} {fd : FuncData} {xs : List String} {body : List Stmt} {fv : String → Option D} {ds : List D} {Y : List Addr} {A : Around} {s : Shared} {vs : List Value} {Q : Value → Shared → Prop} (F : FnAtC c a fd xs body fv) (hlen : ds.length = xs.length)
    (R : Room A (r + 1)) (hb : c.In s.heap) (hv : RepL s.heap Y ds vs)
    (h : ∀ env val h₀ t, (∀ b o, s.heap.get? b = some o → h₀.get? b = some o) → EnvAt env fd.scope h₀ val → ValOk h₀ Y (both (argσ xs ds) fv) val → (∀ x u, x ∉ xs → fv x = some (.raw u) → val x = some u) → (∀ b, Mu env fd.scope none b → s.heap.objs.size ≤ b) → Room (A.deeper env) r →
      wpAny c.M (A.deeper env) (execs body env) (fun f s' => Q (match f with | .ret v => v | _ => .none) s') noE { s with heap := h₀, toks := t }) : wpAny c.M A (call (.ref a) vs) Q noE s := by
  obtain ⟨o, ho, hd⟩ := F.at_
  have hvl : vs.length = xs.length := hv.length.trans hlen
  have hk : ∀ y ∈ (xs.map Str.ofString).zip vs, fd.scope.names.lookup y.1 = some .local := fun y hy => by
    have hm : y.1 ∈ xs.map Str.ofString := by rw [← zip_fst hvl]; exact List.mem_map_of_mem hy
    obtain ⟨z, hz, e⟩ := List.mem_map.mp hm
    rw [← e]; exact F.kinds z hz
  refine wpAny_call (codeAny_call_def (by have := R.2.1; unfold recursionLimit; omega) (hb _ _ ho) hd (c.nolimit.keeps hb) (F.code.keeps hb) F.body (.of_eq (F.bind vs hvl)) F.nocell hk (fun h₀ hns keep => ?_) F.co F.gen F.kind)
  generalize henv : callEnv fd s.heap.objs.size a = env
  have hL : env.locals = s.heap.objs.size := by rw [← henv]; rfl
  have hsc : env.scope = fd.scope := by rw [← henv]; rfl
  have hcl : env.cells = fd.closure := by rw [← henv]; rfl
  have hmu : ∀ b, Mu env fd.scope none b → s.heap.objs.size ≤ b := fun b hm => by
    rcases hm with rfl | ⟨n, q, _⟩ | q
    · rw [hL]; exact Nat.le_refl _
    · exact absurd rfl (F.nocell _ (mem_of_lookup q))
    · cases q
  have hnd : (((xs.map Str.ofString).zip vs).map (·.1)).Nodup := by rw [zip_fst hvl]; exact F.nodup
  let fval : String → Option Value := fun x => match fv x with
    | none => none
    | some _ => match fd.closure.lookup (Str.ofString x) with
      | none => none
      | some ca => match c.base.get? ca with
        | some o => match o.data with
          | .cell u => u
          | _ => none
        | none => none
  have hfv : ∀ x d, fv x = some d → ∃ ca v, fd.closure.lookup (Str.ofString x) = some ca ∧ c.base.IsCell ca (some v) ∧ (∀ h Y, Rep h Y d v) ∧ fval x = some v := fun x d e => by
    obtain ⟨_, _, ca, v, h1, ⟨o, h2, h3⟩, h4⟩ := F.fv x d e
    exact ⟨ca, v, h1, ⟨o, h2, h3⟩, h4, by simp only [fval, e, h1, h2, h3]⟩
  have fsome : ∀ x v, fval x = some v → ∃ d, fv x = some d := fun x v e => by
    cases q : fv x with
    | none => simp [fval, q] at e
    | some d => exact ⟨d, rfl⟩
  have E : EnvAt env fd.scope h₀ (both (argσ xs vs) fval) := by
    refine ⟨hsc, F.kind, by rw [← henv]; exact F.glob, by rw [← henv]; exact F.blt, ⟨_, hL ▸ hns, fun y v hy hl => ?_⟩, fun n hn => ?_, fun n n' k h1 h2 => F.inj n n' k (hcl ▸ h1) (hcl ▸ h2), fun y v hy => ?_⟩
    · cases q : argσ xs vs y with
      | some v' =>
        have e : v' = v := by simpa [both, q] using hy
        subst e
        exact lookup_rev hnd (zip_mem (argσ_mem q))
      | none =>
        have e : fval y = some v := by simpa [both, q] using hy
        obtain ⟨d, hd'⟩ := fsome y v e
        rw [(F.fv y d hd').1] at hl; cases hl
    · have hn' : fd.scope.names.lookup n = some .free := by
        rcases hn with q | q
        · exact absurd rfl (F.nocell _ (mem_of_lookup q))
        · exact q
      obtain ⟨ca, u, h1, ⟨oc, h2, h2'⟩⟩ := F.free n hn'
      refine ⟨ca, u, hcl ▸ h1, ⟨oc, keep _ _ (hb _ _ h2), h2'⟩, fun x v e hy => ?_⟩
      subst e
      cases q : argσ xs vs x with
      | some v' =>
        have hm : x ∈ xs := (List.of_mem_zip (argσ_mem q)).1
        rw [F.kinds x hm] at hn'; cases hn'
      | none =>
        have e : fval x = some v := by simpa [both, q] using hy
        obtain ⟨d, hd'⟩ := fsome x v e
        obtain ⟨ca', v', g1, g2, _, g4⟩ := hfv x d hd'
        rw [h1] at g1; cases g1
        rw [e] at g4; cases g4
        exact IsCell.uniq ⟨oc, h2, h2'⟩ g2
    · cases q : argσ xs vs y with
      | some v' => exact .inl (F.kinds y (List.of_mem_zip (argσ_mem q)).1)
      | none =>
        have e : fval y = some v := by simpa [both, q] using hy
        obtain ⟨d, hd'⟩ := fsome y v e
        exact .inr (.inr ⟨(F.fv y d hd').1, (F.fv y d hd').2.1⟩)
  refine weak (h env _ h₀ _ keep E (both_val (argσ_rep (hv.keeps keep)) (fun x d e => ?_) fun x e => argσ_none (hvl.trans hlen.symm) e) (fun x u hx e => ?_) hmu R.deeper) fun f s' q => q
  · obtain ⟨ca, v, _, _, h4, h5⟩ := hfv x d e
    exact ⟨v, h5, h4 _ _⟩
  · obtain ⟨ca, v, _, _, h4, h5⟩ := hfv x _ e
    have h6 : v = u := rRaw (h4 s.heap [])
    subst h6
    have : argσ xs vs x = none := by
      cases q : argσ xs vs x with
      | none => rfl
      | some w => exact absurd (List.of_mem_zip (argσ_mem q)).1 hx
    simp [both, this, h5]

theorem FnV.userC {a : Addr} {fd : FuncData} {xs : List String} {body : List Stmt} {fv : String → Option D} {ds : List D} {d : D} {o' : Option (String × List D)} (F : FnAtC c a fd xs body fv) (hlen : ds.length = xs.length)
    (h : Ex c r fd.scope (both (argσ xs ds) fv) none body (.ret d) σ' o') : FnV c (r + 1) (.ref a) ds d := fun Y A s vs R hb hY hv => by
  refine F.enter hlen R hb hv fun env val h₀ t keep E V _ hmu R' => ?_
  have X : StA c env fd.scope Y (both (argσ xs ds) fv) none 0 val { s with heap := h₀, toks := t } := by
    refine ⟨fun b ob e => keep b ob (hb b ob e), fun b hm => ?_, E, hY.keeps keep, V⟩
    cases e : c.base.get? b with
    | none => rfl
    | some ob => exact absurd (Heap.lt_size (hb b ob e)) (Nat.not_lt.mpr (hmu b hm))
  refine weak (h.go env Y 0 _ _ _ R' X) fun f s' P => ?_
  obtain ⟨v, e, hw⟩ := P.flow
  subst e
  refine ⟨?_, hw⟩
  obtain ⟨h', t', rfl, k'⟩ := P.kp
  exact ⟨h', t', rfl, fun b ob e => k' b ob (keep b ob e) fun hm => absurd (Heap.lt_size e) (Nat.not_lt.mpr (hmu b hm))⟩

/-- a call that changes one list of whole numbers -/
def FnO (c : Cx) (r : Nat) (v : Value) (args : List D) (a : Addr) (is is' : List Int) : Prop := ∀ Y A s vs, Room A r → c.In s.heap → Live s.heap Y → a ∉ Y → RepL s.heap (a :: Y) args vs →
  (∃ us, s.heap.PlainList a us ∧ IntsAre us.toList is) → wpAny c.M A (PySem.call v vs) (fun _ s' => KpS (fun b => b = a) s s' ∧ ∃ us, s'.heap.PlainList a us ∧ IntsAre us.toList is') noE s
theorem ints_rep {h : Heap} {Y : List Addr} : ∀ {vs : List Value} {is : List Int}, IntsAre vs is → RepL h Y (is.map .int) vs
  | _, _, .nil => by simp [RepL]
  | _, _, .cons n t h => by simp only [List.map_cons, RepL, Rep]; exact ⟨_, _, rfl, ⟨t, rfl⟩, ints_rep h⟩
/-- a block that ends with nothing to give back; what it leaves is known -/
structure ExN (c : Cx) (r : Nat) (sc : Scope) (σ : String → Option D) (o : Option (String × List D)) (t : Env → Sem Flow) (σ' : String → Option D) (o' : Option (String × List D)) : Prop where
  go : ∀ env Y a val A s, Room A r → StA c env sc Y σ o a val s → wpAny c.M A (t env) (fun f s' => (f = .next ∨ f = .ret .none) ∧ KpS (Mu env sc (own o a)) s s' ∧ ∃ a' val', Rel o a s o' a' ∧ StA c env sc Y σ' o' a' val' s') noE s
theorem ExN.of {t : Env → Sem Flow} {σ o o'} (h : ExB c r sc σ o t .next σ' o') : ExN c r sc σ o t σ' o' := ⟨fun env Y a val A s R X =>
  weak (h.go env Y a val A s R X) fun f s' P => ⟨.inl P.flow, P.kp, P.st rfl⟩⟩
theorem ExN.ifRet {σ o o'} {t : Expr} {st : Stmt} {e rest : List Stmt} {pos p : Pos} (ht : Tr c r sc (full σ o) t true) (h : Ex1 c r sc σ o st .next σ' o') : ExN c r sc σ o (execs (.If t [st, .Return none p] e pos :: rest)) σ' o' := ⟨fun env Y a val A s R X => by
  refine wpAny_execs_cons (wpAny_If (weak (ht.go env Y val A s R X.at) fun b' s₁ ⟨e, k⟩ => ?_))
  subst e
  refine wpAny_execs_cons (weak (h.go env Y a val A s₁ R (X.keeps k)) fun f s₂ P => ?_)
  have e : f = .next := P.flow
  subst e
  refine wpAny_execs_cons (wpAny_Return_none ?_)
  have P' := P.back k X
  exact ⟨.inr rfl, P'.kp, P'.st rfl⟩⟩

theorem FnO.userC {a L : Addr} {y : String} {fd : FuncData} {xs : List String} {body : List Stmt} {fv : String → Option D} {ds : List D} {is is' : List Int} (F : FnAtC c a fd xs body fv) (hlen : ds.length = xs.length) (hy : fv y = some (.raw (.ref L))) (hyx : y ∉ xs)
    (hL : c.base.get? L = none)
    (h : ExN c r fd.scope (both (argσ xs ds) fv) (some (y, is.map .int)) (execs body) σ' (some (y, is'.map .int))) : FnO c (r + 1) (.ref a) ds L is is' := fun Y A s vs R hb hY hLY hv hl => by
  refine F.enter hlen R hb hv fun env val h₀ t keep E V hval hmu R' => ?_
  obtain ⟨us, ⟨n, hus⟩, hi⟩ := hl
  have X : StA c env fd.scope Y (both (argσ xs ds) fv) (some (y, is.map .int)) L val { s with heap := h₀, toks := t } := by
    refine ⟨fun b ob e => keep b ob (hb b ob e), fun b hm => ?_, E, hY.keeps keep, hLY, hL, V, hval y _ hyx hy, us, ⟨n, keep _ _ hus⟩, ints_rep hi⟩
    cases e : c.base.get? b with
    | none => rfl
    | some ob => exact absurd (Heap.lt_size (hb b ob e)) (Nat.not_lt.mpr (hmu b hm))
  refine weak (h.go env Y L _ _ _ R' X) fun f s' ⟨_, kp, L', val', hrel, X'⟩ => ?_
  have hfree := (F.fv y _ hy).1
  have hLL : L' = L := by
    obtain ⟨ca, u, h1, h2, h3⟩ := E.cel _ (.inr hfree)
    obtain ⟨ca', u', g1, g2, g3⟩ := X'.env.cel _ (.inr hfree)
    rw [h1] at g1; cases g1
    have e1 := h3 y _ rfl (hval y _ hyx hy)
    have e2 := g3 y _ rfl X'.own.1
    obtain ⟨oc, ec, hc⟩ := h2
    have ek : s'.heap.get? ca = some oc := kp.k ca oc ec fun m => by
      rcases m with m | ⟨x, q, _⟩ | m
      · obtain ⟨mm, ⟨oL, es, ep, eL, hd, _⟩, _⟩ := E.loc
        rw [← m] at eL
        rw [eL] at ec; cases ec
        rw [hc] at hd; cases hd
      · exact absurd rfl (F.nocell _ (mem_of_lookup q))
      · have e : L = ca := by simpa [Mine.own] using m
        subst e
        have := keep _ _ hus
        rw [this] at ec; cases ec
        cases hc
    have := IsCell.uniq ⟨oc, ek, hc⟩ g2
    rw [e1, e2] at this
    simpa using this.symm
  subst hLL
  refine ⟨?_, ?_⟩
  · obtain ⟨h', t', rfl, k'⟩ := kp
    refine ⟨h', t', rfl, fun b ob e nb => k' b ob (keep b ob e) fun hm => ?_⟩
    rcases hm with hm | hm | hm
    · exact absurd (Heap.lt_size e) (Nat.not_lt.mpr (hmu b (.inl hm)))
    · exact absurd (Heap.lt_size e) (Nat.not_lt.mpr (hmu b (.inr (.inl hm))))
    · exact nb (by simpa [Mine.own] using hm.symm)
  · obtain ⟨us', hp, hr⟩ := X'.own.2
    exact ⟨us', hp, hr.ints⟩
end
end Mine

end
section
open PySem PySem.W PySem.Calls PyProof.Rows Builtin.Str
set_option linter.unusedVariables false
set_option linter.unusedSimpArgs false
namespace Mine
section
variable {c : Cx} {r : Nat} {sc : Scope} {σ σ' : String → Option D} {o o' : Option (String × List D)}

theorem KpS.toKpS {M M' : Addr → Prop} {s s' : Shared} (k : KpS M s s') (h : ∀ b, M b → M' b) : KpS M' s s' := k.mono h
theorem Ex1.callO {x y : String} {p pos epos : Pos} {e : Expr} {es : List Expr} {ds : List D} {v : Value} {L : Addr} {is is' : List Int} (hf : Ev c r sc σ (.Name (Str.ofString x) p) (.raw v)) (hk : KeepV c v) (ha : EvL c r sc σ (e :: es) ds)
    (hσ : σ y = some (.raw (.ref L))) (h : FnO c r v ds L is is')
    (he : starred e = false := by rfl) (hp : ∀ env pos, (backTo pos (starEach es env)).any (·.1) = false := by intros; rfl)
    (hi : ∀ env : Env, env.scope.kind = .function → interactive env = false := by intro env he; unfold interactive; simp [he])
    (hs : ∀ env, swapsWith (.Call (.Name (Str.ofString x) p) (e :: es) [] pos) Option.none epos.line env = pure false := by intros; rfl) :
    Ex1 c r sc σ (some (y, is.map .int)) (.Expr (.Call (.Name (Str.ofString x) p) (e :: es) [] pos) epos) .next σ (some (y, is'.map .int)) := ⟨fun env Y a val A s R X => by
  have haL : a = L := by
    obtain ⟨w, h1, h2⟩ := X.at'.ok y _ hσ
    have h3 := X.own.1
    rw [h1] at h3
    have h4 := rRaw h2
    rw [h4] at h3
    simpa using h3.symm
  subst haL
  refine wpAny_Expr_any ?_ (hi env (X.env.scope ▸ X.env.kind)) (hs env)
  refine wpAny_Call_NameR (weak (hf.go env _ val A s R X.at') fun v' s₁ g => ?_)
  obtain rfl := rRaw g.2
  have k := g.1
  have X₁ := X.keeps k
  have h2 := ha.go env _ val A s₁ pos R X₁.at'
  rw [star_cons he] at h2 ⊢
  refine callWith_of (P := c.In) (by show ((false || (backTo pos (starEach es env)).any (·.1)) || false) = false; rw [hp]; rfl) hk (evalArgs_plain (weak h2 fun vs s₂ ⟨k₂, hv⟩ => ?_))
  have X₂ := X₁.keeps k₂
  refine ⟨X₂.base, ?_⟩
  obtain ⟨us, hl, hr⟩ := X₂.own.2
  refine weak (h Y A s₂ vs R X₂.base X₂.live X₂.ok.1 hv ⟨us, hl, hr.ints⟩) fun w s₃ ⟨kp, us', hl', hi'⟩ => ?_
  obtain ⟨h', t', rfl, k'⟩ := kp
  have X₃ := X₂.setOwn (ds' := is'.map .int) (t := t') hl' (fun b o n e => k' b o e n) (ints_rep hi')
  refine ⟨?_, rfl, fun _ => ⟨a, val, fun _ => .inl ⟨by simp, rfl⟩, X₃⟩⟩
  obtain ⟨h2', t2', rfl, kk⟩ := k.trans k₂
  exact ⟨h', t', rfl, fun b ob e n => k' b ob (kk b ob e) fun q => n (.inr (.inr (by rw [q]; rfl)))⟩⟩
end
end Mine

end
section
open PySem PySem.W PySem.Calls PyProof.Rows Builtin.Str
set_option linter.unusedVariables false
set_option linter.unusedSimpArgs false
namespace Mine
local macro_rules | `(tactic| omega) => `(tactic| lia)
section
variable {c : Cx} {r : Nat} {sc : Scope} {σ σ' : String → Option D} {o o' : Option (String × List D)}

/-- a call of a def of the top, opened: the state that its block starts from -/
theorem FnAt.enter {a : Addr} {fd : FuncData} {xs : List String} {body : List Stmt} {ds : List D} {Y : List Addr} {A : Around} {s : Shared} {vs : List Value} {Q : Value → Shared → Prop} (F : FnAt c a fd xs body) (hlen : ds.length = xs.length)
    (R : Room A (r + 1)) (hb : c.In s.heap) (hY : Live s.heap Y) (hv : RepL s.heap Y ds vs)
    (h : ∀ env s₁, env.code = fd.code → env.qual = fd.qualname ++ ".<locals>." → Kp s s₁ → StA c env fd.scope Y (argσ xs ds) none 0 (argσ xs vs) s₁ → (∀ b, Mu env fd.scope none b → s.heap.objs.size ≤ b) → Room (A.deeper env) r →
      wpAny c.M (A.deeper env) (execs body env) (fun f s' => Q (match f with | .ret v => v | _ => .none) s') noE s₁) : wpAny c.M A (PySem.call (.ref a) vs) Q noE s := by
  obtain ⟨o, ho, hd⟩ := F.at_
  have hvl : vs.length = xs.length := hv.length.trans hlen
  have hcellOf : ∀ n, fd.scope.names.lookup n = some .cell → ∃ c', (cellsFrom (s.heap.objs.size + 1) fd.scope.names []).lookup n = some c' := fun n hn => by
    obtain ⟨k, hk⟩ := cf_has fd.scope.names (s.heap.objs.size + 1) n (mem_of_lookup hn)
    exact lookup_some_of_mem hk
  refine wpAny_call (codeAny_call_cells (by have := R.2.1; unfold recursionLimit; omega) (hb _ _ ho) hd (c.nolimit.keeps hb) (F.code.keeps hb) F.body (F.bind vs hvl) F.clo (fun y hy => ?_) (fun s₁ x => ?_) F.co F.gen F.kind)
  · have hm : y.1 ∈ xs.map Str.ofString := by rw [← zip_fst hvl]; exact List.mem_map_of_mem hy
    obtain ⟨z, hz, e⟩ := List.mem_map.mp hm
    rw [← e]
    rcases F.kinds z hz with q | q
    · exact .inl q
    · exact .inr ⟨q, by obtain ⟨k, hk⟩ := hcellOf _ q; rw [hk]; rfl⟩
  · generalize henv : callEnvC fd s.heap.objs.size a = env at x ⊢
    have hL : env.locals = s.heap.objs.size := by rw [← henv]; rfl
    have hsc : env.scope = fd.scope := by rw [← henv]; rfl
    have hcl : env.cells = cellsFrom (s.heap.objs.size + 1) fd.scope.names [] := by rw [← henv]; rfl
    have hk : ∀ n, env.kindOf n = fd.scope.names.lookup n := fun n => by unfold Env.kindOf; rw [hsc]
    have keep := x.toInCall.keep
    have hmu : ∀ b, Mu env fd.scope none b → s.heap.objs.size ≤ b := fun b hm => by
      rcases hm with rfl | ⟨n, _, q⟩ | q
      · rw [hL]; exact Nat.le_refl _
      · have := x.above n b (mem_of_lookup q); rw [hL] at this; exact Nat.le_of_lt this
      · cases q
    have hnd : (((xs.map Str.ofString).zip vs).map (·.1)).Nodup := by rw [zip_fst hvl]; exact F.nodup
    have E : EnvAt env fd.scope s₁.heap (argσ xs vs) := by
      refine ⟨hsc, F.kind, by rw [← henv]; exact F.glob, by rw [← henv]; exact F.blt, ⟨_, x.toInCall.ns, fun y v hy hl => ?_⟩, fun n hn => ?_, fun n n' k h1 h2 => name_of_addr x.apart (mem_of_lookup h1) (mem_of_lookup h2), fun y v hy => ?_⟩
      · exact bindL_get hnd (zip_mem (argσ_mem hy)) ((hk _).trans hl)
      · have hn' : fd.scope.names.lookup n = some .cell := by
          rcases hn with q | q
          · exact q
          · exact absurd rfl (F.nofree _ (mem_of_lookup q))
        obtain ⟨k, hk'⟩ := hcellOf n hn'
        rw [← hcl] at hk'
        refine ⟨k, _, hk', x.cell n k hk', fun y v e hy => ?_⟩
        subst e
        exact bindC_get hnd (zip_mem (argσ_mem hy)) (by rw [hk, hn']; decide)
      · have hm : y ∈ xs := (List.of_mem_zip (argσ_mem hy)).1
        rcases F.kinds y hm with q | q
        · exact .inl q
        · exact .inr (.inl q)
    have X : StA c env fd.scope Y (argσ xs ds) none 0 (argσ xs vs) s₁ :=
      ⟨fun b ob e => keep b ob (hb b ob e), fun b hm => by
        cases e : c.base.get? b with
        | none => rfl
        | some ob => exact absurd (Heap.lt_size (hb b ob e)) (Nat.not_lt.mpr (hmu b hm)), E, hY.keeps keep, argσ_rep (hv.keeps keep)⟩
    obtain ⟨h₁, t₁, rfl⟩ := x.toInCall.same
    exact weak (h env _ (by rw [← henv]; rfl) (by rw [← henv]; rfl) ⟨h₁, t₁, rfl, keep⟩ X hmu R.deeper) fun f s' q => q
end
end Mine

end
section
open PySem PySem.W PySem.Calls PyProof.Rows Builtin.Str
set_option linter.unusedVariables false
set_option linter.unusedSimpArgs false
namespace Mine

/-- the table of made code at P, empty at this place or filled -/
def TabE (P : Addr) (pos : Pos) (qual : Str) (h : Heap) : Prop := ∃ ps, h.get? P = some (tabObj ps) ∧ TriplesOk ps.toList ∧ (codeAmong pos ps.toList = none ∨ ∃ cv, codeAmong pos ps.toList = some cv ∧ h.CodeRec cv qual)
def TabF (P : Addr) (pos : Pos) (qual : Str) (h : Heap) : Prop := ∃ ps cv, h.get? P = some (tabObj ps) ∧ TriplesOk ps.toList ∧ codeAmong pos ps.toList = some cv ∧ h.CodeRec cv qual
theorem TabF.e {P pos qual h} (x : TabF P pos qual h) : TabE P pos qual h := let ⟨ps, cv, a, b, c, d⟩ := x; ⟨ps, a, b, .inr ⟨cv, c, d⟩⟩
theorem triples_snoc {v : Value} {i j : Int} : ∀ {l : List Value}, TriplesOk l → TriplesOk (l ++ [rawInt i, rawInt j, v]) := by
  intro l h
  fun_induction TriplesOk l with
  | case1 => simp [TriplesOk, rawInt]
  | case2 a t b u x rest ih => simpa [TriplesOk] using ih h
  | case3 => exact h.elim
theorem codeRec_keep {h h' : Heap} {cv : Value} {q : Str} {P : Addr} {ps : Array Value} (x : h.CodeRec cv q) (hP : h.get? P = some (tabObj ps)) (hne : ∀ vs, (tabObj ps).data = .fields vs → ∀ t, vs[1]? ≠ some (.str q t)) (k : ∀ b o, b ≠ P → h.get? b = some o → h'.get? b = some o) : h'.CodeRec cv q := by
  obtain ⟨c, o, vs, t, e, ho, hd, hv⟩ := x
  refine ⟨c, o, vs, t, e, k c o ?_ ho, hd, hv⟩
  rintro rfl
  rw [hP] at ho; cases ho
  exact hne vs hd t hv

section
variable {M : Model} {A : Around} {E : Value → Shared → Prop} {s : Shared}
/-- a def that is made within a block -/
theorem mkFn {name qual : Str} {params : Arguments} {body : List Stmt} {scope : Scope} {env : Env} {cd P : Addr} {pos : Pos} {firstLine : Nat} {mg : Str → Option Value} {clos : List (Str × Addr)} {Q : Value → Shared → Prop}
    (hcl : closureFor scope env = pure clos) (hge0 : env.globals = mainGlobals) (hg : s.heap.Ns mainGlobals mg) (hcode : env.code = .ref cd) (C : CodeHd s.heap cd P) (hT : TabE P pos qual s.heap) (hgP : mainGlobals ≠ P) (hb : s.heap.BuiltinsAt mg P)
    (h : ∀ F cv ctv doc pm h' tk, (∀ b o, b ≠ P → s.heap.get? b = some o → h'.get? b = some o) → s.heap.get? F = none → h'.get? F = some { cls := .type "function", data := .func (fnX name qual params body scope clos .none .none doc pm none cv ctv) } →
      h'.CodeRec cv qual → TabF P pos qual h' → (TabF P pos qual s.heap → ∀ o, s.heap.get? P = some o → h'.get? P = some o) → Q (.ref F) { s with heap := h', toks := tk }) :
    wpAny M A (makeFunction name qual params (.stmts body) scope env [] [] [] pos firstLine) Q E s := by
  obtain ⟨ps, hP, ht, hc⟩ := hT
  rcases hc with hn | ⟨cv, hf, hr⟩
  · refine makeFunction_K hcl hge0 hg hcode C hP ht hn hgP hb fun c' ctv doc h' tk hx hge hlt hrec htb => ?_
    have fresh : s.heap.get? h'.objs.size = none := Heap.get?_none_of_le (Nat.le_trans hge (Nat.le_of_lt hlt))
    refine h _ (.ref c') ctv doc _ _ tk (fun b o n e => Heap.get?_push_of_some _ (hx b o n e)) fresh (Heap.get?_push_size _ rfl) ?_ ⟨_, .ref c', Heap.get?_push_of_some _ htb, ?_, ?_, ?_⟩ fun hF => ?_
    · obtain ⟨c₂, oc, vs, t, e2, hoc, hd, hv⟩ := hrec
      exact ⟨c₂, oc, vs, t, e2, Heap.get?_push_of_some _ hoc, hd, hv⟩
    · rw [Array.toList_append]; exact triples_snoc ht
    · rw [Array.toList_append]; exact codeAmong_snoc _ ht hn
    · obtain ⟨c₂, oc, vs, t, e2, hoc, hd, hv⟩ := hrec
      exact ⟨c₂, oc, vs, t, e2, Heap.get?_push_of_some _ hoc, hd, hv⟩
    · obtain ⟨ps', cv, h1, _, h3, _⟩ := hF
      rw [hP] at h1; cases h1
      rw [hn] at h3; cases h3
  · refine makeFunction_hit hcl hge0 hg hcode C hP ht hf hb fun ctv doc h' tk hk hsz => ?_
    have hr' : ∀ o, (h'.push o).CodeRec cv qual := fun o => by
      obtain ⟨c₂, oc, vs, t, e2, hoc, hd, hv⟩ := hr
      exact ⟨c₂, oc, vs, t, e2, Heap.get?_push_of_some _ (hk _ _ hoc), hd, hv⟩
    exact h _ cv ctv doc _ _ tk (fun b o n e => Heap.get?_push_of_some _ (hk b o e)) (Heap.get?_none_of_le hsz) (Heap.get?_push_size _ rfl) (hr' _) ⟨ps, cv, Heap.get?_push_of_some _ (hk _ _ hP), ht, hf, hr' _⟩ fun _ o e => Heap.get?_push_of_some _ (hk _ _ e)
end
end Mine

end
section
open PySem PySem.W PySem.Calls PyProof.Rows Builtin.Str
set_option linter.unusedVariables false
set_option linter.unusedSimpArgs false
namespace Mine

def bodyAt (n : Nat) : List Stmt := match PySem.Challenge.pw_us0025_01.main.body[n]? with
  | some (.FunctionDef _ _ b _ _ _ _ _ _ _) => b
  | _ => []
def scopeAt (n : Nat) : Scope := match PySem.Challenge.pw_us0025_01.main.body[n]? with
  | some (.FunctionDef _ _ _ _ _ _ s _ _ _) => s
  | _ => ⟨.function, [], false, false, []⟩

def stm (n i : Nat) : Stmt := ((bodyAt n)[i]?).getD (.Pass ⟨0, 0, 0, 0⟩)
def inT : Stmt → Expr
  | .While t _ _ _ => t
  | .If t _ _ _ => t
  | .For _ i _ _ _ => i
  | _ => .Constant .none 0 ⟨0, 0, 0, 0⟩
def inB : Stmt → List Stmt
  | .While _ b _ _ => b
  | .For _ _ b _ _ => b
  | .If _ b _ _ => b
  | _ => []

def GFn (c : Cx) (n : Nat) (a : Addr) (name : String) (xs : List String) : Prop :=
  c.mg (Str.ofString name) = some (.ref a) ∧ ∃ fd, fd.scope = scopeAt n ∧ FnAt c a fd xs (bodyAt n)
def GInt (c : Cx) (name : String) (i : Int) : Prop := ∃ t, c.mg (Str.ofString name) = some (.int i t)
def NoG (c : Cx) (name : String) : Prop := c.mg (Str.ofString name) = none

section
variable {c : Cx} {r : Nat} {sc : Scope} {σ σ' : String → Option D} {o o' : Option (String × List D)}
theorem GFn.ev {n a name xs p} (h : GFn c n a name xs) (hk : sc.names.lookup (Str.ofString name) = some .globalImplicit) (hd : (Str.ofString name == ("__debug__" : Str)) = false := by decide) : EvV c sc (.Name (Str.ofString name) p) (.ref a) := EvV.glob h.1 hk hd
theorem GFn.keep {n a name xs} (h : GFn c n a name xs) : KeepV c (.ref a) := let ⟨_, fd, _, F⟩ := h; let ⟨o, ho, hd⟩ := F.at_; KeepV.fn ho hd
theorem GFn.fn {n a name xs ds d} (h : GFn c n a name xs) (hlen : ds.length = xs.length) (hx : Ex c r (scopeAt n) (argσ xs ds) none (bodyAt n) (.ret d) σ' o') : FnV c (r + 1) (.ref a) ds d := by
  obtain ⟨_, fd, e, F⟩ := h
  rw [← e] at hx
  exact FnV.user F hlen hx
theorem GInt.ev {name i p} (h : GInt c name i) (hk : sc.names.lookup (Str.ofString name) = some .globalImplicit) (hd : (Str.ofString name == ("__debug__" : Str)) = false := by decide) : Ev c r sc σ (.Name (Str.ofString name) p) (.int i) := by
  obtain ⟨t, e⟩ := h
  exact Ev.glob (EvV.glob e hk hd) rfl fun h Y => by simp only [Rep]; exact ⟨t, rfl⟩
end

section
variable {c : Cx} {r : Nat} {sc : Scope} {σ σ' : String → Option D} {o o' : Option (String × List D)}
theorem Tr.to {e b b'} (h : Tr c r sc σ e b) (q : b = b') : Tr c r sc σ e b' := q ▸ h
theorem Ev.to {e d d'} (h : Ev c r sc σ e d) (q : d = d') : Ev c r sc σ e d' := q ▸ h
theorem FnV.to {v ds d d'} (h : FnV c r v ds d) (q : d = d') : FnV c r v ds d' := q ▸ h
theorem Room.fn {A r r'} (R : Room A r') (h : r ≤ r') : Room A r := R.le h
theorem FnV.up {v ds d r'} (h : FnV c r v ds d) (q : r ≤ r') : FnV c r' v ds d := fun Y A s vs R => h Y A s vs (R.le q)
end

variable {c : Cx} {r : Nat}
theorem NoG.ev {sc : Scope} {x : String} {p : Pos} {v : Value} (hm : NoG c x) (hv : bootBuiltins (Str.ofString x) = some v) (hk : sc.names.lookup (Str.ofString x) = some .globalImplicit) (hn : Str.ofString x ≠ "__name__" := by decide +kernel) (hd : (Str.ofString x == ("__debug__" : Str)) = false := by decide) : EvV c sc (.Name (Str.ofString x) p) v :=
  EvV.blt hm hv hk hn hd

/-- what the top holds for _substitution_cost -/
def subCost (a b : Str) : Int := if a == b then 0 else if Txt.lower a == Txt.lower b then 1 else 2
structure G1 (c : Cx) : Prop where
  sub : GFn c 4 (c.fa 4) "_substitution_cost" ["ch_a", "ch_b"]
  move : GInt c "_MOVE_COST" 2
  case : GInt c "_CASE_COST" 1

theorem w_sub (G : G1 c) {a b : Str} (ha : a.length ≤ 1000) (hb : b.length ≤ 1000) : FnV c 30 (.ref (c.fa 4)) [.str a, .str b] (.int (subCost a b)) := by
  refine G.sub.fn (r := 29) (σ' := fun _ => none) (o' := none) rfl ?_
  have na : ∀ p, Ev c 29 (scopeAt 4) (argσ ["ch_a", "ch_b"] [.str a, .str b]) (.Name (Str.ofString "ch_a") p) (.str a) := fun p => Ev.name (by simp [argσ, upd])
  have nb : ∀ p, Ev c 29 (scopeAt 4) (argσ ["ch_a", "ch_b"] [.str a, .str b]) (.Name (Str.ofString "ch_b") p) (.str b) := fun p => Ev.name (by simp [argσ, upd])
  unfold subCost
  by_cases e1 : (a == b) = true
  · rw [if_pos e1]
    exact Ex.stop (Ex1.ifT (Tr.to (Tr.cmp (by decide) (na _) (nb _) Cop.eqStr) e1) (Ex.stop (Ex1.ret Ev.int) nofun)) nofun
  · rw [if_neg e1]
    refine Ex.cons (Ex1.ifF (Tr.to (Tr.cmp (by decide) (na _) (nb _) Cop.eqStr) (by simpa using e1)) Ex.nil) ?_
    by_cases e2 : (Txt.lower a == Txt.lower b) = true
    · rw [if_pos e2]
      exact Ex.stop (Ex1.ifT (Tr.to (Tr.cmp (by decide) (Ev.meth0 (na _) hT_str (FnV.lower ha) F.plainAttrs_str F.slot_str_lower F.type_str_lower) (Ev.meth0 (nb _) hT_str (FnV.lower hb) F.plainAttrs_str F.slot_str_lower F.type_str_lower) Cop.eqStr) e2)
        (Ex.stop (Ex1.ret (G.case.ev (by decide +kernel))) nofun)) nofun
    · rw [if_neg e2]
      exact Ex.cons (Ex1.ifF (Tr.to (Tr.cmp (by decide) (Ev.meth0 (na _) hT_str (FnV.lower ha) F.plainAttrs_str F.slot_str_lower F.type_str_lower) (Ev.meth0 (nb _) hT_str (FnV.lower hb) F.plainAttrs_str F.slot_str_lower F.type_str_lower) Cop.eqStr) (by simpa using e2)) Ex.nil)
        (Ex.stop (Ex1.ret (G.move.ev (by decide +kernel))) nofun)
end Mine

end
section
open PySem PySem.W PySem.Calls PyProof.Rows Builtin.Str
set_option linter.unusedVariables false
set_option linter.unusedSimpArgs false
namespace Mine
local macro_rules | `(tactic| omega) => `(tactic| lia)

def T (l : List Nat) : Str := ⟨l.toArray⟩
theorem T_length (l : List Nat) : (T l).length = l.length := by simp [T, Str.length]
theorem T_cps (l : List Nat) : (T l).cps = l.toArray := rfl
theorem T_beq (a b : List Nat) : (T a == T b) = (a == b) := by
  rw [Bool.eq_iff_iff]
  simp [T]
theorem slice_plain (l : List Nat) {lo hi : Option Int} {a b : Nat} (hab : a ≤ b) (hb : b ≤ l.length) (h : strSliceIndices lo hi 1 l.length = (List.range (b - a)).map (fun k => a + k)) :
    Txt.slice (T l) lo hi = T ((l.drop a).take (b - a)) := by
  unfold Txt.slice
  rw [T_length, h]
  have hp := StrLaws.picks l (b - a) a (by omega)
  by_cases q : b - a = l.length
  · have e1 : a = 0 := by omega
    subst e1
    rw [if_pos (by simp; omega)]
    rw [List.drop_zero, q, List.take_length]
  · rw [if_neg (by simp; omega)]
    rw [show (T l).cps = l.toArray from rfl]
    have : List.filterMap (fun x => l.toArray[x]?) (List.map (fun k => a + k) (List.range (b - a))) = List.filterMap (fun x => l[x]?) (List.map (fun k => a + k) (List.range (b - a))) := by
      congr 1; funext x; simp
    show (⟨(List.filterMap (fun x => l.toArray[x]?) (List.map (fun k => a + k) (List.range (b - a)))).toArray⟩ : Str) = _
    rw [this, hp]; rfl
theorem range_one (a b : Nat) (hab : a ≤ b) : sliceRange (a : Int) (b : Int) 1 = (List.range (b - a)).map (fun k => a + k) := by
  unfold sliceRange
  simp only [show (1 : Int) > 0 by decide, if_true]
  by_cases h : (a : Int) < b
  · rw [if_pos h]
    have e : (((b : Int) - a + 1 - 1) / 1).toNat = b - a := by rw [Int.ediv_one]; omega
    rw [e]
    apply List.map_congr_left; intro k _; omega
  · rw [if_neg h]
    have : b - a = 0 := by omega
    simp [this]
theorem idx_from (k n : Nat) (h : k ≤ n) : strSliceIndices (some (k : Int)) none 1 n = (List.range (n - k)).map (fun j => k + j) := by
  rw [← range_one k n h]
  simp only [strSliceIndices, show (1 : Int) > 0 by decide, if_true, show ¬ ((k : Int) < 0) by omega, if_false]
  congr 1; omega
theorem idx_all (n : Nat) : strSliceIndices none none 1 n = (List.range (n - 0)).map (fun j => 0 + j) := by
  rw [← range_one 0 n (by omega)]
  simp only [strSliceIndices, show (1 : Int) > 0 by decide, if_true]
  rfl
theorem idx_to (m n : Nat) (h0 : 0 < m) (h : m ≤ n) : strSliceIndices none (some (-(m : Int))) 1 n = (List.range ((n - m) - 0)).map (fun j => 0 + j) := by
  rw [← range_one 0 (n - m) (by omega)]
  simp only [strSliceIndices, show (1 : Int) > 0 by decide, if_true, show (-(m : Int) < 0) by omega]
  congr 1; omega
theorem idx_upto (m n : Nat) (h : m ≤ n) : strSliceIndices none (some (m : Int)) 1 n = (List.range (m - 0)).map (fun j => 0 + j) := by
  rw [← range_one 0 m (by omega)]
  simp only [strSliceIndices, show (1 : Int) > 0 by decide, if_true, show ¬ ((m : Int) < 0) by omega, if_false]
  congr 1; omega
theorem slice_from (l : List Nat) {k : Nat} (h : k ≤ l.length) : Txt.slice (T l) (some (k : Int)) none = T (l.drop k) := by
  rw [slice_plain l (a := k) (b := l.length) h (Nat.le_refl _) (idx_from k _ h), List.take_of_length_le (by simp)]
theorem slice_all (l : List Nat) : Txt.slice (T l) none none = T l := by
  rw [slice_plain l (a := 0) (b := l.length) (by omega) (Nat.le_refl _) (idx_all _)]; simp
theorem slice_to (l : List Nat) {m : Nat} (h0 : 0 < m) (h : m ≤ l.length) : Txt.slice (T l) none (some (-(m : Int))) = T (l.take (l.length - m)) := by
  rw [slice_plain l (a := 0) (b := l.length - m) (by omega) (by omega) (idx_to m _ h0 h)]; simp
theorem slice_upto (l : List Nat) {m : Nat} (h : m ≤ l.length) : Txt.slice (T l) none (some (m : Int)) = T (l.take m) := by
  rw [slice_plain l (a := 0) (b := m) (by omega) h (idx_upto m _ h)]; simp

/-- the common beginning -/
def cpl : List Nat → List Nat → Nat
  | x :: a, y :: b => if x == y then cpl a b + 1 else 0
  | _, _ => 0
theorem cpl_le : ∀ a b : List Nat, cpl a b ≤ a.length ∧ cpl a b ≤ b.length
  | x :: a, y :: b => by
    unfold cpl
    have := cpl_le a b
    split <;> simp <;> omega
  | [], _ => by simp [cpl]
  | _ :: _, [] => by simp [cpl]

/-- _levenshtein_distance: one row -/
def levIn (bc : Nat) : List Nat → List Int → Int → Int → Int → List Int × Int × Int
  | x :: a, w :: row, dist, res, mn =>
    let sub := dist + subCost (T [bc]) (T [x])
    let idl := (if w < res then w else res) + 2
    let res' := if sub < idl then sub else idl
    let mn' := if res' < mn then res' else mn
    let p := levIn bc a row w res' mn'
    (res' :: p.1, p.2.1, p.2.2)
  | _, _, _, res, mn => ([], res, mn)
def levOut (a : List Nat) (mx : Int) : List Nat → Nat → List Int → Int → Int
  | bc :: b, j, row, res =>
    let p := levIn bc a row (j * 2) (j * 2) 9223372036854775807
    if p.2.2 > mx then mx + 1 else levOut a mx b (j + 1) p.1 p.2.1
  | [], _, _, res => res
def lev3 (a b : List Nat) (mx : Int) : Int :=
  if (b.length - a.length : Int) * 2 > mx then mx + 1 else levOut a mx b 0 ((List.range a.length).map fun i => ((2 + i * 2 : Nat) : Int)) 0
def lev2 (a b : List Nat) (mx : Int) : Int :=
  if a.isEmpty || b.isEmpty then 2 * (a.length + b.length : Int) else if b.length < a.length then lev3 b a mx else lev3 a b mx
def lev1 (a b : List Nat) (mx : Int) : Int :=
  let m := cpl a.reverse b.reverse
  lev2 (a.take (a.length - m)) (b.take (b.length - m)) mx
def lev (a b : List Nat) (mx : Int) : Int :=
  if a == b then 0 else
  let k := cpl a b
  lev1 (a.drop k) (b.drop k) mx

structure G2 (c : Cx) : Prop extends G1 c where
  lev : GFn c 5 (c.fa 5) "_levenshtein_distance" ["a", "b", "max_cost"]
  mss : GInt c "_MAX_STRING_SIZE" 40
  len : NoG c "len"
  range : NoG c "range"
  list : NoG c "list"
  min : NoG c "min"

variable {c : Cx} {r : Nat}
def sL (a b : List Nat) (mx : Int) (rest : List (String × D)) : String → Option D := L (("a", .str (T a)) :: ("b", .str (T b)) :: ("max_cost", .int mx) :: rest)

theorem getElem_T (l : List Nat) (k : Nat) (h : k < l.length) : (seqIndex? (k : Int) (T l).length).bind ((T l).cps[·]?) = some l[k] := by
  unfold seqIndex?
  rw [T_length]
  simp only [show ¬ ((k : Int) < 0) by omega, if_false]
  rw [if_pos (by simp; omega)]
  simp [T, List.getElem?_eq_getElem h]
theorem getElem_Tneg (l : List Nat) (k : Nat) (h0 : 0 < k) (h : k ≤ l.length) : (seqIndex? (-(k : Int)) (T l).length).bind ((T l).cps[·]?) = some (l[l.length - k]'(by omega)) := by
  have e := seqIndex_neg (k := -(k : Int)) (n := (T l).length) (by omega) (by rw [T_length]; omega)
  rw [e, T_length]
  have : (-(k : Int) + l.length).toNat = l.length - k := by omega
  rw [this]
  simp [T, List.getElem?_eq_getElem (show l.length - k < l.length by omega)]

local macro_rules | `(tactic| trivial) => `(tactic| first | rfl | (simp [full, sL, L, argσ, upd]; done))

theorem nA {a b mx rest p} : Ev c 59 (scopeAt 5) (sL a b mx rest) (.Name (Str.ofString "a") p) (.str (T a)) := Ev.name (by trivial)
theorem nB {a b mx rest p} : Ev c 59 (scopeAt 5) (sL a b mx rest) (.Name (Str.ofString "b") p) (.str (T b)) := Ev.name (by trivial)
theorem nM {a b mx rest p} : Ev c 59 (scopeAt 5) (sL a b mx rest) (.Name (Str.ofString "max_cost") p) (.int mx) := Ev.name (by trivial)
theorem nPre {a b mx p k} : Ev c 59 (scopeAt 5) (sL a b mx [("pre", .int k)]) (.Name (Str.ofString "pre") p) (.int k) := Ev.name (by trivial)
theorem nPost {a b mx p k} : Ev c 59 (scopeAt 5) (sL a b mx [("post", .int k)]) (.Name (Str.ofString "post") p) (.int k) := Ev.name (by trivial)

section
variable {sc : Scope} {σ : String → Option D} {l : List Nat} {e u : Expr} {p q : Pos} {k : Nat}
theorem Tru.T (h : l.length ≤ 1000) : Tru c (.str (T l)) (!l.isEmpty) := by
  have := Tru.str (c := c) (a := Mine.T l) (by rw [T_length]; unfold sizeLine; omega)
  rw [T_length] at this
  cases l <;> simpa using this
theorem evFrom (h₁ : Ev c r sc σ e (.str (T l))) (h₂ : Ev c r sc σ u (.int k)) (hl : l.length ≤ 1000) (hk : k ≤ l.length) (ht : ∀ o r, letTemporaryGo e o r = pure () := by intro _ _; rfl) :
    Ev c r sc σ (.Subscript e (.Slice (some u) none none p) q) (.str (T (l.drop k))) :=
  Ev.to (Ev.sliceStr h₁ (EvP.int h₂) EvP.no (by rw [T_length]; unfold sizeLine; omega) ht) (by rw [slice_from _ hk])
theorem evTo (h₁ : Ev c r sc σ e (.str (T l))) (h₂ : EvP c r sc σ (some u) (if k = 0 then none else some (-(k : Int)))) (hl : l.length ≤ 1000) (hk : k ≤ l.length) (ht : ∀ o r, letTemporaryGo e o r = pure () := by intro _ _; rfl) :
    Ev c r sc σ (.Subscript e (.Slice none (some u) none p) q) (.str (T (l.take (l.length - k)))) := by
  refine Ev.to (Ev.sliceStr h₁ EvP.no h₂ (by rw [T_length]; unfold sizeLine; omega) ht) ?_
  by_cases z : k = 0
  · subst z; rw [if_pos rfl, slice_all]; simp
  · rw [if_neg z, slice_to _ (by omega) hk]
theorem evAt (hr : 20 ≤ r) (h₁ : Ev c r sc σ e (.str (T l))) (h₂ : Ev c r sc σ u (.int k)) (hl : l.length ≤ 1000) (hk : k < l.length)
    (hs : ∀ o i, subscripted u false o i = operate [o, i] (getItem o i) := by intros; rfl) : Ev c r sc σ (.Subscript e u q) (.str (T [l[k]])) :=
  Ev.sub hr h₁ h₂ (Idx.str (by omega) (by omega) (getElem_T l k hk)) hs
theorem evAtNeg (hr : 20 ≤ r) (h₁ : Ev c r sc σ e (.str (T l))) (h₂ : Ev c r sc σ u (.int (-(k : Int)))) (hl : l.length ≤ 1000) (h0 : 0 < k) (hk : k ≤ l.length)
    (hs : ∀ o i, subscripted u false o i = operate [o, i] (getItem o i) := by intros; rfl) : Ev c r sc σ (.Subscript e u q) (.str (T [l[l.length - k]'(by omega)])) :=
  Ev.sub hr h₁ h₂ (Idx.str (by omega) (by omega) (getElem_Tneg l k h0 hk)) hs
theorem evPost {k : Nat} (hr : 20 ≤ r) (h : Ev c r sc σ e (.int (-(k : Int)))) {p' : Pos} {kd : Nat} : EvP c r sc σ (some (.BoolOp .Or [e, .Constant .none kd p'] q)) (if k = 0 then none else some (-(k : Int))) := by
  by_cases z : k = 0
  · subst z; rw [if_pos rfl]; exact EvP.none (Ev.orF hr h Tru.int Ev.none)
  · rw [if_neg z]
    exact EvP.int (Ev.orT hr h (by have := Tru.int (c := c) (a := -(k : Int)); rwa [show (-(k : Int) != 0) = true by simp; omega] at this))
end
theorem T_one_beq (x y : Nat) : (T [x] == T [y]) = (x == y) := by rw [T_beq]; simp

theorem wl_pre {a b : List Nat} {mx : Int} (ha : a.length ≤ 40) (hb : b.length ≤ 40) : ∀ (n k : Nat), cpl (a.drop k) (b.drop k) = n → k ≤ a.length → k ≤ b.length →
    WhR c 59 (scopeAt 5) (inT (stm 5 2)) (inB (stm 5 2)) n (sL a b mx [("pre", .int k)]) none .next (sL a b mx [("pre", .int (k + n : Nat))]) none := by
  intro n
  induction n with
  | zero =>
    intro k h hk hk'
    refine WhR.stop (Tr.bool ?_)
    by_cases e1 : k < a.length
    · refine TrB.andT (Tr.to (Tr.val (by decide) (evFrom nA nPre (by omega) hk) (Tru.T (by simp; omega))) (by simp; omega)) ?_
      by_cases e2 : k < b.length
      · refine TrB.andT (Tr.to (Tr.val (by decide) (evFrom nB nPre (by omega) hk') (Tru.T (by simp; omega))) (by simp; omega)) (TrB.andF ?_)
        refine Tr.to (Tr.cmp (by decide) (evAt (by decide) nA nPre (by omega) e1) (evAt (by decide) nB nPre (by omega) e2) Cop.eqStr) ?_
        rw [T_one_beq]
        rw [List.drop_eq_getElem_cons e1, List.drop_eq_getElem_cons e2] at h
        unfold cpl at h
        split at h
        · omega
        · simp_all
      · exact TrB.andF (Tr.to (Tr.val (by decide) (evFrom nB nPre (by omega) hk') (Tru.T (by simp; omega))) (by simp; omega))
    · exact TrB.andF (Tr.to (Tr.val (by decide) (evFrom nA nPre (by omega) hk) (Tru.T (by simp; omega))) (by simp; omega))
  | succ n ih =>
    intro k h hk hk'
    have hle := cpl_le (a.drop k) (b.drop k)
    simp only [List.length_drop] at hle
    have e1 : k < a.length := by omega
    have e2 : k < b.length := by omega
    rw [List.drop_eq_getElem_cons e1, List.drop_eq_getElem_cons e2] at h
    unfold cpl at h
    split at h
    case isFalse => omega
    rename_i e3
    refine WhR.turn (σ₁ := sL a b mx [("pre", .int (k + 1 : Nat))]) (o₁ := none) (Tr.bool ?_) ?_ ?_
    · refine TrB.andT (Tr.to (Tr.val (by decide) (evFrom nA nPre (by omega) hk) (Tru.T (by simp; omega))) (by simp; omega)) ?_
      refine TrB.andT (Tr.to (Tr.val (by decide) (evFrom nB nPre (by omega) hk') (Tru.T (by simp; omega))) (by simp; omega)) ?_
      exact TrB.andT (Tr.to (Tr.cmp (by decide) (evAt (by decide) nA nPre (by omega) e1) (evAt (by decide) nB nPre (by omega) e2) Cop.eqStr) (by rw [T_one_beq]; exact e3)) TrB.andNil
    · refine Ex.cons (ExB.post (Ex1.aug (x := "pre") (d₀ := .int k) (d := .int (k + 1 : Nat)) (by decide) (by trivial) Ev.int (by exact_mod_cast Iop.add) (.inl (by decide +kernel)) nofun) ?_) Ex.nil
      exact Sub.cons (by trivial) (Sub.cons (by trivial) (Sub.cons (by trivial) (Sub.cons (by trivial) Sub.nil)))
    · have := ih (k + 1) (by omega) e1 e2
      rwa [show k + 1 + n = k + (n + 1) by omega] at this

theorem rev_get {a : List Nat} {m : Nat} (h : m < a.length) : a.reverse[m]'(by simpa using h) = a[a.length - (m + 1)]'(by omega) := by
  rw [List.getElem_reverse]; congr 1; omega
theorem revdrop {a : List Nat} {m : Nat} (h : m < a.length) : a.reverse.drop m = a[a.length - (m + 1)]'(by omega) :: a.reverse.drop (m + 1) := by
  rw [List.drop_eq_getElem_cons (by simpa using h), rev_get h]

theorem tPost {l : List Nat} {m : Nat} (h : m ≤ l.length) (hl : l.length ≤ 40) {x : String} {σ : String → Option D} {p p1 p2 p3 p4 p5 : Pos} {kd : Nat} (hx : Ev c 59 (scopeAt 5) σ (.Name (Str.ofString x) p) (.str (T l))) (hm : Ev c 59 (scopeAt 5) σ (.Name (Str.ofString "post") p1) (.int (-(m : Int)))) :
    Tr c 59 (scopeAt 5) σ (.Subscript (.Name (Str.ofString x) p) (.Slice none (some (.BoolOp .Or [.Name (Str.ofString "post") p1, .Constant .none kd p2] p3)) none p4) p5) (decide (m < l.length)) :=
  Tr.to (Tr.val (by decide) (evTo hx (evPost (by decide) hm) (by omega) h) (Tru.T (by simp; omega))) (by
    rw [Bool.eq_iff_iff]; simp [List.take_eq_nil_iff]
    constructor
    · rintro ⟨h1, h2⟩; omega
    · intro h1; exact ⟨by omega, by intro q; subst q; simp at h1⟩)
theorem evPostM {sc : Scope} {σ : String → Option D} {m : Nat} {e : Expr} {kd : Nat} {p q : Pos} (hm : Ev c 59 sc σ e (.int (-(m : Int)))) : Ev c 59 sc σ (.BinOp e .Sub (.Constant (.int 1) kd p) q) (.int (-((m + 1 : Nat) : Int))) :=
  Ev.to (Ev.bin (by decide) hm Ev.int Bop.sub) (by congr 1; omega)

theorem wl_post {a b : List Nat} {mx : Int} (ha : a.length ≤ 40) (hb : b.length ≤ 40) : ∀ (n m : Nat), cpl (a.reverse.drop m) (b.reverse.drop m) = n → m ≤ a.length → m ≤ b.length →
    WhR c 59 (scopeAt 5) (inT (stm 5 6)) (inB (stm 5 6)) n (sL a b mx [("post", .int (-(m : Int)))]) none .next (sL a b mx [("post", .int (-((m + n : Nat) : Int)))]) none := by
  intro n
  induction n with
  | zero =>
    intro k h hk hk'
    refine WhR.stop (Tr.bool ?_)
    by_cases e1 : k < a.length
    · refine TrB.andT (Tr.to (tPost hk ha nA nPost) (by simpa using e1)) ?_
      by_cases e2 : k < b.length
      · refine TrB.andT (Tr.to (tPost hk' hb nB nPost) (by simpa using e2)) (TrB.andF ?_)
        refine Tr.to (Tr.cmp (by decide) (evAtNeg (by decide) nA (evPostM nPost) (by omega) (by omega) e1) (evAtNeg (by decide) nB (evPostM nPost) (by omega) (by omega) e2) Cop.eqStr) ?_
        rw [T_one_beq]
        rw [revdrop e1, revdrop e2] at h
        unfold cpl at h
        split at h
        · omega
        · simp_all
      · exact TrB.andF (Tr.to (tPost hk' hb nB nPost) (by simpa using e2))
    · exact TrB.andF (Tr.to (tPost hk ha nA nPost) (by simpa using e1))
  | succ n ih =>
    intro k h hk hk'
    have hle := cpl_le (a.reverse.drop k) (b.reverse.drop k)
    simp only [List.length_drop, List.length_reverse] at hle
    have e1 : k < a.length := by omega
    have e2 : k < b.length := by omega
    rw [revdrop e1, revdrop e2] at h
    unfold cpl at h
    split at h
    case isFalse => omega
    rename_i e3
    refine WhR.turn (σ₁ := sL a b mx [("post", .int (-((k + 1 : Nat) : Int)))]) (o₁ := none) (Tr.bool ?_) ?_ ?_
    · refine TrB.andT (Tr.to (tPost hk ha nA nPost) (by simpa using e1)) ?_
      refine TrB.andT (Tr.to (tPost hk' hb nB nPost) (by simpa using e2)) ?_
      exact TrB.andT (Tr.to (Tr.cmp (by decide) (evAtNeg (by decide) nA (evPostM nPost) (by omega) (by omega) e1) (evAtNeg (by decide) nB (evPostM nPost) (by omega) (by omega) e2) Cop.eqStr) (by rw [T_one_beq]; exact e3)) TrB.andNil
    · refine Ex.cons (ExB.post (Ex1.aug (x := "post") (d₀ := .int (-(k : Int))) (d := .int (-((k + 1 : Nat) : Int))) (by decide) (by trivial) Ev.int (by rw [show -((k + 1 : Nat) : Int) = -(k : Int) - 1 by omega]; exact Iop.sub) (.inl (by decide +kernel)) nofun) ?_) Ex.nil
      exact Sub.cons (by trivial) (Sub.cons (by trivial) (Sub.cons (by trivial) (Sub.cons (by trivial) Sub.nil)))
    · have := ih (k + 1) (by omega) e1 e2
      rwa [show k + 1 + n = k + (n + 1) by omega] at this

/-- what one turn of the inner loop reads -/
def sI (a b : List Nat) (mx : Int) (bc : Nat) (dist res mn : Int) : String → Option D := L [("a", .str (T a)), ("b", .str (T b)), ("max_cost", .int mx), ("bchar", .str (T [bc])), ("distance", .int dist), ("result", .int res), ("minimum", .int mn)]
def iL (l : List Int) : List D := l.map .int
def inFor : Stmt := ((inB (stm 5 15))[3]?).getD (.Pass ⟨0, 0, 0, 0⟩)
theorem iL_get {l : List Int} {k : Nat} {i : Int} (h : l[k]? = some i) : (iL l)[k]? = some (.int i) := by simp [iL, h]
theorem iL_len (l : List Int) : (iL l).length = l.length := by simp [iL]
theorem iL_set (l : List Int) (k : Nat) (i : Int) : (iL l).set k (.int i) = iL (l.set k i) := by simp [iL, List.map_set]

local macro_rules | `(tactic| trivial) => `(tactic| first | rfl | (simp [full, sI, L, upd]; done))

theorem wl_in (G : G2 c) {a0 b : List Nat} {mx : Int} {bc : Nat} (h40 : a0.length ≤ 40) : ∀ (a : List Nat) (pre : List Nat) (done row : List Int) (dist res mn : Int), a0 = pre ++ a → done.length = pre.length → row.length = a.length →
    ∃ dl, ForR c 59 (scopeAt 5) "index" (inB inFor) (((List.range' pre.length a.length).map fun i => (D.int (i : Nat)))) (sI a0 b mx bc dist res mn) (some ("row", iL (done ++ row))) .next
      (sI a0 b mx bc dl (levIn bc a row dist res mn).2.1 (levIn bc a row dist res mn).2.2) (some ("row", iL (done ++ (levIn bc a row dist res mn).1)))
  | [], pre, done, row, dist, res, mn, h0, hd, hr => by
    have : row = [] := List.length_eq_zero_iff.mp hr
    subst this
    exact ⟨dist, ForR.nil⟩
  | x :: a, pre, done, [], dist, res, mn, h0, hd, hr => by simp at hr
  | x :: a, pre, done, w :: row, dist, res, mn, h0, hd, hr => by
    let sub := dist + subCost (T [bc]) (T [x])
    let idl := (if w < res then w else res) + 2
    let res' := if sub < idl then sub else idl
    let mn' := if res' < mn then res' else mn
    obtain ⟨dl, ih⟩ := wl_in G (a0 := a0) (b := b) (mx := mx) (bc := bc) h40 a (pre ++ [x]) (done ++ [res']) row w res' mn' (by simp [h0]) (by simp [hd]) (by simpa using hr)
    refine ⟨dl, ?_⟩
    simp only [List.length_cons, List.range'_succ, List.map_cons]
    have hpre : pre.length < a0.length := by rw [h0]; simp
    have hx : a0[pre.length] = x := by simp [h0]
    have own : ownName (some ("row", iL (done ++ w :: row))) ≠ some "index" := by simp [ownName]
    have hlen : (done ++ w :: row).length ≤ 40 := by rw [h0] at h40; simp at h40 hr ⊢; omega
    have hset : (iL (done ++ w :: row)).set pre.length (.int res') = iL ((done ++ [res']) ++ row) := by
      rw [iL_set, ← hd]; simp
    have hget : (iL (done ++ w :: row))[pre.length]? = some (.int w) := iL_get (by rw [← hd]; simp)
    refine ForR.turn (σ₁ := sI a0 b mx bc w res' mn') (o₁ := some ("row", iL ((done ++ [res']) ++ row))) own ?_ (by simpa [levIn] using ih)
    have nm : ∀ {y : String} {d p} {σ : String → Option D}, σ y = some d → (Str.ofString y == ("__debug__" : Str)) = false → Ev c 59 (scopeAt 5) σ (.Name (Str.ofString y) p) d := fun h h' => Ev.name h h'
    -- substitute = distance + _substitution_cost(bchar, a[index])
    refine Ex.cons (Ex1.assign (d := .int sub) (Ev.bin (by decide) (Ev.name (by trivial)) (Ev.call (G.sub.ev (by decide +kernel)) G.sub.keep (EvL.cons (Ev.name (d := .str (T [bc])) (by trivial)) (EvL.cons (evAt (k := pre.length) (by decide) (Ev.name (by trivial)) (Ev.name (by trivial)) (by omega) hpre) EvL.nil))
      (by rw [hx]; exact (w_sub G.toG1 (by simp [T, Str.length]) (by simp [T, Str.length])).up (by decide))) Bop.add) (.inl (by decide +kernel)) (by simp [ownName])) ?_
    -- distance = row[index]
    refine Ex.cons (Ex1.assignA (d := .int w) (Ev.sub (by decide) (Ev.name (d := .list (iL (done ++ w :: row))) (by trivial)) (Ev.name (d := .int pre.length) (by trivial)) (Idx.list (by omega) (by omega) (by simpa using hget))) rfl (.inl (by decide +kernel)) (by simp [ownName])) ?_
    -- insert_delete = min(result, distance) + _MOVE_COST
    refine Ex.cons (Ex1.assign (d := .int idl) (Ev.bin (by decide) (Ev.call (NoG.ev G.min (by rfl) (by decide +kernel)) KeepV.blt (EvL.cons (Ev.name (d := .int res) (by trivial)) (EvL.cons (Ev.name (d := .int w) (by trivial)) EvL.nil)) FnV.min2) (G.move.ev (by decide +kernel)) Bop.add) (.inl (by decide +kernel)) (by simp [ownName])) ?_
    -- result = min(insert_delete, substitute)
    refine Ex.cons (Ex1.assign (d := .int res') (Ev.call (NoG.ev G.min (by rfl) (by decide +kernel)) KeepV.blt (EvL.cons (Ev.name (d := .int idl) (by trivial)) (EvL.cons (Ev.name (d := .int sub) (by trivial)) EvL.nil)) FnV.min2) (.inl (by decide +kernel)) (by simp [ownName])) ?_
    -- row[index] = result
    refine Ex.cons (Ex1.setItem (d := .int res') (k := pre.length) (Ev.name (by trivial)) (Ev.name (by trivial)) (by omega) (by rw [iL_len]; simp; omega) (by rw [iL_len]; omega)) ?_
    simp only [Int.toNat_natCast, hset]
    -- if result < minimum: minimum = result
    have fin : ∀ σ, σ "a" = some (.str (T a0)) → σ "b" = some (.str (T b)) → σ "max_cost" = some (.int mx) → σ "bchar" = some (.str (T [bc])) → σ "distance" = some (.int w) → σ "result" = some (.int res') → σ "minimum" = some (.int mn') → Sub (sI a0 b mx bc w res' mn') σ :=
      fun σ h1 h2 h3 h4 h5 h6 h7 => Sub.cons h1 (Sub.cons h2 (Sub.cons h3 (Sub.cons h4 (Sub.cons h5 (Sub.cons h6 (Sub.cons h7 Sub.nil))))))
    by_cases q : res' < mn
    · have e : mn' = res' := if_pos q
      refine Ex.cons (ExB.post (Ex1.ifT (Tr.to (Tr.cmp (by decide) (Ev.name (d := .int res') (by trivial)) (Ev.name (d := .int mn) (by trivial)) Cop.ltInt) (by simpa using q)) (Ex.cons (Ex1.assign (Ev.name (d := .int res') (by trivial)) (.inl (by decide +kernel)) (by simp [ownName])) Ex.nil)) ?_) Ex.nil
      exact fin _ (by trivial) (by trivial) (by trivial) (by trivial) (by trivial) (by trivial) (by rw [e]; trivial)
    · have e : mn' = mn := if_neg q
      refine Ex.cons (ExB.post (Ex1.ifF (Tr.to (Tr.cmp (by decide) (Ev.name (d := .int res') (by trivial)) (Ev.name (d := .int mn) (by trivial)) Cop.ltInt) (by simpa using q)) Ex.nil) ?_) Ex.nil
      exact fin _ (by trivial) (by trivial) (by trivial) (by trivial) (by trivial) (by trivial) (by rw [e]; trivial)

theorem range_ds (n : Nat) : ((List.range n).map fun i => D.int (0 + (i : Nat) * 1)) = (List.range' 0 n).map fun i => D.int (i : Nat) := by
  rw [List.range_eq_range']; congr 1; funext i; simp
theorem small_nat {n : Nat} (h : n ≤ 2 ^ 20) : Builtin.Range.small 0 (n : Int) 1 = true := small_one (by omega) (by omega) (by omega) (by omega)
theorem size_nat (n : Nat) : Builtin.Range.rangeSize 0 (n : Int) 1 = n := by rw [rangeSize_one]; split <;> omega
/-- for … in range(n) -/
theorem EvI.range1 {sc : Scope} {σ : String → Option D} {e : Expr} {n : Nat} {p q : Pos} (hr : 20 ≤ r) (hg : NoG c "range") (hk : sc.names.lookup (Str.ofString "range") = some .globalImplicit) (h : Ev c r sc σ e (.int n)) (hn : n ≤ 2 ^ 20)
    (he : ∀ env, starEach [e] env = (false, eval e env) :: starEach [] env := by intro _; rfl) :
    EvI c r sc σ (.Call (.Name (Str.ofString "range") p) [e] [] q) ((List.range' 0 n).map fun i => D.int (i : Nat)) := by
  rw [← range_ds]
  exact EvI.of hr (Ev.call (NoG.ev hg (by rfl) hk) KeepV.type (EvL.cons0 h EvL.nil he) FnV.range1 he) (Iters.range (small_nat hn) (size_nat n))

def sO (a b : List Nat) (mx res : Int) : String → Option D := L [("a", .str (T a)), ("b", .str (T b)), ("max_cost", .int mx), ("result", .int res)]
local macro_rules | `(tactic| trivial) => `(tactic| first | rfl | (simp [full, sI, sO, L, upd]; done))

theorem levIn_len (bc : Nat) : ∀ (a : List Nat) (row : List Int) (d res mn : Int), row.length = a.length → (levIn bc a row d res mn).1.length = a.length
  | [], row, _, _, _, h => by simp [levIn]
  | x :: a, [], _, _, _, h => by simp at h
  | x :: a, w :: row, d, res, mn, h => by simp [levIn]; exact levIn_len bc a row _ _ _ (by simpa using h)

theorem wl_out (G : G2 c) {a b0 : List Nat} {mx : Int} (ha : a.length ≤ 40) (hb : b0.length ≤ 40) : ∀ (b pre : List Nat) (row : List Int) (res : Int), b0 = pre ++ b → row.length = a.length →
    (∃ σ' ds', ForR c 59 (scopeAt 5) "bindex" (inB (stm 5 15)) ((List.range' pre.length b.length).map fun i => (D.int (i : Nat))) (sO a b0 mx res) (some ("row", iL row)) .next σ' (some ("row", ds')) ∧ σ' "result" = some (.int (levOut a mx b pre.length row res))) ∨
    (∃ σ' o', ForR c 59 (scopeAt 5) "bindex" (inB (stm 5 15)) ((List.range' pre.length b.length).map fun i => (D.int (i : Nat))) (sO a b0 mx res) (some ("row", iL row)) (.ret (.int (levOut a mx b pre.length row res))) σ' o')
  | [], pre, row, res, h0, hr => .inl ⟨_, _, ForR.nil, by trivial⟩
  | bc :: b, pre, row, res, h0, hr => by
    simp only [List.length_cons, List.range'_succ, List.map_cons]
    have hpre : pre.length < b0.length := by rw [h0]; simp
    have hx : b0[pre.length] = bc := by simp [h0]
    have own : ownName (some ("row", iL row)) ≠ some "bindex" := by simp [ownName]
    obtain ⟨dl, hin⟩ := wl_in (c := c) G (a0 := a) (b := b0) (mx := mx) (bc := bc) ha a [] [] row ((pre.length : Int) * 2) ((pre.length : Int) * 2) 9223372036854775807 rfl rfl hr
    generalize hp : levIn bc a row ((pre.length : Int) * 2) ((pre.length : Int) * 2) 9223372036854775807 = p at hin
    have hlen : p.1.length = a.length := by rw [← hp]; exact levIn_len _ _ _ _ _ _ hr
    -- the turn up to the test
    have turn : ∀ {fl σ₁ o₁}, Ex c 59 (scopeAt 5) (sI a b0 mx bc dl p.2.1 p.2.2) (some ("row", iL p.1)) ((inB (stm 5 15)).drop 4) fl σ₁ o₁ → Ex c 59 (scopeAt 5) (upd (sO a b0 mx res) "bindex" (.int (pre.length : Nat))) (some ("row", iL row)) (inB (stm 5 15)) fl σ₁ o₁ := fun h => by
      refine Ex.cons (Ex1.assign (d := .str (T [bc])) (by rw [← hx]; exact evAt (k := pre.length) (by decide) (Ev.name (by trivial)) (Ev.name (by trivial)) (by omega) hpre) (.inl (by decide +kernel)) (by simp [ownName])) ?_
      refine Ex.cons (Ex1.assign2 (d := .int ((pre.length : Int) * 2)) (Ev.bin (by decide) (Ev.name (d := .int (pre.length : Nat)) (by trivial)) (G.move.ev (by decide +kernel)) (Bop.mul (IntMulOk.of_right (by decide +kernel)))) (.inl (by decide +kernel)) (.inl (by decide +kernel)) (by simp [ownName]) (by simp [ownName])) ?_
      refine Ex.cons (Ex1.assign Ev.int (.inl (by decide +kernel)) (by simp [ownName])) ?_
      refine Ex.cons (ExB.pre (Ex1.for (fl₁ := .next) (EvI.range1 (n := a.length) (by decide) G.range (by decide +kernel) (Ev.call (NoG.ev G.len (by rfl) (by decide +kernel)) KeepV.blt (EvL.cons (Ev.name (d := .str (T a)) (by trivial)) EvL.nil) (by rw [← T_length a]; exact FnV.lenStr (by rw [T_length]; unfold sizeLine; omega))) (by omega)) (.inl (by decide +kernel)) hin Ex.nil) ?_) h
      exact Sub.cons (by trivial) (Sub.cons (by trivial) (Sub.cons (by trivial) (Sub.cons (by trivial) (Sub.cons (by trivial) (Sub.cons (by trivial) (Sub.cons (by trivial) Sub.nil))))))
    by_cases q : p.2.2 > mx
    · right
      have e : levOut a mx (bc :: b) pre.length row res = mx + 1 := by simp only [levOut, hp]; rw [if_pos q]
      rw [e]
      refine ⟨fun _ => none, none, ForR.ret own (turn (Ex.stop (Ex1.ifT (Tr.to (Tr.cmp (by decide) (Ev.name (d := .int p.2.2) (by trivial)) (Ev.name (d := .int mx) (by trivial)) Cop.gtInt) (by simpa using q)) (Ex.stop (Ex1.ret (Ev.bin (by decide) (Ev.name (d := .int mx) (by trivial)) Ev.int Bop.add)) nofun)) nofun))⟩
    · have e : levOut a mx (bc :: b) pre.length row res = levOut a mx b (pre.length + 1) p.1 p.2.1 := by simp only [levOut, hp]; rw [if_neg q]
      rw [e]
      have t1 : Ex c 59 (scopeAt 5) (upd (sO a b0 mx res) "bindex" (.int (pre.length : Nat))) (some ("row", iL row)) (inB (stm 5 15)) .next (sO a b0 mx p.2.1) (some ("row", iL p.1)) :=
        turn (Ex.cons (ExB.post (Ex1.ifF (Tr.to (Tr.cmp (by decide) (Ev.name (d := .int p.2.2) (by trivial)) (Ev.name (d := .int mx) (by trivial)) Cop.gtInt) (by simpa using q)) Ex.nil) (Sub.cons (by trivial) (Sub.cons (by trivial) (Sub.cons (by trivial) (Sub.cons (by trivial) Sub.nil))))) Ex.nil)
      have ih := wl_out G (mx := mx) ha hb b (pre ++ [bc]) p.1 p.2.1 (by simp [h0]) hlen
      simp only [List.length_append, List.length_cons, List.length_nil, Nat.zero_add] at ih
      rcases ih with ⟨σ', ds', h1, h2⟩ | ⟨σ', o', h1⟩
      · exact .inl ⟨σ', ds', ForR.turn own t1 h1, h2⟩
      · exact .inr ⟨σ', o', ForR.turn own t1 h1⟩

theorem range_ds2 (n : Nat) : ((List.range n).map fun i => D.int (2 + (i : Nat) * 2)) = iL ((List.range n).map fun i => ((2 + i * 2 : Nat) : Int)) := by
  simp [iL, List.map_map]
theorem size_2 (n : Nat) : Builtin.Range.rangeSize 2 (2 * ((n : Int) + 1)) 2 = n := by
  unfold Builtin.Range.rangeSize
  simp only [show (2 : Int) > 0 by decide, if_true]
  split <;> omega
theorem small_2 {n : Nat} (h : n ≤ 40) : Builtin.Range.small 2 (2 * ((n : Int) + 1)) 2 = true := by
  revert n; decide +kernel
theorem noPy_2 {n : Nat} (h : n ≤ 40) : Builtin.divisionGoesByPylong (2 * ((n : Int) + 1) - 2) 2 = false := by
  revert n; decide +kernel
theorem mulOk_l {a b : Int} (h : Builtin.Int.intBits a ≤ 64) : IntMulOk a b := IntMulOk.of_left h

local macro_rules | `(tactic| trivial) => `(tactic| first | rfl | (simp [full, sL, sO, L, upd]; done))
theorem evLen {sc : Scope} {σ : String → Option D} {e : Expr} {l : List Nat} {p q : Pos} (hg : NoG c "len") (hk : sc.names.lookup (Str.ofString "len") = some .globalImplicit) (h : Ev c r sc σ e (.str (T l))) (hn : l.length ≤ 1000)
    (he : ∀ env, starEach [e] env = (false, eval e env) :: starEach [] env := by intro _; rfl) : Ev c r sc σ (.Call (.Name (Str.ofString "len") p) [e] [] q) (.int l.length) :=
  Ev.call (NoG.ev hg (by rfl) hk) KeepV.blt (EvL.cons0 h EvL.nil he) (by rw [← T_length l]; exact FnV.lenStr (by rw [T_length]; unfold sizeLine; omega)) he

/-- from the bound on -/
theorem w_lev3 (G : G2 c) {a b : List Nat} {mx : Int} (ha : a.length ≤ 40) (hb : b.length ≤ 40) : Ex c 59 (scopeAt 5) (sL a b mx []) none ((bodyAt 5).drop 12) (.ret (.int (lev3 a b mx))) (fun _ => none) none := by
  unfold lev3
  by_cases q : ((b.length - a.length : Int) * 2 > mx)
  · rw [if_pos q]
    exact Ex.stop (Ex1.ifT (Tr.to (Tr.cmp (by decide) (Ev.bin (by decide) (Ev.bin (by decide) (evLen G.len (by decide +kernel) nB (by omega)) (evLen G.len (by decide +kernel) nA (by omega)) Bop.sub) (G.move.ev (by decide +kernel)) (Bop.mul (IntMulOk.of_right (by decide +kernel)))) nM Cop.gtInt) (by simpa using q))
      (Ex.stop (Ex1.ret (Ev.bin (by decide) nM Ev.int Bop.add)) nofun)) nofun
  · rw [if_neg q]
    refine Ex.cons (Ex1.ifF (Tr.to (Tr.cmp (by decide) (Ev.bin (by decide) (Ev.bin (by decide) (evLen G.len (by decide +kernel) nB (by omega)) (evLen G.len (by decide +kernel) nA (by omega)) Bop.sub) (G.move.ev (by decide +kernel)) (Bop.mul (IntMulOk.of_right (by decide +kernel)))) nM Cop.gtInt) (by simpa using q)) Ex.nil) ?_
    -- row = list(range(2, 2 * (len(a) + 1), 2))
    refine Ex.cons (Ex1.assignOwn (ds := iL ((List.range a.length).map fun i => ((2 + i * 2 : Nat) : Int))) (EvF.call (NoG.ev G.list (by rfl) (by decide +kernel)) KeepV.type (EvL.cons
      (Ev.call (NoG.ev G.range (by rfl) (by decide +kernel)) KeepV.type (EvL.cons (G.move.ev (by decide +kernel)) (EvL.cons (Ev.bin (by decide) (G.move.ev (by decide +kernel)) (Ev.bin (by decide) (evLen G.len (by decide +kernel) nA (by omega)) Ev.int Bop.add) (Bop.mul (IntMulOk.of_left (by decide +kernel)))) (EvL.cons (G.move.ev (by decide +kernel)) EvL.nil)))
        (FnV.range3 (by decide) (noPy_2 ha))) EvL.nil) (by rw [← range_ds2]; exact FnF.listRange (small_2 ha) (size_2 a.length) (by omega))) (.inl (by decide +kernel)) (by trivial)) ?_
    refine Ex.cons (Ex1.assign Ev.int (.inl (by decide +kernel)) (by simp [ownName])) ?_
    have hfor := wl_out (c := c) G (a := a) (b0 := b) (mx := mx) ha hb b [] ((List.range a.length).map fun i => ((2 + i * 2 : Nat) : Int)) 0 rfl (by simp)
    have hsub : Sub (sO a b mx 0) (upd (sL a b mx []) "result" (.int 0)) := Sub.cons (by trivial) (Sub.cons (by trivial) (Sub.cons (by trivial) (Sub.cons (by trivial) Sub.nil)))
    refine ExB.pre ?_ hsub
    have hit : EvI c 59 (scopeAt 5) (sO a b mx 0) (inT (stm 5 15)) ((List.range' 0 b.length).map fun i => (D.int (i : Nat))) :=
      EvI.range1 (by decide) G.range (by decide +kernel) (evLen G.len (by decide +kernel) (Ev.name (by trivial)) (by omega)) (by omega)
    rcases hfor with ⟨σ', ds', h1, h2⟩ | ⟨σ', o', h1⟩
    · exact Ex.cons (Ex1.for hit (.inl (by decide +kernel)) h1 Ex.nil) (Ex.stop (ExB.retAny (Ex1.ret (σ' := fun _ => none) (o' := none) (Ev.name (by simp [full, upd, h2])))) nofun)
    · exact Ex.stop (ExB.retAny (Ex1.for (σ' := fun _ => none) (o' := none) hit (.inl (by decide +kernel)) h1 rfl)) nofun

theorem w_lev2 (G : G2 c) {a b : List Nat} {mx : Int} (ha : a.length ≤ 40) (hb : b.length ≤ 40) : Ex c 59 (scopeAt 5) (sL a b mx []) none ((bodyAt 5).drop 9) (.ret (.int (lev2 a b mx))) (fun _ => none) none := by
  unfold lev2
  by_cases q : (a.isEmpty || b.isEmpty) = true
  · rw [if_pos q]
    refine Ex.stop (Ex1.ifT (Tr.bool ?_) (Ex.stop (Ex1.ret (Ev.bin (by decide) (G.move.ev (by decide +kernel)) (Ev.bin (by decide) (evLen G.len (by decide +kernel) nA (by omega)) (evLen G.len (by decide +kernel) nB (by omega)) Bop.add) (Bop.mul (IntMulOk.of_left (by decide +kernel))))) nofun)) nofun
    by_cases q1 : a.isEmpty = true
    · exact TrB.orT (Tr.to (Tr.not (Tr.val (by decide) nA (Tru.T (by omega)))) (by simp [q1]))
    · exact TrB.orF (Tr.to (Tr.not (Tr.val (by decide) nA (Tru.T (by omega)))) (by simp at q1 ⊢; exact q1)) (TrB.orT (Tr.to (Tr.not (Tr.val (by decide) nB (Tru.T (by omega)))) (by simp at q1 q ⊢; rcases q with q | q; exact absurd q q1; exact q)))
  · rw [if_neg q]
    simp only [Bool.or_eq_true, not_or, Bool.not_eq_true] at q
    refine Ex.cons (Ex1.ifF (Tr.bool (TrB.orF (Tr.to (Tr.not (Tr.val (by decide) nA (Tru.T (by omega)))) (by simp at q ⊢; exact q.1)) (TrB.orF (Tr.to (Tr.not (Tr.val (by decide) nB (Tru.T (by omega)))) (by simp at q ⊢; exact q.2)) TrB.orNil))) Ex.nil) ?_
    refine Ex.cons (Ex1.ifF (Tr.bool (TrB.orF (Tr.to (Tr.cmp (by decide) (evLen G.len (by decide +kernel) nA (by omega)) (G.mss.ev (by decide +kernel)) Cop.gtInt) (by simp; omega))
      (TrB.orF (Tr.to (Tr.cmp (by decide) (evLen G.len (by decide +kernel) nB (by omega)) (G.mss.ev (by decide +kernel)) Cop.gtInt) (by simp; omega)) TrB.orNil))) Ex.nil) ?_
    by_cases q2 : b.length < a.length
    · rw [if_pos q2]
      refine Ex.cons (σ' := sL b a mx []) (o' := none) (Ex1.ifT (Tr.to (Tr.cmp (by decide) (evLen G.len (by decide +kernel) nB (by omega)) (evLen G.len (by decide +kernel) nA (by omega)) Cop.ltInt) (by simpa using q2)) ?_) (w_lev3 G hb ha)
      refine Ex.cons (ExB.post (Ex1.tup2s (x := "a") (y := "b") (d₁ := .str (T b)) (d₂ := .str (T a)) (Ev.tup (EvL.cons nB (EvL.cons nA EvL.nil)) (by show 2 ≤ sizeLine; decide)) (.inl (by decide +kernel)) (.inl (by decide +kernel)) nofun nofun (by intros; rfl) (fun env e => ?_)) ?_) Ex.nil
      · cases env; cases e; rfl
      · exact Sub.cons (by trivial) (Sub.cons (by trivial) (Sub.cons (by trivial) Sub.nil))
    · rw [if_neg q2]
      refine Ex.cons (Ex1.ifF (Tr.to (Tr.cmp (by decide) (evLen G.len (by decide +kernel) nB (by omega)) (evLen G.len (by decide +kernel) nA (by omega)) Cop.ltInt) (by simpa using q2)) Ex.nil) (w_lev3 G ha hb)

theorem w_lev1 (G : G2 c) {a b : List Nat} {mx : Int} (ha : a.length ≤ 40) (hb : b.length ≤ 40) : Ex c 59 (scopeAt 5) (sL a b mx []) none ((bodyAt 5).drop 5) (.ret (.int (lev1 a b mx))) (fun _ => none) none := by
  have hle := cpl_le a.reverse b.reverse
  simp only [List.length_reverse] at hle
  have hw := wl_post (c := c) (a := a) (b := b) (mx := mx) ha hb (cpl a.reverse b.reverse) 0 (by simp) (by omega) (by omega)
  rw [Nat.zero_add] at hw
  generalize hm : cpl a.reverse b.reverse = m at *
  have e : lev1 a b mx = lev2 (a.take (a.length - m)) (b.take (b.length - m)) mx := by unfold lev1; rw [hm]
  rw [e]
  refine Ex.cons (ExB.post (σ₂ := sL a b mx [("post", .int (-((0 : Nat) : Int)))]) (Ex1.assign Ev.int (.inl (by decide +kernel)) nofun) ?_) ?_
  · exact Sub.cons (by trivial) (Sub.cons (by trivial) (Sub.cons (by trivial) (Sub.cons (by trivial) Sub.nil)))
  refine Ex.cons (Ex1.while hw) ?_
  refine Ex.cons (ExB.post (σ₂ := sL (a.take (a.length - m)) b mx [("post", .int (-(m : Int)))]) (Ex1.assign (evTo nA (evPost (by decide) nPost) (by omega) (by omega)) (.inl (by decide +kernel)) nofun) ?_) ?_
  · exact Sub.cons (by trivial) (Sub.cons (by trivial) (Sub.cons (by trivial) (Sub.cons (by trivial) Sub.nil)))
  refine Ex.cons (ExB.post (σ₂ := sL (a.take (a.length - m)) (b.take (b.length - m)) mx []) (Ex1.assign (evTo nB (evPost (by decide) nPost) (by omega) (by omega)) (.inl (by decide +kernel)) nofun) ?_) ?_
  · exact Sub.cons (by trivial) (Sub.cons (by trivial) (Sub.cons (by trivial) Sub.nil))
  exact w_lev2 G (by simp; omega) (by simp; omega)

theorem w_lev (G : G2 c) {a b : List Nat} {mx : Int} (ha : a.length ≤ 40) (hb : b.length ≤ 40) : FnV c 60 (.ref (c.fa 5)) [.str (T a), .str (T b), .int mx] (.int (lev a b mx)) := by
  refine G.lev.fn (r := 59) (σ' := fun _ => none) (o' := none) rfl ?_
  refine ExB.pre (σ₂ := sL a b mx []) ?_ (Sub.cons (by simp [argσ, upd]) (Sub.cons (by simp [argσ, upd]) (Sub.cons (by simp [argσ, upd]) Sub.nil)))
  unfold lev
  by_cases e0 : (a == b) = true
  · rw [if_pos e0]
    exact Ex.stop (Ex1.ifT (Tr.to (Tr.cmp (by decide) nA nB Cop.eqStr) (by rw [T_beq]; exact e0)) (Ex.stop (Ex1.ret Ev.int) nofun)) nofun
  rw [if_neg e0]
  refine Ex.cons (Ex1.ifF (Tr.to (Tr.cmp (by decide) nA nB Cop.eqStr) (by rw [T_beq]; simpa using e0)) Ex.nil) ?_
  have hle := cpl_le a b
  have hw := wl_pre (c := c) (a := a) (b := b) (mx := mx) ha hb (cpl a b) 0 (by simp) (by omega) (by omega)
  rw [Nat.zero_add] at hw
  show Ex c 59 (scopeAt 5) _ none _ (.ret (.int (lev1 (a.drop (cpl a b)) (b.drop (cpl a b)) mx))) _ _
  generalize cpl a b = k at *
  refine Ex.cons (ExB.post (σ₂ := sL a b mx [("pre", .int ((0 : Nat) : Int))]) (Ex1.assign Ev.int (.inl (by decide +kernel)) nofun) ?_) ?_
  · exact Sub.cons (by trivial) (Sub.cons (by trivial) (Sub.cons (by trivial) (Sub.cons (by trivial) Sub.nil)))
  refine Ex.cons (Ex1.while hw) ?_
  refine Ex.cons (ExB.post (σ₂ := sL (a.drop k) b mx [("pre", .int (k : Nat))]) (Ex1.assign (evFrom nA nPre (by omega) (by omega)) (.inl (by decide +kernel)) nofun) ?_) ?_
  · exact Sub.cons (by trivial) (Sub.cons (by trivial) (Sub.cons (by trivial) (Sub.cons (by trivial) Sub.nil)))
  refine Ex.cons (ExB.post (σ₂ := sL (a.drop k) (b.drop k) mx []) (Ex1.assign (evFrom nB nPre (by omega) (by omega)) (.inl (by decide +kernel)) nofun) ?_) ?_
  · exact Sub.cons (by trivial) (Sub.cons (by trivial) (Sub.cons (by trivial) Sub.nil))
  exact w_lev1 G (by simp; omega) (by simp; omega)
end Mine

end
section
open PySem PySem.W PySem.Calls PyProof.Rows Builtin.Str
set_option linter.unusedVariables false
set_option linter.unusedSimpArgs false
namespace Mine
local macro_rules | `(tactic| omega) => `(tactic| lia)
open Builtin (bitAnd bitOr bitXor bitNot divisionGoesByPylong)
open Builtin.Int (intBits)

/-- _div3n2n's loop -/
def upB (b : Int) : Nat → Int → Int → Option (Int × Int)
  | 0, _, _ => none
  | k + 1, q, r => if r < 0 then upB b k (q - 1) (r + b) else some (q, r)
def d32 (D21 : Int → Int → Int → Option (Int × Int)) (a12 a3 b b1 b2 n : Int) : Option (Int × Int) :=
  if 0 ≤ n ∧ n ≤ 2 ^ 20 then
    match (if a12.fdiv (2 ^ n.toNat) == b1 then (if intBits b1 ≤ 2 ^ 20 then some (1 * 2 ^ n.toNat - 1, a12 - b1 * 2 ^ n.toNat + b1) else none) else D21 a12 b1 n) with
    | none => none
    | some (q, r) => if intBits r ≤ 2 ^ 20 ∧ intBits q ≤ 2 ^ 20 ∧ intBits b2 ≤ 2 ^ 20 then upB b 5 q (bitOr (r * 2 ^ n.toNat) a3 - q * b2) else none
  else none
def d21r (D21 : Int → Int → Int → Option (Int × Int)) (pad : Bool) (a b n : Int) : Option (Int × Int) :=
  let h := n.fdiv (2 ^ (1 : Int).toNat)
  let mask : Int := 1 * 2 ^ h.toNat - 1
  if 0 ≤ n ∧ n ≤ 2 ^ 20 ∧ 0 ≤ h ∧ h ≤ 2 ^ 20 then
    match d32 D21 (a.fdiv (2 ^ n.toNat)) (bitAnd (a.fdiv (2 ^ h.toNat)) mask) b (b.fdiv (2 ^ h.toNat)) (bitAnd b mask) h with
    | none => none
    | some (q1, r) =>
      match d32 D21 r (bitAnd a mask) b (b.fdiv (2 ^ h.toNat)) (bitAnd b mask) h with
      | none => none
      | some (q2, r2) => if intBits q1 ≤ 2 ^ 20 then some (bitOr (q1 * 2 ^ h.toNat) q2, if pad then r2.fdiv (2 ^ (1 : Int).toNat) else r2) else none
  else none
def d21 : Nat → Int → Int → Int → Option (Int × Int)
  | 0, _, _, _ => none
  | f + 1, a, b, n =>
    if (intBits a : Int) - n ≤ 4000 then (if b ≠ 0 ∧ divisionGoesByPylong a b = false then some (a.fdiv b, a.fmod b) else none)
    else if intBits a ≤ 2 ^ 20 ∧ intBits b ≤ 2 ^ 20 then
      (if bitAnd n 1 != 0 then d21r (d21 f) true (a * 2 ^ (1 : Int).toNat) (b * 2 ^ (1 : Int).toNat) (n + 1) else d21r (d21 f) false a b n)
    else none

structure G3 (c : Cx) : Prop where
  limit : GInt c "_DIV_LIMIT" 4000
  d21 : GFn c 8 (c.fa 8) "_div2n1n" ["a", "b", "n"]
  d32 : GFn c 9 (c.fa 9) "_div3n2n" ["a12", "a3", "b", "b1", "b2", "n"]
  i2d : GFn c 10 (c.fa 10) "_int2digits" ["a", "n"]
  d2i : GFn c 11 (c.fa 11) "_digits2int" ["digits", "n"]
  pos : GFn c 12 (c.fa 12) "_divmod_pos" ["a", "b"]
  idm : GFn c 13 (c.fa 13) "int_divmod" ["a", "b"]
  divmod : NoG c "divmod"
  len : NoG c "len"
  reversed : NoG c "reversed"

variable {c : Cx} {r : Nat}
local macro_rules | `(tactic| trivial) => `(tactic| first | rfl | (simp [full, L, argσ, upd]; done))

def sU (b q r : Int) : String → Option D := L [("b", .int b), ("q", .int q), ("r", .int r)]
local macro_rules | `(tactic| trivial) => `(tactic| first | rfl | (simp [full, L, sU, argσ, upd]; done))
theorem w_up {R : Nat} (hR : 20 ≤ R) {b : Int} : ∀ (k : Nat) (q r q' r' : Int), upB b k q r = some (q', r') → WhR c R (scopeAt 9) (inT (stm 9 2)) (inB (stm 9 2)) k (sU b q r) none .next (sU b q' r') none
  | 0, q, r, q', r', h => by simp [upB] at h
  | k + 1, q, r, q', r', h => by
    unfold upB at h
    by_cases e : r < 0
    · rw [if_pos e] at h
      refine WhR.turn (σ₁ := sU b (q - 1) (r + b)) (o₁ := none) (Tr.to (Tr.cmp hR (Ev.name (d := .int r) (by trivial)) Ev.int Cop.ltInt) (by simpa using e)) ?_ (w_up hR k _ _ _ _ h)
      refine Ex.cons (Ex1.aug (x := "q") (d₀ := .int q) hR (by trivial) Ev.int Iop.sub (.inl (by decide +kernel)) nofun) ?_
      refine Ex.cons (ExB.post (Ex1.aug (x := "r") (d₀ := .int r) (d₁ := .int b) hR (by trivial) (Ev.name (by trivial)) Iop.add (.inl (by decide +kernel)) nofun) ?_) Ex.nil
      exact Sub.cons (by trivial) (Sub.cons (by trivial) (Sub.cons (by trivial) Sub.nil))
    · rw [if_neg e] at h
      cases h
      exact WhR.stop (Tr.to (Tr.cmp hR (Ev.name (d := .int r) (by trivial)) Ev.int Cop.ltInt) (by simpa using e))

theorem bits1 {n : Int} (h : n ≤ 2 ^ 20) : (intBits 1 : Int) + n ≤ 2 ^ 27 := by
  have : intBits 1 = 1 := by decide +kernel
  omega
theorem w_d32 (G : G3 c) {R : Nat} (hR : 20 ≤ R) {D21 : Int → Int → Int → Option (Int × Int)} (H : ∀ a b n q r, D21 a b n = some (q, r) → FnV c R (.ref (c.fa 8)) [.int a, .int b, .int n] (.tup [.int q, .int r]))
    {a12 a3 b b1 b2 n q r : Int} (h : d32 D21 a12 a3 b b1 b2 n = some (q, r)) : FnV c (R + 1) (.ref (c.fa 9)) [.int a12, .int a3, .int b, .int b1, .int b2, .int n] (.tup [.int q, .int r]) := by
  refine G.d32.fn (σ' := fun _ => none) (o' := none) rfl ?_
  unfold d32 at h
  split at h
  case isFalse => cases h
  rename_i hn
  split at h
  case h_1 => cases h
  rename_i q0 r0 h0
  split at h
  case isFalse => cases h
  rename_i hbits
  -- the first statement
  have first : Ex1 c R (scopeAt 9) (argσ ["a12", "a3", "b", "b1", "b2", "n"] [.int a12, .int a3, .int b, .int b1, .int b2, .int n]) none (stm 9 0) .next
      (L [("a3", .int a3), ("b", .int b), ("b2", .int b2), ("n", .int n), ("q", .int q0), ("r", .int r0)]) none := by
    by_cases e : (a12.fdiv (2 ^ n.toNat) == b1) = true
    · rw [if_pos e] at h0
      split at h0
      case isFalse => cases h0
      rename_i hb1
      cases h0
      refine ExB.post (Ex1.ifT (Tr.to (Tr.cmp hR (Ev.bin hR (Ev.name (d := .int a12) (by trivial)) (Ev.name (d := .int n) (by trivial)) (Bop.shr hn.1)) (Ev.name (d := .int b1) (by trivial)) Cop.eqInt) e)
        (Ex.cons (Ex1.tup2s (d₁ := .int (1 * 2 ^ n.toNat - 1)) (d₂ := .int (a12 - b1 * 2 ^ n.toNat + b1)) (Ev.tup (EvL.cons (Ev.bin hR (Ev.bin hR Ev.int (Ev.name (d := .int n) (by trivial)) (Bop.shl hn.1 (bits1 hn.2))) Ev.int Bop.sub)
          (EvL.cons (Ev.bin hR (Ev.bin hR (Ev.name (d := .int a12) (by trivial)) (Ev.bin hR (Ev.name (d := .int b1) (by trivial)) (Ev.name (d := .int n) (by trivial)) (Bop.shl hn.1 (by omega))) Bop.sub) (Ev.name (d := .int b1) (by trivial)) Bop.add) EvL.nil)) (by show 2 ≤ sizeLine; decide)) (.inl (by decide +kernel)) (.inl (by decide +kernel)) nofun nofun (by intros; rfl) (fun env e => by cases env; cases e; rfl)) Ex.nil)) ?_
      exact Sub.cons (by trivial) (Sub.cons (by trivial) (Sub.cons (by trivial) (Sub.cons (by trivial) (Sub.cons (by trivial) (Sub.cons (by trivial) Sub.nil)))))
    · rw [if_neg e] at h0
      refine ExB.post (Ex1.ifF (Tr.to (Tr.cmp hR (Ev.bin hR (Ev.name (d := .int a12) (by trivial)) (Ev.name (d := .int n) (by trivial)) (Bop.shr hn.1)) (Ev.name (d := .int b1) (by trivial)) Cop.eqInt) (by simpa using e))
        (Ex.cons (Ex1.tup2 (d₁ := .int q0) (d₂ := .int r0) (Ev.call (G.d21.ev (by decide +kernel)) G.d21.keep (EvL.cons (Ev.name (d := .int a12) (by trivial)) (EvL.cons (Ev.name (d := .int b1) (by trivial)) (EvL.cons (Ev.name (d := .int n) (by trivial)) EvL.nil))) (H _ _ _ _ _ h0)) (.inl (by decide +kernel)) (.inl (by decide +kernel)) nofun nofun) Ex.nil)) ?_
      exact Sub.cons (by trivial) (Sub.cons (by trivial) (Sub.cons (by trivial) (Sub.cons (by trivial) (Sub.cons (by trivial) (Sub.cons (by trivial) Sub.nil)))))
  refine Ex.cons first ?_
  have hin : IntMulOk q0 b2 := IntMulOk.of_bits hbits.2.1 hbits.2.2
  refine Ex.cons (ExB.post (σ₂ := sU b q0 (bitOr (r0 * 2 ^ n.toNat) a3 - q0 * b2)) (Ex1.assign (d := .int (bitOr (r0 * 2 ^ n.toNat) a3 - q0 * b2)) (Ev.bin hR (Ev.bin hR (Ev.bin hR (Ev.name (d := .int r0) (by trivial)) (Ev.name (d := .int n) (by trivial)) (Bop.shl hn.1 (by omega))) (Ev.name (d := .int a3) (by trivial)) Bop.bor)
    (Ev.bin hR (Ev.name (d := .int q0) (by trivial)) (Ev.name (d := .int b2) (by trivial)) (Bop.mul hin)) Bop.sub) (.inl (by decide +kernel)) nofun) ?_) ?_
  · exact Sub.cons (by trivial) (Sub.cons (by trivial) (Sub.cons (by trivial) Sub.nil))
  refine Ex.cons (Ex1.while (w_up hR 5 _ _ _ _ h)) ?_
  exact Ex.stop (ExB.retAny (Ex1.ret (σ' := fun _ => none) (o' := none) (Ev.tup (EvL.cons (Ev.name (d := .int q) (by trivial)) (EvL.cons (Ev.name (d := .int r) (by trivial)) EvL.nil)) (by show 2 ≤ sizeLine; decide)))) nofun

theorem w_d21r (G : G3 c) {R : Nat} (hR : 20 ≤ R) {D21 : Int → Int → Int → Option (Int × Int)} (H : ∀ a b n q r, D21 a b n = some (q, r) → FnV c R (.ref (c.fa 8)) [.int a, .int b, .int n] (.tup [.int q, .int r]))
    {pad : Bool} {p a b n q r : Int} (hp : (p != 0) = pad) (h : d21r D21 pad a b n = some (q, r)) :
    Ex c (R + 1) (scopeAt 8) (L [("a", .int a), ("b", .int b), ("n", .int n), ("pad", .int p)]) none ((bodyAt 8).drop 3) (.ret (.tup [.int q, .int r])) (fun _ => none) none := by
  have hR' : 20 ≤ R + 1 := by omega
  unfold d21r at h
  simp only at h
  generalize hh : n.fdiv (2 ^ (1 : Int).toNat) = hf at h
  split at h
  case isFalse => cases h
  rename_i hn
  have hk1 : (intBits 1 : Int) = 1 := by decide +kernel
  split at h
  case h_1 => cases h
  rename_i q1 r1 h1
  split at h
  case h_1 => cases h
  rename_i q2 r2 h2
  split at h
  case isFalse => cases h
  rename_i hb
  cases h
  generalize hmask : (1 : Int) * 2 ^ hf.toNat - 1 = mask at h1 h2
  generalize hB1 : b.fdiv (2 ^ hf.toNat) = b1 at h1 h2
  generalize hB2 : bitAnd b mask = b2 at h1 h2
  have w1 := w_d32 G hR H h1
  have w2 := w_d32 G hR H h2
  refine Ex.cons (Ex1.assign (d := .int hf) (by rw [← hh]; exact Ev.bin hR' (Ev.name (d := .int n) (by trivial)) Ev.int (Bop.shr (by decide))) (.inl (by decide +kernel)) nofun) ?_
  refine Ex.cons (Ex1.assign (d := .int mask) (by rw [← hmask]; exact Ev.bin hR' (Ev.bin hR' Ev.int (Ev.name (d := .int hf) (by trivial)) (Bop.shl hn.2.2.1 (by omega))) Ev.int Bop.sub) (.inl (by decide +kernel)) nofun) ?_
  refine Ex.cons (ExB.post (σ₂ := L [("a", .int a), ("b", .int b), ("n", .int n), ("pad", .int p), ("half_n", .int hf), ("mask", .int mask), ("b1", .int b1), ("b2", .int b2)]) (Ex1.tup2s (d₁ := .int b1) (d₂ := .int b2) (Ev.tup (EvL.cons (by rw [← hB1]; exact Ev.bin hR' (Ev.name (d := .int b) (by trivial)) (Ev.name (d := .int hf) (by trivial)) (Bop.shr hn.2.2.1))
    (EvL.cons (by rw [← hB2]; exact Ev.bin hR' (Ev.name (d := .int b) (by trivial)) (Ev.name (d := .int mask) (by trivial)) Bop.band) EvL.nil)) (by show 2 ≤ sizeLine; decide)) (.inl (by decide +kernel)) (.inl (by decide +kernel)) nofun nofun (by intros; rfl) (fun env e => by cases env; cases e; rfl)) ?_) ?_
  · exact Sub.cons (by trivial) (Sub.cons (by trivial) (Sub.cons (by trivial) (Sub.cons (by trivial) (Sub.cons (by trivial) (Sub.cons (by trivial) (Sub.cons (by trivial) (Sub.cons (by trivial) Sub.nil)))))))
  refine Ex.cons (Ex1.tup2 (d₁ := .int q1) (d₂ := .int r1) (Ev.call (G.d32.ev (by decide +kernel)) G.d32.keep (EvL.cons (Ev.bin hR' (Ev.name (d := .int a) (by trivial)) (Ev.name (d := .int n) (by trivial)) (Bop.shr hn.1)) (EvL.cons (Ev.bin hR' (Ev.bin hR' (Ev.name (d := .int a) (by trivial)) (Ev.name (d := .int hf) (by trivial)) (Bop.shr hn.2.2.1)) (Ev.name (d := .int mask) (by trivial)) Bop.band)
    (EvL.cons (Ev.name (d := .int b) (by trivial)) (EvL.cons (Ev.name (d := .int b1) (by trivial)) (EvL.cons (Ev.name (d := .int b2) (by trivial)) (EvL.cons (Ev.name (d := .int hf) (by trivial)) EvL.nil)))))) w1) (.inl (by decide +kernel)) (.inl (by decide +kernel)) nofun nofun) ?_
  refine Ex.cons (Ex1.tup2 (d₁ := .int q2) (d₂ := .int r2) (Ev.call (G.d32.ev (by decide +kernel)) G.d32.keep (EvL.cons (Ev.name (d := .int r1) (by trivial)) (EvL.cons (Ev.bin hR' (Ev.name (d := .int a) (by trivial)) (Ev.name (d := .int mask) (by trivial)) Bop.band)
    (EvL.cons (Ev.name (d := .int b) (by trivial)) (EvL.cons (Ev.name (d := .int b1) (by trivial)) (EvL.cons (Ev.name (d := .int b2) (by trivial)) (EvL.cons (Ev.name (d := .int hf) (by trivial)) EvL.nil)))))) w2) (.inl (by decide +kernel)) (.inl (by decide +kernel)) nofun nofun) ?_
  cases pad
  · simp only [Bool.false_eq_true, if_false]
    refine Ex.cons (Ex1.ifF (Tr.to (Tr.val hR' (Ev.name (d := .int p) (by trivial)) Tru.int) hp) Ex.nil) ?_
    exact Ex.stop (ExB.retAny (Ex1.ret (σ' := fun _ => none) (o' := none) (Ev.tup (EvL.cons (Ev.bin hR' (Ev.bin hR' (Ev.name (d := .int q1) (by trivial)) (Ev.name (d := .int hf) (by trivial)) (Bop.shl hn.2.2.1 (by omega))) (Ev.name (d := .int q2) (by trivial)) Bop.bor) (EvL.cons (Ev.name (d := .int r2) (by trivial)) EvL.nil)) (by show 2 ≤ sizeLine; decide)))) nofun
  · simp only [if_true]
    refine Ex.cons (Ex1.ifT (Tr.to (Tr.val hR' (Ev.name (d := .int p) (by trivial)) Tru.int) hp) (Ex.cons (Ex1.aug (x := "r") (d₀ := .int r2) hR' (by trivial) Ev.int (Iop.shr (by decide)) (.inl (by decide +kernel)) nofun) Ex.nil)) ?_
    exact Ex.stop (ExB.retAny (Ex1.ret (σ' := fun _ => none) (o' := none) (Ev.tup (EvL.cons (Ev.bin hR' (Ev.bin hR' (Ev.name (d := .int q1) (by trivial)) (Ev.name (d := .int hf) (by trivial)) (Bop.shl hn.2.2.1 (by omega))) (Ev.name (d := .int q2) (by trivial)) Bop.bor) (EvL.cons (Ev.name (d := .int (r2.fdiv (2 ^ (1 : Int).toNat))) (by trivial)) EvL.nil)) (by show 2 ≤ sizeLine; decide)))) nofun

theorem w_d21 (G : G3 c) : ∀ (f : Nat) (a b n q r : Int), d21 f a b n = some (q, r) → FnV c (30 + 2 * f) (.ref (c.fa 8)) [.int a, .int b, .int n] (.tup [.int q, .int r])
  | 0, a, b, n, q, r, h => by simp [d21] at h
  | f + 1, a, b, n, q, r, h => by
    refine (G.d21.fn (r := 30 + 2 * f + 1) (σ' := fun _ => none) (o' := none) rfl ?_).up (by omega)
    have hR : 20 ≤ 30 + 2 * f + 1 := by omega
    unfold d21 at h
    have hk1 : (intBits 1 : Int) = 1 := by decide +kernel
    by_cases e : (intBits a : Int) - n ≤ 4000
    · rw [if_pos e] at h
      split at h
      case isFalse => cases h
      rename_i hb
      cases h
      exact Ex.stop (Ex1.ifT (Tr.to (Tr.cmp hR (Ev.bin hR (Ev.meth0 (Ev.name (d := .int a) (by trivial)) hT_int FnV.bitLength F.plainAttrs_int F.slot_int_bit_length F.type_int_bit_length) (Ev.name (d := .int n) (by trivial)) Bop.sub) (G.limit.ev (by decide +kernel)) Cop.leInt) (by simpa using e))
        (Ex.stop (Ex1.ret (Ev.call (NoG.ev G.divmod (by rfl) (by decide +kernel)) KeepV.blt (EvL.cons (Ev.name (d := .int a) (by trivial)) (EvL.cons (Ev.name (d := .int b) (by trivial)) EvL.nil)) (FnV.divmod hb.1 hb.2))) nofun)) nofun
    · rw [if_neg e] at h
      split at h
      case isFalse => cases h
      rename_i hbits
      refine Ex.cons (Ex1.ifF (Tr.to (Tr.cmp hR (Ev.bin hR (Ev.meth0 (Ev.name (d := .int a) (by trivial)) hT_int FnV.bitLength F.plainAttrs_int F.slot_int_bit_length F.type_int_bit_length) (Ev.name (d := .int n) (by trivial)) Bop.sub) (G.limit.ev (by decide +kernel)) Cop.leInt) (by simpa using e)) Ex.nil) ?_
      refine Ex.cons (Ex1.assign (d := .int (bitAnd n 1)) (Ev.bin hR (Ev.name (d := .int n) (by trivial)) Ev.int Bop.band) (.inl (by decide +kernel)) nofun) ?_
      by_cases e2 : (bitAnd n 1 != 0) = true
      · rw [if_pos e2] at h
        refine Ex.cons (ExB.post (Ex1.ifT (Tr.to (Tr.val hR (Ev.name (d := .int (bitAnd n 1)) (by trivial)) Tru.int) e2)
          (Ex.cons (Ex1.aug (x := "a") (d₀ := .int a) hR (by trivial) Ev.int (Iop.shl (by decide) (by omega)) (.inl (by decide +kernel)) nofun)
          (Ex.cons (Ex1.aug (x := "b") (d₀ := .int b) hR (by trivial) Ev.int (Iop.shl (by decide) (by omega)) (.inl (by decide +kernel)) nofun)
          (Ex.cons (Ex1.aug (x := "n") (d₀ := .int n) hR (by trivial) Ev.int Iop.add (.inl (by decide +kernel)) nofun) Ex.nil)))) ?_) (w_d21r G (by omega) (w_d21 G f) e2 h)
        exact Sub.cons (by trivial) (Sub.cons (by trivial) (Sub.cons (by trivial) (Sub.cons (by trivial) Sub.nil)))
      · rw [if_neg e2] at h
        refine Ex.cons (ExB.post (Ex1.ifF (Tr.to (Tr.val hR (Ev.name (d := .int (bitAnd n 1)) (by trivial)) Tru.int) (by simpa using e2)) Ex.nil) ?_) (w_d21r G (by omega) (w_d21 G f) (by simpa using e2) h)
        exact Sub.cons (by trivial) (Sub.cons (by trivial) (Sub.cons (by trivial) (Sub.cons (by trivial) Sub.nil)))
end Mine

end
section
open PySem PySem.W PySem.Calls PyProof.Rows Builtin.Str
set_option maxRecDepth 20000
set_option linter.unusedVariables false
set_option linter.unusedSimpArgs false
namespace Mine
local macro_rules | `(tactic| omega) => `(tactic| lia)

section
variable {c : Cx} {r : Nat} {sc : Scope} {σ : String → Option D} {x : String} {elt t : Expr}
theorem CoR.map {α : Type} {f g : α → D} : ∀ {l : List α}, (∀ a ∈ l, Ev c r sc (upd σ x (f a)) elt (g a)) → CoR c r sc σ x [] elt (l.map f) (l.map g)
  | [], _ => CoR.nil
  | a :: l, h => CoR.take rfl (h a (.head _)) (CoR.map fun b hb => h b (.tail _ hb))
theorem CoR.filter {α : Type} {f g : α → D} {p : α → Bool} : ∀ {l : List α}, (∀ a ∈ l, Tr c r sc (upd σ x (f a)) t (p a)) → (∀ a ∈ l, p a = true → Ev c r sc (upd σ x (f a)) elt (g a)) → CoR c r sc σ x [t] elt (l.map f) ((l.filter p).map g)
  | [], _, _ => CoR.nil
  | a :: l, ht, h => by
    have ih := CoR.filter (l := l) (p := p) (f := f) (g := g) (fun b hb => ht b (.tail _ hb)) fun b hb => h b (.tail _ hb)
    cases e : p a
    · rw [List.filter_cons_of_neg (by simp [e])]; exact CoR.skip (by simp only [TrA]; exact e ▸ ht a (.head _)) ih
    · rw [List.filter_cons_of_pos e]; exact CoR.take (by simp only [TrA]; exact e ▸ ht a (.head _)) (h a (.head _) e) ih
end

def sLs (l : List Str) : List D := l.map .str
def flagName (i : Nat) : Str := Str.ofString (["OPTIMIZED", "NEWLOCALS", "VARARGS", "VARKEYWORDS", "NESTED", "GENERATOR", "NOFREE", "COROUTINE", "ITERABLE_COROUTINE", "ASYNC_GENERATOR"].getD i "")
/-- pretty_flags: the loop and its else -/
def pfL : Nat → Nat → Int → List Str → Option (List Str)
  | 0, _, f, acc => if (baseText "0x" 16 f).length ≤ 100 ∧ acc.length ≤ 32 then some (acc ++ [baseText "0x" 16 f]) else none
  | n + 1, i, f, acc =>
    if Builtin.bitAnd f (1 * 2 ^ (i : Int).toNat) != 0 then
      if i < 10 ∧ acc.length ≤ 32 then
        (if Builtin.bitXor f (1 * 2 ^ (i : Int).toNat) == 0 then some (acc ++ [flagName i]) else pfL n (i + 1) (Builtin.bitXor f (1 * 2 ^ (i : Int).toNat)) (acc ++ [flagName i]))
      else none
    else pfL n (i + 1) f acc
def comma : Str := Str.ofString ", "

structure G4 (c : Cx) : Prop where
  pf : GFn c 16 (c.fa 16) "pretty_flags" ["flags"]
  range : NoG c "range"
  hex : NoG c "hex"
  cfn : c.mg (Str.ofString "COMPILER_FLAG_NAMES") = some (.ref (c.fa 15))
  flags : ∃ f, MapTx c (c.fa 15) f ∧ ∀ i : Nat, i < 10 → ∃ t, f (1 * 2 ^ (i : Int).toNat) = some (.str (flagName i) t)

variable {c : Cx} {r : Nat}
def sP (f : Int) : String → Option D := L [("flags", .int f)]
def els : Stmt → List Stmt
  | .For _ _ _ e _ => e
  | _ => []
local macro_rules | `(tactic| trivial) => `(tactic| first | rfl | (simp [full, sP, L, argσ, upd]; done))
theorem hex_len (i : Nat) (h : i < 10) : (baseText "0x" 16 (1 * 2 ^ (i : Int).toNat)).length ≤ sizeLine := by
  have : ∀ i : Nat, i < 10 → (baseText "0x" 16 (1 * 2 ^ (i : Int).toNat)).length ≤ 100 := by decide +kernel
  have := this i h
  unfold sizeLine; omega
theorem shl1 (i : Nat) (h : i < 32) : (Builtin.Int.intBits 1 : Int) + (i : Int) ≤ 2 ^ 27 := by
  have : Builtin.Int.intBits 1 = 1 := by decide +kernel
  omega

theorem w_pfL (G : G4 c) : ∀ (n i : Nat) (f : Int) (acc out : List Str), i + n = 32 → pfL n i f acc = some out →
    ∃ fl₁ σ₁ σ₂ o₁, ForR c 59 (scopeAt 16) "i" (inB (stm 16 1)) ((List.range' i n).map fun i => (D.int (i : Nat))) (sP f) (some ("names", sLs acc)) fl₁ σ₁ o₁ ∧
      AfterFor c 59 (scopeAt 16) (els (stm 16 1)) σ₁ o₁ .next σ₂ (some ("names", sLs out)) fl₁
  | 0, i, f, acc, out, hi, h => by
    unfold pfL at h
    split at h
    case isFalse => cases h
    rename_i hb
    cases h
    refine ⟨.next, sP f, sP f, some ("names", sLs acc), ForR.nil, ?_⟩
    have e : sLs (acc ++ [baseText "0x" 16 f]) = sLs acc ++ [.str (baseText "0x" 16 f)] := by simp [sLs]
    rw [e]
    exact Ex.cons (Ex1.append (Ev.call (NoG.ev G.hex (by rfl) (by decide +kernel)) KeepV.blt (EvL.cons (Ev.name (d := .int f) (by trivial)) EvL.nil) (FnV.hex (by unfold sizeLine; omega))) (by simp [sLs]; omega)) Ex.nil
  | n + 1, i, f, acc, out, hi, h => by
    simp only [List.range'_succ, List.map_cons]
    have own : ownName (some ("names", sLs acc)) ≠ some "i" := by simp [ownName]
    unfold pfL at h
    have s0 : Ex1 c 59 (scopeAt 16) (upd (sP f) "i" (.int (i : Nat))) (some ("names", sLs acc)) ((inB (stm 16 1)).headD (.Pass ⟨0,0,0,0⟩)) .next (upd (upd (sP f) "i" (.int (i : Nat))) "flag" (.int (1 * 2 ^ (i : Int).toNat))) (some ("names", sLs acc)) :=
      Ex1.assign (Ev.bin (by decide) Ev.int (Ev.name (d := .int (i : Nat)) (by trivial)) (Bop.shl (by omega) (shl1 i (by omega)))) (.inl (by decide +kernel)) (by simp [ownName])
    by_cases q : (Builtin.bitAnd f (1 * 2 ^ (i : Int).toNat) != 0) = true
    · rw [if_pos q] at h
      split at h
      case isFalse => cases h
      rename_i hb
      obtain ⟨g, M, hg⟩ := G.flags
      obtain ⟨t, hg⟩ := hg i hb.1
      have e : sLs (acc ++ [flagName i]) = sLs acc ++ [.str (flagName i)] := by simp [sLs]
      -- names.append(COMPILER_FLAG_NAMES.get(flag, hex(flag))); flags ^= flag
      have body : ∀ {fl σ₁ o₁}, Ex c 59 (scopeAt 16) (sP (Builtin.bitXor f (1 * 2 ^ (i : Int).toNat))) (some ("names", sLs (acc ++ [flagName i]))) ((inB ((inB (stm 16 1)).getD 1 (.Pass ⟨0,0,0,0⟩))).drop 2) fl σ₁ o₁ →
          Ex c 59 (scopeAt 16) (upd (upd (sP f) "i" (.int (i : Nat))) "flag" (.int (1 * 2 ^ (i : Int).toNat))) (some ("names", sLs acc)) (inB ((inB (stm 16 1)).getD 1 (.Pass ⟨0,0,0,0⟩))) fl σ₁ o₁ := fun h => by
        refine Ex.cons (Ex1.append (d := .str (flagName i)) (Ev.methV (EvV.glob G.cfn (by decide +kernel)) (EvL.cons (Ev.name (d := .int (1 * 2 ^ (i : Int).toNat)) (by trivial)) (EvL.cons (Ev.call (NoG.ev G.hex (by rfl) (by decide +kernel)) KeepV.blt (EvL.cons (Ev.name (d := .int (1 * 2 ^ (i : Int).toNat)) (by trivial)) EvL.nil) (FnV.hex (hex_len i hb.1))) EvL.nil))
          M.hT (M.get2 (r := 59) (fun h Y t' => by rw [hg]; simp only [Option.getD_some, Rep]; exact ⟨t, rfl⟩)) F.plainAttrs_dict F.slot_dict_get F.type_dict_get) (by simp [sLs]; omega)) ?_
        rw [← e]
        exact Ex.cons (ExB.post (Ex1.aug (x := "flags") (d₀ := .int f) (by decide) (by trivial) (Ev.name (d := .int (1 * 2 ^ (i : Int).toNat)) (by trivial)) Iop.bxor (.inl (by decide +kernel)) (by simp [ownName])) (Sub.cons (by trivial) Sub.nil)) h
      have test : Tr c 59 (scopeAt 16) (full (upd (upd (sP f) "i" (.int (i : Nat))) "flag" (.int (1 * 2 ^ (i : Int).toNat))) (some ("names", sLs acc))) (inT ((inB (stm 16 1)).getD 1 (.Pass ⟨0,0,0,0⟩))) true :=
        Tr.to (Tr.val (by decide) (Ev.bin (by decide) (Ev.name (d := .int f) (by trivial)) (Ev.name (d := .int (1 * 2 ^ (i : Int).toNat)) (by trivial)) Bop.band) Tru.int) q
      by_cases z : (Builtin.bitXor f (1 * 2 ^ (i : Int).toNat) == 0) = true
      · rw [if_pos z] at h
        cases h
        refine ⟨.brk, _, _, _, ForR.brk own (Ex.cons s0 (Ex.stop (Ex1.ifT test (body (Ex.stop (Ex1.ifT (Tr.to (Tr.not (Tr.val (by decide) (Ev.name (d := .int (Builtin.bitXor f (1 * 2 ^ (i : Int).toNat))) (by trivial)) Tru.int)) (by simpa using z)) (Ex.stop Ex1.brk nofun)) nofun))) nofun)), rfl, rfl, rfl⟩
      · rw [if_neg z] at h
        obtain ⟨fl₁, σ₁, σ₂, o₁, h1, h2⟩ := w_pfL G n (i + 1) _ _ _ (by omega) h
        refine ⟨fl₁, σ₁, σ₂, o₁, ForR.turn own (Ex.cons s0 (Ex.cons (Ex1.ifT test (body (Ex.cons (Ex1.ifF (Tr.to (Tr.not (Tr.val (by decide) (Ev.name (d := .int (Builtin.bitXor f (1 * 2 ^ (i : Int).toNat))) (by trivial)) Tru.int)) (by simpa using z)) Ex.nil) Ex.nil))) Ex.nil)) h1, h2⟩
    · rw [if_neg q] at h
      obtain ⟨fl₁, σ₁, σ₂, o₁, h1, h2⟩ := w_pfL G n (i + 1) _ _ _ (by omega) h
      refine ⟨fl₁, σ₁, σ₂, o₁, ForR.turn own (Ex.cons s0 (Ex.cons (ExB.post (Ex1.ifF (Tr.to (Tr.val (by decide) (Ev.bin (by decide) (Ev.name (d := .int f) (by trivial)) (Ev.name (d := .int (1 * 2 ^ (i : Int).toNat)) (by trivial)) Bop.band) Tru.int) (by simpa using q)) Ex.nil) (Sub.cons (by trivial) Sub.nil)) Ex.nil)) h1, h2⟩

theorem retNe {d : D} : Fl.ret d ≠ .next := fun h => by cases h
theorem w_pf (G : G4 c) {f : Int} {out : List Str} (h : pfL 32 0 f [] = some out) (hok : (out.map (·.length)).sum + out.length * comma.length ≤ 16777216) : FnV c 60 (.ref (c.fa 16)) [.int f] (.str (Txt.join comma out)) := by
  refine G.pf.fn (r := 59) (σ' := fun _ => none) (o' := none) rfl ?_
  refine ExB.pre (σ₂ := sP f) ?_ (Sub.cons (by trivial) Sub.nil)
  refine Ex.cons (Ex1.assignOwn EvF.nil (.inl (by decide +kernel)) (by trivial)) ?_
  obtain ⟨fl₁, σ₁, σ₂, o₁, h1, h2⟩ := w_pfL (c := c) G 32 0 f [] out rfl h
  refine Ex.cons (Ex1.for (EvI.range1 (n := 32) (by decide) G.range (by decide +kernel) Ev.int (by decide)) (.inl (by decide +kernel)) h1 h2) ?_
  have hj : FnV c 59 (.builtin "str.join") [.str comma, .list (sLs out)] (.str (Txt.join comma out)) := FnV.join hok
  have hne : Fl.ret (.str (Txt.join comma out)) ≠ .next := retNe
  refine Ex.stop ?_ hne
  refine ExB.retAny (σ' := fun _ => none) (o' := none) ?_
  refine Ex1.ret ?_
  exact Ev.meth (d₀ := .str comma) Ev.str (EvL.cons (Ev.name (d := .list (sLs out)) (by simp [full, upd])) EvL.nil) hT_str hj F.plainAttrs_str F.slot_str_join F.type_str_join
end Mine

end
section
open PySem PySem.W PySem.Calls PyProof.Rows Builtin.Str
set_option maxRecDepth 20000
set_option linter.unusedVariables false
set_option linter.unusedSimpArgs false
namespace Mine
local macro_rules | `(tactic| omega) => `(tactic| lia)

def b1S (k : Int) : Bool := [173, 847, 6150, 6155, 6156, 6157, 8203, 8204, 8205, 8288, 65279].contains k || (65024 ≤ k && k < 65040)
def letters : List Nat := [107, 75, 8490, 952, 920, 1012, 969, 937, 8486, 229, 197, 8491, 454, 452, 453, 457, 455, 456, 460, 458, 459]
structure G5 (c : Cx) : Prop where
  inB1 : GFn c 20 (c.fa 20) "in_table_b1" ["code"]
  map3 : GFn c 22 (c.fa 22) "map_table_b3" ["code"]
  ord : NoG c "ord"
  b1n : c.mg (Str.ofString "b1_set") = some (.ref (c.fa 19))
  b1 : c.base.SetOf (intKind c.prog c.w) (c.fa 19) b1S 27
  b3n : c.mg (Str.ofString "b3_exceptions") = some (.ref (c.fa 21))
  b3 : ∃ f, MapTx c (c.fa 21) f ∧ ∀ n ∈ letters, f (n : Nat) = none
  rows : GFn c 24 (c.fa 24) "_law_rows" ["number", "places"]
  forms : GFn c 25 (c.fa 25) "_law_forms" []
  typed : GFn c 26 (c.fa 26) "_law_typed" ["row"]
  putIn : GFn c 27 (c.fa 27) "_law_put_in" ["extra"]
  names : GFn c 28 (c.fa 28) "_law_names" ["row"]
  sizes : GFn c 29 (c.fa 29) "_law_sizes" ["number"]
  sparse : GFn c 30 (c.fa 30) "_law_sparse" ["rows"]
  chr : NoG c "chr"
  range : NoG c "range"
  list : NoG c "list"

variable {c : Cx} {r : Nat}
local macro_rules | `(tactic| trivial) => `(tactic| first | rfl | (simp [full, L, argσ, upd]; done))

theorem w_inB1 (G : G5 c) {n : Nat} : FnV c 60 (.ref (c.fa 20)) [.str (T [n])] (.bool (b1S n)) := by
  refine G.inB1.fn (r := 59) (σ' := fun _ => none) (o' := none) rfl ?_
  exact Ex.stop (Ex1.ret (Ev.cmpV (by decide) (Ev.call (NoG.ev G.ord (by rfl) (by decide +kernel)) KeepV.blt (EvL.cons (Ev.name (d := .str (T [n])) (by trivial)) EvL.nil) FnV.ord) (EvV.glob G.b1n (by decide +kernel)) (inSet G.b1))) retNe

theorem w_map3 (G : G5 c) {n : Nat} (hn : n ∈ letters) : FnV c 60 (.ref (c.fa 22)) [.str (T [n])] (.str (Txt.lower (T [n]))) := by
  refine G.map3.fn (r := 59) (σ' := fun _ => none) (o' := none) rfl ?_
  obtain ⟨f, M, hf⟩ := G.b3
  refine Ex.cons (Ex1.assign (d := .none) (Ev.methV (EvV.glob G.b3n (by decide +kernel)) (EvL.cons (Ev.call (NoG.ev G.ord (by rfl) (by decide +kernel)) KeepV.blt (EvL.cons (Ev.name (d := .str (T [n])) (by trivial)) EvL.nil) FnV.ord) EvL.nil) M.hT (M.get1 (r := 59) (fun h Y => by rw [hf n hn]; simp [Rep])) F.plainAttrs_dict F.slot_dict_get F.type_dict_get) (.inl (by decide +kernel)) nofun) ?_
  refine Ex.cons (Ex1.ifF (Tr.to (Tr.cmp (by decide) (Ev.name (d := .none) (by trivial)) Ev.none Cop.isNot) rfl) Ex.nil) ?_
  exact Ex.stop (Ex1.ret (Ev.meth0 (Ev.name (d := .str (T [n])) (by trivial)) hT_str (FnV.lower (by simp [T, Str.length])) F.plainAttrs_str F.slot_str_lower F.type_str_lower)) retNe

/-- _law_rows -/
def rowsF : Nat → Int → List (List Int)
  | 0, n => if n == 0 then [[]] else []
  | p + 1, n => if n.fmod 2 == 0 then (rowsF p (n.fdiv 2)).map (0 :: ·) else (rowsF p ((n - 1).fdiv 2)).map (1 :: ·) ++ (rowsF p ((n + 1).fdiv 2)).map (-1 :: ·)
def rL (l : List (List Int)) : List D := l.map fun x => .list (iL x)
theorem rowsF_len : ∀ (p : Nat) (n : Int), (rowsF p n).length ≤ 2 ^ p
  | 0, n => by unfold rowsF; split <;> simp
  | p + 1, n => by
    have h1 := rowsF_len p (n.fdiv 2)
    have h2 := rowsF_len p ((n - 1).fdiv 2)
    have h3 := rowsF_len p ((n + 1).fdiv 2)
    unfold rowsF
    split
    · simp; omega
    · simp; omega
theorem rowsF_row : ∀ (p : Nat) (n : Int), ∀ x ∈ rowsF p n, x.length = p
  | 0, n, x, h => by unfold rowsF at h; split at h <;> simp_all
  | p + 1, n, x, h => by
    unfold rowsF at h
    split at h
    · obtain ⟨y, hy, rfl⟩ := List.mem_map.mp h; simp [rowsF_row p _ y hy]
    · rcases List.mem_append.mp h with h | h
      all_goals (obtain ⟨y, hy, rfl⟩ := List.mem_map.mp h; simp [rowsF_row p _ y hy])
theorem fdiv2 (n : Int) : n.fdiv 2 = n / 2 := by rw [Int.fdiv_eq_ediv_of_nonneg _ (by decide)]
theorem evFlist (l : List (List Int)) : EvL c r (scopeAt 24) (fun _ => none) [] [] := EvL.nil
def sN (n : Int) (p : Nat) : String → Option D := L [("number", .int n), ("places", .int (p : Nat))]
local macro_rules | `(tactic| trivial) => `(tactic| first | rfl | (simp [full, L, sN, argσ, upd]; done))

theorem map_cons (f : Int) (l : List (List Int)) : rL (l.map (f :: ·)) = l.map fun x => D.list ([D.int f] ++ iL x) := by simp [rL, iL, List.map_map]
theorem len_iL_le {l : List Int} (h : l.length ≤ 100) : (iL l).length ≤ sizeLine := by simp [iL]; unfold sizeLine; omega

theorem rowsIter (G : G5 c) {R p : Nat} (hR : 20 ≤ R) {σ : String → Option D} {e1 : Expr} {m : Int} {p5 p6 p8 p9 q : Pos} {kd : Nat} (hσ : σ "places" = some (.int (p + 1 : Nat))) (he : Ev c R (scopeAt 24) σ e1 (.int m))
    (H : FnV c R (.ref (c.fa 24)) [.int m, .int (p : Nat)] (.list (rL (rowsF p m)))) (hs : ∀ env, starEach [e1, .BinOp (.Name (Str.ofString "places") p5) .Sub (.Constant (.int 1) kd p8) p9] env = (false, eval e1 env) :: starEach [.BinOp (.Name (Str.ofString "places") p5) .Sub (.Constant (.int 1) kd p8) p9] env := by intro _; rfl) :
    EvI c R (scopeAt 24) σ (.Call (.Name (Str.ofString "_law_rows") q) [e1, .BinOp (.Name (Str.ofString "places") p5) .Sub (.Constant (.int 1) kd p8) p9] [] p6) (rL (rowsF p m)) :=
  EvI.of hR (Ev.call (G.rows.ev (by decide +kernel)) G.rows.keep (EvL.cons0 he (EvL.cons (Ev.to (Ev.bin hR (Ev.name hσ) Ev.int Bop.sub) (by congr 1; omega)) EvL.nil) hs) H hs) Iters.list
theorem rowsCo {R : Nat} (hR : 20 ≤ R) {sc : Scope} {σ : String → Option D} {fe : Expr} {f : Int} {p1 p2 p3 : Pos} {l : List (List Int)} (hl : ∀ x ∈ l, x.length ≤ 10) (hf : ∀ σ, Ev c R sc σ fe (.int f))
    (hs : ∀ env, starEach [fe] env = (false, eval fe env) :: starEach [] env := by intro _; rfl) :
    CoR c R sc σ "row" [] (.BinOp (.List [fe] p1) .Add (.Name (Str.ofString "row") p2) p3) (rL l) (rL (l.map (f :: ·))) := by
  rw [map_cons]
  refine CoR.map (f := fun x => .list (iL x)) (g := fun x => .list ([.int f] ++ iL x)) fun x hx => ?_
  have := hl x hx
  exact Ev.bin hR (Ev.list (EvL.cons0 (hf _) EvL.nil hs) (by show 1 ≤ sizeLine; decide)) (Ev.name (d := .list (iL x)) (by simp [upd])) (Bop.addList (by simp [iL]; unfold sizeLine; omega))

theorem w_rows (G : G5 c) : ∀ (p : Nat) (n : Int), p ≤ 7 → -1000 ≤ n → n ≤ 1000 → FnV c (60 + p) (.ref (c.fa 24)) [.int n, .int (p : Nat)] (.list (rL (rowsF p n)))
  | 0, n, hp, h1, h2 => by
    refine G.rows.fn (r := 59) (σ' := fun _ => none) (o' := none) rfl ?_
    refine ExB.pre (σ₂ := sN n 0) ?_ (Sub.cons (by trivial) (Sub.cons (by trivial) Sub.nil))
    refine Ex.stop (Ex1.ifT (Tr.to (Tr.cmp (by decide) (Ev.name (d := .int (0 : Nat)) (by trivial)) Ev.int Cop.eqInt) rfl) (Ex.stop (Ex1.ret ?_) retNe)) retNe
    unfold rowsF
    by_cases e : (n == 0) = true
    · rw [if_pos e]
      exact Ev.ifT (Tr.to (Tr.cmp (by decide) (Ev.name (d := .int n) (by trivial)) Ev.int Cop.eqInt) e) (Ev.list (EvL.cons (Ev.list EvL.nil (by decide)) EvL.nil) (by show 1 ≤ sizeLine; decide))
    · rw [if_neg e]
      exact Ev.ifF (Tr.to (Tr.cmp (by decide) (Ev.name (d := .int n) (by trivial)) Ev.int Cop.eqInt) (by simpa using e)) (Ev.list EvL.nil (by decide))
  | p + 1, n, hp, h1, h2 => by
    have hR : 20 ≤ 60 + p := by omega
    refine G.rows.fn (r := 60 + p) (σ' := fun _ => none) (o' := none) rfl ?_
    refine ExB.pre (σ₂ := sN n (p + 1)) ?_ (Sub.cons (by trivial) (Sub.cons (by trivial) Sub.nil))
    refine Ex.cons (Ex1.ifF (Tr.to (Tr.cmp hR (Ev.name (d := .int ((p + 1 : Nat) : Int)) (by trivial)) Ev.int Cop.eqInt) (by simp; omega)) Ex.nil) ?_
    have row10 : ∀ m, ∀ x ∈ rowsF p m, x.length ≤ 10 := fun m x hx => by rw [rowsF_row p m x hx]; omega
    have size : ∀ m, (rL (rowsF p m)).length ≤ sizeLine := fun m => by
      have := rowsF_len p m
      have h3 : 2 ^ p ≤ 2 ^ 7 := Nat.pow_le_pow_right (by decide) (by omega)
      simp [rL]; unfold sizeLine; omega
    have npy : ∀ m : Int, Builtin.divisionGoesByPylong m 2 = false := fun m => PyProof.noPylong_small (by decide)
    unfold rowsF
    by_cases e : (n.fmod 2 == 0) = true
    · rw [if_pos e]
      refine Ex.stop (Ex1.ifT (Tr.to (Tr.cmp hR (Ev.bin hR (Ev.name (d := .int n) (by trivial)) Ev.int (Bop.mod (by decide))) Ev.int Cop.eqInt) e) (Ex.stop (Ex1.ret ?_) retNe)) retNe
      exact Ev.comp (σf := fun _ => none) (rowsIter G hR (by trivial) (Ev.bin hR (Ev.name (d := .int n) (by trivial)) Ev.int (Bop.fdiv (by decide) (npy n))) (w_rows G p _ (by omega) (by rw [fdiv2]; omega) (by rw [fdiv2]; omega)))
        ⟨by decide +kernel, .inl (by decide +kernel), by decide +kernel, by decide +kernel, by decide +kernel⟩ Sees.nil (size _) (rowsCo hR (row10 _) fun σ => Ev.int)
    · rw [if_neg e]
      refine Ex.cons (Ex1.ifF (Tr.to (Tr.cmp hR (Ev.bin hR (Ev.name (d := .int n) (by trivial)) Ev.int (Bop.mod (by decide))) Ev.int Cop.eqInt) (by simpa using e)) Ex.nil) ?_
      refine Ex.cons (Ex1.assignComp (σf := fun _ => none) (rowsIter G hR (by trivial) (Ev.bin hR (Ev.bin hR (Ev.name (d := .int n) (by trivial)) Ev.int Bop.sub) Ev.int (Bop.fdiv (by decide) (npy _))) (w_rows G p _ (by omega) (by rw [fdiv2]; omega) (by rw [fdiv2]; omega)))
        ⟨by decide +kernel, .inl (by decide +kernel), by decide +kernel, by decide +kernel, by decide +kernel⟩ Sees.nil (size _) (rowsCo hR (row10 _) fun σ => Ev.int) (.inl (by decide +kernel)) nofun (fun env e => by cases env; cases e; rfl)) ?_
      refine Ex.cons (Ex1.assignComp (σf := fun _ => none) (rowsIter G hR (by trivial) (Ev.bin hR (Ev.bin hR (Ev.name (d := .int n) (by trivial)) Ev.int Bop.add) Ev.int (Bop.fdiv (by decide) (npy _))) (w_rows G p _ (by omega) (by rw [fdiv2]; omega) (by rw [fdiv2]; omega)))
        ⟨by decide +kernel, .inl (by decide +kernel), by decide +kernel, by decide +kernel, by decide +kernel⟩ Sees.nil (size _) (rowsCo hR (row10 _) fun σ => Ev.una hR Ev.int Uop.neg) (.inl (by decide +kernel)) nofun (fun env e => by cases env; cases e; rfl)) ?_
      have app : ∀ a b : List (List Int), rL (a ++ b) = rL a ++ rL b := fun a b => by simp [rL]
      rw [app]
      have l1 := size ((n - 1).fdiv 2)
      have l2 := size ((n + 1).fdiv 2)
      refine Ex.stop (Ex1.ret (Ev.bin hR (Ev.name (by simp [full, upd])) (Ev.name (by simp [full, upd])) (Bop.addList ?_))) retNe
      have g1 := rowsF_len p ((n - 1).fdiv 2)
      have g2 := rowsF_len p ((n + 1).fdiv 2)
      have h3 : 2 ^ p ≤ 2 ^ 7 := Nat.pow_le_pow_right (by decide) (by omega)
      simp [rL]; unfold sizeLine; omega
end Mine

end
section
open PySem PySem.W PySem.Calls PyProof.Rows Builtin.Str
set_option maxRecDepth 20000
set_option linter.unusedVariables false
set_option linter.unusedSimpArgs false
namespace Mine
local macro_rules | `(tactic| omega) => `(tactic| lia)

theorem glue_fold : ∀ (l : List Nat) (acc : Array Nat), (l.map fun n => T [n]).foldl (fun acc p => acc ++ (T []).cps ++ p.cps) acc = acc ++ l.toArray
  | [], acc => by simp
  | n :: l, acc => by
    simp only [List.map_cons, List.foldl_cons]
    rw [glue_fold l]
    simp [T]
theorem joinT : ∀ l : List Nat, Txt.join (T []) (l.map fun n => T [n]) = T l
  | [] => rfl
  | n :: l => by
    show glued (T []) (T [n] :: l.map fun n => T [n]) = _
    unfold glued
    simp only [List.headD_cons, List.drop_one, List.tail_cons]
    rw [glue_fold]
    simp [T]
theorem emptyT : Str.ofString "" = T [] := by rfl
theorem joinT_ok {l : List Nat} (h : l.length ≤ 1000) : ((l.map fun n => T [n]).map (·.length)).sum + (l.map fun n => T [n]).length * (T []).length ≤ 16777216 := by
  have : ∀ l : List Nat, ((l.map fun n => T [n]).map (·.length)).sum = l.length := fun l => by
    induction l with
    | nil => rfl
    | cons n l ih => simp [T_length] at ih ⊢; omega
  rw [this, T_length]; simp; omega

def forms : List (List Int) := [[107, 75, 8490], [952, 920, 1012], [969, 937, 8486], [229, 197, 8491], [454, 452, 453], [457, 455, 456], [460, 458, 459]]
def formI (k : Nat) (v : Int) : Nat := ((forms.getD k []).getD (if v < 0 then (v + 3).toNat else v.toNat) 0).toNat
def typed (row : List Int) : List Nat := (List.range' 0 7).map fun k => formI k (row.getD k 0)
def Row7 (row : List Int) : Prop := row.length = 7 ∧ ∀ v ∈ row, v = -1 ∨ v = 0 ∨ v = 1

variable {c : Cx} {r : Nat}
local macro_rules | `(tactic| trivial) => `(tactic| first | rfl | (simp [full, L, argσ, upd]; done))
theorem swL {es : List Expr} {p : Pos} {t : Option Expr} {n : Nat} {env : Env} : swapsWith (.List es p) t n env = pure false := rfl

theorem star_list {es' es : List Expr} {p : Pos} {env : Env} : starEach (.List es' p :: es) env = (false, eval (.List es' p) env) :: starEach es env := rfl
theorem EvL.consL {sc : Scope} {σ : String → Option D} {es' es : List Expr} {p : Pos} {d : D} {ds : List D} (h : Ev c r sc σ (.List es' p) d) (hs : EvL c r sc σ es ds) : EvL c r sc σ (.List es' p :: es) (d :: ds) := EvL.cons0 h hs fun _ => star_list
theorem w_forms (G : G5 c) : FnV c 60 (.ref (c.fa 25)) [] (.list (rL forms)) := by
  refine G.forms.fn (r := 59) (σ' := fun _ => none) (o' := none) rfl ?_
  have three : ∀ {σ : String → Option D} {a b d : Int} {k1 k2 k3 : Nat} {p1 p2 p3 p4 : Pos}, Ev c 59 (scopeAt 25) σ (.List [.Constant (.int a) k1 p1, .Constant (.int b) k2 p2, .Constant (.int d) k3 p3] p4) (.list (iL [a, b, d])) := fun {σ} {a b d} {k1 k2 k3} {p1 p2 p3 p4} =>
    Ev.list (EvL.cons Ev.int (EvL.cons Ev.int (EvL.cons Ev.int EvL.nil))) (by show 3 ≤ sizeLine; decide)
  have e : rL forms = [.list (iL [107, 75, 8490]), .list (iL [952, 920, 1012]), .list (iL [969, 937, 8486]), .list (iL [229, 197, 8491])] ++ [.list (iL [454, 452, 453]), .list (iL [457, 455, 456]), .list (iL [460, 458, 459])] := rfl
  have hz : [D.list (iL [107, 75, 8490]), .list (iL [952, 920, 1012]), .list (iL [969, 937, 8486]), .list (iL [229, 197, 8491])].length + [D.list (iL [454, 452, 453]), .list (iL [457, 455, 456]), .list (iL [460, 458, 459])].length ≤ sizeLine := by show 7 ≤ sizeLine; decide
  rw [e]
  refine Ex.cons (σ' := upd (argσ [] []) "near" (.list [.list (iL [107, 75, 8490]), .list (iL [952, 920, 1012]), .list (iL [969, 937, 8486]), .list (iL [229, 197, 8491])])) (o' := none) ?_ ?_
  · refine Ex1.assign ?_ ?_ ?_ ?_
    · refine Ev.list ?_ ?_
      · skip
        refine EvL.consL ?_ ?_
        · exact three (a := 107) (b := 75) (d := 8490)
        refine EvL.consL ?_ ?_
        · exact three (a := 952) (b := 920) (d := 1012)
        refine EvL.consL ?_ ?_
        · exact three (a := 969) (b := 937) (d := 8486)
        refine EvL.consL ?_ ?_
        · exact three (a := 229) (b := 197) (d := 8491)
        exact EvL.nil
      · show 4 ≤ sizeLine; decide
    · exact .inl (by decide +kernel)
    · exact nofun
    · exact fun _ => swL
  · refine Ex.stop ?_ retNe
    refine Ex1.ret ?_
    refine Ev.bin (by decide) (Ev.name (by simp [full, upd])) ?_ (Bop.addList hz)
    refine Ev.list ?_ ?_
    · skip
      refine EvL.consL ?_ ?_
      · exact three (a := 454) (b := 452) (d := 453)
      refine EvL.consL ?_ ?_
      · exact three (a := 457) (b := 455) (d := 456)
      refine EvL.consL ?_ ?_
      · exact three (a := 460) (b := 458) (d := 459)
      exact EvL.nil
    · show 3 ≤ sizeLine; decide

theorem form_get : ∀ k : Nat, k < 7 → (rL forms)[k]? = some (.list (iL (forms.getD k []))) ∧ (forms.getD k []).length = 3 ∧
    (∀ v : Int, v = -1 ∨ v = 0 ∨ v = 1 → (forms.getD k [])[if v < 0 then (v + 3).toNat else v.toNat]? = some (formI k v : Nat) ∧ formI k v ≤ 100000) := by
  intro k hk
  have : k = 0 ∨ k = 1 ∨ k = 2 ∨ k = 3 ∨ k = 4 ∨ k = 5 ∨ k = 6 := by omega
  rcases this with rfl | rfl | rfl | rfl | rfl | rfl | rfl
  all_goals (refine ⟨rfl, rfl, fun v hv => ?_⟩; rcases hv with rfl | rfl | rfl <;> exact ⟨rfl, by decide⟩)
theorem row_get {row : List Int} (h : Row7 row) {k : Nat} (hk : k < 7) : (iL row)[k]? = some (.int (row.getD k 0)) ∧ (row.getD k 0 = -1 ∨ row.getD k 0 = 0 ∨ row.getD k 0 = 1) := by
  have hk' : k < row.length := by rw [h.1]; exact hk
  have e : row.getD k 0 = row[k] := by simp [List.getD_eq_getElem?_getD, List.getElem?_eq_getElem hk']
  exact ⟨iL_get (by rw [List.getElem?_eq_getElem hk', e]), by rw [e]; exact h.2 _ (List.getElem_mem hk')⟩
theorem Idx.py {ds : List D} {k : Int} {d : D} (h : k = -1 ∨ k = 0 ∨ k = 1) (hl : ds.length = 3) (hd : ds[if k < 0 then (k + 3).toNat else k.toNat]? = some d) : Idx c (.list ds) (.int k) d := by
  by_cases q : k < 0
  · rw [if_pos q] at hd
    exact Idx.listNeg q (by omega) (by omega) (by rw [hl]; exact hd)
  · rw [if_neg q] at hd
    exact Idx.list (by omega) (by omega) hd

theorem w_typed (G : G5 c) {row : List Int} (hr : Row7 row) : FnV c 61 (.ref (c.fa 26)) [.list (iL row)] (.str (T (typed row))) := by
  refine G.typed.fn (r := 60) (σ' := fun _ => none) (o' := none) rfl ?_
  refine Ex.cons (Ex1.assign (Ev.call0 (G.forms.ev (by decide +kernel)) G.forms.keep (w_forms G)) (.inr (by decide +kernel)) nofun) ?_
  have hj : FnV c 60 (.builtin "str.join") [.str (T []), .list ((List.range' 0 7).map fun k => .str (T [formI k (row.getD k 0)]))] (.str (T (typed row))) := by
    have := FnV.join (c := c) (r := 60) (x := T []) (ys := (typed row).map fun n => T [n]) (joinT_ok (by simp [typed]))
    rw [joinT] at this
    have e : ((List.range' 0 7).map fun k => D.str (T [formI k (row.getD k 0)])) = ((typed row).map fun n => T [n]).map D.str := by simp only [typed, List.map_map]; rfl
    rw [e]; exact this
  refine Ex.stop (Ex1.ret ?_) retNe
  refine Ev.meth (d₀ := .str (T [])) Ev.str (EvL.cons (Ev.comp (σf := upd (upd (fun _ => none) "forms" (.list (rL forms))) "row" (.list (iL row))) (EvI.range1 (n := 7) (by decide) G.range (by decide +kernel) Ev.int (by omega)) ⟨by decide +kernel, .inl (by decide +kernel), by decide +kernel, by decide +kernel, by decide +kernel⟩ ?_ (by show 7 ≤ sizeLine; decide)
    (CoR.map (f := fun k => .int (k : Nat)) (g := fun k => .str (T [formI k (row.getD k 0)])) fun k hk => ?_)) EvL.nil) hT_str hj F.plainAttrs_str F.slot_str_join F.type_str_join
  · exact ((Sees.nil).add (by simp [full, upd]) (by decide +kernel)).add (by simp [full, upd, argσ]) (by decide +kernel)
  · have hk' : k < 7 := by simp at hk; omega
    obtain ⟨f1, f2, f3⟩ := form_get k hk'
    obtain ⟨r1, r2⟩ := row_get hr hk'
    obtain ⟨f3, f4⟩ := f3 _ r2
    refine Ev.to (Ev.call (d := .str (T [((formI k (row.getD k 0) : Nat) : Int).toNat])) (NoG.ev G.chr (by rfl) (by decide +kernel)) KeepV.blt (EvL.cons (Ev.sub (d := .int (formI k (row.getD k 0) : Nat)) (by decide) (Ev.sub (d := .list (iL (forms.getD k []))) (by decide) (Ev.name (d := .list (rL forms)) (by trivial)) (Ev.name (d := .int (k : Nat)) (by trivial)) (Idx.list (by omega) (by omega) (by simpa using f1)))
      (Ev.sub (d := .int (row.getD k 0)) (by decide) (Ev.name (d := .list (iL row)) (by trivial)) (Ev.name (d := .int (k : Nat)) (by trivial)) (Idx.list (by omega) (by omega) (by simpa using r1))) (Idx.py r2 (by rw [iL_len]; exact f2) (iL_get f3))) EvL.nil) (FnV.chr (by omega) (by omega))) (by simp)
end Mine

end
section
open PySem PySem.W PySem.Calls PyProof.Rows Builtin.Str
set_option maxRecDepth 20000
set_option linter.unusedVariables false
set_option linter.unusedSimpArgs false
namespace Mine
local macro_rules | `(tactic| omega) => `(tactic| lia)
variable {c : Cx} {r : Nat}
local macro_rules | `(tactic| trivial) => `(tactic| first | rfl | (simp [full, L, argσ, upd]; done))

def pts0 : List Int := [173, 847, 6150, 6155, 6156, 6157, 8203, 8204, 8205, 8288, 65279]
def pts : List Int := pts0 ++ (List.range 16).map fun i => (65024 + (i : Nat) : Int)
def ptI (e : Nat) : Nat := (pts.getD (e / 3 % 27) 0).toNat
def putIn (e : Nat) : List Nat := List.replicate (e % 3) (ptI e)
theorem pts_get : ∀ k : Nat, k < 27 → pts[k]? = some ((pts.getD k 0).toNat : Int) ∧ pts.getD k 0 ≤ 100000 := by decide
theorem iL_app (a b : List Int) : iL (a ++ b) = iL a ++ iL b := by simp [iL]
theorem mulT (n : Nat) : ∀ k : Nat, k < 3 → mulS (T [n]) k = T (List.replicate k n) := by
  intro k hk
  have : k = 0 ∨ k = 1 ∨ k = 2 := by omega
  rcases this with rfl | rfl | rfl <;> simp [mulS, T]
theorem fdivN (a b : Nat) : (a : Int).fdiv (b : Int) = ((a / b : Nat) : Int) := by simp [Int.fdiv_eq_ediv_of_nonneg]
theorem fmodN (a b : Nat) : (a : Int).fmod (b : Int) = ((a % b : Nat) : Int) := by rw [Int.fmod_eq_emod_of_nonneg _ (by omega)]; simp

theorem evL0 {sc : Scope} {σ : String → Option D} {k0 k1 k2 k3 k4 k5 k6 k7 k8 k9 k10 : Nat} {p0 p1 p2 p3 p4 p5 p6 p7 p8 p9 p10 : Pos} {a0 a1 a2 a3 a4 a5 a6 a7 a8 a9 a10 : Int} :
    EvL c r sc σ [.Constant (.int a0) k0 p0, .Constant (.int a1) k1 p1, .Constant (.int a2) k2 p2, .Constant (.int a3) k3 p3, .Constant (.int a4) k4 p4, .Constant (.int a5) k5 p5, .Constant (.int a6) k6 p6, .Constant (.int a7) k7 p7, .Constant (.int a8) k8 p8, .Constant (.int a9) k9 p9, .Constant (.int a10) k10 p10]
      (iL [a0, a1, a2, a3, a4, a5, a6, a7, a8, a9, a10]) := by
  simp only [iL, List.map_cons, List.map_nil]
  refine EvL.cons Ev.int ?_
  refine EvL.cons Ev.int ?_
  refine EvL.cons Ev.int ?_
  refine EvL.cons Ev.int ?_
  refine EvL.cons Ev.int ?_
  refine EvL.cons Ev.int ?_
  refine EvL.cons Ev.int ?_
  refine EvL.cons Ev.int ?_
  refine EvL.cons Ev.int ?_
  refine EvL.cons Ev.int ?_
  refine EvL.cons Ev.int ?_
  exact EvL.nil

theorem w_putIn (G : G5 c) {e : Nat} (he : e < 1000000) : FnV c 60 (.ref (c.fa 27)) [.int (e : Nat)] (.str (T (putIn e))) := by
  refine G.putIn.fn (r := 59) (σ' := fun _ => none) (o' := none) rfl ?_
  refine Ex.cons (σ' := upd (argσ ["extra"] [.int (e : Nat)]) "points" (.list (iL pts0))) (o' := none) ?_ ?_
  · refine Ex1.assign ?_ ?_ ?_ ?_
    · refine Ev.list ?_ ?_
      · exact evL0
      · show 11 ≤ sizeLine; decide
    · exact .inl (by decide +kernel)
    · exact nofun
    · exact fun _ => swL
  have hs : (iL pts0).length + (iL ((List.range 16).map fun i => (65024 + (i : Nat) : Int))).length ≤ sizeLine := by show 27 ≤ sizeLine; decide
  have hr : FnV c 59 (.type "list") [.range 65024 65040 1] (.list (iL ((List.range 16).map fun i => (65024 + (i : Nat) : Int)))) := by
    have := (FnF.listRange (c := c) (r := 59) (lo := 65024) (hi := 65040) (st := 1) (n := 16) (by decide +kernel) (by decide +kernel) (by decide)).v
    refine this.to ?_
    simp [iL, List.map_map]
  refine Ex.cons (σ' := upd (upd (argσ ["extra"] [.int (e : Nat)]) "points" (.list (iL pts0))) "points" (.list (iL pts))) (o' := none) ?_ ?_
  · refine Ex1.assign ?_ ?_ ?_
    · unfold pts
      rw [iL_app]
      refine Ev.bin (by decide) (Ev.name (d := .list (iL pts0)) (by trivial)) ?_ (Bop.addList hs)
      refine Ev.call (NoG.ev G.list (by rfl) (by decide +kernel)) KeepV.type (EvL.cons ?_ EvL.nil) hr
      exact Ev.call (NoG.ev G.range (by rfl) (by decide +kernel)) KeepV.type (EvL.cons Ev.int (EvL.cons Ev.int EvL.nil)) FnV.range2
    · exact .inl (by decide +kernel)
    · exact nofun
  refine Ex.stop ?_ retNe
  refine Ex1.ret ?_
  have hk : e / 3 % 27 < 27 := Nat.mod_lt _ (by decide)
  obtain ⟨g1, g2⟩ := pts_get _ hk
  have hE : ∀ p, Ev c 59 (scopeAt 27) (full (upd (upd (argσ ["extra"] [.int (e : Nat)]) "points" (.list (iL pts0))) "points" (.list (iL pts))) none) (.Name (Str.ofString "extra") p) (.int (e : Nat)) := fun p => Ev.name (by trivial)
  have npy : ∀ m : Int, Builtin.divisionGoesByPylong m 3 = false := fun m => PyProof.noPylong_small (by decide)
  refine Ev.to (d := .str (mulS (T [((ptI e : Nat) : Int).toNat]) ((e : Int).fmod 3).toNat)) ?_ (by
    have : ((e : Int).fmod 3) = ((e % 3 : Nat) : Int) := fmodN e 3
    rw [this, Int.toNat_natCast, Int.toNat_natCast, mulT _ _ (Nat.mod_lt _ (by decide))]; rfl)
  refine Ev.bin (d₁ := .str (T [((ptI e : Nat) : Int).toNat])) (d₂ := .int ((e : Int).fmod 3)) (by decide) ?_ (Ev.bin (by decide) (hE _) Ev.int (Bop.mod (by decide))) (Bop.mulStr ?_ ?_ ?_)
  · refine Ev.call (NoG.ev G.chr (by rfl) (by decide +kernel)) KeepV.blt (EvL.cons (d := .int (ptI e : Nat)) ?_ EvL.nil) (FnV.chr (by omega) (by unfold ptI; omega))
    refine Ev.sub (d₁ := .list (iL pts)) (d₂ := .int (e / 3 % 27 : Nat)) (by decide) (Ev.name (by trivial)) ?_ (Idx.list (by omega) (by omega) (iL_get (by rw [Int.toNat_natCast]; exact g1)))
    refine Ev.to (Ev.bin (by decide) (Ev.bin (by decide) (hE _) Ev.int (Bop.fdiv (by decide) (npy _))) Ev.int (Bop.mod (by decide))) ?_
    have h1 : (e : Int).fdiv 3 = ((e / 3 : Nat) : Int) := fdivN e 3
    have h2 : ((e / 3 : Nat) : Int).fmod 27 = ((e / 3 % 27 : Nat) : Int) := fmodN _ 27
    rw [h1, h2]
  · have : ((e : Int).fmod 3) = ((e % 3 : Nat) : Int) := fmodN e 3
    omega
  · have : ((e : Int).fmod 3) = ((e % 3 : Nat) : Int) := fmodN e 3
    omega
  · rw [T_length]; show 1 ≤ 4; decide
end Mine

end
section
open PySem PySem.W PySem.Calls PyProof.Rows Builtin.Str
set_option maxRecDepth 20000
set_option linter.unusedVariables false
set_option linter.unusedSimpArgs false
namespace Mine
local macro_rules | `(tactic| omega) => `(tactic| lia)
variable {c : Cx} {r : Nat}
local macro_rules | `(tactic| trivial) => `(tactic| first | rfl | (simp [full, L, argσ, upd]; done))

def nameL : List Str := (List.range' 0 7).map flagName
def namesL (row : List Int) : List Str := ((List.range' 0 7).filter fun k => row.getD k 0 != 0).map flagName
def zx : Str := Str.ofString "0x0"
def namesF (row : List Int) : Str := if (Txt.join comma (namesL row)).length ≠ 0 then Txt.join comma (namesL row) else zx
theorem flag_len : ∀ k < 7, (flagName k).length ≤ 20 := by decide +kernel
theorem flag_at : ∀ k < 7, (sLs nameL)[k]? = some (.str (flagName k)) := by
  intro k hk
  have : k = 0 ∨ k = 1 ∨ k = 2 ∨ k = 3 ∨ k = 4 ∨ k = 5 ∨ k = 6 := by omega
  rcases this with rfl | rfl | rfl | rfl | rfl | rfl | rfl <;> rfl
theorem sum_flag : ∀ l : List Nat, (∀ k ∈ l, k < 7) → ((l.map flagName).map (·.length)).sum ≤ 20 * l.length
  | [], _ => by simp
  | k :: l, h => by
    have := sum_flag l fun x hx => h x (.tail _ hx)
    have := flag_len k (h k (.head _))
    simp only [List.map_cons, List.sum_cons, List.length_cons]; omega
theorem names_ok (row : List Int) : ((namesL row).map (·.length)).sum + (namesL row).length * comma.length ≤ 16777216 := by
  have h1 := sum_flag ((List.range' 0 7).filter fun k => row.getD k 0 != 0) fun k hk => by have := (List.mem_filter.mp hk).1; simp at this; omega
  have h2 : ((List.range' 0 7).filter fun k => row.getD k 0 != 0).length ≤ 7 := Nat.le_trans (List.length_filter_le _ _) (by simp)
  have h3 : comma.length = 2 := by decide +kernel
  have h4 : (namesL row).length = ((List.range' 0 7).filter fun k => row.getD k 0 != 0).length := by simp [namesL]
  rw [h3, h4]
  unfold namesL
  omega

theorem w_names (G : G5 c) {row : List Int} (hr : Row7 row) : FnV c 60 (.ref (c.fa 28)) [.list (iL row)] (.str (namesF row)) := by
  refine G.names.fn (r := 59) (σ' := fun _ => none) (o' := none) rfl ?_
  refine Ex.cons (σ' := upd (argσ ["row"] [.list (iL row)]) "names" (.list (sLs nameL))) (o' := none) ?_ ?_
  · refine Ex1.assign ?_ ?_ ?_ ?_
    · refine Ev.list ?_ ?_
      · show EvL c 59 _ _ _ [.str (flagName 0), .str (flagName 1), .str (flagName 2), .str (flagName 3), .str (flagName 4), .str (flagName 5), .str (flagName 6)]
        refine EvL.cons Ev.str (EvL.cons Ev.str (EvL.cons Ev.str (EvL.cons Ev.str (EvL.cons Ev.str (EvL.cons Ev.str (EvL.cons Ev.str EvL.nil))))))
      · show 7 ≤ sizeLine; decide
    · exact .inr (by decide +kernel)
    · exact nofun
    · exact fun _ => swL
  refine Ex.stop ?_ retNe
  refine Ex1.ret ?_
  have hj : FnV c 59 (.builtin "str.join") [.str comma, .list (((List.range' 0 7).filter fun k => row.getD k 0 != 0).map fun k => .str (flagName k))] (.str (Txt.join comma (namesL row))) := by
    have := FnV.join (c := c) (r := 59) (x := comma) (ys := namesL row) (names_ok row)
    have e : (((List.range' 0 7).filter fun k => row.getD k 0 != 0).map fun k => D.str (flagName k)) = (namesL row).map D.str := by simp only [namesL, List.map_map]; rfl
    rw [e]; exact this
  have hcomp : ∀ {p1 p2 p3 p4 p5 p6 p7 p8 p9 p10 p11 p12 : Pos} {k1 k2 : Nat}, True := fun {_ _ _ _ _ _ _ _ _ _ _ _} {_ _} => trivial
  clear hcomp
  have hle : (Txt.join comma (namesL row)).length ≤ sizeLine := joinOk_length (joinOk_of (names_ok row))
  unfold namesF
  by_cases z : (Txt.join comma (namesL row)).length ≠ 0
  · rw [if_pos z]
    refine Ev.orT (by decide) ?_ (by have := Tru.str (c := c) hle; rwa [decide_eq_true z] at this)
    refine Ev.meth (d₀ := .str comma) Ev.str (EvL.cons ?_ EvL.nil) hT_str hj F.plainAttrs_str F.slot_str_join F.type_str_join
    refine Ev.comp (σf := upd (upd (fun _ => none) "names" (.list (sLs nameL))) "row" (.list (iL row))) (EvI.range1 (n := 7) (by decide) G.range (by decide +kernel) Ev.int (by omega)) ⟨by decide +kernel, .inl (by decide +kernel), by decide +kernel, by decide +kernel, by decide +kernel⟩ ?_ ?_ ?_
    · exact ((Sees.nil).add (by simp [full, upd]) (by decide +kernel)).add (by simp [full, upd, argσ]) (by decide +kernel)
    · show 7 ≤ sizeLine; decide
    · refine CoR.filter (f := fun k => .int (k : Nat)) (g := fun k => .str (flagName k)) (fun k hk => ?_) (fun k hk _ => ?_)
      · have hk' : k < 7 := by simp at hk; omega
        exact Tr.cmp (by decide) (Ev.sub (d₁ := .list (iL row)) (d₂ := .int (k : Nat)) (by decide) (Ev.name (by trivial)) (Ev.name (by trivial)) (Idx.list (by omega) (by omega) (by simpa using (row_get hr hk').1))) Ev.int Cop.neInt
      · have hk' : k < 7 := by simp at hk; omega
        exact Ev.sub (d₁ := .list (sLs nameL)) (d₂ := .int (k : Nat)) (by decide) (Ev.name (by trivial)) (Ev.name (by trivial)) (Idx.list (by omega) (by omega) (by simpa using flag_at k hk'))
  · rw [if_neg z]
    refine Ev.orF (by decide) (d := .str (Txt.join comma (namesL row))) ?_ (by have := Tru.str (c := c) hle; rwa [decide_eq_false z] at this) Ev.str
    refine Ev.meth (d₀ := .str comma) Ev.str (EvL.cons ?_ EvL.nil) hT_str hj F.plainAttrs_str F.slot_str_join F.type_str_join
    refine Ev.comp (σf := upd (upd (fun _ => none) "names" (.list (sLs nameL))) "row" (.list (iL row))) (EvI.range1 (n := 7) (by decide) G.range (by decide +kernel) Ev.int (by omega)) ⟨by decide +kernel, .inl (by decide +kernel), by decide +kernel, by decide +kernel, by decide +kernel⟩ ?_ ?_ ?_
    · exact ((Sees.nil).add (by simp [full, upd]) (by decide +kernel)).add (by simp [full, upd, argσ]) (by decide +kernel)
    · show 7 ≤ sizeLine; decide
    · refine CoR.filter (f := fun k => .int (k : Nat)) (g := fun k => .str (flagName k)) (fun k hk => ?_) (fun k hk _ => ?_)
      · have hk' : k < 7 := by simp at hk; omega
        exact Tr.cmp (by decide) (Ev.sub (d₁ := .list (iL row)) (d₂ := .int (k : Nat)) (by decide) (Ev.name (by trivial)) (Ev.name (by trivial)) (Idx.list (by omega) (by omega) (by simpa using (row_get hr hk').1))) Ev.int Cop.neInt
      · have hk' : k < 7 := by simp at hk; omega
        exact Ev.sub (d₁ := .list (sLs nameL)) (d₂ := .int (k : Nat)) (by decide) (Ev.name (by trivial)) (Ev.name (by trivial)) (Idx.list (by omega) (by omega) (by simpa using flag_at k hk'))

def sizes (n : Nat) : List Nat := (List.range' 0 8).map fun k => if n / 2 ^ k % 2 == 1 then 65 + k else 97 + k
theorem w_sizes (G : G5 c) {n : Nat} (hn : n ≤ 100000) : FnV c 60 (.ref (c.fa 29)) [.int (n : Nat)] (.str (T (sizes n))) := by
  refine G.sizes.fn (r := 59) (σ' := fun _ => none) (o' := none) rfl ?_
  refine Ex.stop ?_ retNe
  refine Ex1.ret ?_
  have hj : FnV c 59 (.builtin "str.join") [.str (T []), .list ((List.range' 0 8).map fun k => .str (T [if n / 2 ^ k % 2 == 1 then 65 + k else 97 + k]))] (.str (T (sizes n))) := by
    have := FnV.join (c := c) (r := 59) (x := T []) (ys := (sizes n).map fun n => T [n]) (joinT_ok (by simp [sizes]))
    rw [joinT] at this
    have e : ((List.range' 0 8).map fun k => D.str (T [if n / 2 ^ k % 2 == 1 then 65 + k else 97 + k])) = ((sizes n).map fun n => T [n]).map D.str := by simp only [sizes, List.map_map]; rfl
    rw [e]; exact this
  refine Ev.meth (d₀ := .str (T [])) Ev.str (EvL.cons ?_ EvL.nil) hT_str hj F.plainAttrs_str F.slot_str_join F.type_str_join
  refine Ev.comp (σf := upd (fun _ => none) "number" (.int (n : Nat))) (EvI.range1 (n := 8) (by decide) G.range (by decide +kernel) Ev.int (by omega)) ⟨by decide +kernel, .inl (by decide +kernel), by decide +kernel, by decide +kernel, by decide +kernel⟩ ?_ ?_ ?_
  · exact (Sees.nil).add (by simp [full, upd, argσ]) (by decide +kernel)
  · show 8 ≤ sizeLine; decide
  · refine CoR.map (f := fun k => .int (k : Nat)) (g := fun k => .str (T [if n / 2 ^ k % 2 == 1 then 65 + k else 97 + k])) fun k hk => ?_
    have hk' : k < 8 := by simp at hk; omega
    have hpow : (2 : Int) ^ ((k : Nat) : Int).toNat = ((2 ^ k : Nat) : Int) := by simp
    have test : ∀ {sc : Scope} {p1 p2 p3 p4 p5 p6 p7 p8 p9 : Pos} {k1 k2 k3 : Nat}, Tr c 59 sc (upd (upd (fun _ => none) "number" (.int (n : Nat))) "k" (.int (k : Nat)))
        (.Compare (.BinOp (.BinOp (.Name (Str.ofString "number") p1) .FloorDiv (.BinOp (.Constant (.int 2) k1 p2) .Pow (.Name (Str.ofString "k") p3) p4) p5) .Mod (.Constant (.int 2) k2 p6) p7) [.Eq] [.Constant (.int 1) k3 p8] p9) (n / 2 ^ k % 2 == 1) := by
      intro sc p1 p2 p3 p4 p5 p6 p7 p8 p9 k1 k2 k3
      refine Tr.to (Tr.cmp (d₁ := .int (((n : Int).fdiv ((2 ^ k : Nat) : Int)).fmod 2)) (by decide) ?_ Ev.int Cop.eqInt) ?_
      · refine Ev.bin (d₁ := .int ((n : Int).fdiv ((2 ^ k : Nat) : Int))) (by decide) ?_ Ev.int (Bop.mod (by decide))
        refine Ev.bin (d₁ := .int (n : Nat)) (d₂ := .int ((2 ^ k : Nat) : Int)) (by decide) (Ev.name (by trivial)) ?_ (Bop.fdiv ?_ ?_)
        · refine Ev.to (Ev.bin (d₁ := .int 2) (d₂ := .int (k : Nat)) (by decide) Ev.int (Ev.name (by trivial)) (Bop.pow (by omega) ?_)) (by rw [hpow])
          have : Builtin.Int.intBits 2 = 2 := by decide +kernel
          rw [this]; omega
        · have : 0 < 2 ^ k := Nat.pow_pos (by decide)
          omega
        · refine PyProof.noPylong_small ?_
          have : 2 ^ k ≤ 2 ^ 8 := Nat.pow_le_pow_right (by decide) (by omega)
          rw [Int.natAbs_natCast]
          omega
      · have h1 : (n : Int).fdiv ((2 ^ k : Nat) : Int) = ((n / 2 ^ k : Nat) : Int) := fdivN n (2 ^ k)
        have h2 : ((n / 2 ^ k : Nat) : Int).fmod 2 = ((n / 2 ^ k % 2 : Nat) : Int) := fmodN _ 2
        rw [h1, h2, Bool.eq_iff_iff]
        simp only [beq_iff_eq]
        omega
    by_cases q : (n / 2 ^ k % 2 == 1) = true
    · rw [if_pos q]
      refine Ev.ifT (Tr.to test q) ?_
      refine Ev.to (Ev.call (d := .str (T [((65 : Int) + (k : Int)).toNat])) (NoG.ev G.chr (by rfl) (by decide +kernel)) KeepV.blt (EvL.cons (d := .int (65 + (k : Int))) (Ev.bin (by decide) Ev.int (Ev.name (d := .int (k : Nat)) (by trivial)) Bop.add) EvL.nil) (FnV.chr (by omega) (by omega))) ?_
      congr 2
    · rw [if_neg q]
      refine Ev.ifF (Tr.to test (by simpa using q)) ?_
      refine Ev.to (Ev.call (d := .str (T [((97 : Int) + (k : Int)).toNat])) (NoG.ev G.chr (by rfl) (by decide +kernel)) KeepV.blt (EvL.cons (d := .int (97 + (k : Int))) (Ev.bin (by decide) Ev.int (Ev.name (d := .int (k : Nat)) (by trivial)) Bop.add) EvL.nil) (FnV.chr (by omega) (by omega))) ?_
      congr 2

def spIdx (row : List Int) : List Nat := (List.range' 0 6).filter fun k => row.getD k 0 != 0 && row.getD (k + 1) 0 != 0
def isSparse (row : List Int) : Bool := (spIdx row).isEmpty
theorem w_spTest (G : G5 c) {σ : String → Option D} {row : List Int} (hr : Row7 row) (hσ : σ "row" = some (.list (iL row))) : Tr c 59 (scopeAt 30) σ (inT ((inB (stm 30 0)).headD (.Pass ⟨0,0,0,0⟩))) (isSparse row) := by
  have e1 : isSparse row = ((spIdx row).map (fun k => ((k : Nat) : Int)) == []) := by unfold isSparse; cases spIdx row <;> rfl
  rw [e1]
  refine Tr.cmp (d₁ := .list (((spIdx row).map (fun k => ((k : Nat) : Int))).map .int)) (d₂ := .list (([] : List Int).map .int)) (by decide) ?_ (Ev.list EvL.nil (by decide)) Cop.eqInts
  refine Ev.to (d := .list ((spIdx row).map fun k => .int (k : Nat))) ?_ (by rw [List.map_map]; rfl)
  refine Ev.comp (σf := upd (fun _ => none) "row" (.list (iL row))) (EvI.range1 (n := 6) (by decide) G.range (by decide +kernel) Ev.int (by omega)) ⟨by decide +kernel, .inl (by decide +kernel), by decide +kernel, by decide +kernel, by decide +kernel⟩ ?_ ?_ ?_
  · exact (Sees.nil).add hσ (by decide +kernel)
  · show 6 ≤ sizeLine; decide
  · refine CoR.filter (f := fun k => .int (k : Nat)) (g := fun k => .int (k : Nat)) (fun k hk => ?_) (fun k hk _ => Ev.name (by trivial))
    have hk' : k < 6 := by simp at hk; omega
    have t1 : ∀ {sc : Scope} {p1 p2 p3 p4 p5 : Pos} {k1 : Nat}, Tr c 59 sc (upd (upd (fun _ => none) "row" (.list (iL row))) "k" (.int (k : Nat))) (.Compare (.Subscript (.Name (Str.ofString "row") p1) (.Name (Str.ofString "k") p2) p3) [.NotEq] [.Constant (.int 0) k1 p4] p5) (row.getD k 0 != 0) := by
      intro sc p1 p2 p3 p4 p5 k1
      exact Tr.cmp (by decide) (Ev.sub (d₁ := .list (iL row)) (d₂ := .int (k : Nat)) (by decide) (Ev.name (by trivial)) (Ev.name (by trivial)) (Idx.list (by omega) (by omega) (by simpa using (row_get hr (show k < 7 by omega)).1))) Ev.int Cop.neInt
    have t2 : ∀ {sc : Scope} {p1 p2 p3 p4 p5 p6 p7 : Pos} {k1 k2 : Nat}, Tr c 59 sc (upd (upd (fun _ => none) "row" (.list (iL row))) "k" (.int (k : Nat))) (.Compare (.Subscript (.Name (Str.ofString "row") p1) (.BinOp (.Name (Str.ofString "k") p2) .Add (.Constant (.int 1) k2 p6) p7) p3) [.NotEq] [.Constant (.int 0) k1 p4] p5) (row.getD (k + 1) 0 != 0) := by
      intro sc p1 p2 p3 p4 p5 p6 p7 k1 k2
      refine Tr.cmp (by decide) (Ev.sub (d₁ := .list (iL row)) (d₂ := .int ((k + 1 : Nat) : Int)) (by decide) (Ev.name (by trivial)) (Ev.to (Ev.bin (by decide) (Ev.name (d := .int (k : Nat)) (by trivial)) Ev.int Bop.add) (by congr 1)) (Idx.list (by omega) (by omega) (by rw [Int.toNat_natCast]; exact (row_get hr (show k + 1 < 7 by omega)).1))) Ev.int Cop.neInt
    refine Tr.bool ?_
    cases q1 : (row.getD k 0 != 0)
    · exact TrB.andF (Tr.to t1 q1)
    · cases q2 : (row.getD (k + 1) 0 != 0)
      · exact TrB.andT (Tr.to t1 q1) (TrB.andF (Tr.to t2 q2))
      · exact TrB.andT (Tr.to t1 q1) (TrB.andT (Tr.to t2 q2) TrB.andNil)

theorem w_spFor (G : G5 c) : ∀ (rows : List (List Int)) (x : List Int) (σ : String → Option D), (∀ y ∈ rows, Row7 y) → rows.find? isSparse = some x →
    ∃ σ' o', ForR c 59 (scopeAt 30) "row" (inB (stm 30 0)) (rL rows) σ none (.ret (.list (iL x))) σ' o'
  | [], x, σ, _, h => by simp at h
  | y :: rows, x, σ, hr, h => by
    have own : ownName none ≠ some "row" := nofun
    by_cases q : isSparse y = true
    · rw [List.find?_cons_of_pos q] at h
      cases h
      refine ⟨fun _ => none, none, ForR.ret own ?_⟩
      refine Ex.stop (Ex1.ifT (Tr.to (w_spTest G (row := y) (hr y (.head _)) (by simp [upd, full])) q) (Ex.stop (Ex1.ret (Ev.name (by simp [upd, full]))) retNe)) retNe
    · rw [List.find?_cons_of_neg q] at h
      obtain ⟨σ', o', ih⟩ := w_spFor G rows x (upd σ "row" (.list (iL y))) (fun z hz => hr z (.tail _ hz)) h
      refine ⟨σ', o', ForR.turn own (Ex.cons (Ex1.ifF (Tr.to (w_spTest G (row := y) (hr y (.head _)) (by simp [upd, full])) (by simpa using q)) Ex.nil) Ex.nil) ih⟩

theorem w_sparse (G : G5 c) {rows : List (List Int)} {x : List Int} (hr : ∀ y ∈ rows, Row7 y) (h : rows.find? isSparse = some x) : FnV c 60 (.ref (c.fa 30)) [.list (rL rows)] (.list (iL x)) := by
  refine G.sparse.fn (r := 59) (σ' := fun _ => none) (o' := none) rfl ?_
  obtain ⟨σ', o', hf⟩ := w_spFor G rows x (argσ ["rows"] [.list (rL rows)]) hr h
  refine Ex.stop ?_ retNe
  exact ExB.retAny (Ex1.for (σ' := fun _ => none) (o' := none) (EvI.of (by decide) (Ev.name (d := .list (rL rows)) (by trivial)) Iters.list) (.inr (by decide +kernel)) hf rfl)
end Mine

end
section
open PySem PySem.W PySem.Calls PyProof.Rows Builtin.Str
set_option maxRecDepth 20000
set_option linter.unusedVariables false
set_option linter.unusedSimpArgs false
namespace Mine
local macro_rules | `(tactic| omega) => `(tactic| lia)
open Builtin.Int (intBits)
variable {c : Cx} {r : Nat}

def defB : Stmt → List Stmt
  | .FunctionDef _ _ b _ _ _ _ _ _ _ => b
  | _ => []
def defS : Stmt → Scope
  | .FunctionDef _ _ _ _ _ _ s _ _ _ => s
  | _ => ⟨.function, [], false, false, []⟩

theorem ints_get : ∀ {vs : List Value} {ns : List Int} {k : Nat} {i : Int}, IntsAre vs ns → ns[k]? = some i → ∃ t, vs[k]? = some (.int i t)
  | _, _, k, i, .nil, e => by simp at e
  | _, _, 0, i, .cons n t h, e => by simp at e; subst e; exact ⟨t, rfl⟩
  | _, _, k + 1, i, .cons n t h, e => by simp at e; simpa using ints_get h e
/-- _digits2int's inner -/
def digF : Nat → List Int → Int → Int → Int → Option Int
  | 0, _, _, _, _ => none
  | f + 1, ds, n, l, h =>
    if l + 1 == h then (if 0 ≤ l ∧ l < 2 ^ 20 then ds[l.toNat]? else none)
    else
      let mid := (l + h).fdiv (2 ^ (1 : Int).toNat)
      let shift := (mid - l) * n
      if 0 ≤ shift ∧ shift ≤ 2 ^ 20 ∧ intBits (mid - l) ≤ 2 ^ 20 ∧ intBits n ≤ 2 ^ 20 then
        match digF f ds n mid h with
        | none => none
        | some hi => match digF f ds n l mid with
          | none => none
          | some lo => if intBits hi ≤ 2 ^ 20 then some (hi * 2 ^ shift.toNat + lo) else none
      else none

def fvD (a F : Addr) (n : Int) : String → Option D := L [("digits", .raw (.ref a)), ("n", .int n), ("inner", .raw (.ref F))]
local macro_rules | `(tactic| trivial) => `(tactic| first | rfl | (simp [full, L, fvD, both, argσ, upd]; done))
theorem w_dig {F a : Addr} {fd : FuncData} {n : Int} {ds : List Int} {vs : Array Value} (hF : FnAtC c F fd ["L", "R"] (defB (stm 11 0)) (fvD a F n)) (hs : fd.scope = defS (stm 11 0)) (hl : c.base.PlainList a vs) (hi : IntsAre vs.toList ds) :
    ∀ (f : Nat) (l h v : Int), digF f ds n l h = some v → FnV c (30 + f) (.ref F) [.int l, .int h] (.int v)
  | 0, l, h, v, e => by simp [digF] at e
  | f + 1, l, h, v, e => by
    have hK : KeepV c (.ref F) := let ⟨o, ho, hd⟩ := hF.at_; KeepV.fn ho hd
    have hR : 20 ≤ 30 + f := by omega
    refine FnV.userC (r := 30 + f) (σ' := fun _ => none) (o' := none) hF rfl ?_
    rw [hs]
    have nl : ∀ p, Ev c (30 + f) (defS (stm 11 0)) (both (argσ ["L", "R"] [.int l, .int h]) (fvD a F n)) (.Name (Str.ofString "L") p) (.int l) := fun p => Ev.name (by trivial)
    have nh : ∀ p, Ev c (30 + f) (defS (stm 11 0)) (both (argσ ["L", "R"] [.int l, .int h]) (fvD a F n)) (.Name (Str.ofString "R") p) (.int h) := fun p => Ev.name (by trivial)
    unfold digF at e
    by_cases q : (l + 1 == h) = true
    · rw [if_pos q] at e
      split at e
      case isFalse => cases e
      rename_i hb
      obtain ⟨t, g1⟩ := ints_get hi e
      rw [Array.getElem?_toList] at g1
      refine Ex.stop (Ex1.ifT (Tr.to (Tr.cmp hR (Ev.bin hR (nl _) Ev.int Bop.add) (nh _) Cop.eqInt) q) (Ex.stop (Ex1.ret ?_) nofun)) nofun
      exact Ev.sub (d₁ := .raw (.ref a)) (d₂ := .int l) hR (Ev.name (by trivial)) (nl _) (Idx.rawList hl hb.1 (by omega) g1 fun h Y => by simp only [Rep]; exact ⟨t, rfl⟩)
    · rw [if_neg q] at e
      simp only at e
      generalize hm : (l + h).fdiv (2 ^ (1 : Int).toNat) = mid at e
      generalize hsh : (mid - l) * n = shift at e
      split at e
      case isFalse => cases e
      rename_i hb
      split at e
      case h_1 => cases e
      rename_i hi' e1
      split at e
      case h_1 => cases e
      rename_i lo e2
      split at e
      case isFalse => cases e
      rename_i hb2
      cases e
      have ih1 := w_dig hF hs hl hi f _ _ _ e1
      have ih2 := w_dig hF hs hl hi f _ _ _ e2
      refine Ex.cons (Ex1.ifF (Tr.to (Tr.cmp hR (Ev.bin hR (nl _) Ev.int Bop.add) (nh _) Cop.eqInt) (by simpa using q)) Ex.nil) ?_
      refine Ex.cons (Ex1.assign (d := .int mid) (by rw [← hm]; exact Ev.bin hR (Ev.bin hR (nl _) (nh _) Bop.add) Ev.int (Bop.shr (by decide))) (.inl (by decide +kernel)) nofun) ?_
      refine Ex.cons (Ex1.assign (d := .int shift) (by rw [← hsh]; exact Ev.bin hR (Ev.bin hR (Ev.name (d := .int mid) (by trivial)) (Ev.name (d := .int l) (by trivial)) Bop.sub) (Ev.name (d := .int n) (by trivial)) (Bop.mul (IntMulOk.of_bits hb.2.2.1 hb.2.2.2))) (.inl (by decide +kernel)) nofun) ?_
      refine Ex.stop ?_ nofun
      refine Ex1.ret ?_
      refine Ev.bin (d₁ := .int (hi' * 2 ^ shift.toNat)) (d₂ := .int lo) hR ?_ ?_ Bop.add
      · refine Ev.bin (d₁ := .int hi') (d₂ := .int shift) hR ?_ (Ev.name (by trivial)) (Bop.shl hb.1 (by omega))
        exact Ev.callD (Ev.name (d := .raw (.ref F)) (by trivial)) hK (EvL.cons (Ev.name (d := .int mid) (by trivial)) (EvL.cons (Ev.name (d := .int h) (by trivial)) EvL.nil)) ih1
      · exact Ev.callD (Ev.name (d := .raw (.ref F)) (by trivial)) hK (EvL.cons (Ev.name (d := .int l) (by trivial)) (EvL.cons (Ev.name (d := .int mid) (by trivial)) EvL.nil)) ih2
end Mine

end
section
open PySem PySem.W PySem.Calls PyProof.Rows Builtin.Str
set_option maxRecDepth 20000
set_option linter.unusedVariables false
set_option linter.unusedSimpArgs false
namespace Mine
local macro_rules | `(tactic| omega) => `(tactic| lia)
open Builtin.Int (intBits)
open Builtin (bitXor)
variable {c : Cx} {r : Nat}

/-- _int2digits' inner: the list as it leaves it -/
def innF : Nat → Int → Int → Int → Int → List Int → Option (List Int)
  | 0, _, _, _, _, _ => none
  | f + 1, n, x, l, h, is =>
    if l + 1 == h then (if 0 ≤ l ∧ l < is.length ∧ is.length ≤ 2 ^ 20 then some (is.set l.toNat x) else none)
    else
      let mid := (l + h).fdiv (2 ^ (1 : Int).toNat)
      let shift := (mid - l) * n
      if 0 ≤ shift ∧ shift ≤ 2 ^ 20 ∧ intBits (mid - l) ≤ 2 ^ 20 ∧ intBits n ≤ 2 ^ 20 ∧ intBits x ≤ 2 ^ 20 ∧ intBits (x.fdiv (2 ^ shift.toNat)) ≤ 2 ^ 20 then
        match innF f n (bitXor x (x.fdiv (2 ^ shift.toNat) * 2 ^ shift.toNat)) l mid is with
        | none => none
        | some is' => innF f n (x.fdiv (2 ^ shift.toNat)) mid h is'
      else none

def fvI (a F : Addr) (n : Int) : String → Option D := L [("a_digits", .raw (.ref a)), ("inner", .raw (.ref F)), ("n", .int n)]
local macro_rules | `(tactic| trivial) => `(tactic| first | rfl | (simp [full, L, fvI, both, argσ, upd]; done))
theorem w_inn {F a : Addr} {fd : FuncData} {n : Int} (hF : FnAtC c F fd ["x", "L", "R"] (defB (stm 10 1)) (fvI a F n)) (hs : fd.scope = defS (stm 10 1)) (ha : c.base.get? a = none) :
    ∀ (f : Nat) (x l h : Int) (is is' : List Int), innF f n x l h is = some is' → FnO c (30 + f) (.ref F) [.int x, .int l, .int h] a is is'
  | 0, x, l, h, is, is', e => by simp [innF] at e
  | f + 1, x, l, h, is, is', e => by
    have hK : KeepV c (.ref F) := let ⟨o, ho, hd⟩ := hF.at_; KeepV.fn ho hd
    have hR : 20 ≤ 30 + f := by omega
    refine FnO.userC (r := 30 + f) (σ' := fun _ => none) (y := "a_digits") hF rfl (by trivial) (by decide) ha ?_
    rw [hs]
    have nx : ∀ o p, Ev c (30 + f) (defS (stm 10 1)) (full (both (argσ ["x", "L", "R"] [.int x, .int l, .int h]) (fvI a F n)) (some ("a_digits", o))) (.Name (Str.ofString "x") p) (.int x) := fun o p => Ev.name (by trivial)
    have nl : ∀ o p, Ev c (30 + f) (defS (stm 10 1)) (full (both (argσ ["x", "L", "R"] [.int x, .int l, .int h]) (fvI a F n)) (some ("a_digits", o))) (.Name (Str.ofString "L") p) (.int l) := fun o p => Ev.name (by trivial)
    have nh : ∀ o p, Ev c (30 + f) (defS (stm 10 1)) (full (both (argσ ["x", "L", "R"] [.int x, .int l, .int h]) (fvI a F n)) (some ("a_digits", o))) (.Name (Str.ofString "R") p) (.int h) := fun o p => Ev.name (by trivial)
    unfold innF at e
    by_cases q : (l + 1 == h) = true
    · rw [if_pos q] at e
      split at e
      case isFalse => cases e
      rename_i hb
      cases e
      have hset : (is.map D.int).set l.toNat (.int x) = (is.set l.toNat x).map .int := by rw [List.map_set]
      rw [← hset]
      refine ExN.ifRet (Tr.to (Tr.cmp hR (Ev.bin hR (nl _ _) Ev.int Bop.add) (nh _ _) Cop.eqInt) q) ?_
      exact ExB.post (Ex1.setItem (k := l) (Ev.name (d := .int x) (by trivial)) (Ev.name (d := .int l) (by trivial)) hb.1 (by rw [List.length_map]; omega) (by rw [List.length_map]; omega)) Sub.none
    · rw [if_neg q] at e
      simp only at e
      generalize hm : (l + h).fdiv (2 ^ (1 : Int).toNat) = mid at e
      generalize hsh : (mid - l) * n = shift at e
      split at e
      case isFalse => cases e
      rename_i hb
      split at e
      case h_1 => cases e
      rename_i is1 e1
      have ih1 := w_inn hF hs ha f _ _ _ _ _ e1
      have ih2 := w_inn hF hs ha f _ _ _ _ _ e
      generalize hup : x.fdiv (2 ^ shift.toNat) = up at *
      generalize hlo : bitXor x (up * 2 ^ shift.toNat) = lo at *
      refine ExN.of ?_
      refine Ex.cons (Ex1.ifF (Tr.to (Tr.cmp hR (Ev.bin hR (nl _ _) Ev.int Bop.add) (nh _ _) Cop.eqInt) (by simpa using q)) Ex.nil) ?_
      refine Ex.cons (Ex1.assign (d := .int mid) (by rw [← hm]; exact Ev.bin hR (Ev.bin hR (Ev.name (d := .int l) (by trivial)) (Ev.name (d := .int h) (by trivial)) Bop.add) Ev.int (Bop.shr (by decide))) (.inl (by decide +kernel)) (by simp [ownName])) ?_
      refine Ex.cons (Ex1.assign (d := .int shift) (by rw [← hsh]; exact Ev.bin hR (Ev.bin hR (Ev.name (d := .int mid) (by trivial)) (Ev.name (d := .int l) (by trivial)) Bop.sub) (Ev.name (d := .int n) (by trivial)) (Bop.mul (IntMulOk.of_bits hb.2.2.1 hb.2.2.2.1))) (.inl (by decide +kernel)) (by simp [ownName])) ?_
      refine Ex.cons (Ex1.assign (d := .int up) (by rw [← hup]; exact Ev.bin hR (Ev.name (d := .int x) (by trivial)) (Ev.name (d := .int shift) (by trivial)) (Bop.shr hb.1)) (.inl (by decide +kernel)) (by simp [ownName])) ?_
      refine Ex.cons (Ex1.assign (d := .int lo) (by rw [← hlo]; exact Ev.bin hR (Ev.name (d := .int x) (by trivial)) (Ev.bin hR (Ev.name (d := .int up) (by trivial)) (Ev.name (d := .int shift) (by trivial)) (Bop.shl hb.1 (by omega))) Bop.bxor) (.inl (by decide +kernel)) (by simp [ownName])) ?_
      refine Ex.cons (Ex1.callO (y := "a_digits") (L := a) (is' := is1) (Ev.name (d := .raw (.ref F)) (by trivial)) hK (EvL.cons (Ev.name (d := .int lo) (by trivial)) (EvL.cons (Ev.name (d := .int l) (by trivial)) (EvL.cons (Ev.name (d := .int mid) (by trivial)) EvL.nil))) (by trivial) ih1) ?_
      refine Ex.cons (ExB.post (Ex1.callO (y := "a_digits") (L := a) (is' := is') (Ev.name (d := .raw (.ref F)) (by trivial)) hK (EvL.cons (Ev.name (d := .int up) (by trivial)) (EvL.cons (Ev.name (d := .int mid) (by trivial)) (EvL.cons (Ev.name (d := .int h) (by trivial)) EvL.nil))) (by trivial) ih2) Sub.none) Ex.nil
end Mine

end
section
open PySem PySem.W PySem.Calls PyProof.Rows Builtin.Str
set_option maxRecDepth 20000
set_option linter.unusedVariables false
set_option linter.unusedSimpArgs false
namespace Mine
variable {c : Cx} {r : Nat}

/-- the same top, more of the heap known -/
def Cx.more (c : Cx) (h : Heap) (hb : c.In h) : Cx := { c with base := h, g := c.g.keeps hb, b := c.b.keeps hb, nolimit := c.nolimit.keeps hb }
def fPos : Stmt → Pos
  | .FunctionDef _ _ _ _ _ _ _ _ _ p => p
  | _ => ⟨0, 0, 0, 0⟩
def fArgs : Stmt → Arguments
  | .FunctionDef _ a _ _ _ _ _ _ _ _ => a
  | _ => ⟨[], [], none, [], [], none, []⟩
/-- a call that may fill one table -/
def FnZ1 (c : Cx) (r : Nat) (v : Value) (args : List D) (d : D) (P : Addr) (pos : Pos) (qual : Str) : Prop := ∀ Y A s vs, Room A r → c.In s.heap → Live s.heap Y → P ∉ Y → TabE P pos qual s.heap → RepL s.heap (P :: Y) args vs →
  wpAny c.M A (PySem.call v vs) (fun w s' => KpS (fun b => b = P) s s' ∧ TabF P pos qual s'.heap ∧ (TabF P pos qual s.heap → Kp s s') ∧ Rep s'.heap (P :: Y) d w) noE s

/-- a def nested in a def of the top, as its block begins to know it -/
theorem nested {sc scope : Scope} {env : Env} {Y : List Addr} {σ : String → Option D} {o : Option (String × List D)} {a : Addr} {val : String → Option Value} {A : Around} {s : Shared} {cd P : Addr} {qual : Str} {name : String} {params : Arguments} {body : List Stmt} {pos : Pos} {Q : Flow → Shared → Prop}
    (X : StA c env sc (P :: Y) σ o a val s) (hcode : env.code = .ref cd) (C : CodeHd c.base cd P) (hPb : c.base.get? P = none) (hPY : P ∉ Y) (hT : TabE P pos qual s.heap) (hq : qualnameIn env (Str.ofString name) (Str.ofString name) = qual) (hB : c.base.BuiltinsAt c.mg P)
    (hd0 : params.defaults = []) (hk0 : params.kw_defaults = []) (ha : annTrees params none env = []) (hn : sc.names.lookup (Str.ofString name) = some .cell) (hox : ownName o ≠ some name)
    (hfree : ∀ z ∈ scope.names, z.2 = .free → sc.names.lookup z.1 = some .cell ∨ sc.names.lookup z.1 = some .free)
    (h : ∀ F cv ctv doc pm clos s', (∀ n, (n, NameKind.free) ∈ scope.names → clos.lookup n = env.cells.lookup n) → (∀ n c, clos.lookup n = some c → (n, NameKind.free) ∈ scope.names ∧ env.cells.lookup n = some c) →
      s.heap.get? F = none → s'.heap.get? F = some { cls := .type "function", data := .func (fnX (Str.ofString name) qual params body scope clos .none .none doc pm none cv ctv) } → s'.heap.CodeRec cv qual → TabF P pos qual s'.heap →
      KpS (fun b => b = P ∨ Mu env sc none b) s s' → (TabF P pos qual s.heap → KpS (Mu env sc none) s s') → StA c env sc (P :: Y) (upd σ name (.raw (.ref F))) o a (upd val name (.ref F)) s' → Q .next s') :
    wpAny c.M A (exec (.FunctionDef (Str.ofString name) params body [] none [] scope none (Str.ofString name) pos) env) Q noE s := by
  obtain ⟨clos, hcl, hc1, hc2⟩ := closure_ok (scope := scope) (env := env) fun n hn => let ⟨ca, u, a1, _⟩ := X.env.cel n (hfree _ hn rfl); ⟨ca, a1⟩
  have hg : s.heap.Ns mainGlobals c.mg := c.g.keeps X.base
  obtain ⟨ps, hP, hrest⟩ := id hT
  have hgP : mainGlobals ≠ P := fun q => by
    obtain ⟨oG, es, ep, e, hd, _⟩ := hg
    rw [q, hP] at e; cases e; cases hd
  have hB' : s.heap.BuiltinsAt c.mg P := by
    obtain ⟨bm, ob, b1, b2, b3, b4, b5, b6⟩ := hB
    exact ⟨bm, ob, b1, b2, b3, b4, X.base _ _ b5, b6⟩
  refine nestDef_K hd0 hk0 ha ?_
  rw [hq]
  refine mkFn hcl (X.env.glob) hg hcode (C.keeps X.base) hT hgP hB' fun F cv ctv doc pm h' tk hk hF hFo hrec hTF hkeep => ?_
  obtain ⟨_, X₁⟩ := X.offI ⟨_, hP, .inr ⟨_, rfl⟩⟩ hPb hPY (h' := h') (t := tk) hk
  have X₁ := X₁ (let ⟨ps', cv', e, _⟩ := hTF; ⟨_, e⟩)
  refine StA.store X₁ (.inr hn) hox (d := .raw (.ref F)) (by simp only [Rep]) fun s' k X' => ?_
  have hk₁ := k.keepStore X₁.env
  have keepF : ∀ b o, h'.get? b = some o → (∀ u, o.data ≠ .cell u) → (∀ es ep, o.data ≠ .dict es ep) → s'.heap.get? b = some o := fun b ob e n1 n2 => k.k b ob e fun m => by
    rcases m with m | ⟨x, q1, q2⟩ | m
    · obtain ⟨mm, ⟨oL, es, ep, eL, hd, _⟩, _⟩ := X₁.env.loc
      rw [← m] at eL
      have eL' : h'.get? b = some oL := eL
      rw [e] at eL'; cases eL'
      exact n2 _ _ hd
    · obtain ⟨ca, u, a1, ⟨oc, ec, hc⟩, _⟩ := X₁.env.cel x (.inl q1)
      rw [q2] at a1; cases a1
      have ec' : h'.get? b = some oc := ec
      rw [e] at ec'; cases ec'
      exact n1 _ hc
    · cases m
  have rec' : s'.heap.CodeRec cv qual := by
    obtain ⟨c₂, oc, vs, t, e2, hoc, hd, hv⟩ := hrec
    exact ⟨c₂, oc, vs, t, e2, keepF _ _ hoc (fun u q => by rw [hd] at q; cases q) (fun es ep q => by rw [hd] at q; cases q), hd, hv⟩
  have tab' : TabF P pos qual s'.heap := by
    obtain ⟨ps', cv', e1, e2, e3, c₂, oc, vs, t, e4, hoc, hd, hv⟩ := hTF
    exact ⟨ps', cv', keepF _ _ e1 (fun u q => by cases q) (fun es ep q => by cases q), e2, e3, c₂, oc, vs, t, e4, keepF _ _ hoc (fun u q => by rw [hd] at q; cases q) (fun es ep q => by rw [hd] at q; cases q), hd, hv⟩
  refine h F cv ctv doc pm clos s' hc1 hc2 hF (keepF _ _ hFo (fun u q => by cases q) (fun es ep q => by cases q)) rec' tab' ?_ (fun hfil => ?_) X'
  · obtain ⟨h2, t2, rfl, kk⟩ := k
    exact ⟨h2, t2, rfl, fun b ob e n => kk b ob (hk b ob (fun q => n (.inl q)) e) fun m => n (.inr m)⟩
  · obtain ⟨h2, t2, rfl, kk⟩ := k
    refine ⟨h2, t2, rfl, fun b ob e n => kk b ob ?_ n⟩
    by_cases q : b = P
    · subst q; exact hkeep hfil _ e
    · exact hk b ob q e
end Mine

end
section
open PySem PySem.W PySem.Calls PyProof.Rows Builtin.Str
set_option maxRecDepth 20000
set_option linter.unusedVariables false
set_option linter.unusedSimpArgs false
namespace Mine
local macro_rules | `(tactic| omega) => `(tactic| lia)
variable {c : Cx} {r : Nat}

theorem CodeRec.kp {h h' : Heap} {cv : Value} {q : Str} (x : h.CodeRec cv q) (k : ∀ b o, h.get? b = some o → h'.get? b = some o) : h'.CodeRec cv q := let ⟨c, o, vs, t, e, ho, r⟩ := x; ⟨c, o, vs, t, e, k _ _ ho, r⟩
theorem TabE.keeps {P pos q} {h h' : Heap} (x : TabE P pos q h) (k : ∀ b o, h.get? b = some o → h'.get? b = some o) : TabE P pos q h' :=
  let ⟨ps, e, t, r⟩ := x; ⟨ps, k _ _ e, t, r.imp id fun ⟨cv, a, b⟩ => ⟨cv, a, CodeRec.kp b k⟩⟩
theorem TabF.keeps {P pos q} {h h' : Heap} (x : TabF P pos q h) (k : ∀ b o, h.get? b = some o → h'.get? b = some o) : TabF P pos q h' :=
  let ⟨ps, cv, e, t, f, r⟩ := x; ⟨ps, cv, k _ _ e, t, f, CodeRec.kp r k⟩

/-- a def of the top that holds one nested def -/
structure GTab (c : Cx) (n : Nat) (a cd P : Addr) (name : String) (xs : List String) : Prop where
  mg : c.mg (Str.ofString name) = some (.ref a)
  fn : ∃ fd, fd.scope = scopeAt n ∧ FnAt c a fd xs (bodyAt n) ∧ fd.code = .ref cd ∧ fd.qualname = Str.ofString name
  code : CodeHd c.base cd P
  hid : c.base.get? P = none
  bm : c.base.BuiltinsAt c.mg P

def innQ (name : String) : Str := Str.ofString name ++ ".<locals>." ++ Str.ofString "inner"
local macro_rules | `(tactic| trivial) => `(tactic| first | rfl | (simp [full, L, argσ, upd]; done))

theorem w_d2i {cd P : Addr} (G : GTab c 11 (c.fa 11) cd P "_digits2int" ["digits", "n"]) (hlen : NoG c "len") {n v : Int} {ds : List Int} (h0 : ds = [] → v = 0) (h1 : ds ≠ [] → digF 20 ds n 0 ds.length = some v) (hsz : ds.length ≤ 1000) :
    FnZ1 c 61 (.ref (c.fa 11)) [.list (iL ds), .int n] (.int v) P (fPos (stm 11 0)) (innQ "_digits2int") := fun Y A s vs R hb hY hPY hT hv => by
  obtain ⟨fd, hsc, F, hcd, hqn⟩ := G.fn
  have hLive : Live s.heap (P :: Y) := fun b hb' => by
    rcases List.mem_cons.mp hb' with rfl | hb'
    · obtain ⟨ps, e, _⟩ := hT; exact ⟨_, e⟩
    · exact hY b hb'
  refine F.enter (r := 60) (ds := [.list (iL ds), .int n]) rfl R hb hLive hv fun env s₁ hcode hqual k X hmu R' => ?_
  rw [hsc] at X hmu
  refine wpAny_execs_cons (nested (P := P) (cd := cd) (qual := innQ "_digits2int") (name := "inner") X (hcode.trans hcd) G.code G.hid hPY (hT.keeps k.k) ?_ G.bm rfl rfl rfl (by decide +kernel) nofun (by decide +kernel) fun Fa cv ctv doc pm clos s₂ hc1 hc2 hF hFo hrec hTF kp kp2 X' => ?_)
  · show (if env.kindOf (Str.ofString "inner") == some .globalExplicit then Str.ofString "inner" else env.qual ++ Str.ofString "inner") = _
    have : env.kindOf (Str.ofString "inner") = some .cell := by unfold Env.kindOf; rw [X.env.scope]; decide +kernel
    rw [this, if_neg (by decide), hqual, hqn]; rfl
  let c' : Cx := c.more s₂.heap X'.base
  have X2 : At c' env (scopeAt 11) (P :: Y) (upd (argσ ["digits", "n"] [.list (iL ds), .int n]) "inner" (.raw (.ref Fa))) (upd (argσ ["digits", "n"] vs) "inner" (.ref Fa)) s₂ := ⟨fun _ _ e => e, X'.at.env, X'.at.ok, X'.live⟩
  obtain ⟨vd, vn, rfl, hvd, hvn⟩ := rep2 hv
  obtain ⟨a, us, rfl, haP, hl, hus⟩ := rList hvd
  obtain ⟨tn, rfl⟩ := rInt hvn
  have hl2 : s₂.heap.PlainList a us := by
    obtain ⟨nn, e⟩ := hl
    refine ⟨nn, kp.k _ _ (k.k _ _ e) fun m => ?_⟩
    rcases m with m | m
    · exact haP (m ▸ .head _)
    · exact absurd (Heap.lt_size e) (Nat.not_lt.mpr (hmu _ m))
  have hfr : ∀ z ∈ (defS (stm 11 0)).names, z.2 = .free → (scopeAt 11).names.lookup z.1 = some .cell := by decide +kernel
  have key : ∀ (x : String) (v : Value) (d : D), upd (argσ ["digits", "n"] [.ref a, .int n tn]) "inner" (.ref Fa) x = some v → (defS (stm 11 0)).names.lookup (Str.ofString x) = some .free → (Str.ofString x == ("__classdict__" : Str)) = false → (∀ h Y, Rep h Y d v) →
      (defS (stm 11 0)).names.lookup (Str.ofString x) = some .free ∧ (Str.ofString x == ("__classdict__" : Str)) = false ∧ ∃ ca v, clos.lookup (Str.ofString x) = some ca ∧ s₂.heap.IsCell ca (some v) ∧ ∀ h Y, Rep h Y d v := fun x v d h1 h2 h3 h4 => by
    obtain ⟨ca, u, a1, a2, a3⟩ := X'.env.cel _ (.inl (hfr _ (mem_of_lookup h2) rfl))
    refine ⟨h2, h3, ca, v, (hc1 _ (mem_of_lookup h2)).trans a1, ?_, h4⟩
    rw [← a3 x v rfl h1]; exact a2
  have hF' : FnAtC c' Fa _ ["L", "R"] (defB (stm 11 0)) (fvD a Fa n) := {
    at_ := ⟨_, hFo, rfl⟩
    body := rfl
    glob := rfl
    blt := rfl
    code := hrec
    bind := fun vs hvs => by
      match vs, hvs with
      | [v1, v2], _ => rfl
    nodup := by decide +kernel
    kinds := show ∀ x ∈ ["L", "R"], (defS (stm 11 0)).names.lookup (Str.ofString x) = some .local by decide +kernel
    co := rfl
    gen := rfl
    kind := rfl
    nocell := show ∀ z ∈ (defS (stm 11 0)).names, z.2 ≠ .cell by decide +kernel
    free := fun m hm => by
      obtain ⟨ca, u, a1, a2, _⟩ := X'.env.cel m (.inl (hfr _ (mem_of_lookup hm) rfl))
      exact ⟨ca, u, (hc1 m (mem_of_lookup hm)).trans a1, a2⟩
    inj := fun m m' ca h1 h2 => X'.env.inj m m' ca (hc2 _ _ h1).2 (hc2 _ _ h2).2
    fv := fun x d hx => by
      unfold fvD L at hx
      simp only [List.lookup_cons, List.lookup_nil] at hx
      by_cases e1 : x = "digits"
      · subst e1
        simp at hx; subst hx
        exact key _ (.ref a) _ (by trivial) (by decide +kernel) (by decide) fun h Y => by simp [Rep]
      · have q1 : (x == "digits") = false := by simpa using e1
        rw [q1] at hx
        by_cases e2 : x = "n"
        · subst e2
          simp at hx; subst hx
          exact key _ (.int n tn) _ (by trivial) (by decide +kernel) (by decide) fun h Y => by simp only [Rep]; exact ⟨_, rfl⟩
        · have q2 : (x == "n") = false := by simpa using e2
          rw [q2] at hx
          by_cases e3 : x = "inner"
          · subst e3
            simp at hx; subst hx
            exact key _ (.ref Fa) _ (by trivial) (by decide +kernel) (by decide) fun h Y => by simp [Rep]
          · have q3 : (x == "inner") = false := by simpa using e3
            rw [q3] at hx
            simp at hx }
  have wd := w_dig (c := c') hF' rfl hl2 hus.ints
  have hret : Ev c' 60 (scopeAt 11) (upd (argσ ["digits", "n"] [.list (iL ds), .int n]) "inner" (.raw (.ref Fa))) (match stm 11 1 with | .Return (some e) _ => e | _ => .Constant .none 0 ⟨0,0,0,0⟩) (.int v) := by
    by_cases e : ds = []
    · subst e
      rw [h0 rfl]
      exact Ev.ifF (Tr.to (Tr.val (by decide) (Ev.name (d := .list (iL [])) (by trivial)) (Tru.list (by decide))) rfl) Ev.int
    · refine Ev.ifT (Tr.to (Tr.val (by decide) (Ev.name (d := .list (iL ds)) (by trivial)) (Tru.list (by rw [iL_len]; unfold sizeLine; omega))) ?_) ?_
      · cases ds with
        | nil => exact absurd rfl e
        | cons x r => rfl
      · refine Ev.callD (ds := [.int 0, .int ds.length]) (Ev.name (d := .raw (.ref Fa)) (by trivial)) (KeepV.fn (o := _) hFo rfl) (EvL.cons Ev.int (EvL.cons ?_ EvL.nil)) ((wd 20 0 ds.length v (h1 e)).up (by decide))
        exact Ev.call (NoG.ev (c := c') hlen (by rfl) (by decide +kernel)) KeepV.blt (EvL.cons (Ev.name (d := .list (iL ds)) (by trivial)) EvL.nil) (by rw [← iL_len ds]; exact FnV.lenList (by rw [iL_len]; unfold sizeLine; omega))
  refine wpAny_execs_cons (wpAny_Return_some (weak (hret.go env (P :: Y) _ _ s₂ R' X2) fun w s₃ g => ?_))
  show KpS (fun b => b = P) s s₃ ∧ TabF P _ _ s₃.heap ∧ _ ∧ Rep s₃.heap (P :: Y) (.int v) w
  refine ⟨?_, hTF.keeps g.1.k, fun hfil => ?_, g.2⟩
  · obtain ⟨h1, t1, rfl, k1⟩ := k
    obtain ⟨h2, t2, rfl, k2⟩ := kp
    obtain ⟨h3, t3, rfl, k3⟩ := g.1
    refine ⟨h3, t3, rfl, fun b ob e nb => k3 b ob (k2 b ob (k1 b ob e) fun m => ?_)⟩
    rcases m with m | m
    · exact nb m
    · exact absurd (Heap.lt_size e) (Nat.not_lt.mpr (hmu _ m))
  · have kp2 := kp2 (hfil.keeps k.k)
    obtain ⟨h1, t1, rfl, k1⟩ := k
    obtain ⟨h2, t2, rfl, k2⟩ := kp2
    obtain ⟨h3, t3, rfl, k3⟩ := g.1
    exact ⟨h3, t3, rfl, fun b ob e => k3 b ob (k2 b ob (k1 b ob e) fun m => absurd (Heap.lt_size e) (Nat.not_lt.mpr (hmu _ m)))⟩
end Mine

end
section
open PySem PySem.W PySem.Calls PyProof.Rows Builtin.Str
set_option maxRecDepth 20000
set_option linter.unusedVariables false
set_option linter.unusedSimpArgs false
namespace Mine
local macro_rules | `(tactic| omega) => `(tactic| lia)
variable {c : Cx} {r : Nat}

theorem EvF.mulInts {sc : Scope} {σ : String → Option D} {l e : Expr} {pos : Pos} {i n : Int} (hr : 20 ≤ r) (h₁ : Ev c r sc σ l (.list (iL [i]))) (h₂ : Ev c r sc σ e (.int n)) (h0 : 0 ≤ n) (h1 : n < 2 ^ 20) :
    EvF c r sc σ (.BinOp l .Mult e pos) (iL (List.replicate n.toNat i)) := ⟨fun env Y val A s R X => by
  refine wpAny_BinOp (weak (h₁.go env Y val A s R X) fun v₁ s₁ g₁ => weak (h₂.go env Y val A s₁ R (X.keeps g₁.1)) fun v₂ s₂ g₂ => ?_)
  have X₂ := (X.keeps g₁.1).keeps g₂.1
  obtain ⟨u, rfl⟩ := rInt g₂.2
  obtain ⟨l, vs, rfl, hY, ⟨k, ho⟩, hv⟩ := rList (g₁.2.keeps g₂.1.k)
  have hlen : vs.size = 1 := by have := hv.length; simpa [iL] using this
  have hsz' : vs.size * n.toNat ≤ 2 ^ 24 := by rw [hlen]; omega
  have hz2 : vs.size * n.toNat ≤ 16777216 := by rw [hlen]; omega
  rw [hlen] at hz2 hsz'
  have hz3 : n ≤ 16777216 := by omega
  refine wpAny_binaryOp_repeat_ref (T := "list") (U := "int") (by decide) ⟨_, ho, rfl⟩ (fun s' => typeIs_int s' n u) noFill_list_mul F.fills_int_mul F.slot_int_rmul repeat_list F.slot_int_index.lookup
    (call_meets F.slot_int_rmul (typeIs_int _ n u) F.entry_int_rmul (F.args_int_rmul_2 _ _) (lm_int_rmul_list_any n u l vs k _ _)
      ⟨ho, rfl, ⟨_, ho, rfl⟩, call_meets F.slot_list_mul ⟨_, ho, rfl⟩ F.entry_list_mul (F.args_list_mul_2 _ _)
        (lm_list_mul_any l vs k _ _ n u (by simp [Builtin.List.listFitsIndex]; omega) (by rw [hlen]; omega) (by simp [Builtin.List.listTooLong, sizeLine, hlen]; omega))
        ⟨ho, ?_⟩⟩)
  rw [listMul_foldl_if]
  refine ⟨(g₁.1.trans g₂.1).trans (Kp.push _), _, _, rfl, ?_, ⟨0, Heap.get?_push_size _ rfl⟩, ?_⟩
  · cases q : s.heap.get? s₂.heap.objs.size with
    | none => rfl
    | some ob => exact absurd (Heap.lt_size ((g₁.1.trans g₂.1).k _ _ q)) (Nat.lt_irrefl _)
  · have h3 := repD_flat hv n.toNat
    have e1 : (List.replicate n.toNat (iL [i])).flatten = iL (List.replicate n.toNat i) := by
      generalize n.toNat = m
      induction m with
      | zero => rfl
      | succ m ih => simp only [List.replicate_succ, List.flatten_cons, ih]; rfl
    rw [e1] at h3
    exact ints_rep h3.ints⟩

/-- the call that changes one list, with no block's state around it -/
theorem callO_at {sc : Scope} {env : Env} {Y : List Addr} {σ : String → Option D} {val : String → Option Value} {A : Around} {s : Shared} {x : String} {p pos epos : Pos} {e : Expr} {es : List Expr} {ds : List D} {v : Value} {a : Addr} {is is' : List Int} {Q : Flow → Shared → Prop}
    (R : Room A r) (X : At c env sc (a :: Y) σ val s) (haY : a ∉ Y) (hf : Ev c r sc σ (.Name (Str.ofString x) p) (.raw v)) (hk : KeepV c v) (ha : EvL c r sc σ (e :: es) ds) (h : FnO c r v ds a is is')
    (hl : ∃ us, s.heap.PlainList a us ∧ IntsAre us.toList is)
    (hQ : ∀ s', KpS (fun b => b = a) s s' → (∃ us, s'.heap.PlainList a us ∧ IntsAre us.toList is') → Q .next s')
    (he : starred e = false := by rfl) (hp : ∀ env pos, (backTo pos (starEach es env)).any (·.1) = false := by intros; rfl)
    (hi : ∀ env : Env, env.scope.kind = .function → interactive env = false := by intro env he; unfold interactive; simp [he])
    (hs : ∀ env, swapsWith (.Call (.Name (Str.ofString x) p) (e :: es) [] pos) Option.none epos.line env = pure false := by intros; rfl) :
    wpAny c.M A (exec (.Expr (.Call (.Name (Str.ofString x) p) (e :: es) [] pos) epos) env) Q noE s := by
  refine wpAny_Expr_any ?_ (hi env (X.env.scope ▸ X.env.kind)) (hs env)
  refine wpAny_Call_NameR (weak (hf.go env _ val A s R X) fun v' s₁ g => ?_)
  obtain rfl := rRaw g.2
  have k := g.1
  have X₁ := X.keeps k
  have h2 := ha.go env _ val A s₁ pos R X₁
  rw [star_cons he] at h2 ⊢
  refine callWith_of (P := c.In) (by show ((false || (backTo pos (starEach es env)).any (·.1)) || false) = false; rw [hp]; rfl) hk (evalArgs_plain (weak h2 fun vs s₂ ⟨k₂, hv⟩ => ?_))
  have X₂ := X₁.keeps k₂
  refine ⟨X₂.base, ?_⟩
  obtain ⟨us, ⟨nn, hu⟩, hr⟩ := hl
  refine weak (h Y A s₂ vs R X₂.base (fun b hb => X₂.live b (.tail _ hb)) haY hv ⟨us, ⟨nn, (k.trans k₂).k _ _ hu⟩, hr⟩) fun w s₃ ⟨kp, hl'⟩ => ?_
  refine hQ s₃ ?_ hl'
  obtain ⟨h', t', rfl, k'⟩ := kp
  obtain ⟨h2', t2', rfl, kk⟩ := k.trans k₂
  exact ⟨h', t', rfl, fun b ob e n => k' b ob (kk b ob e) n⟩
end Mine

end
section
open PySem PySem.W PySem.Calls PyProof.Rows Builtin.Str
set_option maxRecDepth 20000
set_option linter.unusedVariables false
set_option linter.unusedSimpArgs false
namespace Mine
local macro_rules | `(tactic| omega) => `(tactic| lia)
open Builtin.Int (intBits)
variable {c : Cx} {r : Nat}
local macro_rules | `(tactic| trivial) => `(tactic| first | rfl | (simp [full, L, argσ, upd]; done))

theorem RepL.atoms {h h' : Heap} {Y Y' : List Addr} : ∀ {ds : List D} {vs : List Value}, ds.all atom = true → RepL h Y ds vs → RepL h' Y' ds vs
  | [], _, _, x => by simpa [RepL] using x
  | d :: ds, _, ha, x => by
    simp only [List.all_cons, Bool.and_eq_true] at ha
    simp only [RepL] at x ⊢
    obtain ⟨v, r, e, hv, hr⟩ := x
    exact ⟨v, r, e, hv.atom ha.1, RepL.atoms ha.2 hr⟩
theorem callO_at2 {sc : Scope} {env : Env} {Y YA : List Addr} {σ : String → Option D} {val : String → Option Value} {A : Around} {s : Shared} {x : String} {p pos epos : Pos} {e : Expr} {es : List Expr} {ds : List D} {v : Value} {a : Addr} {is is' : List Int} {Q : Flow → Shared → Prop}
    (R : Room A r) (X : At c env sc YA σ val s) (hY : Live s.heap Y) (haY : a ∉ Y) (hf : Ev c r sc σ (.Name (Str.ofString x) p) (.raw v)) (hk : KeepV c v) (ha : EvL c r sc σ (e :: es) ds) (hat : ds.all atom = true) (h : FnO c r v ds a is is')
    (hl : ∃ us, s.heap.PlainList a us ∧ IntsAre us.toList is)
    (hQ : ∀ s', KpS (fun b => b = a) s s' → (∃ us, s'.heap.PlainList a us ∧ IntsAre us.toList is') → Q .next s')
    (he : starred e = false := by rfl) (hp : ∀ env pos, (backTo pos (starEach es env)).any (·.1) = false := by intros; rfl)
    (hi : ∀ env : Env, env.scope.kind = .function → interactive env = false := by intro env he; unfold interactive; simp [he])
    (hs : ∀ env, swapsWith (.Call (.Name (Str.ofString x) p) (e :: es) [] pos) Option.none epos.line env = pure false := by intros; rfl) :
    wpAny c.M A (exec (.Expr (.Call (.Name (Str.ofString x) p) (e :: es) [] pos) epos) env) Q noE s := by
  refine wpAny_Expr_any ?_ (hi env (X.env.scope ▸ X.env.kind)) (hs env)
  refine wpAny_Call_NameR (weak (hf.go env _ val A s R X) fun v' s₁ g => ?_)
  obtain rfl := rRaw g.2
  have k := g.1
  have X₁ := X.keeps k
  have h2 := ha.go env _ val A s₁ pos R X₁
  rw [star_cons he] at h2 ⊢
  refine callWith_of (P := c.In) (by show ((false || (backTo pos (starEach es env)).any (·.1)) || false) = false; rw [hp]; rfl) hk (evalArgs_plain (weak h2 fun vs s₂ ⟨k₂, hv⟩ => ?_))
  have X₂ := X₁.keeps k₂
  refine ⟨X₂.base, ?_⟩
  obtain ⟨us, ⟨nn, hu⟩, hr⟩ := hl
  refine weak (h Y A s₂ vs R X₂.base (hY.keeps (k.trans k₂).k) haY (RepL.atoms hat hv) ⟨us, ⟨nn, (k.trans k₂).k _ _ hu⟩, hr⟩) fun w s₃ ⟨kp, hl'⟩ => ?_
  refine hQ s₃ ?_ hl'
  obtain ⟨h', t', rfl, k'⟩ := kp
  obtain ⟨h2', t2', rfl, kk⟩ := k.trans k₂
  exact ⟨h', t', rfl, fun b ob e n => k' b ob (kk b ob e) n⟩

theorem FnO.up {v : Value} {ds : List D} {a : Addr} {is is' : List Int} {r' : Nat} (h : FnO c r v ds a is is') (q : r ≤ r') : FnO c r' v ds a is is' := fun Y A s vs R => h Y A s vs (R.le q)
/-- _int2digits -/
def i2d (a n : Int) : Option (List Int) :=
  let k := ((intBits a : Int) + n - 1).fdiv n
  if 0 < n ∧ 0 ≤ k ∧ k ≤ 1000 ∧ Builtin.divisionGoesByPylong ((intBits a : Int) + n - 1) n = false then
    if a == 0 then some (List.replicate k.toNat 0) else innF 20 n a 0 k (List.replicate k.toNat 0)
  else none

theorem w_i2d {cd P : Addr} (G : GTab c 10 (c.fa 10) cd P "_int2digits" ["a", "n"]) (hlen : NoG c "len") {a n : Int} {out : List Int} (hout : i2d a n = some out) :
    FnZ1 c 61 (.ref (c.fa 10)) [.int a, .int n] (.list (iL out)) P (fPos (stm 10 1)) (innQ "_int2digits") := fun Y A s vs R hb hY hPY hT hv => by
  unfold i2d at hout
  simp only at hout
  generalize hkk : ((intBits a : Int) + n - 1).fdiv n = k at hout
  split at hout
  case isFalse => cases hout
  rename_i hc
  obtain ⟨fd, hsc, Ff, hcd, hqn⟩ := G.fn
  have hLive : Live s.heap (P :: Y) := fun b hb' => by
    rcases List.mem_cons.mp hb' with rfl | hb'
    · obtain ⟨ps, e, _⟩ := hT; exact ⟨_, e⟩
    · exact hY b hb'
  refine Ff.enter (r := 60) (ds := [.int a, .int n]) rfl R hb hLive hv fun env s₀ hcode hqual k0 X0 hmu R' => ?_
  rw [hsc] at X0 hmu
  -- a_digits = [0] * (...)
  have st0 : Ex1 c 60 (scopeAt 10) (argσ ["a", "n"] [.int a, .int n]) none (stm 10 0) .next (argσ ["a", "n"] [.int a, .int n]) (some ("a_digits", iL (List.replicate k.toNat 0))) := by
    refine Ex1.assignOwn ?_ (.inr (by decide +kernel)) (by trivial)
    refine EvF.mulInts (by decide) (Ev.list (EvL.cons Ev.int EvL.nil) (by show 1 ≤ sizeLine; decide)) ?_ hc.2.1 (by omega)
    rw [← hkk]
    exact Ev.bin (by decide) (Ev.bin (by decide) (Ev.bin (by decide) (Ev.meth0 (Ev.name (d := .int a) (by trivial)) hT_int FnV.bitLength F.plainAttrs_int F.slot_int_bit_length F.type_int_bit_length) (Ev.name (d := .int n) (by trivial)) Bop.add) Ev.int Bop.sub) (Ev.name (d := .int n) (by trivial)) (Bop.fdiv (by omega) hc.2.2.2)
  refine wpAny_execs_cons (weak (st0.go env (P :: Y) 0 _ _ s₀ R' X0) fun f s₁ P0 => ?_)
  have e : f = .next := P0.flow
  subst e
  obtain ⟨L0, val, hrel, X⟩ := P0.st rfl
  have hL0 : s₀.heap.get? L0 = none := by
    rcases hrel (by simp) with ⟨q, _⟩ | q
    · exact absurd rfl q
    · exact q
  have ks1 : ∀ b o, s.heap.get? b = some o → s₁.heap.get? b = some o := fun b o e => P0.kp.k b o (k0.k b o e) fun m => absurd (Heap.lt_size e) (Nat.not_lt.mpr (hmu b m))
  have hL0s : s.heap.get? L0 = none := by
    cases q : s.heap.get? L0 with
    | none => rfl
    | some ob => rw [k0.k _ _ q] at hL0; cases hL0
  refine wpAny_execs_cons (nested (P := P) (cd := cd) (qual := innQ "_int2digits") (name := "inner") X (hcode.trans hcd) G.code G.hid hPY (hT.keeps ks1) ?_ G.bm rfl rfl rfl (by decide +kernel) (by simp [ownName]) (by decide +kernel) fun Fa cv ctv doc pm clos s₂ hc1 hc2 hF hFo hrec hTF kp kp2 X' => ?_)
  · show (if env.kindOf (Str.ofString "inner") == some .globalExplicit then Str.ofString "inner" else env.qual ++ Str.ofString "inner") = _
    have : env.kindOf (Str.ofString "inner") = some .cell := by unfold Env.kindOf; rw [X.env.scope]; decide +kernel
    rw [this, if_neg (by decide), hqual, hqn]; rfl
  obtain ⟨hLY, hLb, _, hvL, us, ⟨nL, hoL⟩, hrL⟩ := X'.ok
  have hiL : IntsAre us.toList (List.replicate k.toNat 0) := hrL.ints
  obtain ⟨va, vn, rfl, hva, hvn⟩ := rep2 hv
  obtain ⟨ta, rfl⟩ := rInt hva
  obtain ⟨tn, rfl⟩ := rInt hvn
  have hbase : c.In (hideAll s₂.heap [L0]) := fun b o e => hideAll_get _ (X'.base b o e) (by
    intro q
    rcases List.mem_cons.mp q with rfl | q
    · rw [hLb] at e; cases e
    · cases q)
  let c' : Cx := c.more (hideAll s₂.heap [L0]) hbase
  have up : ∀ {b o}, s₂.heap.get? b = some o → (∀ vs n, o.data ≠ .seq vs n) → c'.base.get? b = some o := fun {b o} e nq => hideAll_get _ e (by
    intro q
    rcases List.mem_cons.mp q with rfl | q
    · rw [hoL] at e; cases e; exact nq _ _ rfl
    · cases q)
  have X2 : At c' env (scopeAt 10) (L0 :: P :: Y) _ _ s₂ := ⟨fun b o e => of_hideAll _ e, X'.at'.env, X'.at'.ok, X'.at'.live⟩
  have hfr : ∀ z ∈ (defS (stm 10 1)).names, z.2 = .free → (scopeAt 10).names.lookup z.1 = some .cell := by decide +kernel
  have cellUp : ∀ {ca u}, s₂.heap.IsCell ca u → c'.base.IsCell ca u := fun {ca u} ⟨oc, ec, hcl⟩ => ⟨oc, up ec (fun vs n q => by rw [hcl] at q; cases q), hcl⟩
  have key : ∀ (x : String) (v : Value) (d : D), upd val "inner" (.ref Fa) x = some v → (defS (stm 10 1)).names.lookup (Str.ofString x) = some .free → (Str.ofString x == ("__classdict__" : Str)) = false → (∀ h Y, Rep h Y d v) →
      (defS (stm 10 1)).names.lookup (Str.ofString x) = some .free ∧ (Str.ofString x == ("__classdict__" : Str)) = false ∧ ∃ ca v, clos.lookup (Str.ofString x) = some ca ∧ c'.base.IsCell ca (some v) ∧ ∀ h Y, Rep h Y d v := fun x v d h1 h2 h3 h4 => by
    obtain ⟨ca, u, a1, a2, a3⟩ := X'.env.cel _ (.inl (hfr _ (mem_of_lookup h2) rfl))
    refine ⟨h2, h3, ca, v, (hc1 _ (mem_of_lookup h2)).trans a1, cellUp ?_, h4⟩
    rw [← a3 x v rfl h1]; exact a2
  obtain ⟨vn', hn1, hn2⟩ := X'.at'.ok "n" (.int n) (by trivial)
  obtain ⟨tn', rfl⟩ := rInt hn2
  have hF' : FnAtC c' Fa _ ["x", "L", "R"] (defB (stm 10 1)) (fvI L0 Fa n) := {
    at_ := ⟨_, up hFo (fun vs n q => by cases q), rfl⟩
    body := rfl
    glob := rfl
    blt := rfl
    code := by
      obtain ⟨c₂, oc, vs, t, e2, hoc, hd, hvv⟩ := hrec
      exact ⟨c₂, oc, vs, t, e2, up hoc (fun vs n q => by rw [hd] at q; cases q), hd, hvv⟩
    bind := fun vs hvs => by
      match vs, hvs with
      | [v1, v2, v3], _ => rfl
    nodup := by decide +kernel
    kinds := show ∀ x ∈ ["x", "L", "R"], (defS (stm 10 1)).names.lookup (Str.ofString x) = some .local by decide +kernel
    co := rfl
    gen := rfl
    kind := rfl
    nocell := show ∀ z ∈ (defS (stm 10 1)).names, z.2 ≠ .cell by decide +kernel
    free := fun m hm => by
      obtain ⟨ca, u, a1, a2, _⟩ := X'.env.cel m (.inl (hfr _ (mem_of_lookup hm) rfl))
      exact ⟨ca, u, (hc1 m (mem_of_lookup hm)).trans a1, cellUp a2⟩
    inj := fun m m' ca h1 h2 => X'.env.inj m m' ca (hc2 _ _ h1).2 (hc2 _ _ h2).2
    fv := fun x d hx => by
      unfold fvI L at hx
      simp only [List.lookup_cons, List.lookup_nil] at hx
      by_cases e1 : x = "a_digits"
      · subst e1
        simp at hx; subst hx
        exact key _ (.ref L0) _ hvL (by decide +kernel) (by decide) fun h Y => by simp [Rep]
      · have q1 : (x == "a_digits") = false := by simpa using e1
        rw [q1] at hx
        by_cases e2 : x = "inner"
        · subst e2
          simp at hx; subst hx
          exact key _ (.ref Fa) _ (by simp [upd]) (by decide +kernel) (by decide) fun h Y => by simp [Rep]
        · have q2 : (x == "inner") = false := by simpa using e2
          rw [q2] at hx
          by_cases e3 : x = "n"
          · subst e3
            simp at hx; subst hx
            exact key _ (.int n tn') _ hn1 (by decide +kernel) (by decide) fun h Y => by simp only [Rep]; exact ⟨_, rfl⟩
          · have q3 : (x == "n") = false := by simpa using e3
            rw [q3] at hx
            simp at hx }
  have hLc : c'.base.get? L0 = none := hideAll_none _ (.head _)
  have wi := w_inn (c := c') hF' rfl hLc
  -- the end: whatever the list holds
  have fin : ∀ s₃, KpS (fun b => b = L0) s₂ s₃ → (∃ us, s₃.heap.PlainList L0 us ∧ IntsAre us.toList out) → wpAny c.M (A.deeper env) (execs [stm 10 3] env) (fun f s' => KpS (fun b => b = P) s s' ∧ TabF P (fPos (stm 10 1)) (innQ "_int2digits") s'.heap ∧ (TabF P (fPos (stm 10 1)) (innQ "_int2digits") s.heap → Kp s s') ∧ Rep s'.heap (P :: Y) (.list (iL out)) (match f with | .ret v => v | _ => .none)) noE s₃ := fun s₃ kL hl3 => by
    obtain ⟨us3, ⟨n3, ho3⟩, hi3⟩ := hl3
    have E3 := X'.env.offSeq (h' := s₃.heap) hoL (.inl ⟨_, _, rfl⟩) (fun b o n e => kL.k b o e n)
    have A3 : At c env (scopeAt 10) [] (fun _ => none) (upd val "inner" (.ref Fa)) s₃ := ⟨fun b o e => kL.k b o (X'.base b o e) (by rintro rfl; rw [hLb] at e; cases e), E3, (fun x d h => by cases h), (fun b hb => by cases hb)⟩
    have keep3 : ∀ {b o}, s₂.heap.get? b = some o → (∀ vs n, o.data ≠ .seq vs n) → s₃.heap.get? b = some o := fun {b o} e nq => kL.k b o e (by rintro rfl; rw [hoL] at e; cases e; exact nq _ _ rfl)
    refine wpAny_execs_cons (wpAny_Return_some (wpAny_Name (ldVal A3 (x := "a_digits") hvL ?_) (by decide)))
    refine ⟨?_, ?_, fun hfil => ?_, ?_⟩
    · obtain ⟨h1, t1, rfl, k1⟩ := k0
      obtain ⟨h1', t1', rfl, k1'⟩ := P0.kp
      obtain ⟨h2, t2, rfl, k2⟩ := kp
      obtain ⟨h3, t3, rfl, k3⟩ := kL
      refine ⟨h3, t3, rfl, fun b ob e nb => k3 b ob (k2 b ob (ks1 b ob e) fun m => ?_) (by rintro rfl; rw [hL0s] at e; cases e)⟩
      rcases m with m | m
      · exact nb m
      · exact absurd (Heap.lt_size e) (Nat.not_lt.mpr (hmu _ m))
    · obtain ⟨ps', cv', e1, e2, e3, c₂, oc, vs, t, e4, hoc, hd, hv⟩ := hTF
      exact ⟨ps', cv', keep3 e1 (fun vs n q => by cases q), e2, e3, c₂, oc, vs, t, e4, keep3 hoc (fun vs n q => by rw [hd] at q; cases q), hd, hv⟩
    · have kp2 := kp2 (hfil.keeps ks1)
      obtain ⟨h1, t1, rfl, k1⟩ := k0
      obtain ⟨h1', t1', rfl, k1'⟩ := P0.kp
      obtain ⟨h2, t2, rfl, k2⟩ := kp2
      obtain ⟨h3, t3, rfl, k3⟩ := kL
      exact ⟨h3, t3, rfl, fun b ob e => k3 b ob (k2 b ob (ks1 b ob e) fun m => absurd (Heap.lt_size e) (Nat.not_lt.mpr (hmu _ m))) (by rintro rfl; rw [hL0s] at e; cases e)⟩
    · simp only [Rep]
      exact ⟨L0, us3, rfl, hLY, ⟨n3, ho3⟩, ints_rep hi3⟩
  have X3 : At c' env (scopeAt 10) (P :: Y) _ _ s₂ := ⟨fun b o e => of_hideAll _ e, X'.at.env, X'.at.ok, X'.at.live⟩
  by_cases hz : (a == 0) = true
  · rw [if_pos hz] at hout
    cases hout
    have ht : Tr c' 60 (scopeAt 10) (full (upd (argσ ["a", "n"] [.int a, .int n]) "inner" (.raw (.ref Fa))) (some ("a_digits", iL (List.replicate k.toNat 0)))) (inT (stm 10 2)) false := Tr.to (Tr.val (by decide) (Ev.name (d := .int a) (by trivial)) Tru.int) (by simpa using hz)
    refine wpAny_execs_cons (wpAny_If (weak (ht.go env _ _ _ s₂ R' X3) fun b s₃ ⟨e, k3⟩ => ?_))
    subst e
    exact wpAny_execs_nil (fin s₃ k3.s ⟨us, ⟨nL, k3.k _ _ hoL⟩, hiL⟩)
  · rw [if_neg hz] at hout
    have ht : Tr c' 60 (scopeAt 10) (full (upd (argσ ["a", "n"] [.int a, .int n]) "inner" (.raw (.ref Fa))) (some ("a_digits", iL (List.replicate k.toNat 0)))) (inT (stm 10 2)) true := Tr.to (Tr.val (by decide) (Ev.name (d := .int a) (by trivial)) Tru.int) (by simpa using hz)
    refine wpAny_execs_cons (wpAny_If (weak (ht.go env _ _ _ s₂ R' X3) fun b s₃ ⟨e, k3⟩ => ?_))
    subst e
    have X4 := X3.keeps k3
    have hKF : KeepV c' (.ref Fa) := KeepV.fn (up hFo (fun vs n q => by cases q)) rfl
    have hlen' : Ev c' 60 (scopeAt 10) (full (upd (argσ ["a", "n"] [.int a, .int n]) "inner" (.raw (.ref Fa))) (some ("a_digits", iL (List.replicate k.toNat 0)))) (.Call (.Name (Str.ofString "len") ⟨0,0,0,0⟩) [.Name (Str.ofString "a_digits") ⟨0,0,0,0⟩] [] ⟨0,0,0,0⟩) (.int k) := by
      refine Ev.to (Ev.call (NoG.ev (c := c') hlen (by rfl) (by decide +kernel)) KeepV.blt (EvL.cons (Ev.name (d := .list (iL (List.replicate k.toNat 0))) (by trivial)) EvL.nil) (FnV.lenList (by simp [iL]; unfold sizeLine; omega))) ?_
      simp [iL]; omega
    clear hlen'
    refine wpAny_execs_cons (callO_at2 (c := c') (a := L0) (is := List.replicate k.toNat 0) (is' := out) R' X4 X4.live hLY (Ev.name (d := .raw (.ref Fa)) (by trivial)) hKF (ds := [.int a, .int 0, .int k]) ?_ rfl ((show FnO c' 50 _ _ _ _ _ from wi 20 a 0 k _ out hout).up (by decide)) ⟨us, ⟨nL, k3.k _ _ hoL⟩, hiL⟩ fun s₄ k4 hl4 => wpAny_execs_nil (fin s₄ ?_ hl4))
    · refine EvL.cons (Ev.name (by trivial)) (EvL.cons Ev.int (EvL.cons ?_ EvL.nil))
      refine Ev.to (Ev.call (NoG.ev (c := c') hlen (by rfl) (by decide +kernel)) KeepV.blt (EvL.cons (Ev.name (d := .list (iL (List.replicate k.toNat 0))) (by trivial)) EvL.nil) (FnV.lenList (by simp [iL]; unfold sizeLine; omega))) ?_
      simp [iL]; omega
    · obtain ⟨h3, t3, rfl, kk3⟩ := k3
      obtain ⟨h4, t4, rfl, kk4⟩ := k4
      exact ⟨h4, t4, rfl, fun b ob e n => kk4 b ob (kk3 b ob e) n⟩
end Mine

end
section
open PySem PySem.W PySem.Calls PyProof.Rows Builtin.Str
set_option maxRecDepth 20000
set_option linter.unusedVariables false
set_option linter.unusedSimpArgs false
namespace Mine
variable {c : Cx} {r : Nat}

mutual
theorem Rep.addTab {h : Heap} {Y : List Addr} {P : Addr} {ps : Array Value} (hP : h.get? P = some (tabObj ps)) : ∀ {d : D} {v : Value}, Rep h Y d v → Rep h (P :: Y) d v
  | .none, _, x => by simpa [Rep] using x
  | .bool b, _, x => by simpa [Rep] using x
  | .int i, _, x => by simpa [Rep] using x
  | .str s, _, x => by simpa [Rep] using x
  | .bytes b, _, x => by simpa [Rep] using x
  | .list ds, v, x => by
    simp only [Rep] at x ⊢
    obtain ⟨a, vs, e, ha, ⟨n, ho⟩, r⟩ := x
    refine ⟨a, vs, e, fun q => ?_, ⟨n, ho⟩, RepL.addTab hP r⟩
    rcases List.mem_cons.mp q with rfl | q
    · rw [hP] at ho; cases ho
    · exact ha q
  | .tup ds, v, x => by
    simp only [Rep] at x ⊢
    obtain ⟨a, vs, e, ha, ⟨o, ho, hc, n, hd⟩, r⟩ := x
    refine ⟨a, vs, e, fun q => ?_, ⟨o, ho, hc, n, hd⟩, RepL.addTab hP r⟩
    rcases List.mem_cons.mp q with rfl | q
    · rw [hP] at ho; cases ho; cases hc
    · exact ha q
  | .range lo hi st, v, x => by
    simp only [Rep] at x ⊢
    obtain ⟨a, t, u, w, e, ha, ho⟩ := x
    refine ⟨a, t, u, w, e, fun q => ?_, ho⟩
    rcases List.mem_cons.mp q with rfl | q
    · unfold IsRange at ho
      rw [hP] at ho; cases ho
    · exact ha q
  | .raw u, _, x => by simpa [Rep] using x
theorem RepL.addTab {h : Heap} {Y : List Addr} {P : Addr} {ps : Array Value} (hP : h.get? P = some (tabObj ps)) : ∀ {ds : List D} {vs : List Value}, RepL h Y ds vs → RepL h (P :: Y) ds vs
  | [], _, x => by simpa [RepL] using x
  | d :: ds, _, x => by
    simp only [RepL] at x ⊢
    obtain ⟨v, r, e, hv, hr⟩ := x
    exact ⟨v, r, e, Rep.addTab hP hv, RepL.addTab hP hr⟩
end
/-- with the table filled in the base, the call changes nothing -/
theorem FnZ1.filled {v : Value} {args : List D} {d : D} {P : Addr} {pos : Pos} {qual : Str} (h : FnZ1 c r v args d P pos qual) {c' : Cx} (hM : c'.M = c.M) (hb : ∀ h, c'.In h → c.In h) (hT : TabF P pos qual c'.base) : FnV c' r v args d := fun Y A s vs R hi hl hv => by
  have hT' : TabF P pos qual s.heap := hT.keeps fun b o e => hi b o e
  obtain ⟨ps, cv, hP, _⟩ := id hT'
  rw [hM]
  let Y' := Y.filter fun b => decide (b ≠ P)
  have hsub : ∀ b ∈ Y', b ∈ Y := fun b hb => (List.mem_filter.mp hb).1
  have hPY : P ∉ Y' := fun q => by have := (List.mem_filter.mp q).2; simp at this
  have hv' : RepL s.heap Y' args vs := hv.mono (fun _ _ e _ _ => e) fun b _ _ q => hsub b q
  refine weak (h Y' A s vs R (hb _ hi) (fun b hb' => hl b (hsub b hb')) hPY hT'.e (hv'.addTab hP)) fun w s' ⟨_, _, k, hr⟩ => ⟨k hT', hr.mono (fun _ _ e _ _ => e) fun b _ _ q => ?_⟩
  by_cases e : b = P
  · exact e ▸ .head _
  · exact .tail _ (List.mem_filter.mpr ⟨q, by simpa using e⟩)
end Mine

end
section
open PySem PySem.W PySem.Calls PyProof.Rows Builtin.Str
set_option maxRecDepth 20000
set_option linter.unusedVariables false
set_option linter.unusedSimpArgs false
namespace Mine
local macro_rules | `(tactic| omega) => `(tactic| lia)
open Builtin.Int (intBits)
variable {c : Cx} {r : Nat}

/-- _divmod_pos: its loop -/
def dmL (f : Nat) (b n : Int) : List Int → Int → List Int → Option (List Int × Int)
  | [], r, qs => some (qs, r)
  | x :: xs, r, qs =>
    if 0 ≤ n ∧ n ≤ 2 ^ 20 ∧ intBits r ≤ 2 ^ 20 ∧ qs.length ≤ 1000 then
      match d21 f (r * 2 ^ n.toNat + x) b n with
      | none => none
      | some (q, r') => dmL f b n xs r' (qs ++ [q])
    else none
def sDM (b n r : Int) (ds : List D) : String → Option D := L [("b", .int b), ("n", .int n), ("r", .int r), ("a_digits", .list ds)]
local macro_rules | `(tactic| trivial) => `(tactic| first | rfl | (simp [full, L, sDM, argσ, upd]; done))
theorem w_dmL (G : G3 c) {f : Nat} {R : Nat} (hR : 30 + 2 * f ≤ R) {b n : Int} {ds : List D} : ∀ (xs : List Int) (r : Int) (qs qs' : List Int) (r' : Int), dmL f b n xs r qs = some (qs', r') →
    ForR c R (scopeAt 12) "a_digit" (inB (stm 12 4)) (iL xs) (sDM b n r ds) (some ("q_digits", iL qs)) .next (sDM b n r' ds) (some ("q_digits", iL qs'))
  | [], r, qs, qs', r', h => by simp only [dmL, Option.some.injEq, Prod.mk.injEq] at h; obtain ⟨rfl, rfl⟩ := h; exact ForR.nil
  | x :: xs, r, qs, qs', r', h => by
    unfold dmL at h
    split at h
    case isFalse => cases h
    rename_i hc
    split at h
    case h_1 => cases h
    rename_i q r1 h1
    have own : ownName (some ("q_digits", iL qs)) ≠ some "a_digit" := by simp [ownName]
    refine ForR.turn (σ₁ := sDM b n r1 ds) (o₁ := some ("q_digits", iL (qs ++ [q]))) own ?_ (w_dmL G hR xs _ _ _ _ h)
    refine Ex.cons (Ex1.tup2 (d₁ := .int q) (d₂ := .int r1) (Ev.call (G.d21.ev (by decide +kernel)) G.d21.keep (EvL.cons ?_ (EvL.cons (Ev.name (d := .int b) (by trivial)) (EvL.cons (Ev.name (d := .int n) (by trivial)) EvL.nil))) ((w_d21 G f _ _ _ _ _ h1).up hR)) (.inl (by decide +kernel)) (.inl (by decide +kernel)) (by simp [ownName]) (by simp [ownName])) ?_
    · exact Ev.bin (by omega) (Ev.bin (by omega) (Ev.name (d := .int r) (by trivial)) (Ev.name (d := .int n) (by trivial)) (Bop.shl hc.1 (by omega))) (Ev.name (d := .int x) (by trivial)) Bop.add
    · have e : iL (qs ++ [q]) = iL qs ++ [.int q] := by simp [iL]
      rw [e]
      refine Ex.cons (ExB.post (Ex1.append (Ev.name (d := .int q) (by trivial)) (by simp [iL]; omega)) ?_) Ex.nil
      exact Sub.cons (by trivial) (Sub.cons (by trivial) (Sub.cons (by trivial) (Sub.cons (by trivial) Sub.nil)))
end Mine

end
section
open PySem PySem.W PySem.Calls PyProof.Rows Builtin.Str
set_option maxRecDepth 20000
set_option linter.unusedVariables false
set_option linter.unusedSimpArgs false
namespace Mine
local macro_rules | `(tactic| omega) => `(tactic| lia)
open Builtin.Int (intBits)
variable {c : Cx} {r : Nat}

def d2iF (ds : List Int) (n : Int) : Option Int := if ds.length ≤ 1000 then (if ds.isEmpty then some 0 else digF 20 ds n 0 ds.length) else none
def dmF (f : Nat) (a b : Int) : Option (Int × Int) :=
  match i2d a (intBits b : Nat) with
  | none => none
  | some ds =>
    match dmL f b (intBits b : Nat) ds.reverse 0 [] with
    | none => none
    | some (qs, r) =>
      if qs.length ≤ 1000 then
        match d2iF qs.reverse (intBits b : Nat) with
        | none => none
        | some q => some (q, r)
      else none
local macro_rules | `(tactic| trivial) => `(tactic| first | rfl | (simp [full, L, sDM, argσ, upd]; done))
theorem w_dm (G : G3 c) {f : Nat} {R : Nat} (hR : 30 + 2 * f ≤ R) (hR2 : 61 ≤ R) (Hi : ∀ a n out, i2d a n = some out → FnV c 61 (.ref (c.fa 10)) [.int a, .int n] (.list (iL out))) (Hd : ∀ ds n v, d2iF ds n = some v → FnV c 61 (.ref (c.fa 11)) [.list (iL ds), .int n] (.int v))
    {a b q r : Int} (h : dmF f a b = some (q, r)) : FnV c (R + 1) (.ref (c.fa 12)) [.int a, .int b] (.tup [.int q, .int r]) := by
  refine G.pos.fn (r := R) (σ' := fun _ => none) (o' := none) rfl ?_
  have hR3 : 20 ≤ R := by omega
  unfold dmF at h
  split at h
  case h_1 => cases h
  rename_i ds h1
  split at h
  case h_1 => cases h
  rename_i qs r1 h2
  split at h
  case isFalse => cases h
  rename_i hq
  split at h
  case h_1 => cases h
  rename_i q1 h3
  cases h
  generalize hn : ((intBits b : Nat) : Int) = n at *
  refine Ex.cons (Ex1.assign (d := .int n) (by rw [← hn]; exact Ev.meth0 (Ev.name (d := .int b) (by trivial)) hT_int FnV.bitLength F.plainAttrs_int F.slot_int_bit_length F.type_int_bit_length) (.inl (by decide +kernel)) nofun) ?_
  refine Ex.cons (Ex1.assign (d := .list (iL ds)) (Ev.call (G.i2d.ev (by decide +kernel)) G.i2d.keep (EvL.cons (Ev.name (d := .int a) (by trivial)) (EvL.cons (Ev.name (d := .int n) (by trivial)) EvL.nil)) ((Hi a n ds h1).up hR2)) (.inl (by decide +kernel)) nofun) ?_
  refine Ex.cons (Ex1.assign Ev.int (.inl (by decide +kernel)) nofun) ?_
  refine Ex.cons (Ex1.assignOwn (ds := iL []) EvF.nil (.inl (by decide +kernel)) (by trivial)) ?_
  have hrev : (iL ds).reverse = iL ds.reverse := by simp [iL]
  have hit : EvI c R (scopeAt 12) (sDM b n 0 (iL ds)) (inT (stm 12 4)) (iL ds.reverse) := by
    rw [← hrev]
    exact EvI.reversed (NoG.ev G.reversed (by rfl) (by decide +kernel)) (Ev.name (d := .list (iL ds)) (by trivial))
  refine ExB.pre (σ₂ := sDM b n 0 (iL ds)) ?_ (Sub.cons (by trivial) (Sub.cons (by trivial) (Sub.cons (by trivial) (Sub.cons (by trivial) Sub.nil))))
  refine Ex.cons (Ex1.for (fl₁ := .next) hit (.inl (by decide +kernel)) (w_dmL G hR _ _ _ _ _ h2) Ex.nil) ?_
  refine Ex.cons (Ex1.reverse (by simp [iL]; omega)) ?_
  have hr2 : (iL qs).reverse = iL qs.reverse := by simp [iL]
  rw [hr2]
  refine Ex.cons (Ex1.assignA (d := .int q) (Ev.call (G.d2i.ev (by decide +kernel)) G.d2i.keep (EvL.cons (Ev.name (d := .list (iL qs.reverse)) (by trivial)) (EvL.cons (Ev.name (d := .int n) (by trivial)) EvL.nil)) ((Hd _ n q h3).up hR2)) rfl (.inl (by decide +kernel)) (by simp [ownName])) ?_
  refine Ex.stop ?_ nofun
  exact ExB.retAny (Ex1.ret (σ' := fun _ => none) (o' := none) (Ev.tup (EvL.cons (Ev.name (d := .int q) (by trivial)) (EvL.cons (Ev.name (d := .int r) (by trivial)) EvL.nil)) (by show 2 ≤ sizeLine; decide)))
end Mine

end
section
open PySem PySem.W PySem.Calls PyProof.Rows Builtin.Str
set_option maxRecDepth 20000
set_option linter.unusedVariables false
set_option linter.unusedSimpArgs false
namespace Mine
local macro_rules | `(tactic| omega) => `(tactic| lia)
variable {c : Cx} {r : Nat}
local macro_rules | `(tactic| trivial) => `(tactic| first | rfl | (simp [full, L, argσ, upd]; done))
theorem w_idm (G : G3 c) {R : Nat} (hR : 20 ≤ R) {a b : Int} {d : D} (ha : 0 ≤ a) (hb : 0 < b) (H : FnV c R (.ref (c.fa 12)) [.int a, .int b] d) : FnV c (R + 1) (.ref (c.fa 13)) [.int a, .int b] d := by
  refine G.idm.fn (r := R) (σ' := fun _ => none) (o' := none) rfl ?_
  refine Ex.stop (Ex1.ifF (Tr.to (Tr.cmp hR (Ev.name (d := .int b) (by trivial)) Ev.int Cop.eqInt) (by simp; omega)) ?_) nofun
  refine Ex.stop (Ex1.ifF (Tr.to (Tr.cmp hR (Ev.name (d := .int b) (by trivial)) Ev.int Cop.ltInt) (by simp; omega)) ?_) nofun
  refine Ex.stop (Ex1.ifF (Tr.to (Tr.cmp hR (Ev.name (d := .int a) (by trivial)) Ev.int Cop.ltInt) (by simp; omega)) ?_) nofun
  refine Ex.stop (Ex1.ret ?_) nofun
  exact Ev.call (G.pos.ev (by decide +kernel)) G.pos.keep (EvL.cons (Ev.name (d := .int a) (by trivial)) (EvL.cons (Ev.name (d := .int b) (by trivial)) EvL.nil)) H
end Mine

end
section
open PySem PySem.W PySem.Calls PyProof.Rows Builtin.Str
set_option maxRecDepth 20000
set_option linter.unusedVariables false
set_option linter.unusedSimpArgs false
namespace Mine
open PySem.W.KBw (IsBytesIter)
section
variable {prog : Program} {w : World} {A : Around} {E : Value → Shared → Prop} {s : Shared} {b : Array UInt8} {t : Tok}
theorem call_iter_bytes {Q : Value → Shared → Prop} (h : Q (.ref s.heap.objs.size) { s with heap := s.heap.push { cls := .type "bytes_iterator", data := .fields #[.bytes b t, .int 0 0] } }) :
    wpAny (model prog w) A (PySem.call (.builtin "iter") [.bytes b t]) Q E s := by
  refine call_function_entry (by decide +kernel) (by decide +kernel) kdk_entry_iter (kdk_args_iter _) ?_
  unfold Builtin.«iter»
  refine wpAny_bind (m := someArgs "iter" 1 2 _) (wpAny_of_eq (a := [Value.bytes b t]) (by first | rfl | kernel_rfl!) ?_)
  show wpAny _ _ (pyIter (.bytes b t) >>= _) _ _ _
  refine wpAny_bind (KBw.pyIter_bytes ?_)
  exact wpAny_pure ⟨_, rfl, h⟩
theorem call_next_bytes {it : Addr} {i : Nat} {x : UInt8} {Q : Value → Shared → Prop} (hit : IsBytesIter s.heap it b t i) (hx : b[i]? = some x)
    (hQ : ∀ h' tk t', IsBytesIter h' it b t (i + 1) → Heap.SameBut it s.heap h' → Q (.int (x.toNat : Int) t') { s with heap := h', toks := tk }) : wpAny (model prog w) A (PySem.call (.builtin "next") [.ref it]) Q E s := by
  refine call_function_entry (by decide +kernel) (by decide +kernel) kdk_entry_next (kdk_args_next _) ?_
  unfold Builtin.«next»
  refine wpAny_bind (m := someArgs "next" 1 2 _) (wpAny_of_eq (a := [Value.ref it]) (by first | rfl | kernel_rfl!) ?_)
  dsimp only
  refine wpAny_bind (wpAny_specialOf (name := Str.ofString "__next__") (KBw.iter_typeIs hit) KBw.slot_next.lookup ?_)
  refine wpAny_ite_split (fun hab => absurd hab (by decide)) (fun _ => ?_)
  refine wpAny_bind ?_
  obtain ⟨o, ho, hc, hd⟩ := id hit
  refine wpAny_callSpecial?_slot (name := PySem.Str.ofString "__next__") (KBw.iter_typeIs hit) KBw.slot_next
    (wpAny_call_entry KBw.slot_next (KBw.iter_typeIs hit) KBw.entry_next ?_ (KBw.args_next _))
  show wpAny _ _ (field (.ref it) 0 >>= _) _ _ s
  refine wpAny_bind (wpAny_field ho hd (x := .bytes b t) rfl ?_)
  show wpAny _ _ (if (Value.bytes b t == Value.none) = true then _ else _) _ _ s
  rw [if_neg (show ¬ ((Value.bytes b t == Value.none) = true) from Bool.false_ne_true)]
  show wpAny _ _ (field (.ref it) 1 >>= _) _ _ s
  refine wpAny_bind (wpAny_field ho hd (x := .int i 0) rfl ?_)
  refine wpAny_bind (wpAny_of_eq (a := b) rfl ?_)
  simp only [Int.toNat_natCast, hx]
  refine wpAny_bind (wpAny_setField ho hd (by simp) (wpAny_bind (wpAny_mkInt (wpAny_pure ⟨_, rfl, wpAny_pure ⟨_, rfl, hQ _ _ _ ?_ (Heap.SameBut.update ..)⟩⟩))))
  exact ⟨_, Heap.get?_update_self _ ho (Obj.isFreed_of_fields (Obj.data_mapFields hd _)), (Obj.cls_mapFields ..).trans hc, by
    rw [Obj.data_mapFields hd]; simp [rawInt]⟩
end
end Mine

end
section
open PySem PySem.W PySem.Calls PyProof.Rows Builtin.Str
set_option maxRecDepth 20000
set_option linter.unusedVariables false
set_option linter.unusedSimpArgs false
namespace Mine
open PySem.W.KBw (IsBytesIter)

/-- what a step over the iterator's own object leaves -/
structure PIt (c : Cx) (env : Env) (sc : Scope) (Y : List Addr) (I : Addr) (bs : Array UInt8) (s : Shared) (fl : Fl) (i' : Nat) (σ' : String → Option D) (f : Flow) (s' : Shared) : Prop where
  kp : KpS (fun b => b = I ∨ Mu env sc none b) s s'
  flow : FlowR s'.heap (I :: Y) fl f
  st : isRet fl = false → ∃ val', StA c env sc (I :: Y) σ' none 0 val' s' ∧ ∃ tk, IsBytesIter s'.heap I bs tk i'
/-- statements of a block that holds an iterator over bytes -/
structure ExIt (c : Cx) (r : Nat) (sc : Scope) (I : Addr) (bs : Array UInt8) (t : Env → Sem Flow) (fl : Fl) (i i' : Nat) (σ σ' : String → Option D) : Prop where
  go : ∀ env Y val A s, Room A r → StA c env sc (I :: Y) σ none 0 val s → I ∉ Y → c.base.get? I = none → (∃ tk, IsBytesIter s.heap I bs tk i) → wpAny c.M A (t env) (PIt c env sc Y I bs s fl i' σ') noE s
section
variable {c : Cx} {r : Nat} {sc : Scope} {I : Addr} {bs : Array UInt8} {σ σ' σ'' : String → Option D} {fl : Fl} {i i' i'' : Nat}
theorem ExIt.of {t : Env → Sem Flow} (h : ExB c r sc σ none t fl σ' none) : ExIt c r sc I bs t fl i i σ σ' := ⟨fun env Y val A s R X hIY hIb ⟨tk, hit⟩ =>
  weak (h.go env (I :: Y) 0 val A s R X) fun f s' P => ⟨P.kp.mono fun b m => .inr m, P.flow, fun hn => by
    obtain ⟨a', val', _, X'⟩ := P.st hn
    refine ⟨val', ⟨X'.base, X'.mine, X'.env, X'.live, X'.ok⟩, tk, ?_⟩
    obtain ⟨o, ho, hc, hd⟩ := hit
    exact ⟨o, P.kp.k _ _ ho fun m => X.env.notSeq m ho (.inr ⟨_, hd⟩), hc, hd⟩⟩⟩
theorem ExIt.cons {st : Stmt} {rest : List Stmt} (h : ExIt c r sc I bs (exec st) .next i i' σ σ') (h' : ExIt c r sc I bs (execs rest) fl i' i'' σ' σ'') : ExIt c r sc I bs (execs (st :: rest)) fl i i'' σ σ'' := ⟨fun env Y val A s R X hIY hIb hit => by
  refine wpAny_execs_cons (weak (h.go env Y val A s R X hIY hIb hit) fun f s₁ P => ?_)
  have e : f = .next := P.flow
  subst e
  obtain ⟨val', X', hit'⟩ := P.st rfl
  refine weak (h'.go env Y val' A s₁ R X' hIY hIb hit') fun f s₂ P' => ⟨?_, P'.flow, P'.st⟩
  obtain ⟨h1, t1, rfl, k1⟩ := P.kp
  obtain ⟨h2, t2, rfl, k2⟩ := P'.kp
  exact ⟨h2, t2, rfl, fun b ob e n => k2 b ob (k1 b ob e n) n⟩⟩
/-- x = next(iterator) -/
theorem ExIt.next {x : String} {b : UInt8} {p p1 p2 pos cpos : Pos} (hg : NoG c "next") (hk : sc.names.lookup (Str.ofString "next") = some .globalImplicit) (hI : σ "iterator" = some (.raw (.ref I))) (hx : Sto sc x) (hb : bs[i]? = some b)
    (hs : ∀ env, swapsWith (.Call (.Name (Str.ofString "next") p1) [.Name (Str.ofString "iterator") p2] [] cpos) (some (.Name (Str.ofString x) p)) pos.line env = pure false := by intros; rfl) :
    ExIt c r sc I bs (exec (.Assign [.Name (Str.ofString x) p] (.Call (.Name (Str.ofString "next") p1) [.Name (Str.ofString "iterator") p2] [] cpos) pos)) .next i (i + 1) σ (upd σ x (.int (b.toNat : Int))) := ⟨fun env Y val A s R X hIY hIb ⟨tk, hit⟩ => by
  refine wpAny_Assign_Name ?_ (hs env)
  have hev : EvV c sc (.Name (Str.ofString "next") p1) (.builtin "next") := NoG.ev hg (by rfl) hk
  refine wpAny_Call_NameR (weak (hev env (I :: Y) σ val A s X.at) fun v' s₁ ⟨e', k⟩ => ?_)
  subst e'
  have X₁ := X.keeps k
  have he : starEach [.Name (Str.ofString "iterator") p2] env = [(false, eval (.Name (Str.ofString "iterator") p2) env)] := rfl
  rw [he]
  refine callWith_of (P := c.In) rfl KeepV.blt (evalArgs_plain (Calls.spliced_cons (weak ((Ev.name (r := r) (sc := sc) (x := "iterator") hI).go env _ val A s₁ R X₁.at) fun v s₂ g => Calls.spliced_nil ?_)))
  obtain rfl := rRaw g.2
  have X₂ := X₁.keeps g.1
  have kk := k.trans g.1
  obtain ⟨o, ho, hc, hd⟩ := hit
  have ho2 := kk.k _ _ ho
  refine ⟨X₂.base, call_next_bytes ⟨o, ho2, hc, hd⟩ hb fun h' tk' t' hit' hs' => ?_⟩
  obtain ⟨o', ho', hc', hd'⟩ := hit'
  have kI : ∀ b ob, b ≠ I → s₂.heap.get? b = some ob → h'.get? b = some ob := fun b ob n e => (hs'.2 b n).trans e
  have X₃ := (X₂.offI ⟨o, ho2, .inr ⟨_, hd⟩⟩ hIb hIY (h' := h') (t := tk') kI).2 ⟨o', ho'⟩
  refine StA.store X₃ hx nofun (d := .int (b.toNat : Int)) (by simp only [Rep]; exact ⟨_, rfl⟩) fun s' k' X' => ⟨?_, rfl, fun _ => ⟨_, X', tk, o', ?_, hc', hd'⟩⟩
  · obtain ⟨h1, t1, rfl, k1⟩ := kk
    obtain ⟨h2, t2, rfl, k2⟩ := k'
    exact ⟨h2, t2, rfl, fun b ob e n => k2 b ob (kI b ob (fun q => n (.inl q)) (k1 b ob e)) fun m => n (.inr m)⟩
  · exact k'.k _ _ ho' fun m => X₃.env.notSeq m ho' (.inr ⟨_, hd'⟩)⟩
end
end Mine

end
section
open PySem PySem.W PySem.Calls PyProof.Rows Builtin.Str
set_option maxRecDepth 20000
set_option linter.unusedVariables false
set_option linter.unusedSimpArgs false
namespace Mine
open PySem.W.KBw (IsBytesIter)
section
variable {c : Cx} {r : Nat} {sc : Scope} {I : Addr} {bs : Array UInt8} {σ σ' σ'' : String → Option D} {fl : Fl} {i i' i'' : Nat}
/-- a while of one turn -/
theorem ExIt.while1 {t : Expr} {b : List Stmt} {pos : Pos} (h1 : Tr c r sc σ t true) (hb : ExIt c r sc I bs (execs b) .next i i' σ σ') (h2 : Tr c r sc σ' t false) : ExIt c r sc I bs (exec (.While t b [] pos)) .next i i' σ σ' := ⟨fun env Y val A s R X hIY hIb hit => by
  refine wpAny_While ?_
  refine codeAny_whileLoop (fun n s' => (n = 1 ∧ s' = s) ∨ (n = 0 ∧ KpS (fun b => b = I ∨ Mu env sc none b) s s' ∧ ∃ val', StA c env sc (I :: Y) σ' none 0 val' s' ∧ ∃ tk, IsBytesIter s'.heap I bs tk i')) ?_ 1 (.inl ⟨rfl, rfl⟩)
  rintro n s' (⟨rfl, rfl⟩ | ⟨rfl, k, val', X', hit'⟩)
  · refine weak (h1.go env (I :: Y) val A _ R X.at) fun b' s₂ ⟨e, k₂⟩ => ?_
    subst e
    have X₂ := X.keeps k₂
    have hit2 : ∃ tk, IsBytesIter s₂.heap I bs tk i := let ⟨tk, o, ho, r⟩ := hit; ⟨tk, o, k₂.k _ _ ho, r⟩
    refine weak (hb.go env Y val A s₂ R X₂ hIY hIb hit2) fun f s₃ P => ?_
    have e : f = .next := P.flow
    subst e
    obtain ⟨val', X', hit'⟩ := P.st rfl
    refine ⟨0, by decide, .inr ⟨rfl, ?_, val', X', hit'⟩⟩
    obtain ⟨ha, ta, rfl, ka⟩ := k₂
    obtain ⟨hb, tb, rfl, kb⟩ := P.kp
    exact ⟨hb, tb, rfl, fun b ob e n => kb b ob (ka b ob e) n⟩
  · refine weak (h2.go env (I :: Y) val' A s' R X'.at) fun b' s₂ ⟨e, k₂⟩ => ?_
    subst e
    have hit2 : ∃ tk, IsBytesIter s₂.heap I bs tk i' := let ⟨tk, o, ho, r⟩ := hit'; ⟨tk, o, k₂.k _ _ ho, r⟩
    refine wpAny_execs_nil ⟨?_, rfl, fun _ => ⟨val', X'.keeps k₂, hit2⟩⟩
    obtain ⟨ha, ta, rfl, ka⟩ := k
    obtain ⟨hb, tb, rfl, kb⟩ := k₂
    exact ⟨hb, tb, rfl, fun b ob e n => kb b ob (ka b ob e n)⟩⟩
end
end Mine

end
section
open PySem PySem.W PySem.Calls PyProof.Rows Builtin.Str
set_option maxRecDepth 20000
set_option linter.unusedVariables false
set_option linter.unusedSimpArgs false
namespace Mine
local macro_rules | `(tactic| omega) => `(tactic| lia)
open PySem.W.KBw (IsBytesIter)
variable {c : Cx} {r : Nat}
local macro_rules | `(tactic| trivial) => `(tactic| first | rfl | (simp [full, L, argσ, upd]; done))
def varF (x y : UInt8) : Int := Builtin.bitOr (Builtin.bitAnd (x.toNat : Int) 63 * 2 ^ (6 : Int).toNat) (Builtin.bitAnd (y.toNat : Int) 63)
theorem w_varint (G : GFn c 17 (c.fa 17) "_parse_varint" ["iterator"]) (hnx : NoG c "next") {x y : UInt8} {bs : Array UInt8} (h0 : bs[0]? = some x) (h1 : bs[1]? = some y) (hx : (Builtin.bitAnd (x.toNat : Int) 64 != 0) = true) (hy : (Builtin.bitAnd (y.toNat : Int) 64 != 0) = false) (hbits : Builtin.Int.intBits (Builtin.bitAnd (x.toNat : Int) 63) ≤ 1000)
    {Y : List Addr} {A : Around} {s : Shared} {I : Addr} {tk : Tok} (R : Room A 61) (hb : c.In s.heap) (hY : Live s.heap Y) (hIY : I ∉ Y) (hIb : c.base.get? I = none) (hit : IsBytesIter s.heap I bs tk 0) :
    wpAny c.M A (PySem.call (.ref (c.fa 17)) [.ref I]) (fun w s' => KpS (fun b => b = I) s s' ∧ ∃ t, w = .int (varF x y) t) noE s := by
  obtain ⟨_, fd, hsc, Ff⟩ := G
  obtain ⟨o, ho, hc, hd⟩ := hit
  have hLive : Live s.heap (I :: Y) := fun b hb' => by
    rcases List.mem_cons.mp hb' with rfl | hb'
    · exact ⟨o, ho⟩
    · exact hY b hb'
  refine Ff.enter (r := 60) (ds := [.raw (.ref I)]) (Y := I :: Y) rfl R hb hLive (by simp [RepL, Rep]) fun env s₁ hcode hqual k X hmu R' => ?_
  rw [hsc] at X hmu
  have E1 : ExIt c 60 (scopeAt 17) I bs (execs (bodyAt 17)) (.ret (.int (varF x y))) 0 2 (argσ ["iterator"] [.raw (.ref I)]) (fun _ => none) := by
    refine ExIt.cons (ExIt.next hnx (by decide +kernel) (by trivial) (.inl (by decide +kernel)) h0) ?_
    refine ExIt.cons (ExIt.of (Ex1.assign (d := .int (Builtin.bitAnd (x.toNat : Int) 63)) (Ev.bin (by decide) (Ev.name (d := .int (x.toNat : Int)) (by trivial)) Ev.int Bop.band) (.inl (by decide +kernel)) nofun)) ?_
    refine ExIt.cons (ExIt.while1 (Tr.to (Tr.val (by decide) (Ev.bin (by decide) (Ev.name (d := .int (x.toNat : Int)) (by trivial)) Ev.int Bop.band) Tru.int) hx) (σ' := L [("val", .int (varF x y)), ("b", .int (y.toNat : Int))]) (i' := 2) ?_ (Tr.to (Tr.val (by decide) (Ev.bin (by decide) (Ev.name (d := .int (y.toNat : Int)) (by trivial)) Ev.int Bop.band) Tru.int) hy)) ?_
    · refine ExIt.cons (ExIt.of (Ex1.aug (x := "val") (d₀ := .int (Builtin.bitAnd (x.toNat : Int) 63)) (by decide) (by trivial) Ev.int (Iop.shl (by decide) (by omega)) (.inl (by decide +kernel)) nofun)) ?_
      refine ExIt.cons (ExIt.next hnx (by decide +kernel) (by trivial) (.inl (by decide +kernel)) h1) ?_
      refine ExIt.of (Ex.cons (ExB.post (Ex1.aug (x := "val") (d₀ := .int (Builtin.bitAnd (x.toNat : Int) 63 * 2 ^ (6 : Int).toNat)) (by decide) (by trivial) (Ev.bin (by decide) (Ev.name (d := .int (y.toNat : Int)) (by trivial)) Ev.int Bop.band) Iop.bor (.inl (by decide +kernel)) nofun) ?_) Ex.nil)
      exact Sub.cons (by simp [upd, varF]) (Sub.cons (by trivial) Sub.nil)
    · exact ExIt.of (Ex.stop (ExB.retAny (Ex1.ret (σ' := fun _ => none) (o' := none) (Ev.name (by trivial)))) nofun)
  refine weak (E1.go env Y _ _ s₁ R' X hIY hIb ⟨tk, o, k.k _ _ ho, hc, hd⟩) fun f s' P => ?_
  obtain ⟨v, e, hv⟩ := P.flow
  subst e
  refine ⟨?_, rInt hv⟩
  obtain ⟨h1', t1', rfl, k1⟩ := k
  obtain ⟨h2', t2', rfl, k2⟩ := P.kp
  exact ⟨h2', t2', rfl, fun b ob e n => k2 b ob (k1 b ob e) fun m => by
    rcases m with m | m
    · exact n m
    · exact absurd (Heap.lt_size e) (Nat.not_lt.mpr (hmu _ m))⟩
end Mine

end
section
open PySem PySem.W PySem.Calls PyProof.Rows Builtin.Str
set_option maxRecDepth 20000
set_option linter.unusedVariables false
set_option linter.unusedSimpArgs false
namespace Mine
open PySem.W.KBw (IsBytesIter)
variable {c : Cx} {r : Nat}
theorem Ev.varint {sc : Scope} {σ : String → Option D} {e : Expr} {p1 p2 p3 p4 : Pos} (hr : 61 ≤ r) (G : GFn c 17 (c.fa 17) "_parse_varint" ["iterator"]) (hnx : NoG c "next") (hitr : NoG c "iter") (hk : sc.names.lookup (Str.ofString "_parse_varint") = some .globalImplicit) (hk2 : sc.names.lookup (Str.ofString "iter") = some .globalImplicit)
    {x y : UInt8} {bs : Array UInt8} (h : Ev c r sc σ e (.bytes bs)) (h0 : bs[0]? = some x) (h1 : bs[1]? = some y) (hx : (Builtin.bitAnd (x.toNat : Int) 64 != 0) = true) (hy : (Builtin.bitAnd (y.toNat : Int) 64 != 0) = false) (hbits : Builtin.Int.intBits (Builtin.bitAnd (x.toNat : Int) 63) ≤ 1000)
    (he : starred e = false := by rfl) :
    Ev c r sc σ (.Call (.Name (Str.ofString "_parse_varint") p1) [.Call (.Name (Str.ofString "iter") p2) [e] [] p3] [] p4) (.int (varF x y)) := ⟨fun env Y val A s R X => by
  have hev : EvV c sc (.Name (Str.ofString "_parse_varint") p1) (.ref (c.fa 17)) := G.ev hk
  have hev2 : EvV c sc (.Name (Str.ofString "iter") p2) (.builtin "iter") := NoG.ev hitr (by rfl) hk2
  refine wpAny_Call_NameR (weak (hev env Y σ val A s X) fun v' s₁ ⟨e', k⟩ => ?_)
  subst e'
  have X₁ := X.keeps k
  rw [star_cons rfl]
  refine callWith_of (P := c.In) rfl G.keep (evalArgs_plain (Calls.spliced_cons ?_))
  refine wpAny_Call_NameR (weak (hev2 env Y σ val A s₁ X₁) fun v' s₂ ⟨e', k₂⟩ => ?_)
  subst e'
  have X₂ := X₁.keeps k₂
  rw [star_cons he]
  refine callWith_of (P := c.In) rfl KeepV.blt (evalArgs_plain (Calls.spliced_cons (weak (h.go env Y val A s₂ R X₂) fun v s₃ g => Calls.spliced_nil ?_)))
  have X₃ := X₂.keeps g.1
  obtain ⟨t, rfl⟩ : ∃ t, v = .bytes bs t := by have := g.2; simpa only [Rep] using this
  refine ⟨X₃.base, call_iter_bytes (Calls.spliced_nil ?_)⟩
  have kI : Kp s₃ { s₃ with heap := s₃.heap.push { cls := .type "bytes_iterator", data := .fields #[.bytes bs t, .int 0 0] } } := Kp.push _
  have X₄ := X₃.keeps kI
  have hIn : s₃.heap.get? s₃.heap.objs.size = Option.none := fresh_none
  refine ⟨X₄.base, weak (w_varint G hnx h0 h1 hx hy hbits (Y := Y) (I := s₃.heap.objs.size) (tk := t) (R.le hr) X₄.base X₄.live (X₃.live.fresh (Nat.le_refl _)) ?_ ⟨_, Heap.get?_push_size _ rfl, rfl, rfl⟩) fun w s₅ ⟨kp, hw⟩ => ⟨?_, by simp only [Rep]; exact hw⟩⟩
  · cases q : c.base.get? s₃.heap.objs.size with
    | none => rfl
    | some ob => rw [X₃.base _ _ q] at hIn; cases hIn
  · obtain ⟨ha, ta, rfl, ka⟩ := (k.trans k₂).trans g.1
    obtain ⟨hb, tb, rfl, kb⟩ := kp
    exact ⟨hb, tb, rfl, fun b ob e => kb b ob (Heap.get?_push_of_some _ (ka b ob e)) fun q => by
      rw [q] at e
      have := ka _ _ e
      rw [hIn] at this; cases this⟩⟩
end Mine

end
section
open PySem PySem.W PySem.Calls PyProof.Rows Builtin.Str
set_option maxRecDepth 20000
set_option linter.unusedVariables false
set_option linter.unusedSimpArgs false
namespace Mine

/-- what rests upon objects of plain fields alone -/
def Stab (I : Heap → Prop) : Prop := ∀ h h' : Heap, (∀ b o, h.get? b = some o → (∃ vs, o.data = .fields vs) → h'.get? b = some o) → I h → I h'
theorem Stab.tabE {P pos q} : Stab (TabE P pos q) := fun h h' k ⟨ps, e, t, r⟩ => ⟨ps, k _ _ e ⟨_, rfl⟩, t, r.imp id fun ⟨cv, a, c, o, vs, t, e, ho, hd, hv⟩ => ⟨cv, a, c, o, vs, t, e, k _ _ ho ⟨_, hd⟩, hd, hv⟩⟩
theorem Stab.tabF {P pos q} : Stab (TabF P pos q) := fun h h' k ⟨ps, cv, e, t, f, c, o, vs, t', e', ho, hd, hv⟩ => ⟨ps, cv, k _ _ e ⟨_, rfl⟩, t, f, c, o, vs, t', e', k _ _ ho ⟨_, hd⟩, hd, hv⟩
theorem Stab.and {I J : Heap → Prop} (a : Stab I) (b : Stab J) : Stab fun h => I h ∧ J h := fun h h' k x => ⟨a h h' k x.1, b h h' k x.2⟩

/-- a block that may change objects of Z -/
structure ExG (c : Cx) (r : Nat) (sc : Scope) (Z : List Addr) (I I' : Heap → Prop) (t : Env → Sem Flow) (fl : Fl) (σ : String → Option D) (o : Option (String × List D)) (σ' : String → Option D) (o' : Option (String × List D)) : Prop where
  go : ∀ env Y a val A s, Room A r → StA c env sc (Z ++ Y) σ o a val s → (∀ z ∈ Z, z ∉ Y ∧ c.base.get? z = none) → I s.heap →
    wpAny c.M A (t env) (fun f s' => KpS (fun b => b ∈ Z ∨ Mu env sc (own o a) b) s s' ∧ FlowR s'.heap (Z ++ Y) fl f ∧ (isRet fl = false → ∃ a' val', Rel o a s o' a' ∧ StA c env sc (Z ++ Y) σ' o' a' val' s') ∧ I' s'.heap) noE s
section
variable {c : Cx} {r : Nat} {sc : Scope} {Z : List Addr} {I I' I'' : Heap → Prop} {σ σ' σ'' : String → Option D} {o o' o'' : Option (String × List D)} {fl : Fl}
theorem own_data {env Y a val} {s : Shared} (X : StA c env sc Y σ o a val s) {b : Addr} {ob : Obj} (m : Mu env sc (own o a) b) (e : s.heap.get? b = some ob) : ¬ ∃ vs, ob.data = .fields vs := by
  rintro ⟨vs, hd⟩
  rcases m with m | m | m
  · exact X.env.notSeq (.inl m) e (.inr ⟨vs, hd⟩)
  · exact X.env.notSeq (.inr (.inl m)) e (.inr ⟨vs, hd⟩)
  · obtain ⟨ho, rfl⟩ := own_eq m
    cases o with
    | none => exact ho rfl
    | some p =>
      obtain ⟨x, ds⟩ := p
      obtain ⟨vs', ⟨n, e'⟩, _⟩ := X.own.2
      rw [e'] at e; cases e; cases hd
theorem ExG.of {t : Env → Sem Flow} (hI : Stab I) (h : ExB c r sc σ o t fl σ' o') : ExG c r sc Z I I t fl σ o σ' o' := ⟨fun env Y a val A s R X hZ hi =>
  weak (h.go env (Z ++ Y) a val A s R X) fun f s' P => ⟨P.kp.mono fun b m => .inr m, P.flow, P.st, hI _ _ (fun b ob e hf => P.kp.k b ob e fun m => own_data X m e hf) hi⟩⟩
theorem ExG.cons {st : Stmt} {rest : List Stmt} (h : ExG c r sc Z I I' (exec st) .next σ o σ' o') (h' : ExG c r sc Z I' I'' (execs rest) fl σ' o' σ'' o'') : ExG c r sc Z I I'' (execs (st :: rest)) fl σ o σ'' o'' := ⟨fun env Y a val A s R X hZ hi => by
  refine wpAny_execs_cons (weak (h.go env Y a val A s R X hZ hi) fun f s₁ ⟨kp, hf, hst, hi'⟩ => ?_)
  have e : f = .next := hf
  subst e
  obtain ⟨a', val', hr, X'⟩ := hst rfl
  refine weak (h'.go env Y a' val' A s₁ R X' hZ hi') fun f s₂ ⟨kp2, hf2, hst2, hi2⟩ => ⟨?_, hf2, fun hn => ?_, hi2⟩
  · exact kp.glueM kp2 fun b ob e m => m.imp id fun m => Rel.mu hr e m
  · obtain ⟨a'', val'', hr', X''⟩ := hst2 hn
    exact ⟨a'', val'', Rel.trans hr hr' kp X'.env (fun b m => m.elim (fun q => .inr (X'.live b (List.mem_append_left _ q))) fun q => .inl q), X''⟩⟩
/-- the block's return or its end -/
theorem ExG.ofEx {ss : List Stmt} (hI : Stab I) (h : Ex c r sc σ o ss fl σ' o') : ExG c r sc Z I I (execs ss) fl σ o σ' o' := ExG.of hI h
end
end Mine

end
section
open PySem PySem.W PySem.Calls PyProof.Rows Builtin.Str
set_option maxRecDepth 20000
set_option linter.unusedVariables false
set_option linter.unusedSimpArgs false
namespace Mine

theorem triples_1 {l : List Value} (h : TriplesOk l) (q : Str) (t : Tok) : l[1]? ≠ some (.str q t) := by
  fun_induction TriplesOk l with
  | case1 => simp
  | case2 a t b u x rest ih => simp
  | case3 => exact h.elim
section
variable {P Q : Addr} {pos pos' : Pos} {q q' : Str} {h h' : Heap} {ps : Array Value}
theorem rec_off {cv : Value} (x : h.CodeRec cv q) (hP : h.get? P = some (tabObj ps)) (ht : TriplesOk ps.toList) (k : ∀ b o, b ≠ P → h.get? b = some o → h'.get? b = some o) : h'.CodeRec cv q :=
  codeRec_keep x hP (fun vs e t => by
    injection e with e
    subst e
    rw [← Array.getElem?_toList]
    exact triples_1 ht q t) k
theorem TabE.off (x : TabE Q pos q h) (hP : h.get? P = some (tabObj ps)) (ht : TriplesOk ps.toList) (hne : P ≠ Q) (k : ∀ b o, b ≠ P → h.get? b = some o → h'.get? b = some o) : TabE Q pos q h' := by
  obtain ⟨qs, e, t, r⟩ := x
  exact ⟨qs, k _ _ (Ne.symm hne) e, t, r.imp id fun ⟨cv, a, b⟩ => ⟨cv, a, rec_off b hP ht k⟩⟩
theorem TabF.off (x : TabF Q pos q h) (hP : h.get? P = some (tabObj ps)) (ht : TriplesOk ps.toList) (hne : P ≠ Q) (k : ∀ b o, b ≠ P → h.get? b = some o → h'.get? b = some o) : TabF Q pos q h' := by
  obtain ⟨qs, cv, e, t, f, r⟩ := x
  exact ⟨qs, cv, k _ _ (Ne.symm hne) e, t, f, rec_off r hP ht k⟩
end

abbrev E1 (P : Addr) (h : Heap) : Prop := TabE P (fPos (stm 10 1)) (innQ "_int2digits") h
abbrev F1 (P : Addr) (h : Heap) : Prop := TabF P (fPos (stm 10 1)) (innQ "_int2digits") h
abbrev E2 (Q : Addr) (h : Heap) : Prop := TabE Q (fPos (stm 11 0)) (innQ "_digits2int") h
abbrev F2 (Q : Addr) (h : Heap) : Prop := TabF Q (fPos (stm 11 0)) (innQ "_digits2int") h

/-- a call that fills both tables -/
def FnZ2 (c : Cx) (r : Nat) (v : Value) (args : List D) (d : D) (P Q : Addr) : Prop := ∀ Y A s vs, Room A r → c.In s.heap → Live s.heap Y → P ∉ Y → Q ∉ Y → E1 P s.heap → E2 Q s.heap → RepL s.heap (P :: Q :: Y) args vs →
  wpAny c.M A (PySem.call v vs) (fun w s' => KpS (fun b => b = P ∨ b = Q) s s' ∧ F1 P s'.heap ∧ F2 Q s'.heap ∧ Rep s'.heap (P :: Q :: Y) d w) noE s
/-- an expression that fills both tables -/
structure EvZ (c : Cx) (r : Nat) (sc : Scope) (σ : String → Option D) (P Q : Addr) (e : Expr) (d : D) : Prop where
  go : ∀ env Y val A s, Room A r → At c env sc (P :: Q :: Y) σ val s → P ∉ Y → Q ∉ Y → E1 P s.heap → E2 Q s.heap →
    wpAny c.M A (eval e env) (fun v s' => KpS (fun b => b = P ∨ b = Q) s s' ∧ F1 P s'.heap ∧ F2 Q s'.heap ∧ Rep s'.heap (P :: Q :: Y) d v) noE s

section
variable {c : Cx} {r : Nat} {sc : Scope} {σ σ' : String → Option D} {P Q : Addr}
theorem live2 {h : Heap} {Y : List Addr} (x : Live h (P :: Q :: Y)) : Live h Y := fun b hb => x b (.tail _ (.tail _ hb))
theorem EvZ.call {x : String} {p pos : Pos} {e : Expr} {es : List Expr} {ds : List D} {d : D} {v : Value} (hf : EvV c sc (.Name (Str.ofString x) p) v) (hk : KeepV c v) (ha : EvL c r sc σ (e :: es) ds) (h : FnZ2 c r v ds d P Q)
    (he : starred e = false := by rfl) (hp : ∀ env pos, (backTo pos (starEach es env)).any (·.1) = false := by intros; rfl) :
    EvZ c r sc σ P Q (.Call (.Name (Str.ofString x) p) (e :: es) [] pos) d := ⟨fun env Y val A s R X hP hQ h1 h2 => by
  refine wpAny_Call_NameR (weak (hf env _ σ val A s X) fun v' s₁ ⟨e', k⟩ => ?_)
  subst e'
  have X₁ := X.keeps k
  have h3 := ha.go env _ val A s₁ pos R X₁
  rw [star_cons he] at h3 ⊢
  refine callWith_of (P := c.In) (by show ((false || (backTo pos (starEach es env)).any (·.1)) || false) = false; rw [hp]; rfl) hk (evalArgs_plain (weak h3 fun vs s₂ ⟨k₂, hv⟩ => ?_))
  have X₂ := X₁.keeps k₂
  have kk := k.trans k₂
  refine ⟨X₂.base, weak (h Y A s₂ vs R X₂.base (live2 X₂.live) hP hQ (h1.keeps kk.k) (h2.keeps kk.k) hv) fun w s₃ ⟨kp, a, b, g⟩ => ⟨?_, a, b, g⟩⟩
  obtain ⟨ha, ta, rfl, ka⟩ := kk
  obtain ⟨hb, tb, rfl, kb⟩ := kp
  exact ⟨hb, tb, rfl, fun b ob e n => kb b ob (ka b ob e) n⟩⟩

theorem ValOk.perm {h : Heap} {Y Y' : List Addr} {val : String → Option Value} (x : ValOk h Y σ val) (p : ∀ a ∈ Y', a ∈ Y) : ValOk h Y' σ val := x.weaken p
theorem StA.perm {env : Env} {Y Y' : List Addr} {a : Addr} {val : String → Option Value} {s : Shared} (X : StA c env sc Y σ none a val s) (p : ∀ b, b ∈ Y' ↔ b ∈ Y) : StA c env sc Y' σ none a val s :=
  ⟨X.base, X.mine, X.env, fun b hb => X.live b ((p b).mp hb), (show ValOk s.heap Y σ val from X.ok).perm fun b hb => (p b).mp hb⟩

/-- the state behind a call that changed the table R alone -/
theorem StA.tabOff {env : Env} {Y : List Addr} {a : Addr} {val : String → Option Value} {s : Shared} {R : Addr} {h' : Heap} {t : Nat} (X : StA c env sc Y σ none a val s) (hR : R ∈ Y) (hb : c.base.get? R = none) (hT : ∃ ps, s.heap.get? R = some (tabObj ps)) (hT' : ∃ ps, h'.get? R = some (tabObj ps))
    (k : ∀ b ob, b ≠ R → s.heap.get? b = some ob → h'.get? b = some ob) : StA c env sc Y σ none a val { s with heap := h', toks := t } := by
  obtain ⟨ps, e⟩ := hT
  have X1 : StA c env sc (R :: Y.filter (fun b => decide (b ≠ R))) σ none a val s := X.perm fun b => by
    simp only [List.mem_cons, List.mem_filter, decide_eq_true_eq]
    constructor
    · rintro (rfl | ⟨q, _⟩)
      · exact hR
      · exact q
    · intro q
      by_cases e : b = R
      · exact .inl e
      · exact .inr ⟨q, e⟩
  have := (X1.offI ⟨_, e, .inr ⟨_, rfl⟩⟩ hb (fun q => by simp at q) (h' := h') (t := t) k).2 (let ⟨ps', e'⟩ := hT'; ⟨_, e'⟩)
  refine this.perm fun b => ?_
  simp only [List.mem_cons, List.mem_filter, decide_eq_true_eq]
  constructor
  · intro q
    by_cases e : b = R
    · exact .inl e
    · exact .inr ⟨q, e⟩
  · rintro (rfl | ⟨q, _⟩)
    · exact hR
    · exact q

theorem repl_perm {h : Heap} {Y Y' : List Addr} {ds : List D} {vs : List Value} (x : RepL h Y ds vs) (p : ∀ b, b ∈ Y' ↔ b ∈ Y) : RepL h Y' ds vs := x.mono (fun _ _ e _ _ => e) fun b _ _ q => (p b).mp q
theorem rep_perm {h : Heap} {Y Y' : List Addr} {d : D} {v : Value} (x : Rep h Y d v) (p : ∀ b, b ∈ Y' ↔ b ∈ Y) : Rep h Y' d v := x.mono (fun _ _ e _ _ => e) fun b _ _ q => (p b).mp q

/-- a name gets what a call gives that may fill one table -/
theorem ExG.assignZ {R S : Addr} {pos' : Pos} {q : Str} {Z : List Addr} {J : Heap → Prop} {x f : String} {p p' pos spos : Pos} {e : Expr} {es : List Expr} {ds : List D} {d : D} {v : Value} (hZ : ∀ b, b ∈ Z ↔ b = R ∨ b = S) (hne : R ≠ S)
    (hf : EvV c sc (.Name (Str.ofString f) p') v) (hk : KeepV c v) (ha : EvL c r sc σ (e :: es) ds) (h : FnZ1 c r v ds d R pos' q) (hx : Sto sc x)
    (hJ : ∀ h h' ps, h.get? R = some (tabObj ps) → TriplesOk ps.toList → (∀ b o, b ≠ R → h.get? b = some o → h'.get? b = some o) → J h → J h') (hst : Stab J)
    (he : starred e = false := by rfl) (hp : ∀ env pos, (backTo pos (starEach es env)).any (·.1) = false := by intros; rfl)
    (hs : ∀ env, swapsWith (.Call (.Name (Str.ofString f) p') (e :: es) [] pos) (some (.Name (Str.ofString x) p)) spos.line env = pure false := by intros; rfl) :
    ExG c r sc Z (fun h => TabE R pos' q h ∧ J h) (fun h => TabF R pos' q h ∧ J h) (exec (.Assign [.Name (Str.ofString x) p] (.Call (.Name (Str.ofString f) p') (e :: es) [] pos) spos)) .next σ none (upd σ x d) none := ⟨fun env Y a val A s Ro X hZY ⟨hT, hj⟩ => by
  have hRZ : R ∈ Z := (hZ R).mpr (.inl rfl)
  have hSZ : S ∈ Z := (hZ S).mpr (.inr rfl)
  have perm : ∀ b, b ∈ R :: S :: Y ↔ b ∈ Z ++ Y := fun b => by
    simp only [List.mem_cons, List.mem_append, hZ]
    constructor
    · rintro (a | a | a)
      · exact .inl (.inl a)
      · exact .inl (.inr a)
      · exact .inr a
    · rintro ((a | a) | a)
      · exact .inl a
      · exact .inr (.inl a)
      · exact .inr (.inr a)
  refine wpAny_Assign_Name ?_ (hs env)
  refine wpAny_Call_NameR (weak (hf env _ σ val A s X.at) fun v' s₁ ⟨e', k⟩ => ?_)
  subst e'
  have X₁ := X.keeps k
  have h3 := ha.go env _ val A s₁ pos Ro X₁.at
  rw [star_cons he] at h3 ⊢
  refine callWith_of (P := c.In) (by show ((false || (backTo pos (starEach es env)).any (·.1)) || false) = false; rw [hp]; rfl) hk (evalArgs_plain (weak h3 fun vs s₂ ⟨k₂, hv⟩ => ?_))
  have X₂ := X₁.keeps k₂
  have kk := k.trans k₂
  have hT₂ := hT.keeps kk.k
  obtain ⟨ps, eR, hTr, _⟩ := id hT₂
  have hj₂ : J s₂.heap := hst _ _ (fun b o e _ => kk.k b o e) hj
  have hRS : R ∉ S :: Y := fun q => by
    rcases List.mem_cons.mp q with q | q
    · exact hne q
    · exact (hZY R hRZ).1 q
  refine ⟨X₂.base, weak (h (S :: Y) A s₂ vs Ro X₂.base (fun b hb => X₂.live b ((perm b).mp (.tail _ hb))) hRS hT₂ (repl_perm hv perm)) fun w s₃ ⟨kp, hF, _, hr⟩ => ?_⟩
  obtain ⟨h₃, t₃, rfl, k₃⟩ := kp
  have X₃ := X₂.tabOff (h' := h₃) (t := t₃) (List.mem_append_left _ hRZ) (hZY R hRZ).2 ⟨ps, eR⟩ (let ⟨ps', cv', e, _⟩ := hF; ⟨ps', e⟩) (fun b o n e => k₃ b o e n)
  have hj₃ : J h₃ := hJ _ _ ps eR hTr (fun b o n e => k₃ b o e n) hj₂
  refine StA.store X₃ hx nofun (rep_perm hr fun b => (perm b).symm) fun s₄ k₄ X₄ => ⟨?_, rfl, fun _ => ⟨a, _, Rel.rfl', X₄⟩, ?_, ?_⟩
  · obtain ⟨ha', ta, rfl, ka⟩ := kk
    obtain ⟨hb', tb, rfl, kb⟩ := k₄
    exact ⟨hb', tb, rfl, fun b ob e n => kb b ob (k₃ b ob (ka b ob e) fun q => n (.inl (q ▸ hRZ))) fun m => n (.inr m)⟩
  · exact Stab.tabF _ _ (fun b o e hf => k₄.k b o e fun m => own_data X₃ m e hf) hF
  · exact hst _ _ (fun b o e hf => k₄.k b o e fun m => own_data X₃ m e hf) hj₃⟩
end
end Mine

end
section
open PySem PySem.W PySem.Calls PyProof.Rows Builtin.Str
set_option maxRecDepth 20000
set_option linter.unusedVariables false
set_option linter.unusedSimpArgs false
namespace Mine
local macro_rules | `(tactic| omega) => `(tactic| lia)
open Builtin.Int (intBits)
section
variable {c : Cx} {r : Nat} {sc : Scope} {Z : List Addr} {I I' : Heap → Prop} {σ σ' : String → Option D} {o' : Option (String × List D)} {fl : Fl}
theorem ExG.freeze {t : Env → Sem Flow} {x : String} {ds : List D} (h : ExG c r sc Z I I' t fl (upd σ x (.list ds)) none σ' o') : ExG c r sc Z I I' t fl σ (some (x, ds)) σ' o' := ⟨fun env Y a val A s R X hZ hi =>
  weak (h.go env Y a val A s R X.freeze hZ hi) fun f s' ⟨kp, hf, hst, hi'⟩ => ⟨kp.mono fun b m => m.imp id mu0, hf, fun hn => let ⟨a', val', hr, X'⟩ := hst hn; ⟨a', val', fun q => (hr q).elim (fun z => absurd rfl z.1) .inr, X'⟩, hi'⟩⟩
theorem ExG.pre {t : Env → Sem Flow} {σ₂ : String → Option D} (h : ExG c r sc Z I I' t fl σ₂ none σ' o') (q : Sub σ₂ σ) : ExG c r sc Z I I' t fl σ none σ' o' := ⟨fun env Y a val A s R X hZ hi => h.go env Y a val A s R (X.sub q) hZ hi⟩
end

variable {c : Cx} {r : Nat}
theorem stab12 {P Q : Addr} : Stab (fun h => E1 P h ∧ E2 Q h) := Stab.and Stab.tabE Stab.tabE
theorem stabF2 {P Q : Addr} : Stab (fun h => E2 Q h ∧ F1 P h) := Stab.and Stab.tabE Stab.tabF
theorem stabFF {P Q : Addr} : Stab (fun h => F2 Q h ∧ F1 P h) := Stab.and Stab.tabF Stab.tabF
theorem ExG.swapI {sc : Scope} {Z : List Addr} {I I₂ I' : Heap → Prop} {σ σ' : String → Option D} {o o' : Option (String × List D)} {fl : Fl} {t : Env → Sem Flow} (h : ExG c r sc Z I I' t fl σ o σ' o') (q : ∀ h, I₂ h → I h) : ExG c r sc Z I₂ I' t fl σ o σ' o' := ⟨fun env Y a val A s R X hZ hi => h.go env Y a val A s R X hZ (q _ hi)⟩

local macro_rules | `(tactic| trivial) => `(tactic| first | rfl | (simp [full, L, sDM, argσ, upd]; done))
theorem dm_ex (G : G3 c) {P Q : Addr} (hne : P ≠ Q) {f : Nat} {R : Nat} (hR : 30 + 2 * f ≤ R) (hR2 : 61 ≤ R) (Hi : ∀ a n out, i2d a n = some out → FnZ1 c 61 (.ref (c.fa 10)) [.int a, .int n] (.list (iL out)) P (fPos (stm 10 1)) (innQ "_int2digits")) (Hd : ∀ ds n v, d2iF ds n = some v → FnZ1 c 61 (.ref (c.fa 11)) [.list (iL ds), .int n] (.int v) Q (fPos (stm 11 0)) (innQ "_digits2int"))
    {a b q r : Int} (h : dmF f a b = some (q, r)) : ExG c R (scopeAt 12) [P, Q] (fun h => E1 P h ∧ E2 Q h) (fun h => F2 Q h ∧ F1 P h) (execs (bodyAt 12)) (.ret (.tup [.int q, .int r])) (argσ ["a", "b"] [.int a, .int b]) none (fun _ => none) none := by
  have hR3 : 20 ≤ R := by omega
  unfold dmF at h
  split at h
  case h_1 => cases h
  rename_i ds h1
  split at h
  case h_1 => cases h
  rename_i qs r1 h2
  split at h
  case isFalse => cases h
  rename_i hq
  split at h
  case h_1 => cases h
  rename_i q1 h3
  cases h
  generalize hn : ((intBits b : Nat) : Int) = n at *
  have up1 : ∀ {v args d P pos q}, FnZ1 c 61 v args d P pos q → FnZ1 c R v args d P pos q := fun h Y A s vs Ro => h Y A s vs (Ro.le hR2)
  refine ExG.cons (ExG.of stab12 (Ex1.assign (d := .int n) (by rw [← hn]; exact Ev.meth0 (Ev.name (d := .int b) (by trivial)) hT_int FnV.bitLength F.plainAttrs_int F.slot_int_bit_length F.type_int_bit_length) (.inl (by decide +kernel)) nofun)) ?_
  refine ExG.cons (ExG.assignZ (R := P) (S := Q) (d := .list (iL ds)) (fun b => by simp) hne (G.i2d.ev (by decide +kernel)) G.i2d.keep (EvL.cons (Ev.name (d := .int a) (by trivial)) (EvL.cons (Ev.name (d := .int n) (by trivial)) EvL.nil)) (up1 (Hi a n ds h1)) (.inl (by decide +kernel)) (fun h h' ps e t k x => TabE.off x e t hne k) Stab.tabE) ?_
  refine ExG.cons (ExG.of (Stab.and Stab.tabF Stab.tabE) (Ex1.assign Ev.int (.inl (by decide +kernel)) nofun)) ?_
  refine ExG.cons (ExG.of (Stab.and Stab.tabF Stab.tabE) (Ex1.assignOwn (ds := iL []) EvF.nil (.inl (by decide +kernel)) (by trivial))) ?_
  have hrev : (iL ds).reverse = iL ds.reverse := by simp [iL]
  have hit : EvI c R (scopeAt 12) (sDM b n 0 (iL ds)) (inT (stm 12 4)) (iL ds.reverse) := by
    rw [← hrev]
    exact EvI.reversed (NoG.ev G.reversed (by rfl) (by decide +kernel)) (Ev.name (d := .list (iL ds)) (by trivial))
  refine ExG.cons (ExG.of (Stab.and Stab.tabF Stab.tabE) (ExB.pre (σ₂ := sDM b n 0 (iL ds)) (Ex1.for (fl₁ := .next) hit (.inl (by decide +kernel)) (w_dmL G hR _ _ _ _ _ h2) Ex.nil) (Sub.cons (by trivial) (Sub.cons (by trivial) (Sub.cons (by trivial) (Sub.cons (by trivial) Sub.nil)))))) ?_
  refine ExG.cons (ExG.of (Stab.and Stab.tabF Stab.tabE) (Ex1.reverse (by simp [iL]; omega))) ?_
  have hr2 : (iL qs).reverse = iL qs.reverse := by simp [iL]
  rw [hr2]
  refine ExG.freeze ?_
  refine ExG.swapI (I := fun h => E2 Q h ∧ F1 P h) ?_ fun h x => ⟨x.2, x.1⟩
  refine ExG.cons (ExG.assignZ (R := Q) (S := P) (d := .int q) (fun b => by simp [or_comm]) (Ne.symm hne) (G.d2i.ev (by decide +kernel)) G.d2i.keep (EvL.cons (Ev.name (d := .list (iL qs.reverse)) (by trivial)) (EvL.cons (Ev.name (d := .int n) (by trivial)) EvL.nil)) (up1 (Hd _ n q h3)) (.inl (by decide +kernel)) (fun h h' ps e t k x => TabF.off x e t (Ne.symm hne) k) Stab.tabF) ?_
  exact ExG.of stabFF (Ex.stop (Ex1.ret (Ev.tup (EvL.cons (Ev.name (d := .int q) (by trivial)) (EvL.cons (Ev.name (d := .int r) (by trivial)) EvL.nil)) (by show 2 ≤ sizeLine; decide))) nofun)

theorem w_dm1 (G : G3 c) {P Q : Addr} (hne : P ≠ Q) (hPb : c.base.get? P = none) (hQb : c.base.get? Q = none) {f : Nat} {R : Nat} (hR : 30 + 2 * f ≤ R) (hR2 : 61 ≤ R) (Hi : ∀ a n out, i2d a n = some out → FnZ1 c 61 (.ref (c.fa 10)) [.int a, .int n] (.list (iL out)) P (fPos (stm 10 1)) (innQ "_int2digits")) (Hd : ∀ ds n v, d2iF ds n = some v → FnZ1 c 61 (.ref (c.fa 11)) [.list (iL ds), .int n] (.int v) Q (fPos (stm 11 0)) (innQ "_digits2int"))
    {a b q r : Int} (h : dmF f a b = some (q, r)) : FnZ2 c (R + 1) (.ref (c.fa 12)) [.int a, .int b] (.tup [.int q, .int r]) P Q := fun Y A s vs Ro hb hY hPY hQY h1 h2 hv => by
  obtain ⟨_, fd, hsc, Ff⟩ := G.pos
  have hLive : Live s.heap (P :: Q :: Y) := fun b hb' => by
    rcases List.mem_cons.mp hb' with rfl | hb'
    · obtain ⟨ps, e, _⟩ := h1; exact ⟨_, e⟩
    · rcases List.mem_cons.mp hb' with rfl | hb'
      · obtain ⟨ps, e, _⟩ := h2; exact ⟨_, e⟩
      · exact hY b hb'
  refine Ff.enter (r := R) (ds := [.int a, .int b]) (Y := P :: Q :: Y) rfl Ro hb hLive hv fun env s₁ hcode hqual k X hmu R' => ?_
  rw [hsc] at X hmu
  refine weak ((dm_ex G hne hR hR2 Hi Hd h).go env Y 0 _ _ s₁ R' X (fun z hz => ?_) ⟨h1.keeps k.k, h2.keeps k.k⟩) fun f s' ⟨kp, hf, _, hI⟩ => ?_
  · rcases List.mem_cons.mp hz with rfl | hz
    · exact ⟨hPY, hPb⟩
    · obtain rfl := List.mem_singleton.mp hz
      exact ⟨hQY, hQb⟩
  · obtain ⟨v, e, hr⟩ := hf
    subst e
    refine ⟨?_, hI.2, hI.1, hr⟩
    obtain ⟨ha, ta, rfl, ka⟩ := k
    obtain ⟨hb', tb, rfl, kb⟩ := kp
    refine ⟨hb', tb, rfl, fun b ob e n => kb b ob (ka b ob e) fun m => ?_⟩
    rcases m with m | m
    · simp only [List.mem_cons, List.not_mem_nil, or_false] at m
      exact n m
    · exact absurd (Heap.lt_size e) (Nat.not_lt.mpr (hmu _ m))

def elI : Stmt → List Stmt
  | .If _ _ e _ => e
  | _ => []
theorem w_idm1 (G : G3 c) {P Q : Addr} {R : Nat} (hR : 20 ≤ R) {a b : Int} {d : D} (ha : 0 ≤ a) (hb : 0 < b) (H : FnZ2 c R (.ref (c.fa 12)) [.int a, .int b] d P Q) : FnZ2 c (R + 1) (.ref (c.fa 13)) [.int a, .int b] d P Q := fun Y A s vs Ro hbs hY hPY hQY h1 h2 hv => by
  obtain ⟨_, fd, hsc, Ff⟩ := G.idm
  have hLive : Live s.heap (P :: Q :: Y) := fun b hb' => by
    rcases List.mem_cons.mp hb' with rfl | hb'
    · obtain ⟨ps, e, _⟩ := h1; exact ⟨_, e⟩
    · rcases List.mem_cons.mp hb' with rfl | hb'
      · obtain ⟨ps, e, _⟩ := h2; exact ⟨_, e⟩
      · exact hY b hb'
  refine Ff.enter (r := R) (ds := [.int a, .int b]) (Y := P :: Q :: Y) rfl Ro hbs hLive hv fun env s₁ hcode hqual k X hmu R' => ?_
  rw [hsc] at X hmu
  have t1 : Tr c R (scopeAt 13) (argσ ["a", "b"] [.int a, .int b]) (inT (stm 13 0)) false := Tr.to (Tr.cmp hR (Ev.name (d := .int b) (by trivial)) Ev.int Cop.eqInt) (by simp; omega)
  have t2 : Tr c R (scopeAt 13) (argσ ["a", "b"] [.int a, .int b]) (inT ((elI (stm 13 0)).headD (.Pass ⟨0,0,0,0⟩))) false := Tr.to (Tr.cmp hR (Ev.name (d := .int b) (by trivial)) Ev.int Cop.ltInt) (by simp; omega)
  have t3 : Tr c R (scopeAt 13) (argσ ["a", "b"] [.int a, .int b]) (inT ((elI ((elI (stm 13 0)).headD (.Pass ⟨0,0,0,0⟩))).headD (.Pass ⟨0,0,0,0⟩))) false := Tr.to (Tr.cmp hR (Ev.name (d := .int a) (by trivial)) Ev.int Cop.ltInt) (by simp; omega)
  refine wpAny_execs_cons (wpAny_If (weak (t1.go env _ _ _ s₁ R' X.at) fun b' s₂ ⟨e, k2⟩ => ?_))
  subst e
  have X2 := X.keeps k2
  refine wpAny_execs_cons (wpAny_If (weak (t2.go env _ _ _ s₂ R' X2.at) fun b' s₃ ⟨e, k3⟩ => ?_))
  subst e
  have X3 := X2.keeps k3
  refine wpAny_execs_cons (wpAny_If (weak (t3.go env _ _ _ s₃ R' X3.at) fun b' s₄ ⟨e, k4⟩ => ?_))
  subst e
  have X4 := X3.keeps k4
  have kk := ((k.trans k2).trans k3).trans k4
  refine wpAny_execs_cons (wpAny_Return_some (weak (EvZ.go (c := c) (r := R) (sc := scopeAt 13) (σ := argσ ["a", "b"] [.int a, .int b]) (P := P) (Q := Q) (d := d) ?_ env Y _ _ s₄ R' X4.at hPY hQY (h1.keeps kk.k) (h2.keeps kk.k)) fun w s₅ ⟨kp, a1, a2, hr⟩ => ?_))
  · exact EvZ.call (G.pos.ev (by decide +kernel)) G.pos.keep (EvL.cons (Ev.name (d := .int a) (by trivial)) (EvL.cons (Ev.name (d := .int b) (by trivial)) EvL.nil)) H
  refine ⟨?_, a1, a2, hr⟩
  obtain ⟨ha', ta, rfl, ka⟩ := kk
  obtain ⟨hb', tb, rfl, kb⟩ := kp
  exact ⟨hb', tb, rfl, fun b ob e n => kb b ob (ka b ob e) n⟩
end Mine

end
section
open PySem PySem.W PySem.Calls PyProof.Rows
set_option linter.unusedVariables false
set_option linter.unusedSimpArgs false
namespace Mine
local macro_rules | `(tactic| omega) => `(tactic| lia)

/-- what a dict of whole numbers and texts holds -/
inductive KV : List (Int × Str) → List (Int × Value) → Prop
  | nil : KV [] []
  | cons {k x t l kvs} (h : KV l kvs) : KV ((k, x) :: l) ((k, .str x t) :: kvs)
theorem KV.keys {l kvs} (h : KV l kvs) : kvs.map (·.1) = l.map (·.1) := by induction h <;> simp [*]
theorem KV.length {l kvs} (h : KV l kvs) : kvs.length = l.length := by induction h <;> simp [*]
theorem KV.append {l kvs l' kvs'} (h : KV l kvs) (h' : KV l' kvs') : KV (l ++ l') (kvs ++ kvs') := by
  induction h with
  | nil => exact h'
  | cons _ ih => exact .cons ih

section
variable {prog : Program} {w : World} {A : Around} {E : Value → Shared → Prop} {s : Shared}
/-- the two trees give the number and the text -/
def PairOk (M : Model) (p : Sem Value × Sem Value) (q : Int × Str) : Prop :=
  (∀ A s Q E, (∀ t tk, Q (.int q.1 t) { s with toks := tk }) → wpAny M A p.1 Q E s) ∧ ∀ A s Q E, (∀ t tk, Q (.str q.2 t) { s with toks := tk }) → wpAny M A p.2 Q E s
inductive PairsOk (M : Model) : List (Sem Value × Sem Value) → List (Int × Str) → Prop
  | nil : PairsOk M [] []
  | cons {p q ps qs} (h : PairOk M p q) (hs : PairsOk M ps qs) : PairsOk M (p :: ps) (q :: qs)
theorem PairsOk.length {M ps qs} (h : PairsOk M ps qs) : ps.length = qs.length := by induction h <;> simp [*]
theorem PairsOk.snoc {M ps qs p q} (h : PairsOk M ps qs) (hp : PairOk M p q) : PairsOk M (ps ++ [p]) (qs ++ [q]) := by
  induction h with
  | nil => exact .cons hp .nil
  | cons h1 _ ih => exact .cons h1 ih

theorem evalPairs_kv : ∀ {ps : List (Sem Value × Sem Value)} {l : List (Int × Str)} (_ : PairsOk (model prog w) ps l) (s : Shared) (Q : List (Value × Value) → Shared → Prop),
    (∀ vs kvs tk, Carries (intKind prog w) vs kvs → KV l kvs → Q vs { s with toks := tk }) → wpAny (model prog w) A (evalPairs ps) Q E s
  | _, _, .nil, s, Q, h => evalPairs_nil (h [] [] s.toks trivial .nil)
  | _, _, .cons (p := p) (q := q) hp hs, s, Q, h => by
    obtain ⟨p1, p2⟩ := p
    refine evalPairs_cons (hp.1 _ _ _ _ fun t tk => hp.2 _ _ _ _ fun t' tk' => evalPairs_kv hs _ _ fun vs kvs tk'' hc hk => h _ ((q.1, .str q.2 t') :: kvs) tk'' ⟨intKind_is _ _ _ _, rfl, hc⟩ (.cons hk))
theorem stored_fresh {kvs : List (Int × Value)} {k : Int} {v : Value} (h : k ∉ kvs.map (·.1)) : stored kvs k v = kvs ++ [(k, v)] := by
  unfold stored
  rw [if_neg]
  rw [List.any_eq_true]
  rintro ⟨kv, hkv, e⟩
  exact h (List.mem_map.mpr ⟨kv, hkv, of_decide_eq_true e⟩)

/-- the long road of a run -/
theorem long_kv {d : Addr} : ∀ {ps : List (Sem Value × Sem Value)} {l : List (Int × Str)} (_ : PairsOk (model prog w) ps l) (acc : List (Int × Value)) (s : Shared) (Q : PUnit → Shared → Prop),
    s.heap.DictOf (intKind prog w) d acc → ((acc.map (·.1)) ++ l.map (·.1)).Nodup → acc.length + l.length ≤ sizeLine →
    (∀ kvs h' tk, KV l kvs → h'.DictOf (intKind prog w) d (acc ++ kvs) → Heap.SameBut d s.heap h' → Q PUnit.unit { s with heap := h', toks := tk }) →
    wpAny (model prog w) A (forIn ps PUnit.unit fun (x : Sem Value × Sem Value) (_ : PUnit) => (do let kv ← x.1; let vv ← holding [kv] x.2; holding [kv, vv] (dictSet d kv vv); pure (ForInStep.yield PUnit.unit) : Sem (ForInStep PUnit))) Q E s
  | _, _, .nil, acc, s, Q, hd, hn, hz, h => by
    rw [List.forIn_nil]
    exact wpAny_pure (h [] s.heap s.toks .nil (by simpa using hd) (Heap.SameBut.refl _ _))
  | _, _, .cons (p := p) (q := q) (qs := qs) hp hs, acc, s, Q, hd, hn, hz, h => by
    rw [List.forIn_cons]
    have hk : q.1 ∉ acc.map (·.1) := fun m => by
      have := List.nodup_append.mp hn
      exact this.2.2 _ m _ (by simp) rfl
    refine wpAny_bind (wpAny_bind (hp.1 _ _ _ _ fun t tk => wpAny_bind (wpAny_holding (hp.2 _ _ _ _ fun t' tk' => wpAny_bind (wpAny_holding (wpAny_dictSet_pairs (hsz := by simp only [List.length_cons] at hz; omega) (intKind_is _ _ _ _) hd fun h₁ hm₁ hs₁ => wpAny_pure ?_))))))
    rw [stored_fresh hk] at hm₁
    refine long_kv hs (acc ++ [(q.1, .str q.2 t')]) _ Q hm₁ (by simpa using hn) (by simp only [List.length_cons, List.length_append, List.length_nil] at hz ⊢; omega) fun kvs h' tk₂ hkv hd' hs' => ?_
    have := h ((q.1, .str q.2 t') :: kvs) h' tk₂ (.cons hkv) (by simpa using hd') (hs₁.trans hs')
    exact this

theorem subDict_kv {ps : List (Sem Value × Sem Value)} {l : List (Int × Str)} (hp : PairsOk (model prog w) ps l) (hn : (l.map (·.1)).Nodup) (hz : l.length ≤ 1000) {Q : Addr → Shared → Prop}
    (h : ∀ kvs h' tk, KV l kvs → h'.DictOf (intKind prog w) s.heap.objs.size kvs → (∀ b o, s.heap.get? b = some o → h'.get? b = some o) → s.heap.objs.size < h'.objs.size → Q s.heap.objs.size { s with heap := h', toks := tk }) :
    wpAny (model prog w) A (subDict ps) Q E s := by
  have hsz : l.length ≤ sizeLine := by unfold sizeLine; omega
  have d0 : (s.heap.push { cls := .type "dict", data := .dict #[] }).DictOf (intKind prog w) s.heap.objs.size [] :=
    ⟨_, #[], 0, Heap.get?_push_size _ rfl, ⟨rfl, rfl, rfl⟩, rfl, fun e he => by simp at he, .nil, by simp⟩
  have keep : ∀ h', Heap.SameBut s.heap.objs.size (s.heap.push { cls := .type "dict", data := .dict #[] }) h' → (∀ b o, s.heap.get? b = some o → h'.get? b = some o) ∧ s.heap.objs.size < h'.objs.size := fun h' hs =>
    ⟨fun b o e => (hs.2 b (Nat.ne_of_lt (Heap.lt_size e))).trans (Heap.get?_push_of_some _ e), by rw [hs.1, Heap.size_push]; exact Nat.lt_succ_self _⟩
  unfold subDict
  refine wpAny_bind (wpAny_alloc (wpAny_bind (wpAny_holding ?_)))
  split
  · refine wpAny_bind (evalPairs_kv hp _ _ fun vs kvs tk hc hk => wpAny_holding ?_)
    refine wpAny_bind (wpAny_storeAll (knd := intKind prog w) vs kvs [] _ _ hc d0 (by rw [hk.length]; simpa using hsz) fun h' hm' hs' => wpAny_pure (wpAny_pure ?_))
    rw [merged_nil_of_nodup _ (by rw [hk.keys]; exact hn)] at hm'
    exact h kvs h' _ hk hm' (keep h' hs').1 (keep h' hs').2
  · refine wpAny_bind (wpAny_rule (wpAny_bind (long_kv hp [] _ _ d0 (by simpa using hn) (by simpa using hsz) fun kvs h' tk hk hm' hs' => wpAny_pure (wpAny_pure ?_))))
    exact h kvs h' _ hk (by simpa using hm') (keep h' hs').1 (keep h' hs').2
end
end Mine

end
section
open PySem PySem.W PySem.Calls PyProof.Rows
set_option linter.unusedVariables false
set_option linter.unusedSimpArgs false
namespace Mine
local macro_rules | `(tactic| omega) => `(tactic| lia)
section
variable {prog : Program} {w : World} {A : Around} {E : Value → Shared → Prop} {s : Shared}

theorem dictPut_fresh {d : Addr} {kvs : List (Int × Value)} {k : Int} {t : Tok} {v : Value} {Q : Unit → Shared → Prop} (hm : s.heap.DictOf (intKind prog w) d kvs) (hk : k ∉ kvs.map (·.1)) (hsz : kvs.length ≤ sizeLine)
    (hQ : ∀ h', h'.DictOf (intKind prog w) d (kvs ++ [(k, v)]) → Heap.SameBut d s.heap h' → Q () { s with heap := h' }) :
    wpAny (model prog w) A (dictPut d ((intKind prog w).hash k) (.int k t) v) Q E s := by
  obtain ⟨o, es, ep, ho, hc, hd, hks, hp, hn⟩ := hm
  have hes : es.size ≤ sizeLine := by
    have e1 := hp.length
    have e2 : es.toList.length = es.size := by simp
    omega
  have hkey := intKind_is prog w k t
  unfold dictPut
  refine wpAny_bind (wpAny_dictFind_of hkey ho hd hks ?_)
  have hidx : (es.findIdx? fun e => (intKind prog w).is k e.key) = kvs.findIdx? fun kv => decide (kv.1 = k) := by
    rw [← hp.findIdx k]; obtain ⟨l⟩ := es; simp
  cases hi : es.findIdx? fun e => (intKind prog w).is k e.key with
  | some i =>
    rw [hidx] at hi
    obtain ⟨hlt, h2, _⟩ := List.findIdx?_eq_some_iff_getElem.mp hi
    exact absurd (List.mem_map.mpr ⟨kvs[i], List.getElem_mem _, of_decide_eq_true h2⟩) hk
  | none =>
    refine wpAny_updateDictKeys (hz := hes) ho hd (hQ _ ⟨_, _, ep + 1, Heap.get?_update_self _ ho (Obj.isFreed_of_dict (Obj.data_mapDictKeys hd _)),
      hc.mapDictKeys _, Obj.data_mapDictKeys hd _, hks.push hkey _, ?_, ?_⟩ (Heap.SameBut.update ..))
    · have := hp.append hkey ((intKind prog w).hash k) v
      obtain ⟨l⟩ := es
      simpa using this
    · rw [List.map_append, List.nodup_append]
      refine ⟨hn, by simp, ?_⟩
      intro a ha b hb
      simp only [List.map_cons, List.map_nil, List.mem_singleton] at hb
      subst hb
      exact fun e => hk (e ▸ ha)

theorem pairs_key {es : List DictEntry} {kvs : List (Int × Value)} (h : Pairs (intKind prog w) es kvs) : ∀ {i : Nat} {e : DictEntry}, es[i]? = some e → ∃ k v t, kvs[i]? = some (k, v) ∧ e.key = .int k t ∧ e.val = v := by
  intro i e he
  have hl := h.length
  have hi : i < kvs.length := by
    rw [← hl]
    exact (List.getElem?_eq_some_iff.mp he).1
  have hkv : kvs[i]? = some (kvs[i].1, kvs[i].2) := List.getElem?_eq_getElem hi
  obtain ⟨h1, h2⟩ := h.get? he hkv
  obtain ⟨t, ht⟩ := Value.isInt_shape (show Value.isInt kvs[i].1 e.key = true from h1)
  exact ⟨_, _, t, hkv, ht, h2⟩

theorem mergeMapping_kv {d o : Addr} {kvs more : List (Int × Value)} {Q : Unit → Shared → Prop} (hdo : d ≠ o) (hoS : (o == sysModules) = false)
    (hd : s.heap.DictOf (intKind prog w) d kvs) (ho : s.heap.DictOf (intKind prog w) o more) (h0 : kvs ≠ []) (hn : ((kvs ++ more).map (·.1)).Nodup) (hz : kvs.length + more.length ≤ sizeLine)
    (hQ : ∀ h', h'.DictOf (intKind prog w) d (kvs ++ more) → Heap.SameBut d s.heap h' → Q () { s with heap := h' }) :
    wpAny (model prog w) A (mergeMapping d (.ref o) false) Q E s := by
  obtain ⟨od, esd, epd, hod, hcd, hdd, hkd, hpd, hnd⟩ := id hd
  obtain ⟨oo, eso, epo, hoo, hco, hdo', hko, hpo, hno⟩ := id ho
  unfold mergeMapping
  refine wpAny_bind (wpAny_isInstance ho.typeIs isSubtype_dict_dict ?_)
  rw [if_pos rfl]
  refine wpAny_bind (wpAny_specialOf ho.typeIs F.slot_dict_iter.lookup (wpAny_bind (wpAny_pure ?_)))
  simp only [beq_self_eq_true]
  rw [hoS]
  simp only [Bool.false_eq_true, if_false]
  refine wpAny_bind (wpAny_dictEntries hod hdd ?_)
  have hne : esd.isEmpty = false := by
    cases q : esd.isEmpty with
    | false => rfl
    | true =>
      have h0' : esd = #[] := Array.isEmpty_iff.mp q
      have := hpd.length
      rw [h0'] at this
      exact absurd (List.length_eq_zero_iff.mp (by simpa using this.symm)) h0
  rw [hne]
  simp only [Bool.false_eq_true, if_false]
  refine wpAny_bind (wpAny_dictEntries hoo hdo' ?_)
  refine wpAny_bind (wpAny_dictEpoch hoo hdo' ?_)
  refine wpAny_bind ?_
  have hlen : more.length = eso.size := by rw [← hpo.length]; simp
  refine wpAny_forIn_list _
    (fun rest _ s' => ∃ h' i, s' = { s with heap := h' } ∧ rest = List.range' i (eso.size - i) ∧ i ≤ eso.size ∧ h'.DictOf (intKind prog w) d (kvs ++ more.take i) ∧ h'.get? o = some oo ∧ Heap.SameBut d s.heap h')
    _ ?_ ?_ _ _ ⟨s.heap, 0, rfl, by rw [List.range_eq_range']; simp, Nat.zero_le _, by simpa using hd, hoo, Heap.SameBut.refl _ _⟩
  · rintro x rest b s' ⟨h', i, rfl, hr, hi, hd', hoo', hs'⟩
    have hlt : i < eso.size := by
      rcases Nat.lt_or_ge i eso.size with h | h
      · exact h
      · rw [Nat.sub_eq_zero_of_le h] at hr; simp at hr
    obtain ⟨rfl, hrest⟩ : x = i ∧ rest = List.range' (i + 1) (eso.size - (i + 1)) := by
      have e : eso.size - i = (eso.size - (i + 1)) + 1 := by omega
      rw [e, List.range'_succ] at hr
      injection hr with h1 h2
      exact ⟨h1, h2⟩
    refine wpAny_bind (wpAny_dictEntries hoo' hdo' ?_)
    have hx : eso.toList[x]? = some eso[x] := by simp [hlt]
    rw [Array.getElem?_eq_getElem hlt]
    obtain ⟨k, v, t, hkv, hkey, hval⟩ := pairs_key hpo hx
    have hxm : x < more.length := by rw [hlen]; exact hlt
    obtain ⟨k', hkey', hhash⟩ := hko eso[x] (Array.getElem_mem hlt)
    have hkk : k' = k := by rw [hkey] at hkey'; (have : k = k' := by simpa [intKind, Value.isInt] using hkey'); exact this.symm
    subst hkk
    have hfresh : k' ∉ (kvs ++ more.take x).map (·.1) := fun m => by
      have e1 : more = more.take x ++ (more[x] :: more.drop (x + 1)) := by rw [← List.drop_eq_getElem_cons hxm, List.take_append_drop]
      rw [e1, ← List.append_assoc, List.map_append, List.nodup_append] at hn
      have e2 : more[x] = (k', v) := by rw [List.getElem?_eq_getElem hxm] at hkv; exact Option.some.inj hkv
      exact hn.2.2 _ m _ (by rw [List.map_cons, e2]; exact .head _) rfl
    dsimp only
    refine wpAny_bind (wpAny_holding ?_)
    rw [hhash, hkey, hval]
    refine dictPut_fresh hd' hfresh (by rw [List.length_append, List.length_take]; omega) fun h'' hd'' hs'' => ?_
    have hoo'' : h''.get? o = some oo := (hs''.2 o (Ne.symm hdo)).trans hoo'
    refine wpAny_bind (wpAny_dictEpoch hoo'' hdo' ?_)
    rw [if_neg (by simp)]
    refine wpAny_pure ⟨h'', x + 1, rfl, hrest, hlt, ?_, hoo'', hs'.trans hs''⟩
    rw [List.take_add_one, hkv, ← List.append_assoc]; exact hd''
  · rintro b s' ⟨h', i, rfl, hr, hi, hd', hoo', hs'⟩
    have hin : i = eso.size := by
      rcases Nat.lt_or_ge i eso.size with h | h
      · have e : eso.size - i = (eso.size - (i + 1)) + 1 := by omega
        rw [e, List.range'_succ] at hr; exact nomatch hr
      · exact Nat.le_antisymm hi h
    rw [hin, ← hlen, List.take_length] at hd'
    exact wpAny_pure (hQ h' hd' hs')
end
end Mine

end
section
open PySem PySem.W PySem.Calls PyProof.Rows
set_option linter.unusedVariables false
set_option linter.unusedSimpArgs false
namespace Mine
local macro_rules | `(tactic| omega) => `(tactic| lia)
section
variable {prog : Program} {w : World} {A : Around} {E : Value → Shared → Prop} {s : Shared}

/-- what the display has made so far -/
def MainOk (prog : Program) (w : World) (m : Option Addr) (done : List (Int × Str)) (h : Heap) : Prop := match m with
  | none => done = []
  | some d => done ≠ [] ∧ (d == sysModules) = false ∧ ∃ kvs, KV done kvs ∧ h.DictOf (intKind prog w) d kvs
theorem MainOk.keeps {m done} {h h' : Heap} (x : MainOk prog w m done h) (k : ∀ b o, h.get? b = some o → h'.get? b = some o) : MainOk prog w m done h' := by
  cases m with
  | none => exact x
  | some d => obtain ⟨a, b, kvs, c, d⟩ := x; exact ⟨a, b, kvs, c, d.keep k⟩

/-- one flush -/
def flushT (run : List (Sem Value × Sem Value)) (main : Option Addr) : Sem (Option Addr) := do
  if run.isEmpty then return main
  match main with
  | none => return some (← subDict run)
  | some d =>
    let sub ← holding [.ref d] (subDict run)
    (holding [.ref d, .ref sub] (mergeMapping d (.ref sub) false)).onRaise fun x => do let _ ← holding [.ref d, x] (runValue (.builtin "proto.let_go" {}))
    return some d
/-- what the display's own object is, and what stood before it -/
def Kb (lo : Nat) (h h' : Heap) : Prop := (∀ b o, b < lo → h.get? b = some o → h'.get? b = some o) ∧ h.objs.size ≤ h'.objs.size
theorem Kb.refl {lo h} : Kb lo h h := ⟨fun _ _ _ e => e, Nat.le_refl _⟩
theorem Kb.trans {lo h h' h''} (a : Kb lo h h') (b : Kb lo h' h'') : Kb lo h h'' := ⟨fun x o l e => b.1 x o l (a.1 x o l e), Nat.le_trans a.2 b.2⟩
def AboveM (lo : Nat) (m : Option Addr) : Prop := match m with | none => True | some d => lo ≤ d

theorem flush_kv {lo : Nat} (hlo : 4 ≤ lo) {run : List (Sem Value × Sem Value)} {l done : List (Int × Str)} {main : Option Addr} (hls : lo ≤ s.heap.objs.size) (hp : PairsOk (model prog w) run l) (hm : MainOk prog w main done s.heap) (ha : AboveM lo main) (hn : ((done ++ l).map (·.1)).Nodup) (hz : done.length + l.length ≤ 1000) {Q : Option Addr → Shared → Prop}
    (h : ∀ m' h' tk, MainOk prog w m' (done ++ l) h' → AboveM lo m' → Kb lo s.heap h' → Q m' { s with heap := h', toks := tk }) : wpAny (model prog w) A (flushT run main) Q E s := by
  unfold flushT
  cases run with
  | nil =>
    cases hp
    exact wpAny_pure (h main s.heap s.toks (by simpa using hm) ha .refl)
  | cons p run =>
    simp only [List.isEmpty_cons, Bool.false_eq_true, if_false]
    have hl0 : l ≠ [] := by rintro rfl; cases hp
    have hnl : (l.map (·.1)).Nodup := by rw [List.map_append, List.nodup_append] at hn; exact hn.2.1
    have hsys : ∀ a : Nat, lo ≤ a → ((a : Addr) == sysModules) = false := fun a h1 => beq_eq_false_iff_ne.mpr fun e => by
      have e' : a = 1 := e
      omega
    cases main with
    | none =>
      obtain rfl : done = [] := hm
      refine wpAny_bind (subDict_kv hp hnl (by omega) fun kvs h' tk hk hd keep hs => wpAny_pure ?_)
      exact h _ h' tk ⟨by simpa using hl0, hsys _ hls, kvs, by simpa using hk, hd⟩ hls ⟨fun b o _ e => keep b o e, Nat.le_of_lt hs⟩
    | some d =>
      obtain ⟨hd0, hds, kvs, hkd, hdd⟩ := hm
      refine wpAny_bind (wpAny_holding (subDict_kv hp hnl (by omega) fun kvs' h' tk hk hd keep hs => ?_))
      have hdlt : d < s.heap.objs.size := by obtain ⟨o, es, ep, ho, _⟩ := hdd; exact Heap.lt_size ho
      refine wpAny_bind (wpAny_onRaise (wpAny_holding (mergeMapping_kv (Nat.ne_of_lt hdlt) (hsys _ hls) (hdd.keep keep) hd ?_ ?_ ?_ fun h'' hd'' hs'' => wpAny_pure ?_)))
      · intro e; subst e; cases hkd; exact hd0 rfl
      · rw [List.map_append, hkd.keys, hk.keys, ← List.map_append]; exact hn
      · rw [hkd.length, hk.length]; unfold sizeLine; omega
      · refine h _ h'' tk ⟨by simp [hd0], hds, _, hkd.append hk, hd''⟩ ha ⟨fun b o hb e => ?_, ?_⟩
        · have hbd : b ≠ d := fun q => by subst q; have : lo ≤ b := ha; omega
          exact (hs''.2 b hbd).trans (keep b o e)
        · rw [hs''.1]; exact Nat.le_of_lt hs

theorem dictDisplay_eq (items : List (Option (Sem Value) × Sem Value)) : dictDisplay items = (do
    let st ← forIn items ((none : Option Addr), ([] : List (Sem Value × Sem Value))) fun x st => (do
      match x.1 with
      | some k =>
        let run := st.2 ++ [(k, x.2)]
        if run.length == 17 then
          let main ← flushT run st.1
          pure (ForInStep.yield (main, []))
        else pure (ForInStep.yield (st.1, run))
      | none => do
        let main ← flushT st.2 st.1
        let d ← match main with
          | some d => pure d
          | none => alloc { cls := .type "dict", data := .dict #[] }
        let m ← holding [.ref d] x.2
        (((holding [.ref d, m] (mergeMapping d m false)).onRaise fun x => do let _ ← holding [.ref d, m, x] (runValue (.builtin "proto.let_go" {}))).tryCatch fun e => do
          if ← isInstance e (.type "AttributeError") then
            rule "dict.display.not-a-mapping"; raiseError "TypeError" s!"'{← typeNameOf m}' object is not a mapping"
          throw e).onRaise fun x => do let _ ← holding [.ref d, x] (runValue (.builtin "proto.let_go" {}))
        pure (ForInStep.yield (some d, [])))
    match ← flushT st.2 st.1 with
    | some d => pure (.ref d)
    | none => newDict) := by
  unfold dictDisplay
  rfl
end
end Mine

end
section
open PySem PySem.W PySem.Calls PyProof.Rows
set_option linter.unusedVariables false
set_option linter.unusedSimpArgs false
namespace Mine
local macro_rules | `(tactic| omega) => `(tactic| lia)
section
variable {prog : Program} {w : World} {A : Around} {E : Value → Shared → Prop}

theorem display_loop {lo : Nat} (hlo : 4 ≤ lo) (f : (Option (Sem Value) × Sem Value) → (Option Addr × List (Sem Value × Sem Value)) → Sem (ForInStep (Option Addr × List (Sem Value × Sem Value))))
    (hf : ∀ k v st, f (some k, v) st = (let run := st.2 ++ [(k, v)]; if (run.length == 17) = true then (flushT run st.1 >>= fun main => pure (ForInStep.yield (main, []))) else pure (ForInStep.yield (st.1, run)))) :
    ∀ {ps : List (Sem Value × Sem Value)} {l : List (Int × Str)} (_ : PairsOk (model prog w) ps l) (main : Option Addr) (run : List (Sem Value × Sem Value)) (lr done : List (Int × Str)) (s : Shared) (Q : Option Addr × List (Sem Value × Sem Value) → Shared → Prop),
    lo ≤ s.heap.objs.size → PairsOk (model prog w) run lr → MainOk prog w main done s.heap → AboveM lo main → ((done ++ lr ++ l).map (·.1)).Nodup → done.length + lr.length + l.length ≤ 1000 →
    (∀ m' run' lr' done' h' tk, PairsOk (model prog w) run' lr' → MainOk prog w m' done' h' → AboveM lo m' → done' ++ lr' = done ++ lr ++ l → Kb lo s.heap h' → Q (m', run') { s with heap := h', toks := tk }) →
    wpAny (model prog w) A (forIn (ps.map fun p => (some p.1, p.2)) (main, run) f) Q E s
  | _, _, .nil, main, run, lr, done, s, Q, hls, hr, hm, ha, hn, hz, h => by
    rw [List.map_nil, List.forIn_nil]
    exact wpAny_pure (h main run lr done s.heap s.toks hr hm ha (by simp) .refl)
  | _, _, .cons (p := p) (q := q) (ps := ps) (qs := qs) hp hs, main, run, lr, done, s, Q, hls, hr, hm, ha, hn, hz, h => by
    obtain ⟨pk, pv⟩ := p
    rw [List.map_cons, List.forIn_cons, hf]
    dsimp only
    have hr' := hr.snoc hp
    have e : done ++ (lr ++ [q]) ++ qs = done ++ lr ++ q :: qs := by simp
    simp only [List.length_cons] at hz
    split
    · refine wpAny_bind (wpAny_bind (flush_kv hlo hls hr' hm ha ?_ (by simp only [List.length_append, List.length_singleton]; omega) fun m' h' tk hm' ha' kb => wpAny_pure ?_))
      · rw [← e, List.map_append, List.nodup_append] at hn
        exact hn.1
      · refine display_loop hlo f hf hs m' [] [] (done ++ (lr ++ [q])) _ Q (Nat.le_trans hls kb.2) .nil hm' ha' (by rw [List.append_nil, e]; exact hn) (by simp only [List.length_append, List.length_singleton, List.length_nil]; omega) fun m2 run2 lr2 done2 h2 tk2 x1 x2 x3 x4 x5 => ?_
        exact h m2 run2 lr2 done2 h2 tk2 x1 x2 x3 (by rw [x4, List.append_nil, e]) (kb.trans x5)
    · refine wpAny_bind (wpAny_pure ?_)
      refine display_loop hlo f hf hs main (run ++ [(pk, pv)]) (lr ++ [q]) done _ Q hls hr' hm ha (by rw [e]; exact hn) (by simp only [List.length_append, List.length_singleton]; omega) fun m2 run2 lr2 done2 h2 tk2 x1 x2 x3 x4 x5 => ?_
      exact h m2 run2 lr2 done2 h2 tk2 x1 x2 x3 (by rw [x4, e]) x5

theorem dictDisplay_kv {s : Shared} {ps : List (Sem Value × Sem Value)} {l : List (Int × Str)} (hs4 : 4 ≤ s.heap.objs.size) (hp : PairsOk (model prog w) ps l) (h0 : l ≠ []) (hn : (l.map (·.1)).Nodup) (hz : l.length ≤ 1000) {Q : Value → Shared → Prop}
    (h : ∀ d kvs h' tk, s.heap.objs.size ≤ d → (d == sysModules) = false → KV l kvs → h'.DictOf (intKind prog w) d kvs → (∀ b o, s.heap.get? b = some o → h'.get? b = some o) → Q (.ref d) { s with heap := h', toks := tk }) :
    wpAny (model prog w) A (dictDisplay (ps.map fun p => (some p.1, p.2))) Q E s := by
  rw [dictDisplay_eq]
  refine wpAny_bind (display_loop hs4 _ (fun k v st => ?_) hp none [] [] [] s _ (Nat.le_refl _) .nil rfl trivial (by simpa using hn) (by simpa using hz) fun m' run' lr' done' h' tk hr hm ha e kb => ?_)
  · rfl
  refine wpAny_bind (flush_kv hs4 (by exact kb.2) hr hm ha (by rw [e]; simpa using hn) (by have := congrArg List.length e; simp only [List.length_append, List.length_nil] at this; omega) fun m2 h2 tk2 hm2 ha2 kb2 => ?_)
  rw [e] at hm2
  cases m2 with
  | none => exact absurd (show [] ++ [] ++ l = [] from hm2) (by simpa using h0)
  | some d =>
    obtain ⟨_, hds, kvs, hk, hd⟩ := hm2
    exact wpAny_pure (h d kvs h2 tk2 ha2 hds (by simpa using hk) hd fun b o eb => (kb.trans kb2).1 b o (Heap.lt_size eb) eb)

/-- the number and the text of each pair, as written -/
inductive ExV where
  | name (n : Str) (p : Pos)
  | int (i : Int) (k : Nat) (p : Pos)
  | str (x : Str) (k : Nat) (p : Pos)
  | dict (ks : List (Option Expr)) (vs : List Expr) (p : Pos)
  | other
def exV (e : Expr) : ExV := match e with
  | .Name n p => .name n p
  | .Dict ks vs p => .dict ks vs p
  | .Constant c k p => (match c with
    | .int i => .int i k p
    | .str x => .str x k p
    | _ => .other)
  | _ => .other
def ExV.back : ExV → Option Expr
  | .name n p => some (.Name n p)
  | .int i k p => some (.Constant (.int i) k p)
  | .str x k p => some (.Constant (.str x) k p)
  | .dict ks vs p => some (.Dict ks vs p)
  | .other => none
theorem exV_is {e e' : Expr} (h : (exV e).back = some e') : e = e' := by
  cases e <;> first
    | (cases h; done)
    | (cases h; rfl)
    | (rename_i c k p; cases c <;> first | (cases h; done) | (cases h; rfl))
def exInt? (e : Expr) : Option Int := match exV e with
  | .int i _ _ => some i
  | _ => none
def exStr? (e : Expr) : Option Str := match exV e with
  | .str x _ _ => some x
  | _ => none
theorem exInt_is {e : Expr} {i : Int} (h : exInt? e = some i) : ∃ kd p, e = .Constant (.int i) kd p := by
  unfold exInt? at h
  cases q : exV e <;> rw [q] at h <;> cases h
  exact ⟨_, _, exV_is (by rw [q]; rfl)⟩
theorem exStr_is {e : Expr} {x : Str} (h : exStr? e = some x) : ∃ kd p, e = .Constant (.str x) kd p := by
  unfold exStr? at h
  cases q : exV e <;> rw [q] at h <;> cases h
  exact ⟨_, _, exV_is (by rw [q]; rfl)⟩
def readPairs : List (Option Expr) → List Expr → Option (List (Int × Str))
  | [], [] => some []
  | k :: ks, v :: vs => (k.bind exInt?).bind fun i => (exStr? v).bind fun x => (readPairs ks vs).map ((i, x) :: ·)
  | _, _ => none
theorem readPairs_ok {env : Env} {pos : Pos} : ∀ {ks : List (Option Expr)} {vs : List Expr} {l : List (Int × Str)}, readPairs ks vs = some l →
    ∃ ps, (evalEachOpt ks env).zip ((evalEach vs env).map fun v => do let x ← v; standAt pos; pure x) = ps.map (fun p => (some p.1, p.2)) ∧ PairsOk (model prog w) ps l
  | [], [], l, h => by simp only [readPairs, Option.some.injEq] at h; subst h; exact ⟨[], rfl, .nil⟩
  | [], _ :: _, l, h => by cases h
  | _ :: _, [], l, h => by cases h
  | ke :: ks, ve :: vs, l, h => by
    simp only [readPairs, Option.bind_eq_some_iff, Option.map_eq_some_iff] at h
    obtain ⟨i, ⟨ke', hke, hi⟩, x, hx, l', h', rfl⟩ := h
    subst hke
    obtain ⟨kd, p, rfl⟩ := exInt_is hi
    obtain ⟨kd', p', rfl⟩ := exStr_is hx
    obtain ⟨ps, e, hp⟩ := readPairs_ok (env := env) (pos := pos) h'
    refine ⟨(eval (.Constant (.int i) kd p) env, do let x ← eval (.Constant (.str x) kd' p') env; standAt pos; pure x) :: ps, ?_, .cons ⟨fun A s Q E h => ?_, fun A s Q E h => ?_⟩ hp⟩
    · show (some (eval (.Constant (.int i) kd p) env), (do let x ← eval (.Constant (.str x) kd' p') env; standAt pos; pure x)) :: (evalEachOpt ks env).zip ((evalEach vs env).map fun v => do let x ← v; standAt pos; pure x) = _
      rw [e]; rfl
    · exact wpAny_Constant_int (env := env) (k := kd) (pos := p) (h _ _)
    · exact wpAny_bind (wpAny_Constant_str (env := env) (k := kd') (pos := p') (wpAny_bind (wpAny_standAt (wpAny_pure (h _ _)))))

theorem eval_dict {s : Shared} {env : Env} {keys : List (Option Expr)} {values : List Expr} {pos : Pos} {l : List (Int × Str)} (hs4 : 4 ≤ s.heap.objs.size) (hr : readPairs keys values = some l) (h0 : l ≠ []) (hn : (l.map (·.1)).Nodup) (hz : l.length ≤ 1000) {Q : Value → Shared → Prop}
    (h : ∀ d kvs h' tk, s.heap.objs.size ≤ d → (d == sysModules) = false → KV l kvs → h'.DictOf (intKind prog w) d kvs → (∀ b o, s.heap.get? b = some o → h'.get? b = some o) → Q (.ref d) { s with heap := h', toks := tk }) :
    wpAny (model prog w) A (eval (.Dict keys values pos) env) Q E s := by
  obtain ⟨ps, e, hp⟩ := readPairs_ok (prog := prog) (w := w) (env := env) (pos := pos) hr
  rw [arm_eval_Dict, e]
  exact wpAny_bind (wpAny_standAt (dictDisplay_kv hs4 hp h0 hn hz h))
end
end Mine

end
section
open PySem PySem.W PySem.Calls PyProof.Rows
set_option linter.unusedVariables false
set_option linter.unusedSimpArgs false
namespace Mine
/-- what a statement of the top keeps -/
def Kx (Pl : Addr) (h h' : Heap) : Prop := ∀ b o, b ≠ Pl → b ≠ mainGlobals → h.get? b = some o → h'.get? b = some o
theorem Kx.trans {Pl h h' h''} (a : Kx Pl h h') (b : Kx Pl h' h'') : Kx Pl h h'' := fun x o n1 n2 e => b x o n1 n2 (a x o n1 n2 e)

structure Item where
  st : Stmt
  name : Str
  line : Nat
  V : Program → World → Addr → Nat → Nat → Value → Heap → Prop

/-- the built-in names stand -/
def Blt (h : Heap) : Prop := ∃ mb, h.Ns builtinsNs mb ∧ ∀ x : Str, x ≠ "__name__" → mb x = bootBuiltins x
def Free3 (mg : Str → Option Value) : Prop := mg (Str.ofString "set") = none ∧ mg (Str.ofString "list") = none ∧ mg (Str.ofString "range") = none

structure Item.Ok (prog : Program) (it : Item) : Prop where
  step : ∀ (w : World) (A : Around) (E : Value → Shared → Prop) (s : Shared) (c Pl F : Addr) (mg : Str → Option Value) (l : List (Pos × Addr)) (Q : Flow → Shared → Prop), A.handled = none → s.heap.Main mg c Pl (triples l).toArray → Blt s.heap → Free3 mg → (∀ q ∈ l, q.1.line < it.line) →
    (∀ v h' tk l', h'.Main (fun x => if x = it.name then some v else mg x) c Pl (triples l').toArray → (∀ q ∈ l', q.1.line ≤ it.line) → it.V prog w Pl s.heap.objs.size h'.objs.size v h' → Kx Pl s.heap h' → s.heap.objs.size ≤ h'.objs.size → Q .next { s with heap := h', toks := tk }) →
    wpAny (model prog w) A (exec it.st (mainEnv prog c F)) Q E s
  stays : ∀ (w : World) (Pl : Addr) (lo hi : Nat) (v : Value) (h h' : Heap), 4 ≤ lo → Pl < lo → Kx Pl h h' → it.V prog w Pl lo hi v h → it.V prog w Pl lo hi v h'
  free : it.name ≠ Str.ofString "set" ∧ it.name ≠ Str.ofString "list" ∧ it.name ≠ Str.ofString "range"

inductive Made (prog : Program) (w : World) (Pl : Addr) (h : Heap) : Nat → List Item → List Value → Prop
  | nil {lo} : Made prog w Pl h lo [] []
  | cons {lo mid it v its vs} (h1 : it.V prog w Pl lo mid v h) (hle : lo ≤ mid) (hr : Made prog w Pl h mid its vs) : Made prog w Pl h lo (it :: its) (v :: vs)
def mgAfter : List Item → List Value → (Str → Option Value) → Str → Option Value
  | it :: its, v :: vs, m => mgAfter its vs (fun x => if x = it.name then some v else m x)
  | _, _, m => m

theorem main_blt {h h' : Heap} {Pl : Addr} (k : Kx Pl h h') (hP : Pl ≠ builtinsNs) (b : Blt h) : Blt h' := by
  obtain ⟨mb, hn, hb⟩ := b
  exact ⟨mb, hn.at fun o e => k _ o (Ne.symm hP) (by decide) e, hb⟩

theorem run_items {prog : Program} {w : World} {A : Around} {E : Value → Shared → Prop} (hA : A.handled = none) {c Pl F : Addr} : ∀ (its : List Item), (∀ it ∈ its, it.Ok prog) → its.Pairwise (fun a b => a.line < b.line) →
    ∀ (s : Shared) (mg : Str → Option Value) (l : List (Pos × Addr)) (Q : Flow → Shared → Prop), s.heap.Main mg c Pl (triples l).toArray → Blt s.heap → Free3 mg → (∀ q ∈ l, ∀ it ∈ its, q.1.line < it.line) →
    (∀ vs h' tk l', h'.Main (mgAfter its vs mg) c Pl (triples l').toArray → Made prog w Pl h' s.heap.objs.size its vs → Kx Pl s.heap h' → Q .next { s with heap := h', toks := tk }) →
    wpAny (model prog w) A (execs (its.map (·.st)) (mainEnv prog c F)) Q E s
  | [], _, _, s, mg, l, Q, hm, hb, hf, hl, h => wpAny_execs_nil (h [] s.heap s.toks l hm .nil fun _ _ _ _ e => e)
  | it :: its, hok, hpw, s, mg, l, Q, hm, hb, hf, hl, h => by
    have hP4 : mainGlobals < Pl := hm.low.2
    obtain ⟨p1, p2⟩ := List.pairwise_cons.mp hpw
    have ok := hok it (.head _)
    refine wpAny_execs_cons (ok.step w A E s c Pl F mg l _ hA hm hb hf (fun q hq => hl q hq it (.head _)) fun v h1 tk1 l1 hm1 hl1 hv hk hsz => ?_)
    refine run_items hA its (fun i hi => hok i (.tail _ hi)) p2 _ _ l1 Q hm1 (main_blt hk (Nat.ne_of_gt (Nat.lt_trans (by decide) hP4)) hb) ?_ (fun q hq i hi => Nat.lt_of_le_of_lt (hl1 q hq) (p1 i hi)) fun vs h' tk l' hm' hmade hk' => ?_
    · obtain ⟨f1, f2, f3⟩ := ok.free
      refine ⟨?_, ?_, ?_⟩ <;> simp only []
      · rw [if_neg (Ne.symm f1)]; exact hf.1
      · rw [if_neg (Ne.symm f2)]; exact hf.2.1
      · rw [if_neg (Ne.symm f3)]; exact hf.2.2
    · refine h (v :: vs) h' tk l' hm' (.cons (ok.stays w Pl _ _ v h1 h' (Nat.lt_of_lt_of_le (by decide : 3 < 4) (Nat.le_trans hP4 (Nat.le_of_lt hm.code.lt.2))) hm.code.lt.2 hk' hv) hsz hmade) (hk.trans hk')

/-- a name's last binding -/
def lastIdx (n : Str) : List Str → Option Nat
  | [] => none
  | x :: xs => match lastIdx n xs with
    | some i => some (i + 1)
    | none => if n = x then some 0 else none
theorem mgAfter_get {prog : Program} {w : World} {Pl : Addr} {h : Heap} (n : Str) {lo : Nat} {its : List Item} {vs : List Value} {m : Str → Option Value} (H : Made prog w Pl h lo its vs) :
    mgAfter its vs m n = match lastIdx n (its.map (·.name)) with | some i => vs[i]? | none => m n := by
  induction H generalizing m with
  | nil => rfl
  | @cons lo mid it v its vs h1 hle hr ih =>
    show mgAfter its vs (fun x => if x = it.name then some v else m x) n = _
    have e0 : lastIdx n ((it :: its).map (·.name)) = match lastIdx n (its.map (·.name)) with
      | some i => some (i + 1)
      | none => if n = it.name then some 0 else none := rfl
    rw [ih, e0]
    cases lastIdx n (its.map (·.name)) with
    | some i => rfl
    | none =>
      by_cases e : n = it.name
      · simp [e]
      · simp [e]
theorem Made.get {prog : Program} {w : World} {Pl : Addr} {h : Heap} {lo : Nat} {its : List Item} {vs : List Value} (H : Made prog w Pl h lo its vs) : ∀ {i : Nat} {it : Item}, its[i]? = some it → ∃ v a b, vs[i]? = some v ∧ lo ≤ a ∧ a ≤ b ∧ it.V prog w Pl a b v h := by
  induction H with
  | nil => intro i it e; cases e
  | @cons lo mid it0 v its vs h1 hle hr ih =>
    intro i it e
    cases i with
    | zero => cases e; exact ⟨_, lo, mid, rfl, Nat.le_refl _, hle, h1⟩
    | succ i =>
      obtain ⟨v, a, b, q1, q2, q3⟩ := ih (i := i) e
      exact ⟨v, a, b, q1, Nat.le_trans hle q2, q3⟩
/-- two that follow one another -/
theorem Made.get2 {prog : Program} {w : World} {Pl : Addr} {h : Heap} {lo : Nat} {its : List Item} {vs : List Value} (H : Made prog w Pl h lo its vs) : ∀ {i : Nat} {it it' : Item}, its[i]? = some it → its[i + 1]? = some it' → ∃ v v' a b d, vs[i]? = some v ∧ vs[i + 1]? = some v' ∧ lo ≤ a ∧ a ≤ b ∧ b ≤ d ∧ it.V prog w Pl a b v h ∧ it'.V prog w Pl b d v' h := by
  induction H with
  | nil => intro i it it' e; cases e
  | cons h1 hle hr ih =>
    intro i it it' e e'
    cases i with
    | zero =>
      cases e
      cases hr with
      | nil => cases e'
      | cons h2 hle2 hr2 => cases e'; exact ⟨_, _, _, _, _, rfl, rfl, Nat.le_refl _, hle, hle2, h1, h2⟩
    | succ i =>
      obtain ⟨v, v', a, b, d, q1, q2, q3, q4⟩ := ih (i := i) e e'
      exact ⟨v, v', a, b, d, q1, q2, Nat.le_trans hle q3, q4⟩
end Mine

end
section
open PySem PySem.W PySem.Calls PyProof.Rows
set_option linter.unusedVariables false
set_option linter.unusedSimpArgs false
set_option maxRecDepth 20000
namespace Mine
local macro_rules | `(tactic| omega) => `(tactic| lia)

/-- the def's object, its code and its table -/
def VDef (name : Str) (params : Arguments) (body : List Stmt) (scope : Scope) (Pl : Addr) (lo hi : Nat) (v : Value) (h : Heap) : Prop :=
  ∃ a c' P' pm, v = .ref a ∧ lo ≤ a ∧ lo ≤ c' ∧ lo ≤ P' ∧ a < hi ∧ c' < hi ∧ P' < hi ∧ h.get? a = some { cls := .type "function", data := .func (plainDef name params body scope pm (.ref c')) } ∧ h.CodeRec (.ref c') name ∧ h.IsCode c' P' #[] ∧ h.TableAt c' P' #[]
theorem Kx.at {Pl : Addr} {h h' : Heap} (k : Kx Pl h h') {lo : Nat} (h4 : 4 ≤ lo) (hP : Pl < lo) {a : Addr} (ha : lo ≤ a) : ∀ o, h.get? a = some o → h'.get? a = some o := fun o e =>
  k a o (Nat.ne_of_gt (Nat.lt_of_lt_of_le hP ha)) (Nat.ne_of_gt (Nat.lt_of_lt_of_le (show mainGlobals < 4 by decide) (Nat.le_trans h4 ha))) e
theorem isCode_at {h h' : Heap} {c P : Addr} {ps} (x : h.IsCode c P ps) (e : ∀ o, h.get? c = some o → h'.get? c = some o) (e' : ∀ o, h.get? P = some o → h'.get? P = some o) : h'.IsCode c P ps :=
  let ⟨o, vs, file, tf, flags, tg, inF, text, tt, op, a, r1, r2, r3, r4, r5, r6, b, r⟩ := x
  ⟨o, vs, file, tf, flags, tg, inF, text, tt, op, e _ a, r1, r2, r3, r4, r5, r6, e' _ b, r⟩
theorem tableAt_at {h h' : Heap} {c P : Addr} {ps} (x : h.TableAt c P ps) (e : ∀ o, h.get? c = some o → h'.get? c = some o) (e' : ∀ o, h.get? P = some o → h'.get? P = some o) : h'.TableAt c P ps :=
  let ⟨⟨o, vs, a, r⟩, t⟩ := x; ⟨⟨o, vs, e _ a, r⟩, e' _ t⟩

def defItem (name : Str) (params : Arguments) (body : List Stmt) (scope : Scope) (pos : Pos) : Item :=
  ⟨.FunctionDef name params body [] none [] scope none name pos, name, pos.line, fun _ _ => VDef name params body scope⟩
theorem triples_snoc' {l : List (Pos × Addr)} {p : Pos} {c : Addr} : (triples (l ++ [(p, c)])).toArray = (triples l).toArray ++ #[rawInt p.line, rawInt p.col, .ref c] := by
  rw [triples_append]; simp
theorem defItem_ok {prog : Program} {name : Str} {params : Arguments} {body : List Stmt} {scope : Scope} {pos : Pos} (hmod : prog.main.scope.kind = .module) (htree : PlainDefTree name params body scope pos)
    (hfree : ∀ x ∈ scope.names, x.2 ≠ .free) (hdoc : docOf body = none) (hloc : prog.main.scope.names.lookup name = some .local)
    (hq : qualnameIn { scope := prog.main.scope, locals := mainGlobals, globals := mainGlobals, cells := [] } name name = name) (hnb : name ≠ "__builtins__")
    (h3 : name ≠ Str.ofString "set" ∧ name ≠ Str.ofString "list" ∧ name ≠ Str.ofString "range") : (defItem name params body scope pos).Ok prog := by
  refine ⟨fun w A E s c Pl F mg l Q hA hm hb hf hl h => ?_, fun w Pl lo hi v h h' h4 hP k x => ?_, h3⟩
  · refine wpAny_plainDefN htree hfree hdoc hloc hq hm (fun a c' h' tk ha hm' hfo hc ht hk => ?_) hnb hmod (by rw [List.toList_toArray]; exact codeAmong_triples _ _ fun q hq e => by have := hl q hq; have e1 := e.1; change q.1.line < pos.line at this; omega)
    obtain ⟨P', hP', hi, htb⟩ := ht
    have hlt : a < h'.objs.size := Heap.lt_size hfo
    refine h (.ref a) h' tk (l ++ [(pos, c')]) (by rw [triples_snoc']; exact hm') (fun q hq => ?_) ⟨a, c', P', _, rfl, ha, hc.1, hP', hlt, hi.lt.1, hi.lt.2, hfo, hc.2, hi, htb⟩ hk (Nat.le_trans ha (Nat.le_of_lt hlt))
    rcases List.mem_append.mp hq with q1 | q1
    · exact Nat.le_of_lt (hl q q1)
    · obtain rfl : q = (pos, c') := by simpa using q1
      exact Nat.le_refl _
  · obtain ⟨a, c', P', pm, e, l1, l2, l3, l4, l5, l6, x1, x2, x3, x4⟩ := x
    exact ⟨a, c', P', pm, e, l1, l2, l3, l4, l5, l6, k.at h4 hP l1 _ x1, x2.at (k.at h4 hP l2), isCode_at x3 (k.at h4 hP l2) (k.at h4 hP l3), tableAt_at x4 (k.at h4 hP l2) (k.at h4 hP l3)⟩

section
variable {prog : Program} {w : World} {A : Around} {E : Value → Shared → Prop} {s : Shared}
/-- a store at the top -/
theorem top_store {c Pl F : Addr} {mg : Str → Option Value} {ps : Array Value} {n : Str} {v : Value} {Q : Unit → Shared → Prop} (hm : s.heap.Main mg c Pl ps) (hmod : prog.main.scope.kind = .module) (hloc : prog.main.scope.names.lookup n = some .local) (hnb : n ≠ "__builtins__")
    (h : ∀ h' tk, h'.Main (fun x => if x = n then some v else mg x) c Pl ps → Heap.SameBut mainGlobals s.heap h' → Q () { s with heap := h', toks := tk }) :
    wpAny (model prog w) A (storeName (mainEnv prog c F) n v) Q E s := by
  refine wpAny_storeName_local (env := mainEnv prog c F) hloc hm.g (fun h' hg' hs' => ?_) (by show (prog.main.scope.kind == .class || (prog.main.scope.kind == .module && mainGlobals != mainGlobals)) = false; rw [hmod]; rfl)
  obtain ⟨bm, o, hbm, hne0, hneG, hneP, hbo, hrest⟩ := hm.bmod
  exact h h' _ ⟨hg', hm.code.sameBut hs' (Nat.ne_of_gt hm.low.1) (Nat.ne_of_gt hm.low.2), hm.low, ⟨bm, o, by simp only [Ne.symm hnb, if_false]; exact hbm, hne0, hneG, hneP, (hs'.2 _ hneG).trans hbo, hrest⟩⟩ hs'

theorem main_keeps {c Pl : Addr} {mg : Str → Option Value} {ps : Array Value} {h h' : Heap} (hm : h.Main mg c Pl ps) (k : ∀ b o, h.get? b = some o → h'.get? b = some o) : h'.Main mg c Pl ps :=
  ⟨hm.g.keeps k, hm.code.keeps k, hm.low, let ⟨bm, o, a, b, d, e, f, r⟩ := hm.bmod; ⟨bm, o, a, b, d, e, k _ _ f, r⟩⟩
/-- an assignment at the top -/
theorem assign_ok {V : Program → World → Addr → Nat → Nat → Value → Heap → Prop} {n : Str} {e : Expr} {p pos : Pos} (hmod : prog.main.scope.kind = .module) (hloc : prog.main.scope.names.lookup n = some .local) (hnb : n ≠ "__builtins__")
    (h3 : n ≠ Str.ofString "set" ∧ n ≠ Str.ofString "list" ∧ n ≠ Str.ofString "range") (hs : ∀ env, swapsWith e (some (.Name n p)) pos.line env = pure false)
    (hV : ∀ w Pl lo hi v h h', 4 ≤ lo → Pl < lo → Kx Pl h h' → V prog w Pl lo hi v h → V prog w Pl lo hi v h') (hV2 : ∀ w Pl lo hi hi' v h, hi ≤ hi' → V prog w Pl lo hi v h → V prog w Pl lo hi' v h)
    (he : ∀ (w : World) (A : Around) (E : Value → Shared → Prop) (s : Shared) (c Pl F : Addr) (mg : Str → Option Value) (Q : Value → Shared → Prop), A.handled = none → s.heap.Ns mainGlobals mg → 4 ≤ s.heap.objs.size → Blt s.heap → Free3 mg →
      (∀ v h' tk, V prog w Pl s.heap.objs.size h'.objs.size v h' → (∀ b o, s.heap.get? b = some o → h'.get? b = some o) → s.heap.objs.size ≤ h'.objs.size → Q v { s with heap := h', toks := tk }) → wpAny (model prog w) A (eval e (mainEnv prog c F)) Q E s) :
    Item.Ok prog ⟨.Assign [.Name n p] e pos, n, pos.line, V⟩ := by
  refine ⟨fun w A E s c Pl F mg l Q hA hm hb hf hl h => ?_, hV, h3⟩
  have h4 : 4 ≤ s.heap.objs.size := Nat.le_trans hm.low.1 (Nat.le_of_lt hm.code.lt.1)
  refine wpAny_Assign_Name (he w A E s c Pl F mg _ hA hm.g h4 hb hf fun v h' tk hv hk hsz => ?_) (hs _)
  refine top_store (main_keeps hm hk) hmod hloc hnb fun h'' tk' hm' hs' => ?_
  have kx : Kx Pl h' h'' := fun b o n1 n2 e => (hs'.2 b n2).trans e
  refine h v h'' tk' l hm' (fun q hq => Nat.le_of_lt (hl q hq)) ?_ (fun b o n1 n2 e => kx b o n1 n2 (hk b o e)) (by rw [hs'.1]; exact hsz)
  refine hV w Pl _ _ v h' h'' h4 hm.code.lt.2 kx ?_
  rw [hs'.1]; exact hv

def VInt (i : Int) (_ : Program) (_ : World) (_ : Addr) (_ _ : Nat) (v : Value) (_ : Heap) : Prop := ∃ t, v = .int i t
def VStr (_ : Program) (_ : World) (_ : Addr) (_ _ : Nat) (_ : Value) (_ : Heap) : Prop := True
def VDict (l : List (Int × Str)) (prog : Program) (w : World) (_ : Addr) (lo hi : Nat) (v : Value) (h : Heap) : Prop := ∃ d kvs, v = .ref d ∧ lo ≤ d ∧ (d == sysModules) = false ∧ KV l kvs ∧ h.DictOf (intKind prog w) d kvs

variable {n : Str} {p p' pos : Pos} (hmod : prog.main.scope.kind = .module) (hloc : prog.main.scope.names.lookup n = some .local) (hnb : n ≠ "__builtins__") (h3 : n ≠ Str.ofString "set" ∧ n ≠ Str.ofString "list" ∧ n ≠ Str.ofString "range")
include hmod hloc hnb h3
theorem intItem_ok {i : Int} {kd : Nat} : Item.Ok prog ⟨.Assign [.Name n p] (.Constant (.int i) kd p') pos, n, pos.line, VInt i⟩ :=
  assign_ok hmod hloc hnb h3 (fun _ => rfl) (fun _ _ _ _ _ _ _ _ _ _ x => x) (fun _ _ _ _ _ _ _ _ x => x) fun w A E s c Pl F mg Q hA hn h4 hb hf h => wpAny_Constant_int (h _ s.heap _ ⟨_, rfl⟩ (fun _ _ e => e) (Nat.le_refl _))
theorem strItem_ok {x : Str} {kd : Nat} : Item.Ok prog ⟨.Assign [.Name n p] (.Constant (.str x) kd p') pos, n, pos.line, VStr⟩ :=
  assign_ok hmod hloc hnb h3 (fun _ => rfl) (fun _ _ _ _ _ _ _ _ _ _ x => x) (fun _ _ _ _ _ _ _ _ x => x) fun w A E s c Pl F mg Q hA hn h4 hb hf h => wpAny_Constant_str (h _ s.heap _ trivial (fun _ _ e => e) (Nat.le_refl _))
theorem dictItem_ok {keys : List (Option Expr)} {values : List Expr} {l : List (Int × Str)} (hr : readPairs keys values = some l) (h0 : l ≠ []) (hnd : (l.map (·.1)).Nodup) (hz : l.length ≤ 1000) : Item.Ok prog ⟨.Assign [.Name n p] (.Dict keys values p') pos, n, pos.line, VDict l⟩ :=
  assign_ok hmod hloc hnb h3 (fun _ => rfl) (fun w Pl lo hi v h h' h4 hP k ⟨d, kvs, e, l1, l2, l3, l4⟩ => ⟨d, kvs, e, l1, l2, l3, by
      obtain ⟨o, es, ep, ho, r⟩ := l4
      exact ⟨o, es, ep, k.at h4 hP l1 _ ho, r⟩⟩) (fun _ _ _ _ _ _ _ _ x => x)
    fun w A E s c Pl F mg Q hA hn h4 hb hf h => eval_dict h4 hr h0 hnd hz fun d kvs h' tk hd hds hk hdo keep => h _ h' tk ⟨d, kvs, rfl, hd, hds, hk, hdo⟩ keep (by
      obtain ⟨o, es, ep, ho, r⟩ := hdo
      exact Nat.le_trans hd (Nat.le_of_lt (Heap.lt_size ho)))
end
end Mine

end
section
open PySem PySem.W PySem.Calls PyProof.Rows
set_option linter.unusedVariables false
set_option linter.unusedSimpArgs false
set_option maxRecDepth 20000
namespace Mine
local macro_rules | `(tactic| omega) => `(tactic| lia)
section
variable {prog : Program} {w : World} {A : Around} {E : Value → Shared → Prop} {s : Shared}

def constInts : List Expr → Option (List Int)
  | [] => some []
  | e :: es => (exInt? e).bind fun i => (constInts es).map (i :: ·)
theorem constInts_ok {env : Env} {pos : Pos} : ∀ {es : List Expr} {is : List Int}, constInts es = some is → ∀ (s : Shared) (Q : List Value → Shared → Prop), (∀ vs tk, IntsAre vs is → Q vs { s with toks := tk }) → wpAny (model prog w) A (spliced (backTo pos (starEach es env))) Q E s
  | [], is, h, s, Q, hQ => by simp only [constInts, Option.some.injEq] at h; subst h; exact wpAny_pure (hQ [] s.toks .nil)
  | e :: es, is, h, s, Q, hQ => by
    simp only [constInts, Option.bind_eq_some_iff, Option.map_eq_some_iff] at h
    obtain ⟨i, hi, is', h', rfl⟩ := h
    obtain ⟨kd, p, rfl⟩ := exInt_is hi
    rw [star_cons rfl]
    show wpAny _ A (spliced ((false, eval (.Constant (.int i) kd p) env) :: backTo pos (starEach es env))) _ _ s
    exact Calls.spliced_cons (wpAny_Constant_int (constInts_ok h' _ _ fun vs tk hv => hQ _ tk (.cons i _ hv)))
theorem looks_type {T : String} : ∀ h : Heap, True → ∃ k, (k = Keeper.frame ∨ k = Keeper.machine ∨ k = Keeper.boundFrame) ∧ Looks (model prog w) h (keeperOf (.type T)) k := fun h _ => ⟨.machine, .inr (.inl rfl), Looks.of_pure rfl⟩
/-- a call of a built-in type at the top -/
theorem top_type {c F : Addr} {mg : Str → Option Value} {x : String} {T : String} {p pos : Pos} {e : Expr} {es : List Expr} {Q : Value → Shared → Prop} (hmod : prog.main.scope.kind = .module) (hn : s.heap.Ns mainGlobals mg) (hx : mg (Str.ofString x) = none) (hb : Blt s.heap) (hv : bootBuiltins (Str.ofString x) = some (.type T)) (hxn : Str.ofString x ≠ "__name__")
    (hd : (Str.ofString x == ("__debug__" : Str)) = false) (he : starred e = false) (hp : ∀ env pos, (backTo pos (starEach es env)).any (·.1) = false)
    (h : wpAny (model prog w) A (spliced (backTo pos (starEach (e :: es) (mainEnv prog c F)))) (fun vs s' => wpAny (model prog w) A (PySem.call (.type T) vs) Q E s') E s) :
    wpAny (model prog w) A (eval (.Call (.Name (Str.ofString x) p) (e :: es) [] pos) (mainEnv prog c F)) Q E s := by
  obtain ⟨mb, hbn, hbb⟩ := hb
  refine wpAny_Call_NameR (Name_module hmod rfl (loadGlobal_builtin (mg := mg) (mb := mb) hn hx hbn ((hbb _ hxn).trans hv) ?_) hd)
  rw [star_cons he] at h ⊢
  refine callWith_of (P := fun _ => True) (by show ((false || (backTo pos (starEach es (mainEnv prog c F))).any (·.1)) || false) = false; rw [hp]; rfl) looks_type (evalArgs_plain (wpAny_mono h (fun vs s' h' => ⟨trivial, h'⟩) fun _ _ x => x))

def VSet (S : Int → Bool) (n : Nat) (prog : Program) (w : World) (_ : Addr) (lo hi : Nat) (v : Value) (h : Heap) : Prop := ∃ a, v = .ref a ∧ lo ≤ a ∧ h.SetOf (intKind prog w) a S n
theorem ints_len {vs : List Value} {is : List Int} (h : IntsAre vs is) : vs.length = is.length := h.length
theorem ints_app : ∀ {vs vs' : List Value} {is is' : List Int}, IntsAre vs is → IntsAre vs' is' → IntsAre (vs ++ vs') (is ++ is')
  | _, _, _, _, .nil, h' => h'
  | _, _, _, _, .cons n t h, h' => .cons n t (ints_app h h')
theorem ints_of_items {a b : Int} {n : Nat} {acc : Array Value} (hacc : ItemsOf (fun i v => ∃ t, v = Value.int (a + (i : Nat) * b) t) acc n) : IntsAre acc.toList ((List.range n).map fun i => a + (i : Nat) * b) := by
  refine RepL.ints (h := ({} : Heap)) (Y := []) (RepL.of_get ?_ fun i d hd => ?_)
  · have := hacc.1; simpa using this
  · have hi : i < n := by
      rcases Nat.lt_or_ge i n with q | q
      · exact q
      · rw [List.getElem?_eq_none (by simpa using q)] at hd; cases hd
    have hia : i < acc.size := by rw [hacc.1]; exact hi
    obtain ⟨t', e⟩ := hacc.2 i acc[i] (Array.getElem?_eq_getElem hia)
    refine ⟨acc[i], by rw [Array.getElem?_toList, Array.getElem?_eq_getElem hia], ?_⟩
    simp [List.getElem?_map, List.getElem?_range hi] at hd
    subst hd
    rw [e]; simp only [Rep]; exact ⟨_, rfl⟩

theorem setItem_ok {n : Str} {p p1 p2 p3 p4 p5 p6 p7 p8 p9 p10 pos : Pos} (hmod : prog.main.scope.kind = .module) (hloc : prog.main.scope.names.lookup n = some .local) (hnb : n ≠ "__builtins__") (h3 : n ≠ Str.ofString "set" ∧ n ≠ Str.ofString "list" ∧ n ≠ Str.ofString "range")
    {es : List Expr} {k1 k2 : Nat} {a b : Int} {is : List Int} {m N : Nat} {S : Int → Bool} (hes : constInts es = some is) (hsm : Builtin.Range.small a b 1 = true) (hrs : Builtin.Range.rangeSize a b 1 = m) (hz : is.length + m ≤ 1000)
    (hS : ∀ k, (firstMet (fun i => (is ++ (List.range m).map fun i => a + (i : Nat) * 1).getD i 0) (is.length + m)).any (· == k) = S k) (hN : (firstMet (fun i => (is ++ (List.range m).map fun i => a + (i : Nat) * 1).getD i 0) (is.length + m)).length = N) :
    Item.Ok prog ⟨.Assign [.Name n p] (.Call (.Name (Str.ofString "set") p1) [.BinOp (.List es p2) .Add (.Call (.Name (Str.ofString "list") p3) [.Call (.Name (Str.ofString "range") p4) [.Constant (.int a) k1 p5, .Constant (.int b) k2 p6] [] p7] [] p8) p9] [] p10) pos, n, pos.line, VSet S N⟩ :=
  assign_ok hmod hloc hnb h3 (fun _ => rfl) (fun w Pl lo hi v h h' h4 hP k ⟨d, e, l1, l2⟩ => ⟨d, e, l1, by
      obtain ⟨o, es, ep, t, ho, r⟩ := l2
      exact ⟨o, es, ep, t, k.at h4 hP l1 _ ho, r⟩⟩) (fun _ _ _ _ _ _ _ _ x => x)
    fun w A E s c Pl F mg Q hA hn h4 hb hf h => by
      have keepBlt : ∀ {h h' : Heap}, (∀ b o, h.get? b = some o → h'.get? b = some o) → Blt h → Blt h' := fun k ⟨mb, x, y⟩ => ⟨mb, x.keeps k, y⟩
      refine top_type hmod hn hf.1 hb (by rfl) (by decide +kernel) (by decide) rfl (by intros; rfl) ?_
      refine Calls.spliced_cons ?_
      refine wpAny_BinOp (List_ (constInts_ok hes _ _ fun vs tk hvs => wpAny_newList ?_ (by rw [hvs.length]; unfold sizeLine; omega)))
      have k1' : ∀ b o, s.heap.get? b = some o → (s.heap.push { cls := .type "list", data := .seq vs.toArray }).get? b = some o := fun b o e => Heap.get?_push_of_some _ e
      refine top_type (s := { s with heap := s.heap.push { cls := .type "list", data := .seq vs.toArray }, toks := tk }) hmod (hn.keeps k1') hf.2.1 (keepBlt k1' hb) (by rfl) (by decide +kernel) (by decide) rfl (by intros; rfl) ?_
      refine Calls.spliced_cons ?_
      refine top_type (s := { s with heap := s.heap.push { cls := .type "list", data := .seq vs.toArray }, toks := tk }) hmod (hn.keeps k1') hf.2.2 (keepBlt k1' hb) (by rfl) (by decide +kernel) (by decide) rfl (by intros; rfl) ?_
      refine Calls.spliced_cons (wpAny_Constant_int (env := mainEnv prog c F) (k := k1) (pos := p5) (Calls.spliced_cons (wpAny_Constant_int (env := mainEnv prog c F) (k := k2) (pos := p6) (Calls.spliced_nil (call_range_2 (Calls.spliced_nil ?_))))))
      refine call_list_range hA (IsRange.new ..) hsm hrs (by omega) fun h₂ tk₂ acc c' hk₂ hl₂ hacc => ?_
      have hia : IntsAre acc.toList ((List.range m).map fun i => a + (i : Nat) * 1) := ints_of_items hacc
      have hasz : acc.size = m := hacc.1
      have hl₁ : h₂.get? s.heap.objs.size = some { cls := .type "list", data := .seq vs.toArray } := hk₂ _ _ (Heap.get?_push_of_some _ (Heap.get?_push_size _ rfl))
      have hvsl := hvs.length
      have hop : ∀ (l k : Addr) (xs ys : Array Value) (c1 c2 : Nat) (s₂ : Shared) (Q : Value → Shared → Prop), s₂.heap.get? l = some { cls := .type "list", data := .seq xs c1 } → s₂.heap.get? k = some { cls := .type "list", data := .seq ys c2 } → xs.size + ys.size ≤ sizeLine →
          Q (.ref s₂.heap.objs.size) { s₂ with heap := s₂.heap.push { cls := .type "list", data := .seq (xs ++ ys) } } → wpAny (model prog w) A (binaryOp .Add (.ref l) (.ref k)) Q E s₂ := fun l k xs ys c1 c2 s₂ Q ho ho2 hz h =>
        concat_meets ⟨_, ho, rfl⟩ ⟨_, ho2, rfl⟩ noFill_list_add seq_list_add PySem.F.slot_list_add PySem.F.entry_list_add (PySem.F.args_list_add_2 _ _)
          (list_addW l k xs ys c1 c2 none none #[] #[] hz) ⟨ho, ho2, h⟩
      refine hop _ _ vs.toArray acc _ _ _ _ hl₁ hl₂ (by rw [List.size_toArray, hvsl, hasz]; unfold sizeLine; omega) ?_
      refine Calls.spliced_nil ?_
      have hsz : (vs.toArray ++ acc).size = is.length + m := by simp [hvsl, hasz]
      have hii : IntsAre (vs.toArray ++ acc).toList (is ++ (List.range m).map fun i => a + (i : Nat) * 1) := by simpa using ints_app hvs hia
      refine PySem.call_set_list (items := vs.toArray ++ acc) hA ⟨_, Heap.get?_push_size _ rfl, rfl, _, rfl⟩ hii (by rw [hsz]; unfold scanBound; omega) fun h₃ tk₃ hset hk₃ => ?_
      rw [hsz] at hset
      have hlt₂ : s.heap.objs.size < h₂.objs.size := Heap.lt_size hl₁
      refine h _ h₃ tk₃ ⟨_, rfl, ?_, SetOf_congr hset hS hN⟩ (fun b o e => ?_) ?_
      · rw [Heap.size_push]; exact Nat.le_succ_of_le (Nat.le_of_lt hlt₂)
      · have e2 := hk₂ _ _ (Heap.get?_push_of_some _ (k1' _ _ e))
        exact hk₃ b o (by rw [Heap.size_push]; exact Nat.lt_succ_of_lt (Heap.lt_size e2)) (Heap.get?_push_of_some _ e2)
      · obtain ⟨o, es', ep, t, ho, r⟩ := hset
        have h5 := Heap.lt_size ho
        rw [Heap.size_push] at h5
        exact Nat.le_trans (Nat.le_of_lt hlt₂) (Nat.le_of_lt (Nat.lt_of_succ_lt h5))
end
end Mine

end
section
open PySem PySem.W PySem.Calls PyProof.Rows
set_option linter.unusedVariables false
set_option linter.unusedSimpArgs false
set_option maxRecDepth 20000
namespace Mine

theorem annOf_nil {env : Env} : ∀ {l : List Arg}, l.all (·.annotation.isNone) = true → annotationsOf l env = []
  | [], _ => rfl
  | ⟨n, none, p⟩ :: l, h => by
    have h' : l.all (·.annotation.isNone) = true := by simpa using h
    show annotationsOf l env = []
    exact annOf_nil h'
  | ⟨n, some a, p⟩ :: l, h => by simp at h
/-- parameters without defaults and annotations -/
def plainArgs (a : Arguments) : Bool := a.defaults.isEmpty && a.kw_defaults.isEmpty && (a.args ++ a.posonlyargs ++ a.vararg.toList ++ a.kwonlyargs ++ a.kwarg.toList).all (·.annotation.isNone)
theorem plainTree {name : Str} {params : Arguments} {body : List Stmt} {scope : Scope} {pos : Pos} (h : plainArgs params = true) : PlainDefTree name params body scope pos := fun env => by
  obtain ⟨po, a, va, ko, kd, kwa, d⟩ := params
  simp only [plainArgs, Bool.and_eq_true, List.isEmpty_iff] at h
  obtain ⟨⟨rfl, rfl⟩, h3⟩ := h
  have h4 : annTrees ⟨po, a, va, ko, [], kwa, []⟩ none env = [] := by
    show annotationsOf (a ++ po ++ va.toList ++ ko ++ kwa.toList) env ++ [] = []
    rw [annOf_nil h3]; rfl
  rw [exec_def, h4]
  rfl

inductive StV where
  | fn (name : Str) (params : Arguments) (body : List Stmt) (scope : Scope) (bind : Str) (pos : Pos)
  | asg (n : Str) (p : Pos) (e : Expr) (pos : Pos)
  | other
def stV (st : Stmt) : StV := match st with
  | .FunctionDef name params body ds ret tps scope tsc bind pos => if ds.isEmpty && ret.isNone && tps.isEmpty && tsc.isNone then .fn name params body scope bind pos else .other
  | .Assign ts e pos => (match ts.map exV with
    | [.name n p] => .asg n p e pos
    | _ => .other)
  | _ => .other
def StV.back : StV → Option Stmt
  | .fn name params body scope bind pos => some (.FunctionDef name params body [] none [] scope none bind pos)
  | .asg n p e pos => some (.Assign [.Name n p] e pos)
  | .other => none
theorem one_name {ts : List Expr} {n : Str} {p : Pos} (h : ts.map exV = [.name n p]) : ts = [.Name n p] := by
  cases ts with
  | nil => cases h
  | cons t r =>
    cases r with
    | nil => rw [exV_is (e := t) (e' := .Name n p) (by rw [show exV t = .name n p from (List.cons.inj h).1]; rfl)]
    | cons _ _ => cases (List.cons.inj h).2
theorem stV_is {st st' : Stmt} (h : (stV st).back = some st') : st = st' := by
  cases st <;> try (cases h; done)
  · rename_i name params body ds ret tps scope tsc bind pos
    unfold stV at h
    dsimp only at h
    split at h
    next q =>
      simp only [Bool.and_eq_true, List.isEmpty_iff, Option.isNone_iff_eq_none] at q
      obtain ⟨⟨⟨rfl, rfl⟩, rfl⟩, rfl⟩ := q
      exact Option.some.inj h
    next => cases h
  · rename_i ts e pos
    unfold stV at h
    dsimp only at h
    split at h
    next n p q =>
      rw [one_name q]
      exact Option.some.inj h
    next => cases h
/-- the item of a statement of the top -/
def itemOf (st : Stmt) : Item := match stV st with
  | .fn name params body scope _ pos => defItem name params body scope pos
  | .asg n p e pos => (match exV e with
    | .int i kd p' => ⟨.Assign [.Name n p] (.Constant (.int i) kd p') pos, n, pos.line, VInt i⟩
    | .str x kd p' => ⟨.Assign [.Name n p] (.Constant (.str x) kd p') pos, n, pos.line, VStr⟩
    | .dict keys values p' => ⟨.Assign [.Name n p] (.Dict keys values p') pos, n, pos.line, VDict ((readPairs keys values).getD [])⟩
    | _ => ⟨st, Str.ofString "", 0, VStr⟩)
  | .other => ⟨st, Str.ofString "", 0, VStr⟩
def nameOk (prog : Program) (n : Str) : Bool := (prog.main.scope.names.lookup n == some .local) && (n != "__builtins__") && (n != Str.ofString "set") && (n != Str.ofString "list") && (n != Str.ofString "range")
def okB (prog : Program) (st : Stmt) : Bool := match stV st with
  | .fn name params body scope bind pos => plainArgs params && scope.names.all (fun x => x.2 != .free) && (docOf body).isNone && (qualnameIn { scope := prog.main.scope, locals := mainGlobals, globals := mainGlobals, cells := [] } name name == name) && (bind == name) && nameOk prog name
  | .asg n p e pos => (match exV e with
    | .int _ _ _ => nameOk prog n
    | .str _ _ _ => nameOk prog n
    | .dict keys values p' => nameOk prog n && (match readPairs keys values with | some l => !l.isEmpty && decide (l.map (·.1)).Nodup && decide (l.length ≤ 1000) | none => false)
    | _ => false)
  | .other => false
theorem nameOk_parts {prog : Program} {n : Str} (h : nameOk prog n = true) : prog.main.scope.names.lookup n = some .local ∧ n ≠ "__builtins__" ∧ n ≠ Str.ofString "set" ∧ n ≠ Str.ofString "list" ∧ n ≠ Str.ofString "range" := by
  unfold nameOk at h
  simp only [Bool.and_eq_true, beq_iff_eq, bne_iff_ne] at h
  exact ⟨h.1.1.1.1, h.1.1.1.2, h.1.1.2, h.1.2, h.2⟩
theorem okB_ok {prog : Program} (hmod : prog.main.scope.kind = .module) {st : Stmt} (h : okB prog st = true) : (itemOf st).Ok prog ∧ (itemOf st).st = st := by
  unfold okB at h
  unfold itemOf
  cases q : stV st with
  | other => rw [q] at h; cases h
  | fn name params body scope bind pos =>
    have e := stV_is (st := st) (by rw [q]; rfl)
    rw [q] at h
    simp only [Bool.and_eq_true, beq_iff_eq] at h
    obtain ⟨⟨⟨⟨⟨h1, h2⟩, h3⟩, h4⟩, h5⟩, h6⟩ := h
    subst h5
    obtain ⟨n1, n2, n3⟩ := nameOk_parts h6
    exact ⟨defItem_ok hmod (plainTree h1) (fun x hx e => by have := List.all_eq_true.mp h2 x hx; rw [e] at this; cases this) (Option.isNone_iff_eq_none.mp h3) n1 h4 n2 n3, e.symm⟩
  | asg n p e pos =>
    have e1 := stV_is (st := st) (by rw [q]; rfl)
    rw [q] at h
    dsimp only at h ⊢
    cases r : exV e with
    | other => rw [r] at h; cases h
    | name _ _ => rw [r] at h; cases h
    | int i kd p' =>
      rw [r] at h
      obtain ⟨n1, n2, n3⟩ := nameOk_parts h
      have e2 := exV_is (e := e) (by rw [r]; rfl)
      subst e2
      exact ⟨intItem_ok hmod n1 n2 n3, e1.symm⟩
    | str x kd p' =>
      rw [r] at h
      obtain ⟨n1, n2, n3⟩ := nameOk_parts h
      have e2 := exV_is (e := e) (by rw [r]; rfl)
      subst e2
      exact ⟨strItem_ok hmod n1 n2 n3, e1.symm⟩
    | dict keys values p' =>
      rw [r] at h
      have e2 := exV_is (e := e) (by rw [r]; rfl)
      subst e2
      obtain ⟨h1, h2⟩ := Bool.and_eq_true_iff.mp h
      obtain ⟨n1, n2, n3⟩ := nameOk_parts h1
      cases hr : readPairs keys values with
      | none => rw [hr] at h2; cases h2
      | some l =>
        rw [hr] at h2
        simp only [Bool.and_eq_true, decide_eq_true_eq, Bool.not_eq_true', List.isEmpty_eq_false_iff] at h2
        refine ⟨?_, e1.symm⟩
        show Item.Ok prog ⟨.Assign [.Name n p] (.Dict keys values p') pos, n, pos.line, VDict ((readPairs keys values).getD [])⟩
        rw [hr]
        exact dictItem_ok hmod n1 n2 n3 hr h2.1.1 h2.1.2 h2.2
end Mine

end
section
open PySem PySem.W PySem.Calls PyProof.Rows
set_option linter.unusedVariables false
set_option linter.unusedSimpArgs false
set_option maxRecDepth 100000
namespace Mine
local macro_rules | `(tactic| omega) => `(tactic| lia)
abbrev PW : Program := PySem.Challenge.pw_us0025_01
def bodyL : List Stmt := PW.main.body
def setSt : Stmt := (bodyL[19]?).getD (.Pass ⟨0, 0, 0, 0⟩)
def b1F (k : Int) : Bool := [173, 847, 6150, 6155, 6156, 6157, 8203, 8204, 8205, 8288, 65279].contains k || (65024 ≤ k && k < 65040)
def setIt : Item := match setSt with
  | .Assign [.Name n p] e pos => ⟨.Assign [.Name n p] e pos, n, pos.line, VSet b1F 27⟩
  | st => ⟨st, Str.ofString "", 0, VStr⟩
def items : List Item := (bodyL.take 19).map itemOf ++ setIt :: (bodyL.drop 20).map itemOf
theorem hmod : PW.main.scope.kind = .module := by rfl
theorem okAll : ((bodyL.take 19).all (okB PW) && (bodyL.drop 20).all (okB PW)) = true := by decide +kernel
theorem any_run (a k : Int) (n : Nat) : ((List.range n).map fun i => a + (i : Nat)).any (· == k) = (decide (a ≤ k) && decide (k < a + n)) := by
  rw [Bool.eq_iff_iff, List.any_eq_true, Bool.and_eq_true, decide_eq_true_eq, decide_eq_true_eq]
  constructor
  · rintro ⟨x, hx, e⟩
    obtain ⟨i, hi, rfl⟩ := List.mem_map.mp hx
    have := List.mem_range.mp hi
    have := eq_of_beq e
    omega
  · rintro ⟨h1, h2⟩
    exact ⟨k, List.mem_map.mpr ⟨(k - a).toNat, List.mem_range.mpr (by omega), by omega⟩, beq_self_eq_true k⟩
theorem b1_any : ∀ k : Int, (firstMet (fun i => (([173, 847, 6150, 6155, 6156, 6157, 8203, 8204, 8205, 8288, 65279] : List Int) ++ (List.range 16).map fun i => (65024 : Int) + (i : Nat) * 1).getD i 0) (11 + 16)).any (· == k) = b1F k := fun k => by
  have e : firstMet (fun i => (([173, 847, 6150, 6155, 6156, 6157, 8203, 8204, 8205, 8288, 65279] : List Int) ++ (List.range 16).map fun i => (65024 : Int) + (i : Nat) * 1).getD i 0) (11 + 16) =
    [173, 847, 6150, 6155, 6156, 6157, 8203, 8204, 8205, 8288, 65279, 65024, 65025, 65026, 65027, 65028, 65029, 65030, 65031, 65032, 65033, 65034, 65035, 65036, 65037, 65038, 65039] := by decide +kernel
  rw [e]
  show (([173, 847, 6150, 6155, 6156, 6157, 8203, 8204, 8205, 8288, 65279] : List Int) ++ (List.range 16).map fun i => (65024 : Int) + (i : Nat)).any (· == k) = b1F k
  have sw : ∀ l : List Int, l.any (· == k) = l.contains k := fun l => by
    rw [List.contains_eq_any_beq]
    congr 1; funext x
    exact Bool.beq_comm
  rw [List.any_append, any_run, sw]
  unfold b1F
  rw [show (65024 : Int) + (16 : Nat) = 65040 from rfl]
theorem set_ok : setIt.Ok PW :=
  setItem_ok (n := Str.ofString "b1_set") hmod (by decide +kernel) (by decide) (by decide) (is := [173, 847, 6150, 6155, 6156, 6157, 8203, 8204, 8205, 8288, 65279]) (m := 16) (S := b1F) (N := 27) (by rfl) (by decide +kernel) (by decide +kernel) (by decide) b1_any (by decide +kernel)
theorem items_ok : ∀ it ∈ items, it.Ok PW := fun it h => by
  obtain ⟨h1, h2⟩ := Bool.and_eq_true_iff.mp okAll
  unfold items at h
  rcases List.mem_append.mp h with h | h
  · obtain ⟨st, hs, rfl⟩ := List.mem_map.mp h
    exact (okB_ok hmod (List.all_eq_true.mp h1 st hs)).1
  · rcases List.mem_cons.mp h with rfl | h
    · exact set_ok
    · obtain ⟨st, hs, rfl⟩ := List.mem_map.mp h
      exact (okB_ok hmod (List.all_eq_true.mp h2 st hs)).1
theorem map_st {l : List Stmt} (h : l.all (okB PW) = true) : (l.map itemOf).map (·.st) = l := by
  induction l with
  | nil => rfl
  | cons a l ih =>
    simp only [List.all_cons, Bool.and_eq_true] at h
    rw [List.map_cons, List.map_cons, (okB_ok hmod h.1).2, ih h.2]
theorem items_st : items.map (·.st) = bodyL := by
  obtain ⟨h1, h2⟩ := Bool.and_eq_true_iff.mp okAll
  unfold items
  rw [List.map_append, map_st h1, List.map_cons, map_st h2]
  have e1 : setIt.st = setSt := by rfl
  have e2 : bodyL = bodyL.take 19 ++ bodyL.drop 19 := (List.take_append_drop 19 bodyL).symm
  have e3 : bodyL.drop 19 = setSt :: bodyL.drop 20 := by rfl
  rw [e1]
  conv => rhs; rw [e2, e3]
theorem items_line : items.Pairwise (fun a b => a.line < b.line) := by decide +kernel
theorem items_names : items.map (·.name) = ["__name__", "_MAX_STRING_SIZE", "_MOVE_COST", "_CASE_COST", "_substitution_cost", "_levenshtein_distance", "__name__", "_DIV_LIMIT", "_div2n1n", "_div3n2n", "_int2digits", "_digits2int", "_divmod_pos", "int_divmod", "__name__", "COMPILER_FLAG_NAMES", "pretty_flags", "_parse_varint", "__name__", "b1_set", "in_table_b1", "b3_exceptions", "map_table_b3", "__name__", "_law_rows", "_law_forms", "_law_typed", "_law_put_in", "_law_names", "_law_sizes", "_law_sparse", "law"].map Str.ofString := by decide +kernel
end Mine

end
section
open PySem PySem.W PySem.Calls PyProof.Rows
set_option linter.unusedVariables false
set_option linter.unusedSimpArgs false
set_option maxRecDepth 20000
namespace Mine

/-- a thread of its own that ends well is run through by the schedule -/
theorem through_of_wp {prog : Program} {w : World} {t : Sem Fin} {s : Shared} {P : Shared → Prop} (hz : s.asleep)
    (h : wpAny (model prog w) callerA t (fun fin s' => (∃ f, fin = .done f) ∧ P s' ∧ s'.gens = #[]) noE s) :
    ∃ n t' s', schedN (denote table) prog w n (.single s ⟨t, .builtin "claim.caller" {}, default, []⟩) = .running (.single s' t') ∧ through t' = true ∧ P s' ∧ s'.gens = #[] ∧ s'.heap.life = s.heap.life := by
  have hw := h (Ctx.of (.builtin "claim.caller" {}) []) default caller_in
  obtain ⟨m, s', σ, p', leaf, hr, hfo, hl⟩ := wp_reaches (M := model prog w) hw
  rcases hl with ⟨a, rfl, ⟨f, rfl⟩, hP, hg⟩ | ⟨e, _, hF⟩
  case inr => exact hF.elim
  obtain rfl := Shared.eq_of_forget_eq hfo hg
  have hw2 := wp_of_wpAny_done (M := model prog w) (R := fun r s' => (fun _ s' => s'.gens = #[]) r s' ∧ leftWithCleanup s'.gens = false) caller_in
    (wpAny_mono h (fun fin s' ⟨⟨f, e⟩, _, hg⟩ => ⟨f, e, hg, by rw [hg]; simp [leftWithCleanup]⟩) fun _ _ x => x.elim) (default : Pos)
  obtain ⟨n, r, s₂, hn, _⟩ := (wp_iff_halts (M := model prog w) t (fun _ s' => s'.gens = #[]) default s).mp hw2
  obtain ⟨s₃, hrun, _, hc⟩ := runNI_real (denote table) prog w hn (outcomeOf_ends r)
  have hne : ∀ k s₂, runN (denote table) prog w k s ⟨t, .builtin "claim.caller" {}, default, []⟩ ≠ .halted (.unsupported "lifetime:generator-with-cleanup-left-suspended") s₂ := by
    intro k s₂ hk
    have a := runN_mono (denote table) prog w n k s _ _ s₃ hrun
    have b := runN_mono (denote table) prog w k n s _ _ s₂ hk
    rw [Nat.add_comm, b] at a
    injection a with a1 _
    have := outcomeOf_ends r
    rw [← a1] at this
    simp [Outcome.ends] at this
  have hs := schedN_eq_runN (denote table) prog w s ⟨t, .builtin "claim.caller" {}, default, []⟩ hz ⟨hc, hne⟩ m
  have hr' : runN (denote table) prog w m s ⟨t, .builtin "claim.caller" {}, default, []⟩ = .running σ ⟨.pure (.done f), .builtin "claim.caller" {}, p', []⟩ := hr
  rw [hr'] at hs
  exact ⟨m, _, σ, hs, rfl, hP, hg, runN_life_running hr'⟩
end Mine

end
section
open PySem PySem.W PySem.Calls PyProof.Rows
set_option linter.unusedVariables false
set_option linter.unusedSimpArgs false
set_option maxRecDepth 100000
namespace Mine

/-- what the start-up leaves -/
def Booted (s : Shared) : Prop := (∃ mb mg c Pl, BootLeft s.heap mb mg c Pl) ∧ s.gens = #[]
theorem boot_body (w : World) : BodyOk (opening PW) w Booted := fun h tk mb mg c Pl F hB => by
  have e : (opening PW).main.body = [] := by rfl
  rw [e]
  refine codeAny_body rfl rfl (wpAny_execs_nil ?_)
  exact ⟨⟨_, rfl⟩, .of hB (fun _ _ _ _ e => e) hB.g, ⟨⟨mb, mg, c, Pl, hB⟩, rfl⟩, rfl⟩
theorem booted (w : World) : (∃ s, AfterRun (opening PW) w s) ∧ ∀ s, AfterRun (opening PW) w s → Booted s ∧ s.asleep :=
  ⟨(AfterImport.of_body (boot_body w)).1, fun s hs => ⟨(AfterImport.of_body (boot_body w)).2 s hs, AfterImport.life hs⟩⟩

/-- the state that the top leaves -/
structure Left (w : World) (s₀ s₁ : Shared) : Prop where
  same : ∃ h tk, s₁ = { s₀ with heap := h, toks := tk }
  keep : ∀ b o, b ≠ mainGlobals → s₀.heap.get? b = some o → s₁.heap.get? b = some o
  made : ∃ mb mg c Pl lo vs l, (∃ c0 P0, BootLeft s₀.heap mb mg c0 P0) ∧ s₀.heap.objs.size ≤ lo ∧ s₀.heap.objs.size ≤ c ∧ s₀.heap.objs.size ≤ Pl ∧ Pl < lo ∧ s₁.heap.Main (mgAfter items vs mg) c Pl (triples l).toArray ∧ Made PW w Pl s₁.heap lo items vs

theorem frees : ∀ {mb mg : Str → Option Value} {h : Heap} {c Pl : Addr}, BootLeft h mb mg c Pl → Free3 mg := fun hB =>
  ⟨hB.others _ (by decide +kernel), hB.others _ (by decide +kernel), hB.others _ (by decide +kernel)⟩

theorem top_walk (w : World) {s₀ : Shared} (hB : ∃ mb mg c Pl, BootLeft s₀.heap mb mg c Pl) (hg : s₀.gens = #[]) :
    wpAny (model PW w) callerA (topStub PW).cur (fun fin s' => (∃ f, fin = .done f) ∧ Left w s₀ s' ∧ s'.gens = #[]) noE s₀ := by
  obtain ⟨mb, mg, c0, P0, hB⟩ := hB
  show wpAny _ _ (do let code ← moduleCode PW.main; let frame ← newBodyFrame code mainNs mainNs; let _ ← run (.body (behindTheImports PW) { scope := PW.main.scope, locals := mainNs, globals := mainNs, cells := [], code, frame := some frame }); ret .none) _ _ _
  refine wpAny_bind (wpAny_moduleCode fun c Pl h₁ tk₁ hk₁ hc hPl hcode => ?_)
  have hg₁ := hB.g.keeps hk₁
  unfold newBodyFrame
  refine wpAny_bind (wpAny_bind (wpAny_nsGet hg₁ (wpAny_alloc ?_)))
  dsimp only
  generalize ({ cls := .type "frame", slots := _ } : Obj) = of
  have hk : ∀ b o, s₀.heap.get? b = some o → (h₁.push of).get? b = some o := fun b o e => Heap.get?_push_of_some _ (hk₁ b o e)
  have hglt := hB.g.lt
  have hM : (h₁.push of).Main mg c Pl (triples []).toArray := by
    obtain ⟨bm, o, a1, a2, a3, a4, a5, a6⟩ := hB.bmod
    exact ⟨hB.g.keeps hk, hcode.push _, ⟨Nat.lt_of_lt_of_le hglt hc, Nat.lt_of_lt_of_le hglt hPl⟩, ⟨bm, o, a1, a2, a3, Nat.ne_of_lt (Nat.lt_of_lt_of_le (Heap.lt_size a5) hPl), hk _ _ a5, a6⟩⟩
  have hBl : Blt (h₁.push of) := ⟨mb, hB.b.keeps hk, hB.builtins⟩
  have eb : behindTheImports PW = items.map (·.st) := by rw [items_st]; rfl
  refine wpAny_bind (wpAny_run (codeAny_body (by decide +kernel) (by decide +kernel) ?_))
  rw [eb]
  refine run_items (by rfl) items items_ok items_line _ mg [] _ hM hBl (frees hB) (fun q hq => by cases hq) fun vs h' tk l' hm' hmade hkx => ?_
  refine wpAny_pure ⟨⟨_, rfl⟩, ⟨⟨h', tk, rfl⟩, fun b o hb e => ?_, mb, mg, c, Pl, _, vs, l', ⟨c0, P0, hB⟩, ?_, hc, hPl, hM.code.lt.2, hm', hmade⟩, hg⟩
  · exact hkx b o (Nat.ne_of_lt (Nat.lt_of_lt_of_le (Heap.lt_size e) hPl)) hb (hk b o e)
  · exact Nat.le_trans hPl (Nat.le_of_lt hM.code.lt.2)
end Mine

end
section
open PySem PySem.W PySem.Calls PyProof.Rows
set_option linter.unusedVariables false
set_option linter.unusedSimpArgs false
set_option maxRecDepth 100000
namespace Mine

theorem staticOf_ns {h : Heap} {m : Str → Option Value} (hn : h.Ns cStatics m) (k : Str) : staticOf h k = m k := by
  obtain ⟨o, es, ep, ho, hd, _, hf⟩ := hn
  simp only [staticOf, ho, hd]
  exact hf k
theorem builtinOf_ns {h : Heap} {m : Str → Option Value} (hn : h.Ns builtinsNs m) (k : Str) : builtinOf h k = m k := by
  obtain ⟨o, es, ep, ho, hd, _, hf⟩ := hn
  simp only [builtinOf, ho, hd]
  exact hf k
theorem bound_names : (items.map (·.name)).all (fun k => PW.boundNames.contains k) = true := by rw [items_names]; decide +kernel
theorem laid_last : laidNames.all (fun n => (lastIdx n (items.map (·.name))).isNone) = true := by rw [items_names]; decide +kernel
theorem lastIdx_mem {n : Str} : ∀ {l : List Str} {i : Nat}, lastIdx n l = some i → n ∈ l
  | [], _, h => by cases h
  | x :: xs, i, h => by
    unfold lastIdx at h
    cases q : lastIdx n xs with
    | some j => exact .tail _ (lastIdx_mem q)
    | none =>
      rw [q] at h
      by_cases e : n = x
      · exact e ▸ .head _
      · rw [if_neg e] at h; cases h
theorem boot_startup : ∀ n ∈ bootMainNames, n ∈ startupNames := by decide

theorem topRan (w : World) {s₀ : Shared} (hB : ∃ mb mg c Pl, BootLeft s₀.heap mb mg c Pl) (hg : s₀.gens = #[]) (hz : s₀.asleep) : ∃ s₁, TopRan PW w s₀ s₁ ∧ Left w s₀ s₁ ∧ s₁.gens = #[] ∧ s₁.asleep := by
  obtain ⟨n, t', s₁, hs, ht, L, hg₁, hl⟩ := through_of_wp hz (top_walk w hB hg)
  refine ⟨s₁, ?_, L, hg₁, Shared.asleep_of_life hl hz⟩
  obtain ⟨mb, mg, c0, P0, hB⟩ := hB
  obtain ⟨hsame, keep, mb', mg', c, Pl, lo, vs, l, ⟨c1, P1, hB'⟩, hlo, hc, hPl, hPlo, hM, hmade⟩ := L
  have kS : ∀ o, s₀.heap.get? cStatics = some o → s₁.heap.get? cStatics = some o := fun o e => keep _ o (by decide) e
  have nS : s₁.heap.Ns cStatics (fun _ => none) := hB.statics.at kS
  have nB : s₁.heap.Ns builtinsNs mb := hB.b.at fun o e => keep _ o (by decide) e
  have hmg : ∀ x, mgAfter items vs mg' x = match lastIdx x (items.map (·.name)) with | some i => vs[i]? | none => mg' x := fun x => mgAfter_get x hmade
  refine ⟨⟨n, t', hs, ht⟩, hl, ?_, fun b o e hb => keep b o (fun q => hb (.inl q)) e, fun k v e => ?_, fun k => .inl ?_, ?_, fun x hx => ?_, ?_, fun g hgm => ?_, fun x v e => ?_, fun x hx => ?_⟩
  · obtain ⟨h, tk, rfl⟩ := hsame; rfl
  · rw [staticOf_ns nS] at e; cases e
  · rw [staticOf_ns nS, staticOf_ns hB.statics]
  · obtain ⟨o, es, ep, ho, hd, hk, _⟩ := hM.g
    exact ⟨o, es, ep, ho, hd, hk⟩
  · rw [builtinOf_ns nB]; exact hB.builtins x hx
  · obtain ⟨bm, o, a1, a2, a3, a4, a5, a6, a7, a8⟩ := hM.bmod
    exact ⟨bm, o, (Claim2Try.globalOf_of_ns hM.g _).trans a1, a5, a6, a7⟩
  · rw [hg₁] at hgm; simp at hgm
  · rw [Claim2Try.globalOf_of_ns hM.g, hmg] at e
    cases q : lastIdx x (items.map (·.name)) with
    | some i =>
      refine .inr ?_
      have := List.all_eq_true.mp bound_names x (lastIdx_mem q)
      simpa using this
    | none =>
      rw [q] at e
      refine .inl ?_
      by_cases hx : x ∈ bootMainNames
      · exact boot_startup x hx
      · rw [hB'.others x hx] at e; cases e
  · rw [Claim2Try.globalOf_of_ns hM.g, hmg, Claim2Try.globalOf_of_ns hB'.g]
    have := List.all_eq_true.mp laid_last x hx
    rw [Option.isNone_iff_eq_none] at this
    rw [this]
end Mine

end
section
open PySem PySem.W PySem.Calls PyProof.Rows
set_option linter.unusedVariables false
set_option linter.unusedSimpArgs false
set_option maxRecDepth 100000
namespace Mine
section
variable {α : Type} {P : List α → Prop} {vs : List α}
theorem vec0 (h : vs.length = 0) (f : P []) : P vs := by
  obtain rfl := List.eq_nil_of_length_eq_zero h; exact f
theorem vec1 (h : vs.length = 1) (f : ∀ a, P [a]) : P vs := by
  cases vs with
  | nil => cases h
  | cons a r => exact vec0 (P := fun r => P (a :: r)) (by simpa using h) (f a)
theorem vec2 (h : vs.length = 2) (f : ∀ a b, P [a, b]) : P vs := by
  cases vs with
  | nil => cases h
  | cons a r => exact vec1 (P := fun r => P (a :: r)) (by simpa using h) (f a)
theorem vec3 (h : vs.length = 3) (f : ∀ a b c, P [a, b, c]) : P vs := by
  cases vs with
  | nil => cases h
  | cons a r => exact vec2 (P := fun r => P (a :: r)) (by simpa using h) (f a)
theorem vec4 (h : vs.length = 4) (f : ∀ a b c d, P [a, b, c, d]) : P vs := by
  cases vs with
  | nil => cases h
  | cons a r => exact vec3 (P := fun r => P (a :: r)) (by simpa using h) (f a)
theorem vec5 (h : vs.length = 5) (f : ∀ a b c d e, P [a, b, c, d, e]) : P vs := by
  cases vs with
  | nil => cases h
  | cons a r => exact vec4 (P := fun r => P (a :: r)) (by simpa using h) (f a)
theorem vec6 (h : vs.length = 6) (f : ∀ a b c d e g, P [a, b, c, d, e, g]) : P vs := by
  cases vs with
  | nil => cases h
  | cons a r => exact vec5 (P := fun r => P (a :: r)) (by simpa using h) (f a)
end

def faOf (vs : List Value) (n : Nat) : Addr := match vs[n]? with
  | some (.ref a) => a
  | _ => 0
def fnArgs (n : Nat) : Arguments := match PW.main.body[n]? with
  | some (.FunctionDef _ a _ _ _ _ _ _ _ _) => a
  | _ => ⟨[], [], none, [], [], none, []⟩
def fnPos (n : Nat) : Pos := match PW.main.body[n]? with
  | some (.FunctionDef _ _ _ _ _ _ _ _ _ p) => p
  | _ => ⟨0, 0, 0, 0⟩

/-- the top's end, seen with the two tables hidden -/
structure HeadAt (c : Cx) (w : World) (h : Heap) (lo : Nat) (vs : List Value) (mg0 : Str → Option Value) (Pl P Q : Addr) : Prop where
  prog : c.prog = PW
  wo : c.w = w
  fa : c.fa = faOf vs
  base : c.base = hideAll h [P, Q]
  mg : c.mg = mgAfter items vs mg0
  made : Made PW w Pl h lo items vs
  tabP : h.get? P = some (tabObj #[])
  tabQ : h.get? Q = some (tabObj #[])
  no : ∀ x, x ∉ bootMainNames → mg0 x = none

section
variable {c : Cx} {w : World} {h : Heap} {lo : Nat} {vs : List Value} {mg0 : Str → Option Value} {Pl P Q : Addr}

theorem HeadAt.get (H : HeadAt c w h lo vs mg0 Pl P Q) {a : Addr} {o : Obj} (e : h.get? a = some o) (hd : o.data ≠ .fields #[]) : c.base.get? a = some o := by
  rw [H.base]
  refine hideAll_get _ e fun q => ?_
  rcases List.mem_cons.mp q with rfl | q
  · rw [H.tabP] at e; cases e; exact hd rfl
  · obtain rfl := List.mem_singleton.mp q
    rw [H.tabQ] at e; cases e; exact hd rfl
theorem HeadAt.mgGet (H : HeadAt c w h lo vs mg0 Pl P Q) (n : Str) : c.mg n = match lastIdx n (items.map (·.name)) with | some i => vs[i]? | none => mg0 n := by
  rw [H.mg]; exact mgAfter_get n H.made
theorem HeadAt.noG (H : HeadAt c w h lo vs mg0 Pl P Q) {x : String} (h1 : lastIdx (Str.ofString x) (items.map (·.name)) = none) (h2 : Str.ofString x ∉ bootMainNames) : NoG c x := by
  unfold NoG
  rw [H.mgGet, h1]
  exact H.no _ h2
theorem HeadAt.gint (H : HeadAt c w h lo vs mg0 Pl P Q) {n : Nat} {x : String} {i : Int} (h0 : (items[n]?).map (·.V) = some (VInt i)) (h1 : lastIdx (Str.ofString x) (items.map (·.name)) = some n) : GInt c x i := by
  obtain ⟨it, h0, hV⟩ := Option.map_eq_some_iff.mp h0
  obtain ⟨v, a, b, e, _, _, hv⟩ := H.made.get h0
  rw [hV] at hv
  obtain ⟨t, hv⟩ := hv
  unfold GInt
  rw [H.mgGet, h1]
  exact ⟨t, by rw [← hv]; exact e⟩
theorem codeRec_hd {q : Str} {cd : Value} (x : h.CodeRec cd q) : ∃ a o, cd = .ref a ∧ h.get? a = some o ∧ o.data ≠ .fields #[] := by
  obtain ⟨a, o, fs, t, e, ho, hd, hv⟩ := x
  refine ⟨a, o, e, ho, fun q => ?_⟩
  rw [hd] at q
  injection q with q
  subst q
  simp at hv
theorem HeadAt.fn (H : HeadAt c w h lo vs mg0 Pl P Q) {n : Nat} {name : String} {xs : List String} {pos : Pos} (h0 : items[n]? = some (defItem (Str.ofString name) (fnArgs n) (bodyAt n) (scopeAt n) pos)) (h1 : lastIdx (Str.ofString name) (items.map (·.name)) = some n)
    (hbind : ∀ pm cd, ∀ vs : List Value, vs.length = xs.length → bindArgs (plainDef (Str.ofString name) (fnArgs n) (bodyAt n) (scopeAt n) pm cd) ⟨vs, []⟩ = pure ((xs.map Str.ofString).zip vs)) (hnd : (xs.map Str.ofString).Nodup)
    (hk : ∀ x ∈ xs, (scopeAt n).names.lookup (Str.ofString x) = some .local ∨ (scopeAt n).names.lookup (Str.ofString x) = some .cell) (hco : (scopeAt n).isCoroutine = false) (hgen : (scopeAt n).isGenerator = false) (hkind : (scopeAt n).kind = .function) (hfree : ∀ z ∈ (scopeAt n).names, z.2 ≠ .free) :
    GFn c n (c.fa n) name xs := by
  obtain ⟨v, lo', hi, e, _, _, a, c', P', pm, rfl, _, _, _, _, _, _, ho, hrec, _, _⟩ := H.made.get h0
  have hfa : c.fa n = a := by rw [H.fa]; unfold faOf; rw [e]
  refine ⟨by rw [H.mgGet, h1, hfa]; exact e, plainDef (Str.ofString name) (fnArgs n) (bodyAt n) (scopeAt n) pm (.ref c'), rfl, ?_⟩
  rw [hfa]
  refine ⟨⟨_, H.get ho (fun q => by cases q), rfl⟩, rfl, rfl, rfl, rfl, ?_, hbind pm _, hnd, hk, hco, hgen, hkind, hfree⟩
  obtain ⟨b, o, eb, hb, hd⟩ := codeRec_hd hrec
  obtain ⟨c₂, o₂, fs, t, e2, ho2, hd2, hv⟩ := hrec
  rw [eb] at e2; cases e2
  rw [hb] at ho2; cases ho2
  exact ⟨b, o, fs, t, eb, H.get hb hd, hd2, hv⟩

def BindOk (f : FuncData) (xs : List String) (vs : List Value) : Prop := bindArgs f ⟨vs, []⟩ = pure ((xs.map Str.ofString).zip vs)
theorem bind_4 (pm cd : Value) : ∀ vs : List Value, vs.length = ["ch_a", "ch_b"].length → bindArgs (plainDef (Str.ofString "_substitution_cost") (fnArgs 4) (bodyAt 4) (scopeAt 4) pm cd) ⟨vs, []⟩ = pure ((["ch_a", "ch_b"].map Str.ofString).zip vs) := fun vs h => vec2 (P := BindOk (plainDef (Str.ofString "_substitution_cost") (fnArgs 4) (bodyAt 4) (scopeAt 4) pm cd) ["ch_a", "ch_b"]) h fun v0 v1 => rfl
theorem item_4 : items[4]? = some (defItem (Str.ofString "_substitution_cost") (fnArgs 4) (bodyAt 4) (scopeAt 4) (fnPos 4)) := by kernel_rfl
theorem fn_4 (H : HeadAt c w h lo vs mg0 Pl P Q) : GFn c 4 (c.fa 4) "_substitution_cost" ["ch_a", "ch_b"] :=
  H.fn item_4 (by rw [items_names]; decide +kernel) bind_4 (by decide +kernel) (by decide +kernel) (by decide +kernel) (by decide +kernel) (by decide +kernel) (by decide +kernel)
theorem bind_5 (pm cd : Value) : ∀ vs : List Value, vs.length = ["a", "b", "max_cost"].length → bindArgs (plainDef (Str.ofString "_levenshtein_distance") (fnArgs 5) (bodyAt 5) (scopeAt 5) pm cd) ⟨vs, []⟩ = pure ((["a", "b", "max_cost"].map Str.ofString).zip vs) := fun vs h => vec3 (P := BindOk (plainDef (Str.ofString "_levenshtein_distance") (fnArgs 5) (bodyAt 5) (scopeAt 5) pm cd) ["a", "b", "max_cost"]) h fun v0 v1 v2 => rfl
theorem item_5 : items[5]? = some (defItem (Str.ofString "_levenshtein_distance") (fnArgs 5) (bodyAt 5) (scopeAt 5) (fnPos 5)) := by kernel_rfl
theorem fn_5 (H : HeadAt c w h lo vs mg0 Pl P Q) : GFn c 5 (c.fa 5) "_levenshtein_distance" ["a", "b", "max_cost"] :=
  H.fn item_5 (by rw [items_names]; decide +kernel) bind_5 (by decide +kernel) (by decide +kernel) (by decide +kernel) (by decide +kernel) (by decide +kernel) (by decide +kernel)
theorem bind_8 (pm cd : Value) : ∀ vs : List Value, vs.length = ["a", "b", "n"].length → bindArgs (plainDef (Str.ofString "_div2n1n") (fnArgs 8) (bodyAt 8) (scopeAt 8) pm cd) ⟨vs, []⟩ = pure ((["a", "b", "n"].map Str.ofString).zip vs) := fun vs h => vec3 (P := BindOk (plainDef (Str.ofString "_div2n1n") (fnArgs 8) (bodyAt 8) (scopeAt 8) pm cd) ["a", "b", "n"]) h fun v0 v1 v2 => rfl
theorem item_8 : items[8]? = some (defItem (Str.ofString "_div2n1n") (fnArgs 8) (bodyAt 8) (scopeAt 8) (fnPos 8)) := by kernel_rfl
theorem fn_8 (H : HeadAt c w h lo vs mg0 Pl P Q) : GFn c 8 (c.fa 8) "_div2n1n" ["a", "b", "n"] :=
  H.fn item_8 (by rw [items_names]; decide +kernel) bind_8 (by decide +kernel) (by decide +kernel) (by decide +kernel) (by decide +kernel) (by decide +kernel) (by decide +kernel)
theorem bind_9 (pm cd : Value) : ∀ vs : List Value, vs.length = ["a12", "a3", "b", "b1", "b2", "n"].length → bindArgs (plainDef (Str.ofString "_div3n2n") (fnArgs 9) (bodyAt 9) (scopeAt 9) pm cd) ⟨vs, []⟩ = pure ((["a12", "a3", "b", "b1", "b2", "n"].map Str.ofString).zip vs) := fun vs h => vec6 (P := BindOk (plainDef (Str.ofString "_div3n2n") (fnArgs 9) (bodyAt 9) (scopeAt 9) pm cd) ["a12", "a3", "b", "b1", "b2", "n"]) h fun v0 v1 v2 v3 v4 v5 => rfl
theorem item_9 : items[9]? = some (defItem (Str.ofString "_div3n2n") (fnArgs 9) (bodyAt 9) (scopeAt 9) (fnPos 9)) := by kernel_rfl
theorem fn_9 (H : HeadAt c w h lo vs mg0 Pl P Q) : GFn c 9 (c.fa 9) "_div3n2n" ["a12", "a3", "b", "b1", "b2", "n"] :=
  H.fn item_9 (by rw [items_names]; decide +kernel) bind_9 (by decide +kernel) (by decide +kernel) (by decide +kernel) (by decide +kernel) (by decide +kernel) (by decide +kernel)
theorem bind_10 (pm cd : Value) : ∀ vs : List Value, vs.length = ["a", "n"].length → bindArgs (plainDef (Str.ofString "_int2digits") (fnArgs 10) (bodyAt 10) (scopeAt 10) pm cd) ⟨vs, []⟩ = pure ((["a", "n"].map Str.ofString).zip vs) := fun vs h => vec2 (P := BindOk (plainDef (Str.ofString "_int2digits") (fnArgs 10) (bodyAt 10) (scopeAt 10) pm cd) ["a", "n"]) h fun v0 v1 => rfl
theorem item_10 : items[10]? = some (defItem (Str.ofString "_int2digits") (fnArgs 10) (bodyAt 10) (scopeAt 10) (fnPos 10)) := by kernel_rfl
theorem fn_10 (H : HeadAt c w h lo vs mg0 Pl P Q) : GFn c 10 (c.fa 10) "_int2digits" ["a", "n"] :=
  H.fn item_10 (by rw [items_names]; decide +kernel) bind_10 (by decide +kernel) (by decide +kernel) (by decide +kernel) (by decide +kernel) (by decide +kernel) (by decide +kernel)
theorem bind_11 (pm cd : Value) : ∀ vs : List Value, vs.length = ["digits", "n"].length → bindArgs (plainDef (Str.ofString "_digits2int") (fnArgs 11) (bodyAt 11) (scopeAt 11) pm cd) ⟨vs, []⟩ = pure ((["digits", "n"].map Str.ofString).zip vs) := fun vs h => vec2 (P := BindOk (plainDef (Str.ofString "_digits2int") (fnArgs 11) (bodyAt 11) (scopeAt 11) pm cd) ["digits", "n"]) h fun v0 v1 => rfl
theorem item_11 : items[11]? = some (defItem (Str.ofString "_digits2int") (fnArgs 11) (bodyAt 11) (scopeAt 11) (fnPos 11)) := by kernel_rfl
theorem fn_11 (H : HeadAt c w h lo vs mg0 Pl P Q) : GFn c 11 (c.fa 11) "_digits2int" ["digits", "n"] :=
  H.fn item_11 (by rw [items_names]; decide +kernel) bind_11 (by decide +kernel) (by decide +kernel) (by decide +kernel) (by decide +kernel) (by decide +kernel) (by decide +kernel)
theorem bind_12 (pm cd : Value) : ∀ vs : List Value, vs.length = ["a", "b"].length → bindArgs (plainDef (Str.ofString "_divmod_pos") (fnArgs 12) (bodyAt 12) (scopeAt 12) pm cd) ⟨vs, []⟩ = pure ((["a", "b"].map Str.ofString).zip vs) := fun vs h => vec2 (P := BindOk (plainDef (Str.ofString "_divmod_pos") (fnArgs 12) (bodyAt 12) (scopeAt 12) pm cd) ["a", "b"]) h fun v0 v1 => rfl
theorem item_12 : items[12]? = some (defItem (Str.ofString "_divmod_pos") (fnArgs 12) (bodyAt 12) (scopeAt 12) (fnPos 12)) := by kernel_rfl
theorem fn_12 (H : HeadAt c w h lo vs mg0 Pl P Q) : GFn c 12 (c.fa 12) "_divmod_pos" ["a", "b"] :=
  H.fn item_12 (by rw [items_names]; decide +kernel) bind_12 (by decide +kernel) (by decide +kernel) (by decide +kernel) (by decide +kernel) (by decide +kernel) (by decide +kernel)
theorem bind_13 (pm cd : Value) : ∀ vs : List Value, vs.length = ["a", "b"].length → bindArgs (plainDef (Str.ofString "int_divmod") (fnArgs 13) (bodyAt 13) (scopeAt 13) pm cd) ⟨vs, []⟩ = pure ((["a", "b"].map Str.ofString).zip vs) := fun vs h => vec2 (P := BindOk (plainDef (Str.ofString "int_divmod") (fnArgs 13) (bodyAt 13) (scopeAt 13) pm cd) ["a", "b"]) h fun v0 v1 => rfl
theorem item_13 : items[13]? = some (defItem (Str.ofString "int_divmod") (fnArgs 13) (bodyAt 13) (scopeAt 13) (fnPos 13)) := by kernel_rfl
theorem fn_13 (H : HeadAt c w h lo vs mg0 Pl P Q) : GFn c 13 (c.fa 13) "int_divmod" ["a", "b"] :=
  H.fn item_13 (by rw [items_names]; decide +kernel) bind_13 (by decide +kernel) (by decide +kernel) (by decide +kernel) (by decide +kernel) (by decide +kernel) (by decide +kernel)
theorem bind_16 (pm cd : Value) : ∀ vs : List Value, vs.length = ["flags"].length → bindArgs (plainDef (Str.ofString "pretty_flags") (fnArgs 16) (bodyAt 16) (scopeAt 16) pm cd) ⟨vs, []⟩ = pure ((["flags"].map Str.ofString).zip vs) := fun vs h => vec1 (P := BindOk (plainDef (Str.ofString "pretty_flags") (fnArgs 16) (bodyAt 16) (scopeAt 16) pm cd) ["flags"]) h fun v0 => rfl
theorem item_16 : items[16]? = some (defItem (Str.ofString "pretty_flags") (fnArgs 16) (bodyAt 16) (scopeAt 16) (fnPos 16)) := by kernel_rfl
theorem fn_16 (H : HeadAt c w h lo vs mg0 Pl P Q) : GFn c 16 (c.fa 16) "pretty_flags" ["flags"] :=
  H.fn item_16 (by rw [items_names]; decide +kernel) bind_16 (by decide +kernel) (by decide +kernel) (by decide +kernel) (by decide +kernel) (by decide +kernel) (by decide +kernel)
theorem bind_17 (pm cd : Value) : ∀ vs : List Value, vs.length = ["iterator"].length → bindArgs (plainDef (Str.ofString "_parse_varint") (fnArgs 17) (bodyAt 17) (scopeAt 17) pm cd) ⟨vs, []⟩ = pure ((["iterator"].map Str.ofString).zip vs) := fun vs h => vec1 (P := BindOk (plainDef (Str.ofString "_parse_varint") (fnArgs 17) (bodyAt 17) (scopeAt 17) pm cd) ["iterator"]) h fun v0 => rfl
theorem item_17 : items[17]? = some (defItem (Str.ofString "_parse_varint") (fnArgs 17) (bodyAt 17) (scopeAt 17) (fnPos 17)) := by kernel_rfl
theorem fn_17 (H : HeadAt c w h lo vs mg0 Pl P Q) : GFn c 17 (c.fa 17) "_parse_varint" ["iterator"] :=
  H.fn item_17 (by rw [items_names]; decide +kernel) bind_17 (by decide +kernel) (by decide +kernel) (by decide +kernel) (by decide +kernel) (by decide +kernel) (by decide +kernel)
theorem bind_20 (pm cd : Value) : ∀ vs : List Value, vs.length = ["code"].length → bindArgs (plainDef (Str.ofString "in_table_b1") (fnArgs 20) (bodyAt 20) (scopeAt 20) pm cd) ⟨vs, []⟩ = pure ((["code"].map Str.ofString).zip vs) := fun vs h => vec1 (P := BindOk (plainDef (Str.ofString "in_table_b1") (fnArgs 20) (bodyAt 20) (scopeAt 20) pm cd) ["code"]) h fun v0 => rfl
theorem item_20 : items[20]? = some (defItem (Str.ofString "in_table_b1") (fnArgs 20) (bodyAt 20) (scopeAt 20) (fnPos 20)) := by kernel_rfl
theorem fn_20 (H : HeadAt c w h lo vs mg0 Pl P Q) : GFn c 20 (c.fa 20) "in_table_b1" ["code"] :=
  H.fn item_20 (by rw [items_names]; decide +kernel) bind_20 (by decide +kernel) (by decide +kernel) (by decide +kernel) (by decide +kernel) (by decide +kernel) (by decide +kernel)
theorem bind_22 (pm cd : Value) : ∀ vs : List Value, vs.length = ["code"].length → bindArgs (plainDef (Str.ofString "map_table_b3") (fnArgs 22) (bodyAt 22) (scopeAt 22) pm cd) ⟨vs, []⟩ = pure ((["code"].map Str.ofString).zip vs) := fun vs h => vec1 (P := BindOk (plainDef (Str.ofString "map_table_b3") (fnArgs 22) (bodyAt 22) (scopeAt 22) pm cd) ["code"]) h fun v0 => rfl
theorem item_22 : items[22]? = some (defItem (Str.ofString "map_table_b3") (fnArgs 22) (bodyAt 22) (scopeAt 22) (fnPos 22)) := by kernel_rfl
theorem fn_22 (H : HeadAt c w h lo vs mg0 Pl P Q) : GFn c 22 (c.fa 22) "map_table_b3" ["code"] :=
  H.fn item_22 (by rw [items_names]; decide +kernel) bind_22 (by decide +kernel) (by decide +kernel) (by decide +kernel) (by decide +kernel) (by decide +kernel) (by decide +kernel)
theorem bind_24 (pm cd : Value) : ∀ vs : List Value, vs.length = ["number", "places"].length → bindArgs (plainDef (Str.ofString "_law_rows") (fnArgs 24) (bodyAt 24) (scopeAt 24) pm cd) ⟨vs, []⟩ = pure ((["number", "places"].map Str.ofString).zip vs) := fun vs h => vec2 (P := BindOk (plainDef (Str.ofString "_law_rows") (fnArgs 24) (bodyAt 24) (scopeAt 24) pm cd) ["number", "places"]) h fun v0 v1 => rfl
theorem item_24 : items[24]? = some (defItem (Str.ofString "_law_rows") (fnArgs 24) (bodyAt 24) (scopeAt 24) (fnPos 24)) := by kernel_rfl
theorem fn_24 (H : HeadAt c w h lo vs mg0 Pl P Q) : GFn c 24 (c.fa 24) "_law_rows" ["number", "places"] :=
  H.fn item_24 (by rw [items_names]; decide +kernel) bind_24 (by decide +kernel) (by decide +kernel) (by decide +kernel) (by decide +kernel) (by decide +kernel) (by decide +kernel)
theorem bind_25 (pm cd : Value) : ∀ vs : List Value, vs.length = ([] : List String).length → bindArgs (plainDef (Str.ofString "_law_forms") (fnArgs 25) (bodyAt 25) (scopeAt 25) pm cd) ⟨vs, []⟩ = pure ((([] : List String).map Str.ofString).zip vs) := fun vs h => vec0 (P := BindOk (plainDef (Str.ofString "_law_forms") (fnArgs 25) (bodyAt 25) (scopeAt 25) pm cd) []) h rfl
theorem item_25 : items[25]? = some (defItem (Str.ofString "_law_forms") (fnArgs 25) (bodyAt 25) (scopeAt 25) (fnPos 25)) := by kernel_rfl
theorem fn_25 (H : HeadAt c w h lo vs mg0 Pl P Q) : GFn c 25 (c.fa 25) "_law_forms" [] :=
  H.fn item_25 (by rw [items_names]; decide +kernel) bind_25 (by decide +kernel) (by decide +kernel) (by decide +kernel) (by decide +kernel) (by decide +kernel) (by decide +kernel)
theorem bind_26 (pm cd : Value) : ∀ vs : List Value, vs.length = ["row"].length → bindArgs (plainDef (Str.ofString "_law_typed") (fnArgs 26) (bodyAt 26) (scopeAt 26) pm cd) ⟨vs, []⟩ = pure ((["row"].map Str.ofString).zip vs) := fun vs h => vec1 (P := BindOk (plainDef (Str.ofString "_law_typed") (fnArgs 26) (bodyAt 26) (scopeAt 26) pm cd) ["row"]) h fun v0 => rfl
theorem item_26 : items[26]? = some (defItem (Str.ofString "_law_typed") (fnArgs 26) (bodyAt 26) (scopeAt 26) (fnPos 26)) := by kernel_rfl
theorem fn_26 (H : HeadAt c w h lo vs mg0 Pl P Q) : GFn c 26 (c.fa 26) "_law_typed" ["row"] :=
  H.fn item_26 (by rw [items_names]; decide +kernel) bind_26 (by decide +kernel) (by decide +kernel) (by decide +kernel) (by decide +kernel) (by decide +kernel) (by decide +kernel)
theorem bind_27 (pm cd : Value) : ∀ vs : List Value, vs.length = ["extra"].length → bindArgs (plainDef (Str.ofString "_law_put_in") (fnArgs 27) (bodyAt 27) (scopeAt 27) pm cd) ⟨vs, []⟩ = pure ((["extra"].map Str.ofString).zip vs) := fun vs h => vec1 (P := BindOk (plainDef (Str.ofString "_law_put_in") (fnArgs 27) (bodyAt 27) (scopeAt 27) pm cd) ["extra"]) h fun v0 => rfl
theorem item_27 : items[27]? = some (defItem (Str.ofString "_law_put_in") (fnArgs 27) (bodyAt 27) (scopeAt 27) (fnPos 27)) := by kernel_rfl
theorem fn_27 (H : HeadAt c w h lo vs mg0 Pl P Q) : GFn c 27 (c.fa 27) "_law_put_in" ["extra"] :=
  H.fn item_27 (by rw [items_names]; decide +kernel) bind_27 (by decide +kernel) (by decide +kernel) (by decide +kernel) (by decide +kernel) (by decide +kernel) (by decide +kernel)
theorem bind_28 (pm cd : Value) : ∀ vs : List Value, vs.length = ["row"].length → bindArgs (plainDef (Str.ofString "_law_names") (fnArgs 28) (bodyAt 28) (scopeAt 28) pm cd) ⟨vs, []⟩ = pure ((["row"].map Str.ofString).zip vs) := fun vs h => vec1 (P := BindOk (plainDef (Str.ofString "_law_names") (fnArgs 28) (bodyAt 28) (scopeAt 28) pm cd) ["row"]) h fun v0 => rfl
theorem item_28 : items[28]? = some (defItem (Str.ofString "_law_names") (fnArgs 28) (bodyAt 28) (scopeAt 28) (fnPos 28)) := by kernel_rfl
theorem fn_28 (H : HeadAt c w h lo vs mg0 Pl P Q) : GFn c 28 (c.fa 28) "_law_names" ["row"] :=
  H.fn item_28 (by rw [items_names]; decide +kernel) bind_28 (by decide +kernel) (by decide +kernel) (by decide +kernel) (by decide +kernel) (by decide +kernel) (by decide +kernel)
theorem bind_29 (pm cd : Value) : ∀ vs : List Value, vs.length = ["number"].length → bindArgs (plainDef (Str.ofString "_law_sizes") (fnArgs 29) (bodyAt 29) (scopeAt 29) pm cd) ⟨vs, []⟩ = pure ((["number"].map Str.ofString).zip vs) := fun vs h => vec1 (P := BindOk (plainDef (Str.ofString "_law_sizes") (fnArgs 29) (bodyAt 29) (scopeAt 29) pm cd) ["number"]) h fun v0 => rfl
theorem item_29 : items[29]? = some (defItem (Str.ofString "_law_sizes") (fnArgs 29) (bodyAt 29) (scopeAt 29) (fnPos 29)) := by kernel_rfl
theorem fn_29 (H : HeadAt c w h lo vs mg0 Pl P Q) : GFn c 29 (c.fa 29) "_law_sizes" ["number"] :=
  H.fn item_29 (by rw [items_names]; decide +kernel) bind_29 (by decide +kernel) (by decide +kernel) (by decide +kernel) (by decide +kernel) (by decide +kernel) (by decide +kernel)
theorem bind_30 (pm cd : Value) : ∀ vs : List Value, vs.length = ["rows"].length → bindArgs (plainDef (Str.ofString "_law_sparse") (fnArgs 30) (bodyAt 30) (scopeAt 30) pm cd) ⟨vs, []⟩ = pure ((["rows"].map Str.ofString).zip vs) := fun vs h => vec1 (P := BindOk (plainDef (Str.ofString "_law_sparse") (fnArgs 30) (bodyAt 30) (scopeAt 30) pm cd) ["rows"]) h fun v0 => rfl
theorem item_30 : items[30]? = some (defItem (Str.ofString "_law_sparse") (fnArgs 30) (bodyAt 30) (scopeAt 30) (fnPos 30)) := by kernel_rfl
theorem fn_30 (H : HeadAt c w h lo vs mg0 Pl P Q) : GFn c 30 (c.fa 30) "_law_sparse" ["rows"] :=
  H.fn item_30 (by rw [items_names]; decide +kernel) bind_30 (by decide +kernel) (by decide +kernel) (by decide +kernel) (by decide +kernel) (by decide +kernel) (by decide +kernel)
theorem bind_31 (pm cd : Value) : ∀ vs : List Value, vs.length = ["script"].length → bindArgs (plainDef (Str.ofString "law") (fnArgs 31) (bodyAt 31) (scopeAt 31) pm cd) ⟨vs, []⟩ = pure ((["script"].map Str.ofString).zip vs) := fun vs h => vec1 (P := BindOk (plainDef (Str.ofString "law") (fnArgs 31) (bodyAt 31) (scopeAt 31) pm cd) ["script"]) h fun v0 => rfl
theorem item_31 : items[31]? = some (defItem (Str.ofString "law") (fnArgs 31) (bodyAt 31) (scopeAt 31) (fnPos 31)) := by kernel_rfl
theorem fn_31 (H : HeadAt c w h lo vs mg0 Pl P Q) : GFn c 31 (c.fa 31) "law" ["script"] :=
  H.fn item_31 (by rw [items_names]; decide +kernel) bind_31 (by decide +kernel) (by decide +kernel) (by decide +kernel) (by decide +kernel) (by decide +kernel) (by decide +kernel)
end
end Mine

end
section
open PySem PySem.W PySem.Calls PyProof.Rows
set_option linter.unusedVariables false
set_option linter.unusedSimpArgs false
set_option maxRecDepth 100000
namespace Mine

def valStr (l : List (Int × Str)) (k : Int) : Option Str := (l.find? fun p => p.1 = k).map (·.2)
theorem KV.value {l kvs} (h : KV l kvs) (k : Int) : (∀ x, valStr l k = some x → ∃ t, valueAt kvs k = some (.str x t)) ∧ (valStr l k = none → valueAt kvs k = none) := by
  induction h with
  | nil => exact ⟨fun x e => by simp [valStr] at e, fun _ => by simp [valueAt]⟩
  | cons h ih =>
    rename_i k' x' t' l' kvs'
    unfold valStr valueAt at *
    by_cases e : k' = k
    · subst e
      exact ⟨fun x e => ⟨t', by simpa using e⟩, fun e => by simp at e⟩
    · simpa [List.find?_cons, e] using ih

/-- a function that holds one nested def, as the top leaves it -/
def TabD (vs : List Value) (h : Heap) (n : Nat) (name : String) (P : Addr) : Prop := ∃ a c' pm, vs[n]? = some (.ref a) ∧ h.get? a = some { cls := .type "function", data := .func (plainDef (Str.ofString name) (fnArgs n) (bodyAt n) (scopeAt n) pm (.ref c')) } ∧ h.CodeRec (.ref c') (Str.ofString name) ∧ h.IsCode c' P #[] ∧ h.TableAt c' P #[]

structure HeadB (c : Cx) (w : World) (h : Heap) (lo : Nat) (vs : List Value) (mg0 : Str → Option Value) (Pl P Q : Addr) : Prop extends HeadAt c w h lo vs mg0 Pl P Q where
  d10 : TabD vs h 10 "_int2digits" P
  d11 : TabD vs h 11 "_digits2int" Q
  bmod : h.BuiltinsAt (mgAfter items vs mg0) Pl
  ne : P ≠ Q

section
variable {c : Cx} {w : World} {h : Heap} {lo : Nat} {vs : List Value} {mg0 : Str → Option Value} {Pl P Q : Addr}
theorem HeadAt.dict (H : HeadAt c w h lo vs mg0 Pl P Q) {n : Nat} {l : List (Int × Str)} {x : String} (h0 : (items[n]?).map (·.V) = some (VDict l)) (h1 : lastIdx (Str.ofString x) (items.map (·.name)) = some n) :
    c.mg (Str.ofString x) = some (.ref (c.fa n)) ∧ ∃ kvs, KV l kvs ∧ MapTx c (c.fa n) (valueAt kvs) := by
  obtain ⟨it, h0, hV⟩ := Option.map_eq_some_iff.mp h0
  obtain ⟨v, a, b, e, _, _, hv⟩ := H.made.get h0
  rw [hV] at hv
  obtain ⟨d, kvs, rfl, _, hds, hk, hd⟩ := hv
  have hfa : c.fa n = d := by rw [H.fa]; unfold faOf; rw [e]
  refine ⟨by rw [H.mgGet, h1, hfa]; exact e, kvs, hk, ?_⟩
  rw [hfa]
  have hm := hd.mapOf
  obtain ⟨o, es, ep, ho, hc, hdd, r⟩ := hm
  refine ⟨?_, hds⟩
  rw [H.prog, H.wo]
  exact ⟨o, es, ep, H.get ho (fun q => by rw [hdd] at q; cases q), hc, hdd, r⟩
theorem HeadAt.set (H : HeadAt c w h lo vs mg0 Pl P Q) : c.mg (Str.ofString "b1_set") = some (.ref (c.fa 19)) ∧ c.base.SetOf (intKind c.prog c.w) (c.fa 19) b1S 27 := by
  have h0 : items[19]? = some setIt := by kernel_rfl
  obtain ⟨v, a, b, e, _, _, hv⟩ := H.made.get h0
  obtain ⟨d, rfl, _, hS⟩ : VSet b1F 27 PW w Pl a b v h := hv
  have hfa : c.fa 19 = d := by rw [H.fa]; unfold faOf; rw [e]
  have h1 : lastIdx (Str.ofString "b1_set") (items.map (·.name)) = some 19 := by rw [items_names]; decide +kernel
  refine ⟨by rw [H.mgGet, h1, hfa]; exact e, ?_⟩
  rw [hfa, H.prog, H.wo]
  obtain ⟨o, es, ep, t, ho, hex, hdd, r⟩ := hS
  exact ⟨o, es, ep, t, H.get ho (fun q => by rw [hdd] at q; cases q), hex, hdd, r⟩

theorem HeadAt.tab (H : HeadB c w h lo vs mg0 Pl P Q) {n : Nat} {name : String} {xs : List String} {R : Addr} (d : TabD vs h n name R) (hR : R ∈ [P, Q]) (G : GFn c n (c.fa n) name xs) : ∃ cd, GTab c n (c.fa n) cd R name xs := by
  obtain ⟨a, c', pm, e, ho, hrec, hic, hta⟩ := d
  have hfa : c.fa n = a := by rw [H.fa]; unfold faOf; rw [e]
  obtain ⟨hmg, fd, hsc, F⟩ := G
  refine ⟨c', hmg, ⟨fd, hsc, F, ?_⟩, ?_, ?_, ?_⟩
  · obtain ⟨o, ho', hd'⟩ := F.at_
    have := H.get ho (fun q => by cases q)
    rw [hfa, this] at ho'
    cases ho'
    cases hd'
    exact ⟨rfl, rfl⟩
  · obtain ⟨o, fs, file, tf, flags, tg, inF, text, tt, e1, e2, e3, e4, e5⟩ := CodeHd.of hic hta
    exact ⟨o, fs, file, tf, flags, tg, inF, text, tt, H.get e1 (fun q => by rw [e3] at q; injection q with q; subst q; simp at e4), e2, e3, e4, e5⟩
  · rw [H.base]; exact hideAll_none _ hR
  · obtain ⟨bm, o, a1, a2, a3, a4, a5, a6, a7, a8⟩ := H.bmod
    have hb := H.get a5 (fun q => by rw [a8] at q; cases q)
    refine ⟨bm, o, by rw [H.mg]; exact a1, a2, a3, ?_, hb, a6, a7, a8⟩
    rintro rfl
    rw [H.base, hideAll_none _ hR] at hb
    cases hb

theorem HeadAt.free (H : HeadAt c w h lo vs mg0 Pl P Q) (x : String) (hx : ((lastIdx (Str.ofString x) (["__name__", "_MAX_STRING_SIZE", "_MOVE_COST", "_CASE_COST", "_substitution_cost", "_levenshtein_distance", "__name__", "_DIV_LIMIT", "_div2n1n", "_div3n2n", "_int2digits", "_digits2int", "_divmod_pos", "int_divmod", "__name__", "COMPILER_FLAG_NAMES", "pretty_flags", "_parse_varint", "__name__", "b1_set", "in_table_b1", "b3_exceptions", "map_table_b3", "__name__", "_law_rows", "_law_forms", "_law_typed", "_law_put_in", "_law_names", "_law_sizes", "_law_sparse", "law"].map Str.ofString)).isNone && !bootMainNames.contains (Str.ofString x)) = true) : NoG c x := by
  obtain ⟨h1, h2⟩ := Bool.and_eq_true_iff.mp hx
  exact H.noG (by rw [items_names]; exact Option.isNone_iff_eq_none.mp h1) (by simpa using h2)

theorem g1 (H : HeadAt c w h lo vs mg0 Pl P Q) : G1 c := ⟨fn_4 H, H.gint (n := 2) (by kernel_rfl) (by rw [items_names]; decide +kernel), H.gint (n := 3) (by kernel_rfl) (by rw [items_names]; decide +kernel)⟩
theorem g2 (H : HeadAt c w h lo vs mg0 Pl P Q) : G2 c := ⟨g1 H, fn_5 H, H.gint (n := 1) (by kernel_rfl) (by rw [items_names]; decide +kernel), H.free _ (by decide +kernel), H.free _ (by decide +kernel), H.free _ (by decide +kernel), H.free _ (by decide +kernel)⟩
theorem g3 (H : HeadAt c w h lo vs mg0 Pl P Q) : G3 c := ⟨H.gint (n := 7) (by kernel_rfl) (by rw [items_names]; decide +kernel), fn_8 H, fn_9 H, fn_10 H, fn_11 H, fn_12 H, fn_13 H, H.free _ (by decide +kernel), H.free _ (by decide +kernel), H.free _ (by decide +kernel)⟩
def dictAt (n : Nat) : List (Int × Str) := match PW.main.body[n]? with
  | some (.Assign _ (.Dict keys values _) _) => (readPairs keys values).getD []
  | _ => []
def flagL : List (Int × Str) := dictAt 15
def b3L : List (Int × Str) := dictAt 21
theorem flag_vals : ∀ i < 10, valStr flagL (1 * 2 ^ i) = some (flagName i) := by decide +kernel
theorem b3_vals : ∀ n ∈ letters, valStr b3L (n : Nat) = none := by decide +kernel
theorem g4 (H : HeadAt c w h lo vs mg0 Pl P Q) : G4 c := by
  obtain ⟨h1, kvs, hk, hm⟩ := H.dict (n := 15) (x := "COMPILER_FLAG_NAMES") (l := flagL) (by kernel_rfl) (by rw [items_names]; decide +kernel)
  exact ⟨fn_16 H, H.free _ (by decide +kernel), H.free _ (by decide +kernel), h1, _, hm, fun i hi => (hk.value _).1 _ (by have := flag_vals i hi; simpa using this)⟩
theorem g5 (H : HeadAt c w h lo vs mg0 Pl P Q) : G5 c := by
  obtain ⟨h1, kvs, hk, hm⟩ := H.dict (n := 21) (x := "b3_exceptions") (l := b3L) (by kernel_rfl) (by rw [items_names]; decide +kernel)
  exact ⟨fn_20 H, fn_22 H, H.free _ (by decide +kernel), H.set.1, H.set.2, h1, ⟨_, hm, fun n hn => (hk.value _).2 (b3_vals n hn)⟩, fn_24 H, fn_25 H, fn_26 H, fn_27 H, fn_28 H, fn_29 H, fn_30 H, H.free _ (by decide +kernel), H.free _ (by decide +kernel), H.free _ (by decide +kernel)⟩
end
end Mine

end
section
open PySem PySem.W PySem.Calls PyProof.Rows
set_option linter.unusedVariables false
set_option linter.unusedSimpArgs false
set_option maxRecDepth 100000
namespace Mine

theorem hide_ns {h : Heap} {P Q a : Addr} {m : Str → Option Value} (hP : h.get? P = some (tabObj #[])) (hQ : h.get? Q = some (tabObj #[])) (hn : h.Ns a m) : (hideAll h [P, Q]).Ns a m := by
  obtain ⟨o, es, ep, ho, hd, r⟩ := hn
  refine ⟨o, es, ep, hideAll_get _ ho fun q => ?_, hd, r⟩
  rcases List.mem_cons.mp q with rfl | q
  · rw [hP] at ho; cases ho; cases hd
  · obtain rfl := List.mem_singleton.mp q
    rw [hQ] at ho; cases ho; cases hd
theorem tab_of {h : Heap} {c P : Addr} (x : h.TableAt c P #[]) : h.get? P = some (tabObj #[]) := x.2

theorem head_c {w : World} {s₀ s₁ : Shared} (L : Left w s₀ s₁) : ∃ c lo vs mg0 Pl P Q, HeadB c w s₁.heap lo vs mg0 Pl P Q := by
  obtain ⟨hsame, keep, mb, mg, c0, Pl, lo, vs, l, ⟨c1, P1, hB⟩, hlo, hc, hPl, hPlo, hM, hmade⟩ := L
  obtain ⟨v, v', a, b, d, e10, e11, h1, h2, h3, hv, hv'⟩ := hmade.get2 item_10 item_11
  obtain ⟨a1, c1', P, pm1, rfl, l1, l2, l3, l4, l5, l6, x1, x2, x3, x4⟩ : VDef _ _ _ _ Pl a b v s₁.heap := hv
  obtain ⟨a2, c2', Q, pm2, rfl, k1, k2, k3, k4, k5, k6, y1, y2, y3, y4⟩ : VDef _ _ _ _ Pl b d v' s₁.heap := hv'
  have hne : P ≠ Q := Nat.ne_of_lt (Nat.lt_of_lt_of_le l6 k3)
  let c : Cx := { prog := PW, w := w, fa := faOf vs, base := hideAll s₁.heap [P, Q], mg := mgAfter items vs mg, mb := mb, g := hide_ns (tab_of x4) (tab_of y4) hM.g, b := hide_ns (tab_of x4) (tab_of y4) (hB.b.at fun o e => keep _ o (by decide) e), nolimit := ⟨_, hide_ns (tab_of x4) (tab_of y4) (hB.statics.at fun o e => keep _ o (by decide) e), rfl⟩, blt := hB.builtins }
  exact ⟨c, lo, vs, mg, Pl, P, Q, ⟨rfl, rfl, rfl, rfl, rfl, hmade, tab_of x4, tab_of y4, hB.others⟩, ⟨a1, c1', pm1, e10, x1, x2, x3, x4⟩, ⟨a2, c2', pm2, e11, y1, y2, y3, y4⟩, hM.bmod, hne⟩

/-- what the law's walk leans upon -/
structure TopG (c : Cx) (w : World) (h : Heap) (P Q : Addr) : Prop where
  prog : c.prog = PW
  wo : c.w = w
  inh : c.In h
  g2 : G2 c
  g3 : G3 c
  g4 : G4 c
  g5 : G5 c
  t10 : ∃ cd, GTab c 10 (c.fa 10) cd P "_int2digits" ["a", "n"]
  t11 : ∃ cd, GTab c 11 (c.fa 11) cd Q "_digits2int" ["digits", "n"]
  vi : GFn c 17 (c.fa 17) "_parse_varint" ["iterator"]
  law : GFn c 31 (c.fa 31) "law" ["script"]
  free : ∀ x ∈ ["len", "range", "list", "min", "max", "sum", "divmod", "reversed", "hex", "ord", "chr", "bytes", "iter", "next", "abs"], NoG c x
  tP : h.get? P = some (tabObj #[])
  tQ : h.get? Q = some (tabObj #[])
  ne : P ≠ Q
theorem topG {c : Cx} {w : World} {h : Heap} {lo : Nat} {vs : List Value} {mg0 : Str → Option Value} {Pl P Q : Addr} (H : HeadB c w h lo vs mg0 Pl P Q) : TopG c w h P Q := by
  have H' := H.toHeadAt
  refine ⟨H.prog, H.wo, fun b o e => of_hideAll _ (H.base ▸ e), Mine.g2 H', Mine.g3 H', Mine.g4 H', Mine.g5 H', HeadAt.tab H H.d10 (.head _) (fn_10 H'), HeadAt.tab H H.d11 (.tail _ (.head _)) (fn_11 H'), fn_17 H', fn_31 H', fun x hx => ?_, H.tabP, H.tabQ, H.ne⟩
  simp only [List.mem_cons, List.not_mem_nil, or_false] at hx
  rcases hx with rfl | rfl | rfl | rfl | rfl | rfl | rfl | rfl | rfl | rfl | rfl | rfl | rfl | rfl | rfl <;> exact H'.free _ (by decide +kernel)
end Mine

end
section
open PySem PySem.W PySem.Calls PyProof.Rows Builtin.Str
set_option maxRecDepth 20000
set_option linter.unusedVariables false
set_option linter.unusedSimpArgs false
namespace Mine
local macro_rules | `(tactic| omega) => `(tactic| lia)

theorem pickD_take {α : Type} (ds : List α) (k : Nat) : pickD ds none (some (k : Int)) = ds.take k := by
  unfold pickD sliceBounds
  simp only [Option.getD_none, show (1 : Int) > 0 by decide, if_true, show ¬ ((k : Int) < 0) by omega, if_false]
  have e : max 0 (min (k : Int) (ds.length : Int)) = ((min k ds.length : Nat) : Int) := by omega
  rw [e]
  have := sliceRange_one 0 (min k ds.length)
  rw [show ((0 : Nat) : Int) = 0 from rfl] at this
  rw [this]
  have h2 : ((List.range (min k ds.length - 0)).map (0 + ·)) = List.range (min k ds.length) := by simp
  rw [h2]
  apply List.ext_getElem?
  intro i
  have key : ∀ n, n ≤ ds.length → (List.range n).filterMap (ds[·]?) = ds.take n := by
    intro n
    induction n with
    | zero => intro _; simp
    | succ n ih =>
      intro hn
      rw [List.range_succ, List.filterMap_append, ih (by omega), List.take_add_one]
      simp [List.getElem?_eq_getElem (show n < ds.length by omega)]
  rw [key _ (Nat.min_le_right _ _)]
  by_cases h : k ≤ ds.length
  · rw [Nat.min_eq_left h]
  · rw [Nat.min_eq_right (by omega), List.take_of_length_le (Nat.le_refl _), List.take_of_length_le (by omega)]
theorem pickD_drop {α : Type} (ds : List α) (k : Nat) (h : k ≤ ds.length) : pickD ds (some (k : Int)) none = ds.drop k := by
  unfold pickD sliceBounds
  simp only [Option.getD_none, show (1 : Int) > 0 by decide, if_true, show ¬ ((k : Int) < 0) by omega, if_false]
  have e : max 0 (min (k : Int) (ds.length : Int)) = (k : Int) := by omega
  rw [e, sliceRange_one]
  have key : ∀ m j, j + m = ds.length → ((List.range m).map (j + ·)).filterMap (ds[·]?) = ds.drop j := by
    intro m
    induction m with
    | zero => intro j hj; simp; omega
    | succ m ih =>
      intro j hj
      rw [List.range_succ_eq_map, List.map_cons, List.filterMap_cons]
      have hj' : j < ds.length := by omega
      simp only [Nat.add_zero, List.getElem?_eq_getElem hj', List.map_map]
      rw [List.drop_eq_getElem_cons hj', ← ih (j + 1) (by omega)]
      congr 2
      apply List.map_congr_left
      intro a _
      simp; omega
  exact key _ k (by omega)

theorem Ev.sliceListT {c : Cx} {r : Nat} {sc : Scope} {σ : String → Option D} {value : Expr} {lower upper : Option Expr} {p pos : Pos} {ds : List D} {lo hi : Option Int} (h₁ : Ev c r sc σ value (.list ds)) (h₂ : EvP c r sc σ lower lo) (h₃ : EvP c r sc σ upper hi) (hn : ds.length ≤ sizeLine) :
    Ev c r sc σ (.Subscript value (.Slice lower upper Option.none p) pos) (.list (pickD ds lo hi)) := ⟨fun env Y val A s R X => by
  refine Subscript_ (weak (h₁.go env Y val A s R X) fun o s₁ g₁ => wpAny_Slice (weak (h₂.go env Y val A s₁ R (X.keeps g₁.1)) fun v₂ s₂ g₂ => weak (h₃.go env Y val A s₂ R ((X.keeps g₁.1).keeps g₂.2)) fun v₃ s₃ g₃ => ?_))
  rw [evalPart_none]
  refine wpAny_pure ?_
  obtain ⟨a, vs, rfl, ha, hl, hv⟩ := rList ((g₁.2.keeps g₂.2.k).keeps g₃.2.k)
  have e : vs.size = ds.length := by have := hv.length; simpa using this
  have X₃ := ((X.keeps g₁.1).keeps g₂.2).keeps g₃.2
  have key : Gives Y (.list (pickD ds lo hi)) { s₃ with heap := s₃.heap.push { cls := .type "slice", data := .fields #[v₂, v₃, .none] } } (.ref (s₃.heap.objs.size + 1))
      { s₃ with heap := (s₃.heap.push { cls := .type "slice", data := .fields #[v₂, v₃, .none] }).push { cls := .type "list", data := .seq (slicePick vs lo hi Option.none) } } := by
    have e2 : slicePick vs lo hi Option.none = (((sliceRange (sliceBounds lo hi Option.none ds.length).1 (sliceBounds lo hi Option.none ds.length).2.1 (sliceBounds lo hi Option.none ds.length).2.2).filterMap (vs.toList[·]?))).toArray := by
      unfold slicePick; rw [e]; simp
    rw [e2]
    have := gList (s := { s₃ with heap := s₃.heap.push { cls := .type "slice", data := .fields #[v₂, v₃, .none] } }) ((hv.pick (sliceRange (sliceBounds lo hi Option.none ds.length).1 (sliceBounds lo hi Option.none ds.length).2.1 (sliceBounds lo hi Option.none ds.length).2.2)).keeps fun b o e => Heap.get?_push_of_some _ e) (X₃.live.keeps fun b o e => Heap.get?_push_of_some _ e)
    simp only [Heap.size_push] at this
    exact this
  have hl' : ∀ o : Obj, (s₃.heap.push o).PlainList a vs := fun o => let ⟨n, q⟩ := hl; ⟨n, Heap.get?_push_of_some _ q⟩
  have hT : Shared.TypeIs { s₃ with heap := s₃.heap.push { cls := .type "slice", data := .fields #[v₂, v₃, .none] } } (.ref a) "list" := (hl' _).isList.typeIs
  unfold subscriptTail
  refine wpAny_bind ?_
  rw [getitemInPython_of_ne hT.not_modules]
  refine wpAny_bind (wpAny_specialOf hT list_getitem_lookup ?_)
  have fin : wpAny c.M A (operate [.ref s₃.heap.objs.size, .ref a] (getItem (.ref a) (.ref s₃.heap.objs.size))) (fun r s₄ => wpAny c.M A (letTemporaryGo value (.ref a) r >>= fun _ => pure r) (Gives Y (.list (pickD ds lo hi)) s) noE s₄) noE { s₃ with heap := s₃.heap.push { cls := .type "slice", data := .fields #[v₂, v₃, .none] } } := by
    refine wpAny_operating (wpAny_getItem_list_slice (hl' _).isList (Heap.IsSliceOf.new ..) g₂.1.isPart g₃.1.isPart .none (by simp) ?_ (by omega))
    refine wpAny_bind (wpAny_letTemporaryGo (wpAny_pure ?_))
    rw [Heap.size_push]
    exact (((key.trans (Kp.push _)).trans g₃.2).trans g₂.2).trans g₁.1
  first
    | exact wpAny_pure (wpAny_bind fin)
    | exact wpAny_bind (wpAny_pure (wpAny_bind fin))
    | exact wpAny_bind fin⟩

/-- what all the law's walk leans upon, tables apart -/
structure Gs (c : Cx) : Prop where
  g2 : G2 c
  g3 : G3 c
  g4 : G4 c
  g5 : G5 c
  vi : GFn c 17 (c.fa 17) "_parse_varint" ["iterator"]
  sum : NoG c "sum"
  bytes : NoG c "bytes"
  iter : NoG c "iter"
  next : NoG c "next"
  max : NoG c "max"
  abs : NoG c "abs"

def drawnF (ns : List Int) : List Int := (ns.take 6).map (fun x => x.fmod 3) ++ ([0, 0, 2, 2, 0, 1] : List Int).drop (ns.take 6).length
def rowF (ns : List Int) : List Int := (drawnF ns).map (fun f => if f < 2 then f else -1) ++ [0]
def extraF (ns : List Int) : Nat := if ns.length > 6 then ((ns.getD 6 0).fmod 1000000).toNat else 934
theorem rowF_ok (ns : List Int) : Row7 (rowF ns) := by
  have hl : (drawnF ns).length = 6 := by
    unfold drawnF
    simp only [List.length_append, List.length_map, List.length_drop, List.length_take, List.length_cons, List.length_nil]
    omega
  have hv : ∀ v ∈ drawnF ns, v = 0 ∨ v = 1 ∨ v = 2 := by
    unfold drawnF
    intro v hv
    rcases List.mem_append.mp hv with h | h
    · obtain ⟨x, _, rfl⟩ := List.mem_map.mp h
      have := Int.fmod_nonneg_of_pos x (show (0 : Int) < 3 by decide)
      have := Int.fmod_lt_of_pos x (show (0 : Int) < 3 by decide)
      omega
    · have := List.mem_of_mem_drop h
      simp at this
      omega
  refine ⟨by simp [rowF, hl], fun v h => ?_⟩
  unfold rowF at h
  rcases List.mem_append.mp h with h | h
  · obtain ⟨x, hx, rfl⟩ := List.mem_map.mp h
    rcases hv x hx with rfl | rfl | rfl <;> simp
  · simp at h; omega
theorem extraF_lt (ns : List Int) : extraF ns < 1000000 := by
  unfold extraF
  split
  · have := Int.fmod_nonneg_of_pos (ns.getD 6 0) (show (0 : Int) < 1000000 by decide)
    have := Int.fmod_lt_of_pos (ns.getD 6 0) (show (0 : Int) < 1000000 by decide)
    omega
  · decide
end Mine

end
section
open PySem PySem.W PySem.Calls PyProof.Rows Builtin.Str
set_option maxRecDepth 20000
set_option linter.unusedVariables false
set_option linter.unusedSimpArgs false
namespace Mine
local macro_rules | `(tactic| omega) => `(tactic| lia)
open Builtin.Int (intBits)
variable {c : Cx}
local macro_rules | `(tactic| trivial) => `(tactic| first | rfl | (simp [full, L, argσ, upd]; done))

def worthF (row : List Int) : Int := ((List.range' 0 7).map fun k => row.getD k 0 * (2 : Int) ^ k).sum
def signF (s : Int) (row : List Int) : Int := (((List.range' 0 6).filter fun k => row.getD k 0 == s).map fun k => (2 : Int) ^ k).sum

theorem l0 (G : Gs c) {ns : List Int} (hn : ns.length ≤ 63) {σ : String → Option D} (hσ : σ "script" = some (.list (iL ns))) : Ex1 c 100 (scopeAt 31) σ none (stm 31 0) .next (upd σ "drawn" (.list (iL (drawnF ns)))) none := by
  have hz : (iL ns).length ≤ sizeLine := by rw [iL_len]; unfold sizeLine; omega
  have sl : ∀ {p1 p2 p3 : Pos} {kd : Nat} {p4 : Pos}, Ev c 100 (scopeAt 31) σ (.Subscript (.Name (Str.ofString "script") p1) (.Slice none (some (.Constant (.int 6) kd p4)) none p2) p3) (.list (iL (ns.take 6))) := fun {p1 p2 p3 kd p4} => by
    refine Ev.to (Ev.sliceList (Ev.name hσ) EvP.no (EvP.int Ev.int) hz) ?_
    have := pickD_take (iL ns) 6
    rw [show ((6 : Nat) : Int) = 6 from rfl] at this
    rw [this]; simp [iL, List.map_take]
  refine Ex1.assign ?_ (.inl (by decide +kernel)) nofun
  refine Ev.to (Ev.bin (by decide) (Ev.comp (σf := fun _ => none) (ds := iL (ns.take 6)) (EvI.of (by decide) sl Iters.list) ⟨by decide +kernel, .inl (by decide +kernel), by decide +kernel, by decide +kernel, by decide +kernel⟩ Sees.nil (by rw [iL_len]; unfold sizeLine; simp; omega)
    (CoR.map (f := fun x => .int x) (g := fun x => .int (x.fmod 3)) fun x hx => Ev.bin (by decide) (Ev.name (by trivial)) Ev.int (Bop.mod (by decide))))
    (Ev.sliceListT (ds := iL [0, 0, 2, 2, 0, 1]) (lo := some ((ns.take 6).length : Nat)) (hi := none) (Ev.list (EvL.cons Ev.int (EvL.cons Ev.int (EvL.cons Ev.int (EvL.cons Ev.int (EvL.cons Ev.int (EvL.cons Ev.int EvL.nil)))))) (by show 6 ≤ sizeLine; decide)) (EvP.int (Ev.to (Ev.call (NoG.ev G.g2.len (by rfl) (by decide +kernel)) KeepV.blt (EvL.cons sl EvL.nil) (FnV.lenList (by rw [iL_len]; unfold sizeLine; simp; omega))) (by rw [iL_len]))) EvP.no (by show 6 ≤ sizeLine; decide))
    (Bop.addList ?_)) ?_
  · have h1 := pickD_drop (iL [0, 0, 2, 2, 0, 1]) (ns.take 6).length (by simp [iL]; omega)
    rw [h1]
    simp [iL]; unfold sizeLine; omega
  · have h1 := pickD_drop (iL [0, 0, 2, 2, 0, 1]) (ns.take 6).length (by simp [iL]; omega)
    rw [h1]
    unfold drawnF
    simp only [iL, List.map_append, List.map_map, List.map_drop]
    rfl

theorem l1 (G : Gs c) {dr : List Int} (hn : dr.length ≤ 63) {σ : String → Option D} (hσ : σ "drawn" = some (.list (iL dr))) : Ex1 c 100 (scopeAt 31) σ none (stm 31 1) .next (upd σ "row" (.list (iL (dr.map (fun f => if f < 2 then f else -1) ++ [0])))) none := by
  refine Ex1.assign ?_ (.inr (by decide +kernel)) nofun
  refine Ev.to (Ev.bin (by decide) (Ev.comp (σf := fun _ => none) (ds := iL dr) (EvI.of (by decide) (Ev.name hσ) Iters.list) ⟨by decide +kernel, .inl (by decide +kernel), by decide +kernel, by decide +kernel, by decide +kernel⟩ Sees.nil (by rw [iL_len]; unfold sizeLine; omega)
    (CoR.map (f := fun x => .int x) (g := fun x => .int (if x < 2 then x else -1)) fun x hx => ?_)) (Ev.list (EvL.cons Ev.int EvL.nil) (by show 1 ≤ sizeLine; decide)) (Bop.addList (by simp; unfold sizeLine; omega))) ?_
  · by_cases h : x < 2
    · rw [if_pos h]
      exact Ev.ifT (Tr.to (Tr.cmp (by decide) (Ev.name (d := .int x) (by trivial)) Ev.int Cop.ltInt) (by simpa using h)) (Ev.name (by trivial))
    · rw [if_neg h]
      exact Ev.ifF (Tr.to (Tr.cmp (by decide) (Ev.name (d := .int x) (by trivial)) Ev.int Cop.ltInt) (by simp; omega)) (Ev.una (by decide) Ev.int Uop.neg)
  · simp [iL]

theorem l2 (G : Gs c) {ns : List Int} (hn : ns.length ≤ 63) {σ : String → Option D} (hσ : σ "script" = some (.list (iL ns))) : Ex1 c 100 (scopeAt 31) σ none (stm 31 2) .next (upd σ "extra" (.int (extraF ns : Nat))) none := by
  refine Ex1.assign ?_ (.inl (by decide +kernel)) nofun
  have tst : ∀ {p1 p2 p3 p4 p5 : Pos} {kd : Nat}, Tr c 100 (scopeAt 31) σ (.Compare (.Call (.Name (Str.ofString "len") p1) [.Name (Str.ofString "script") p2] [] p3) [.Gt] [.Constant (.int 6) kd p4] p5) (decide (ns.length > 6)) := fun {p1 p2 p3 p4 p5 kd} =>
    Tr.to (Tr.cmp (by decide) (Ev.call (NoG.ev G.g2.len (by rfl) (by decide +kernel)) KeepV.blt (EvL.cons (Ev.name hσ) EvL.nil) (FnV.lenList (by rw [iL_len]; unfold sizeLine; omega))) Ev.int Cop.gtInt) (by rw [iL_len]; rw [Bool.eq_iff_iff]; simp; omega)
  unfold extraF
  by_cases h : ns.length > 6
  · rw [if_pos h]
    have h0 := Int.fmod_nonneg_of_pos (ns.getD 6 0) (show (0 : Int) < 1000000 by decide)
    refine Ev.ifT (Tr.to tst (by simpa using h)) (Ev.to (Ev.bin (by decide) (Ev.sub (d := .int (ns.getD 6 0)) (by decide) (Ev.name hσ) Ev.int (Idx.list (by decide) (by decide) (by simp [iL, List.getD_eq_getElem?_getD, List.getElem?_eq_getElem (show 6 < ns.length from h)]))) Ev.int (Bop.mod (by decide))) ?_)
    rw [Int.toNat_of_nonneg h0]
  · rw [if_neg h]
    exact Ev.ifF (Tr.to tst (by simpa using h)) Ev.int

theorem pow2 {R : Nat} (hR : 20 ≤ R) {sc : Scope} {σ : String → Option D} {x : String} {k : Nat} (hk : k < 100) (hx : σ x = some (.int (k : Nat))) (hd : (Str.ofString x == ("__debug__" : Str)) = false) {p1 p2 p3 : Pos} {kd : Nat} : Ev c R sc σ (.BinOp (.Constant (.int 2) kd p1) .Pow (.Name (Str.ofString x) p2) p3) (.int ((2 : Int) ^ k)) := by
  refine Ev.to (Ev.bin hR Ev.int (Ev.name hx hd) (Bop.pow (by omega) ?_)) (by simp)
  have : intBits 2 = 2 := by decide +kernel
  rw [this]; omega
theorem rowAt {R : Nat} (hR : 20 ≤ R) {sc : Scope} {σ : String → Option D} {y x : String} {row : List Int} (hr : Row7 row) {k : Nat} (hk : k < 7) (hy : σ y = some (.list (iL row))) (hx : σ x = some (.int (k : Nat))) (hdy : (Str.ofString y == ("__debug__" : Str)) = false) (hdx : (Str.ofString x == ("__debug__" : Str)) = false) {p1 p2 p3 : Pos} :
    Ev c R sc σ (.Subscript (.Name (Str.ofString y) p1) (.Name (Str.ofString x) p2) p3) (.int (row.getD k 0)) :=
  Ev.sub hR (Ev.name hy hdy) (Ev.name hx hdx) (Idx.list (by omega) (by omega) (by simpa using (row_get hr hk).1))

theorem l3 (G : Gs c) {row : List Int} (hr : Row7 row) {σ : String → Option D} (hσ : σ "row" = some (.list (iL row))) : Ex1 c 100 (scopeAt 31) σ none (stm 31 3) .next (upd σ "worth" (.int (worthF row))) none := by
  refine Ex1.assign ?_ (.inl (by decide +kernel)) nofun
  refine Ev.call (NoG.ev G.sum (by rfl) (by decide +kernel)) KeepV.blt (EvL.cons (Ev.comp (σf := upd (fun _ => none) "row" (.list (iL row))) (EvI.range1 (n := 7) (by decide) G.g2.range (by decide +kernel) Ev.int (by omega)) ⟨by decide +kernel, .inl (by decide +kernel), by decide +kernel, by decide +kernel, by decide +kernel⟩ ?_ (by show 7 ≤ sizeLine; decide)
    (CoR.map (f := fun k => .int (k : Nat)) (g := fun k => .int (row.getD k 0 * (2 : Int) ^ k)) fun k hk => ?_)) EvL.nil) ?_
  · exact (Sees.nil).add hσ (by decide +kernel)
  · have hk' : k < 7 := by simp at hk; omega
    exact Ev.bin (by decide) (rowAt (by decide) hr hk' (by trivial) (by trivial) (by decide) (by decide)) (pow2 (by decide) (by omega) (by trivial) (by decide)) (Bop.mul (mulOk_l (by rcases (row_get hr hk').2 with e | e | e <;> rw [e] <;> decide +kernel)))
  · have := FnV.sum (c := c) (r := 100) (is := (List.range' 0 7).map fun k => row.getD k 0 * (2 : Int) ^ k)
    rw [List.map_map] at this
    exact this

theorem l4 (G : Gs c) {w : Int} (h1 : -1000 ≤ w) (h2 : w ≤ 1000) {σ : String → Option D} (hσ : σ "worth" = some (.int w)) : Ex1 c 100 (scopeAt 31) σ none (stm 31 4) .next (upd σ "rows" (.list (rL (rowsF 7 w)))) none := by
  refine Ex1.assign ?_ (.inl (by decide +kernel)) nofun
  exact Ev.call (G.g5.rows.ev (by decide +kernel)) G.g5.rows.keep (EvL.cons (Ev.name hσ) (EvL.cons Ev.int EvL.nil)) ((w_rows G.g5 7 w (by decide) h1 h2).up (by decide))
theorem l5 (G : Gs c) {rows : List (List Int)} {sp : List Int} (hr : ∀ y ∈ rows, Row7 y) (h : rows.find? isSparse = some sp) {σ : String → Option D} (hσ : σ "rows" = some (.list (rL rows))) : Ex1 c 100 (scopeAt 31) σ none (stm 31 5) .next (upd σ "sparse" (.list (iL sp))) none := by
  refine Ex1.assign ?_ (.inr (by decide +kernel)) nofun
  exact Ev.call (G.g5.sparse.ev (by decide +kernel)) G.g5.sparse.keep (EvL.cons (Ev.name hσ) EvL.nil) ((w_sparse G.g5 hr h).up (by decide))
theorem l6 (G : Gs c) {row : List Int} (hr : Row7 row) {σ : String → Option D} (hσ : σ "row" = some (.list (iL row))) : Ex1 c 100 (scopeAt 31) σ none (stm 31 6) .next (upd σ "plus" (.int (signF 1 row))) none := by
  refine Ex1.assign ?_ (.inl (by decide +kernel)) nofun
  refine Ev.call (NoG.ev G.sum (by rfl) (by decide +kernel)) KeepV.blt (EvL.cons (Ev.comp (σf := upd (fun _ => none) "row" (.list (iL row))) (EvI.range1 (n := 6) (by decide) G.g2.range (by decide +kernel) Ev.int (by omega)) ⟨by decide +kernel, .inl (by decide +kernel), by decide +kernel, by decide +kernel, by decide +kernel⟩ ?_ (by show 6 ≤ sizeLine; decide)
    (CoR.filter (f := fun k => .int (k : Nat)) (g := fun k => .int ((2 : Int) ^ k)) (p := fun k => row.getD k 0 == 1) (fun k hk => ?_) fun k hk _ => ?_)) EvL.nil) ?_
  · exact (Sees.nil).add hσ (by decide +kernel)
  · have hk' : k < 6 := by simp at hk; omega
    exact Tr.cmp (by decide) (rowAt (by decide) hr (by omega) (by trivial) (by trivial) (by decide) (by decide)) Ev.int Cop.eqInt
  · have hk' : k < 6 := by simp at hk; omega
    exact pow2 (by decide) (by omega) (by trivial) (by decide)
  · have := FnV.sum (c := c) (r := 100) (is := ((List.range' 0 6).filter fun k => row.getD k 0 == 1).map fun k => (2 : Int) ^ k)
    rw [List.map_map] at this
    exact this
theorem l7 (G : Gs c) {row : List Int} (hr : Row7 row) {σ : String → Option D} (hσ : σ "row" = some (.list (iL row))) : Ex1 c 100 (scopeAt 31) σ none (stm 31 7) .next (upd σ "minus" (.int (signF (-1) row))) none := by
  refine Ex1.assign ?_ (.inl (by decide +kernel)) nofun
  refine Ev.call (NoG.ev G.sum (by rfl) (by decide +kernel)) KeepV.blt (EvL.cons (Ev.comp (σf := upd (fun _ => none) "row" (.list (iL row))) (EvI.range1 (n := 6) (by decide) G.g2.range (by decide +kernel) Ev.int (by omega)) ⟨by decide +kernel, .inl (by decide +kernel), by decide +kernel, by decide +kernel, by decide +kernel⟩ ?_ (by show 6 ≤ sizeLine; decide)
    (CoR.filter (f := fun k => .int (k : Nat)) (g := fun k => .int ((2 : Int) ^ k)) (p := fun k => row.getD k 0 == -1) (fun k hk => ?_) fun k hk _ => ?_)) EvL.nil) ?_
  · exact (Sees.nil).add hσ (by decide +kernel)
  · have hk' : k < 6 := by simp at hk; omega
    exact Tr.cmp (by decide) (rowAt (by decide) hr (by omega) (by trivial) (by trivial) (by decide) (by decide)) (Ev.una (by decide) Ev.int Uop.neg) Cop.eqInt
  · have hk' : k < 6 := by simp at hk; omega
    exact pow2 (by decide) (by omega) (by trivial) (by decide)
  · have := FnV.sum (c := c) (r := 100) (is := ((List.range' 0 6).filter fun k => row.getD k 0 == -1).map fun k => (2 : Int) ^ k)
    rw [List.map_map] at this
    exact this
theorem l8 (G : Gs c) {p m : Int} (hp : 0 ≤ p ∧ p < 64) (hm : 0 ≤ m ∧ m < 64) {σ : String → Option D} (h1 : σ "plus" = some (.int p)) (h2 : σ "minus" = some (.int m)) : Ex1 c 100 (scopeAt 31) σ none (stm 31 8) .next (upd σ "octets" (.bytes (byteArr [192 + p, 128 + m]))) none := by
  refine Ex1.assign ?_ (.inl (by decide +kernel)) nofun
  refine Ev.call (NoG.ev G.bytes (by rfl) (by decide +kernel)) KeepV.type (EvL.cons (Ev.list (EvL.cons (Ev.bin (by decide) Ev.int (Ev.name h1) Bop.add) (EvL.cons (Ev.bin (by decide) Ev.int (Ev.name h2) Bop.add) EvL.nil)) (by show 2 ≤ sizeLine; decide)) EvL.nil) ?_
  exact FnV.bytes (is := [192 + p, 128 + m]) (fun n hn => by simp at hn; omega) (by show 2 ≤ sizeLine; decide)
end Mine

end
section
open PySem PySem.W PySem.Calls PyProof.Rows Builtin.Str
set_option maxRecDepth 20000
set_option linter.unusedVariables false
set_option linter.unusedSimpArgs false
namespace Mine
local macro_rules | `(tactic| omega) => `(tactic| lia)
open Builtin.Int (intBits)
variable {c : Cx}
local macro_rules | `(tactic| trivial) => `(tactic| first | rfl | (simp [full, L, argσ, upd]; done))

/-- the calls once the tables are filled -/
structure Gf (c : Cx) : Prop where
  i2d : ∀ a n out, i2d a n = some out → FnV c 61 (.ref (c.fa 10)) [.int a, .int n] (.list (iL out))
  d2i : ∀ ds n v, d2iF ds n = some v → FnV c 61 (.ref (c.fa 11)) [.list (iL ds), .int n] (.int v)
  idm : ∀ a b q r, dmF 10 a b = some (q, r) → 0 ≤ a → 0 < b → FnV c 70 (.ref (c.fa 13)) [.int a, .int b] (.tup [.int q, .int r])

theorem l10 (G : Gs c) (F : Gf c) {row : List Int} {w p m : Int} {out : List Str} (hr : Row7 row) (hd : d2iF row 1 = some w) (hp : pfL 32 0 (p + m) [] = some out) (hok : (out.map (·.length)).sum + out.length * comma.length ≤ 16777216) (hn : Txt.join comma out = namesF row)
    {σ : String → Option D} (h1 : σ "row" = some (.list (iL row))) (h2 : σ "worth" = some (.int w)) (h3 : σ "plus" = some (.int p)) (h4 : σ "minus" = some (.int m)) : Ex1 c 100 (scopeAt 31) σ none (stm 31 10) .next σ none := by
  refine Ex1.ifF (Tr.bool (TrB.orF ?_ (TrB.orF ?_ TrB.orNil))) Ex.nil
  · exact Tr.to (Tr.cmp (by decide) (Ev.call (G.g3.d2i.ev (by decide +kernel)) G.g3.d2i.keep (EvL.cons (Ev.name h1) (EvL.cons Ev.int EvL.nil)) ((F.d2i _ _ _ hd).up (by decide))) (Ev.name h2) Cop.neInt) (by simp)
  · refine Tr.to (Tr.cmp (by decide) (Ev.call (G.g4.pf.ev (by decide +kernel)) G.g4.pf.keep (EvL.cons (Ev.bin (by decide) (Ev.name h3) (Ev.name h4) Bop.add) EvL.nil) ((w_pf G.g4 hp hok).up (by decide))) (Ev.call (G.g5.names.ev (by decide +kernel)) G.g5.names.keep (EvL.cons (Ev.name h1) EvL.nil) ((w_names G.g5 hr).up (by decide))) Cop.neStr) (by rw [hn]; simp)

def zero7 : List Int := [0, 0, 0, 0, 0, 0, 0]
theorem zero7_ok : Row7 zero7 := by refine ⟨by decide, fun v h => ?_⟩; simp [zero7] at h; omega
theorem l11 (G : Gs c) {σ : String → Option D} : Ex1 c 100 (scopeAt 31) σ none (stm 31 11) .next (upd σ "bare" (.str (T (typed zero7)))) none := by
  refine Ex1.assign ?_ (.inl (by decide +kernel)) nofun
  exact Ev.call (G.g5.typed.ev (by decide +kernel)) G.g5.typed.keep (EvL.consL (Ev.list (EvL.cons Ev.int (EvL.cons Ev.int (EvL.cons Ev.int (EvL.cons Ev.int (EvL.cons Ev.int (EvL.cons Ev.int (EvL.cons Ev.int EvL.nil))))))) (by show 7 ≤ sizeLine; decide)) EvL.nil) ((w_typed G.g5 zero7_ok).up (by decide)) (fun _ => star_list)
theorem l12 (G : Gs c) {row : List Int} (hr : Row7 row) {σ : String → Option D} (h1 : σ "row" = some (.list (iL row))) : Ex1 c 100 (scopeAt 31) σ none (stm 31 12) .next (upd σ "letters" (.str (T (typed row)))) none := by
  refine Ex1.assign ?_ (.inl (by decide +kernel)) nofun
  exact Ev.call (G.g5.typed.ev (by decide +kernel)) G.g5.typed.keep (EvL.cons (Ev.name h1) EvL.nil) ((w_typed G.g5 hr).up (by decide))
theorem l13 (G : Gs c) {e : Nat} (he : e < 1000000) {σ : String → Option D} (h1 : σ "extra" = some (.int (e : Nat))) : Ex1 c 100 (scopeAt 31) σ none (stm 31 13) .next (upd σ "strange" (.str (T (putIn e)))) none := by
  refine Ex1.assign ?_ (.inl (by decide +kernel)) nofun
  exact Ev.call (G.g5.putIn.ev (by decide +kernel)) G.g5.putIn.keep (EvL.cons (Ev.name h1) EvL.nil) ((w_putIn G.g5 he).up (by decide))

def whereF (e : Nat) : Nat := e / 81 % 8
theorem evWhere {R : Nat} (hR : 20 ≤ R) {sc : Scope} {σ : String → Option D} {x : String} {e a b : Nat} (ha : 0 < a) (hb : 0 < b) (ha' : a < 2 ^ 20) (hx : σ x = some (.int (e : Nat))) (hd : (Str.ofString x == ("__debug__" : Str)) = false) {p1 p2 p3 p4 p5 : Pos} {k1 k2 : Nat} :
    Ev c R sc σ (.BinOp (.BinOp (.Name (Str.ofString x) p1) .FloorDiv (.Constant (.int (a : Nat)) k1 p2) p3) .Mod (.Constant (.int (b : Nat)) k2 p4) p5) (.int ((e / a % b : Nat) : Int)) := by
  refine Ev.to (Ev.bin hR (Ev.bin hR (Ev.name hx hd) Ev.int (Bop.fdiv (by omega) (PyProof.noPylong_small (by omega)))) Ev.int (Bop.mod (by omega))) ?_
  rw [fdivN, fmodN]
theorem l14 (G : Gs c) {e : Nat} {σ : String → Option D} (h1 : σ "extra" = some (.int (e : Nat))) : Ex1 c 100 (scopeAt 31) σ none (stm 31 14) .next (upd σ "where" (.int (whereF e : Nat))) none := by
  refine Ex1.assign ?_ (.inl (by decide +kernel)) nofun
  exact evWhere (a := 81) (b := 8) (by decide) (by decide) (by decide) (by decide) h1 (by decide)
def typedF (row : List Int) (e : Nat) : List Nat := (typed row).take (whereF e) ++ putIn e ++ (typed row).drop (whereF e)
theorem T_app (a b : List Nat) : T a ++ T b = T (a ++ b) := by
  show (⟨(a.toArray ++ b.toArray)⟩ : Str) = ⟨(a ++ b).toArray⟩
  simp
theorem typed_len (row : List Int) : (typed row).length = 7 := by simp [typed]
theorem putIn_len (e : Nat) : (putIn e).length ≤ 2 := by simp [putIn]; omega
theorem l15 (G : Gs c) {e : Nat} {row : List Int} {σ : String → Option D} (h1 : σ "letters" = some (.str (T (typed row)))) (h2 : σ "strange" = some (.str (T (putIn e)))) (h3 : σ "where" = some (.int (whereF e : Nat))) : Ex1 c 100 (scopeAt 31) σ none (stm 31 15) .next (upd σ "typed" (.str (T (typedF row e)))) none := by
  have hw : whereF e ≤ 7 := by unfold whereF; omega
  have hl := typed_len row
  have hp := putIn_len e
  refine Ex1.assign ?_ (.inr (by decide +kernel)) nofun
  refine Ev.to (Ev.bin (by decide) (Ev.bin (by decide) (Ev.to (Ev.sliceStr (Ev.name h1) EvP.no (EvP.int (Ev.name h3)) (by rw [T_length]; unfold sizeLine; omega)) (congrArg D.str (slice_upto _ (by omega)))) (Ev.name h2) (Bop.addStr ?_)) (Ev.to (Ev.sliceStr (Ev.name h1) (EvP.int (Ev.name h3)) EvP.no (by rw [T_length]; unfold sizeLine; omega)) (congrArg D.str (slice_from _ (by omega)))) (Bop.addStr ?_)) ?_
  · simp only [T_length, List.length_take]; unfold sizeLine; omega
  · rw [T_app]; simp only [T_length, List.length_take, List.length_drop, List.length_append]; unfold sizeLine; omega
  · rw [T_app, T_app]; rfl

theorem l16 (G : Gs c) {l b : List Nat} (hl : l.length ≤ 100) (hlet : ∀ n ∈ l, b1S n = false → n ∈ letters) (hok : (((l.filter fun n : Nat => !b1S n).map fun n => Txt.lower (T [n])).map (·.length)).sum + ((l.filter fun n : Nat => !b1S n).map fun n => Txt.lower (T [n])).length * (T []).length ≤ 16777216) (hb : Txt.join (T []) ((l.filter fun n : Nat => !b1S n).map fun n => Txt.lower (T [n])) = T b)
    {σ : String → Option D} (h1 : σ "typed" = some (.str (T l))) (h2 : σ "bare" = some (.str (T b))) : Ex1 c 100 (scopeAt 31) σ none (stm 31 16) .next σ none := by
  refine Ex1.ifF (Tr.to (Tr.cmp (d₁ := .str (T b)) (by decide) ?_ (Ev.name h2) Cop.neStr) (by simp)) Ex.nil
  have hs : signs (T l) = l.map fun n => D.str (T [n]) := by simp only [signs, T_cps]; rfl
  have hj : FnV c 100 (.builtin "str.join") [.str (T []), .list ((l.filter fun n : Nat => !b1S n).map fun n => D.str (Txt.lower (T [n])))] (.str (T b)) := by
    rw [← hb]
    have := FnV.join (c := c) (r := 100) hok
    rw [List.map_map] at this
    exact this
  refine Ev.meth (d₀ := .str (T [])) Ev.str (EvL.cons (Ev.comp (σf := fun _ => none) (ds := signs (T l)) (EvI.of (by decide) (Ev.name h1) Iters.str) ⟨by decide +kernel, .inl (by decide +kernel), by decide +kernel, by decide +kernel, by decide +kernel⟩ Sees.nil (by rw [hs]; simp; unfold sizeLine; omega) ?_) EvL.nil) hT_str hj F.plainAttrs_str F.slot_str_join F.type_str_join
  rw [hs]
  refine CoR.filter (f := fun n => .str (T [n])) (g := fun n => .str (Txt.lower (T [n]))) (p := fun n : Nat => !b1S n) (fun n hn => ?_) fun n hn hp => ?_
  · exact Tr.not (Tr.val (by decide) (Ev.call (G.g5.inB1.ev (by decide +kernel)) G.g5.inB1.keep (EvL.cons (Ev.name (d := .str (T [n])) (by trivial)) EvL.nil) ((w_inB1 G.g5).up (by decide))) Tru.bool)
  · exact Ev.call (G.g5.map3.ev (by decide +kernel)) G.g5.map3.keep (EvL.cons (Ev.name (d := .str (T [n])) (by trivial)) EvL.nil) ((w_map3 G.g5 (hlet n hn (by simpa using hp))).up (by decide))
end Mine

end
section
open PySem PySem.W PySem.Calls PyProof.Rows Builtin.Str
set_option maxRecDepth 20000
set_option linter.unusedVariables false
set_option linter.unusedSimpArgs false
namespace Mine
local macro_rules | `(tactic| omega) => `(tactic| lia)
open Builtin.Int (intBits)
variable {c : Cx}
local macro_rules | `(tactic| trivial) => `(tactic| first | rfl | (simp [full, L, argσ, upd]; done))

def priceF (pts : List Int) : List Int := pts.map fun p => subCost (T [p.toNat]) (Txt.lower (T [p.toNat]))
theorem lower_len : ∀ n ∈ letters, (Txt.lower (T [n])).length = 1 := by decide +kernel
theorem forms_pts : ∀ pts ∈ forms, pts.length = 3 ∧ ∀ p ∈ pts, 0 ≤ p ∧ p ≤ 100000 ∧ p.toNat ∈ letters := by decide +kernel
theorem prices_are : forms.map priceF = List.replicate 7 [0, 1, 1] := by decide +kernel
theorem l17 {σ : String → Option D} (hx : σ "prices" = none) : Ex1 c 100 (scopeAt 31) σ none (stm 31 17) .next σ (some ("prices", [])) :=
  Ex1.assignOwn EvF.nil (.inr (by decide +kernel)) hx

theorem l18_for (G : Gs c) {row sp : List Int} {e : Nat} {w : Int} : ∀ (fs : List (List Int)) (acc : List (List Int)) (σ : String → Option D), (∀ f ∈ fs, f ∈ forms) → acc.length + fs.length ≤ 100 → ∃ σ', (∀ y d, y ≠ "points" → y ≠ "signs" → σ y = some d → σ' y = some d) ∧
    ForR c 100 (scopeAt 31) "points" (inB (stm 31 18)) (rL fs) σ (some ("prices", rL acc)) .next σ' (some ("prices", rL (acc ++ fs.map priceF)))
  | [], acc, σ, hf, hl => ⟨σ, fun _ _ _ _ h => h, by simp only [List.map_nil, List.append_nil]; exact ForR.nil⟩
  | f :: fs, acc, σ, hf, hl => by
    obtain ⟨h3, hp⟩ := forms_pts f (hf f (.head _))
    simp only [List.length_cons] at hl
    obtain ⟨σ', hs, hr⟩ := l18_for G (row := row) (sp := sp) (e := e) (w := w) fs (acc ++ [priceF f]) (upd (upd σ "points" (.list (iL f))) "signs" (.list (f.map fun p => .str (T [p.toNat])))) (fun g hg => hf g (.tail _ hg)) (by simp; omega)
    refine ⟨σ', fun y d h1 h2 h => hs y d h1 h2 (by simp [upd, h1, h2, h]), ?_⟩
    have own : ownName (some ("prices", rL acc)) ≠ some "points" := by simp [ownName]
    have hr' : ForR c 100 (scopeAt 31) "points" (inB (stm 31 18)) (rL fs) (upd (upd σ "points" (.list (iL f))) "signs" (.list (f.map fun p => .str (T [p.toNat])))) (some ("prices", rL (acc ++ [priceF f]))) .next σ' (some ("prices", rL (acc ++ (f :: fs).map priceF))) := by simpa using hr
    refine ForR.turn own ?_ hr'
    refine Ex.cons (Ex1.assignComp (σf := fun _ => none) (ds := iL f) (es := f.map fun p => .str (T [p.toNat])) (EvI.of (d := .list (iL f)) (by decide) (Ev.name (by trivial)) Iters.list) ⟨by decide +kernel, .inl (by decide +kernel), by decide +kernel, by decide +kernel, by decide +kernel⟩ Sees.nil (by rw [iL_len, h3]; decide)
      (CoR.map (f := fun p => .int p) (g := fun p => .str (T [p.toNat])) fun p hpm => ?_) (.inl (by decide +kernel)) (by simp [ownName]) (fun env e => by cases env; cases e; rfl)) ?_
    · obtain ⟨q1, q2, q3⟩ := hp p hpm
      exact Ev.call (NoG.ev G.g5.chr (by rfl) (by decide +kernel)) KeepV.blt (EvL.cons (Ev.name (by trivial)) EvL.nil) (FnV.chr q1 (by omega))
    · have e1 : rL acc ++ [.list (iL (priceF f))] = rL (acc ++ [priceF f]) := by simp [rL]
      rw [← e1]
      refine Ex.cons (Ex1.append (Ev.comp (σf := fun _ => none) (ds := f.map fun p => .str (T [p.toNat])) (es := iL (priceF f)) (EvI.of (d := .list (f.map fun p => .str (T [p.toNat]))) (by decide) (Ev.name (by trivial)) Iters.list) ⟨by decide +kernel, .inl (by decide +kernel), by decide +kernel, by decide +kernel, by decide +kernel⟩ Sees.nil (by rw [List.length_map, h3]; decide) ?_) (by simp [rL]; omega)) Ex.nil
      have e2 : iL (priceF f) = f.map fun p => .int (subCost (T [p.toNat]) (Txt.lower (T [p.toNat]))) := by simp [iL, priceF]
      rw [e2]
      refine CoR.map (f := fun p : Int => .str (T [p.toNat])) (g := fun p => .int (subCost (T [p.toNat]) (Txt.lower (T [p.toNat])))) fun p hpm => ?_
      obtain ⟨q1, q2, q3⟩ := hp p hpm
      exact Ev.call (G.g2.sub.ev (by decide +kernel)) G.g2.sub.keep (EvL.cons (Ev.name (d := .str (T [p.toNat])) (by trivial)) (EvL.cons (Ev.call (G.g5.map3.ev (by decide +kernel)) G.g5.map3.keep (EvL.cons (Ev.name (d := .str (T [p.toNat])) (by trivial)) EvL.nil) ((w_map3 G.g5 q3).up (by decide))) EvL.nil)) ((w_sub G.g2.toG1 (by simp [T, Str.length]) (by rw [lower_len _ q3]; decide)).up (by decide))

theorem l18 (G : Gs c) {σ : String → Option D} : ∃ σ', (∀ y d, y ≠ "points" → y ≠ "signs" → σ y = some d → σ' y = some d) ∧ Ex1 c 100 (scopeAt 31) σ (some ("prices", [])) (stm 31 18) .next σ' (some ("prices", rL (List.replicate 7 [0, 1, 1]))) := by
  obtain ⟨σ', hs, hr⟩ := l18_for G (row := []) (sp := []) (e := 0) (w := 0) forms [] σ (fun f h => h) (by decide)
  rw [List.nil_append, prices_are] at hr
  exact ⟨σ', hs, Ex1.for (fl₁ := .next) (EvI.of (by decide) (Ev.call0 (G.g5.forms.ev (by decide +kernel)) G.g5.forms.keep ((w_forms G.g5).up (by decide))) Iters.list) (.inl (by decide +kernel)) hr Ex.nil⟩

theorem Ex1.assignS {r : Nat} {sc : Scope} {σ : String → Option D} {o : Option (String × List D)} {x : String} {p pos : Pos} {e : Expr} {d : D} (h : Ev c r sc σ e d) (hx : Sto sc x) (hox : ownName o ≠ some x)
    (hs : ∀ env : Env, env.scope = sc → swapsWith e (some (.Name (Str.ofString x) p)) pos.line env = pure false) :
    Ex1 c r sc σ o (.Assign [.Name (Str.ofString x) p] e pos) .next (upd σ x d) o := ⟨fun env Y a val A s R X => by
  refine wpAny_Assign_Name (weak (h.go env _ val A s R X.at0) fun v s₁ g => ?_) (hs env X.env.scope)
  exact StA.store (X.keeps g.1) hx hox g.2 fun s' k X' => ⟨(g.1.s (M := Mu env sc (own o a))).trans (k.mono fun b m => mu0 m), rfl, fun _ => ⟨a, _, Rel.rfl', X'⟩⟩⟩

def costF (o : List Int) : Int := ((List.range' 0 7).map fun k => if o.getD k 0 = 0 then (0 : Int) else 1).sum
theorem price_get {k : Nat} (hk : k < 7) : (rL (List.replicate 7 [0, 1, 1]))[k]? = some (.list (iL [0, 1, 1])) := by
  have : (List.replicate 7 ([0, 1, 1] : List Int))[k]? = some [0, 1, 1] := by
    revert k; decide
  simp only [rL, List.getElem?_map, this, Option.map_some]
theorem l19 (G : Gs c) {rows : List (List Int)} (hr : ∀ y ∈ rows, Row7 y) (hn : rows.length ≤ 1000) {σ : String → Option D} (h1 : σ "prices" = some (.list (rL (List.replicate 7 [0, 1, 1])))) (h2 : σ "rows" = some (.list (rL rows))) : Ex1 c 100 (scopeAt 31) σ none (stm 31 19) .next (upd σ "costs" (.list (iL (rows.map costF)))) none := by
  refine Ex1.assignS ?_ (.inr (by decide +kernel)) nofun (fun env e => by cases env; cases e; rfl)
  have e1 : iL (rows.map costF) = rows.map fun o => .int (costF o) := by simp [iL]
  rw [e1]
  refine Ev.comp (σf := upd (fun _ => none) "prices" (.list (rL (List.replicate 7 [0, 1, 1])))) (ds := rL rows) (EvI.of (by decide) (Ev.name h2) Iters.list) ⟨by decide +kernel, .inr (by decide +kernel), by decide +kernel, by decide +kernel, by decide +kernel⟩ ((Sees.nil).add h1 (by decide +kernel)) (by simp [rL]; unfold sizeLine; omega)
    (CoR.map (f := fun o => .list (iL o)) (g := fun o => .int (costF o)) fun o ho => ?_)
  have ho7 := hr o ho
  refine Ev.call (NoG.ev G.sum (by rfl) (by decide +kernel)) KeepV.blt (EvL.cons (Ev.comp (σf := upd (upd (fun _ => none) "prices" (.list (rL (List.replicate 7 [0, 1, 1])))) "other" (.list (iL o))) (EvI.range1 (n := 7) (by decide) G.g2.range (by decide +kernel) Ev.int (by omega)) ⟨by decide +kernel, .inl (by decide +kernel), by decide +kernel, by decide +kernel, by decide +kernel⟩ ?_ (by show 7 ≤ sizeLine; decide)
    (CoR.map (f := fun k => .int (k : Nat)) (g := fun k => .int (if o.getD k 0 = 0 then (0 : Int) else 1)) fun k hk => ?_)) EvL.nil) ?_
  · exact ((Sees.nil).add (by simp [upd]) (by decide +kernel)).add (by simp [upd]) (by decide +kernel)
  · have hk' : k < 7 := by simp at hk; omega
    refine Ev.sub (by decide) (Ev.sub (d := .list (iL [0, 1, 1])) (by decide) (Ev.name (by trivial)) (Ev.name (d := .int (k : Nat)) (by trivial)) (Idx.list (by omega) (by omega) (by simpa using price_get hk'))) (rowAt (by decide) ho7 hk' (by trivial) (by trivial) (by decide) (by decide)) ?_
    have hv := (row_get ho7 hk').2
    refine Idx.py hv rfl ?_
    rcases hv with e | e | e <;> rw [e] <;> rfl
  · have := FnV.sum (c := c) (r := 100) (is := (List.range' 0 7).map fun k => if o.getD k 0 = 0 then (0 : Int) else 1)
    rw [List.map_map] at this
    exact this
theorem l20 (G : Gs c) {cs : List Int} {M : Int} (h1 : M ∈ cs) (h2 : ∀ a ∈ cs, M ≤ a) {σ : String → Option D} (hσ : σ "costs" = some (.list (iL cs))) : Ex1 c 100 (scopeAt 31) σ none (stm 31 20) .next (upd σ "least" (.int M)) none := by
  refine Ex1.assign ?_ (.inl (by decide +kernel)) nofun
  exact Ev.call (NoG.ev G.g2.min (by rfl) (by decide +kernel)) KeepV.blt (EvL.cons (Ev.name hσ) EvL.nil) (FnV.minList h1 h2)
def countsF (cs : List Int) (M : Nat) : List Int := (List.range' 0 (M + 1)).map fun p : Nat => ((cs.count (p : Int) : Nat) : Int)
theorem l21 (G : Gs c) {cs : List Int} {M : Nat} (hM : M ≤ 1000) (h1 : (M : Int) ∈ cs) (h2 : ∀ a ∈ cs, a ≤ M) {σ : String → Option D} (hσ : σ "costs" = some (.list (iL cs))) : Ex1 c 100 (scopeAt 31) σ none (stm 31 21) .next (upd σ "counts" (.list (iL (countsF cs M)))) none := by
  have e1 : iL (countsF cs M) = (List.range' 0 (M + 1)).map fun p : Nat => .int ((cs.count (p : Int) : Nat) : Int) := by simp [iL, countsF]
  rw [e1]
  refine Ex1.assignComp (σf := upd (fun _ => none) "costs" (.list (iL cs))) (EvI.range1 (n := M + 1) (by decide) G.g2.range (by decide +kernel) (Ev.to (Ev.bin (by decide) (Ev.call (NoG.ev G.max (by rfl) (by decide +kernel)) KeepV.blt (EvL.cons (Ev.name hσ) EvL.nil) (FnV.maxList h1 h2)) Ev.int Bop.add) (by simp)) (by omega)) ⟨by decide +kernel, .inl (by decide +kernel), by decide +kernel, by decide +kernel, by decide +kernel⟩ ((Sees.nil).add hσ (by decide +kernel)) (by simp; unfold sizeLine; omega)
    (CoR.map (f := fun k => .int (k : Nat)) (g := fun p : Nat => .int ((cs.count (p : Int) : Nat) : Int)) fun k hk => ?_) (.inl (by decide +kernel)) nofun (fun env e => by cases env; cases e; rfl)
  exact Ev.meth (Ev.name (d := .list (iL cs)) (by trivial)) (EvL.cons (Ev.name (d := .int (k : Nat)) (by trivial)) EvL.nil) hT_list FnV.count F.plainAttrs_list F.slot_list_count F.type_list_count
end Mine

end
section
open PySem PySem.W PySem.Calls PyProof.Rows Builtin.Str
set_option maxRecDepth 20000
set_option linter.unusedVariables false
set_option linter.unusedSimpArgs false
namespace Mine
local macro_rules | `(tactic| omega) => `(tactic| lia)
open Builtin.Int (intBits)
variable {c : Cx}
local macro_rules | `(tactic| trivial) => `(tactic| first | rfl | (simp [full, L, argσ, upd]; done))

def widthF (e : Nat) : Nat := 5 + e / 648 % 3
def unitF (d : Nat) : Int := 2 ^ d
def stepF (d : Nat) : Int := unitF d ^ 8
def wholeL (u s : Int) : List Nat → Int → Option Int
  | [], a => some a
  | k :: ks, a => if intBits a ≤ 2 ^ 20 ∧ intBits (u + s ^ (2 ^ k) + u * s ^ (2 ^ (k + 1))) ≤ 2 ^ 20 then wholeL u s ks (a * (u + s ^ (2 ^ k) + u * s ^ (2 ^ (k + 1)))) else none
theorem l22 {e : Nat} {σ : String → Option D} (h1 : σ "extra" = some (.int (e : Nat))) : Ex1 c 100 (scopeAt 31) σ none (stm 31 22) .next (upd σ "width" (.int (widthF e : Nat))) none := by
  refine Ex1.assign ?_ (.inl (by decide +kernel)) nofun
  exact Ev.to (Ev.bin (by decide) Ev.int (evWhere (a := 648) (b := 3) (by decide) (by decide) (by decide) (by decide) h1 (by decide)) Bop.add) (by unfold widthF; simp)
theorem l23 {d : Nat} (hd : d ≤ 7) {σ : String → Option D} (h1 : σ "width" = some (.int (d : Nat))) : Ex1 c 100 (scopeAt 31) σ none (stm 31 23) .next (upd σ "unit" (.int (unitF d))) none := by
  refine Ex1.assign ?_ (.inl (by decide +kernel)) nofun
  exact pow2 (by decide) (by omega) h1 (by decide)
theorem unit_bits : ∀ d ≤ 7, intBits (unitF d) ≤ 10 := by decide +kernel
theorem step_bits : ∀ d ≤ 7, intBits (stepF d) ≤ 60 := by decide +kernel
theorem l24 {d : Nat} (hd : d ≤ 7) {σ : String → Option D} (h1 : σ "unit" = some (.int (unitF d))) : Ex1 c 100 (scopeAt 31) σ none (stm 31 24) .next (upd σ "step" (.int (stepF d))) none := by
  refine Ex1.assign ?_ (.inl (by decide +kernel)) nofun
  have := unit_bits d hd
  exact Ev.bin (by decide) (Ev.name h1) Ev.int (Bop.pow (by decide) (by omega))
theorem l25 {σ : String → Option D} : Ex1 c 100 (scopeAt 31) σ none (stm 31 25) .next (upd σ "whole" (.int 1)) none :=
  Ex1.assign Ev.int (.inl (by decide +kernel)) nofun

theorem l26_for {u s : Int} (hu : intBits u ≤ 60) (hs : intBits s ≤ 60) : ∀ (ks : List Nat) (a b : Int) (σ : String → Option D), (∀ k ∈ ks, k < 7) → wholeL u s ks a = some b → σ "unit" = some (.int u) → σ "step" = some (.int s) → σ "whole" = some (.int a) →
    ∃ σ', (∀ y d, y ≠ "k" → y ≠ "whole" → σ y = some d → σ' y = some d) ∧ σ' "whole" = some (.int b) ∧ ForR c 100 (scopeAt 31) "k" (inB (stm 31 26)) (ks.map fun k => .int (k : Nat)) σ none .next σ' none
  | [], a, b, σ, hk, h, h1, h2, h3 => by
    simp only [wholeL, Option.some.injEq] at h
    subst h
    exact ⟨σ, fun _ _ _ _ h => h, h3, ForR.nil⟩
  | k :: ks, a, b, σ, hk, h, h1, h2, h3 => by
    unfold wholeL at h
    split at h
    case isFalse => cases h
    rename_i hc
    have hk7 : k < 7 := hk k (.head _)
    obtain ⟨σ', q1, q2, q3⟩ := l26_for hu hs ks _ b (upd (upd σ "k" (.int (k : Nat))) "whole" (.int (a * (u + s ^ (2 ^ k) + u * s ^ (2 ^ (k + 1)))))) (fun j hj => hk j (.tail _ hj)) h (by simp [upd, h1]) (by simp [upd, h2]) (by simp [upd])
    refine ⟨σ', fun y d n1 n2 e => q1 y d n1 n2 (by simp [upd, n1, n2, e]), q2, ?_⟩
    rw [List.map_cons]
    have own : ownName (none : Option (String × List D)) ≠ some "k" := nofun
    refine ForR.turn own (Ex.cons (Ex1.assign ?_ (.inl (by decide +kernel)) nofun) Ex.nil) q3
    have n1 : upd σ "k" (.int (k : Nat)) "unit" = some (.int u) := by simp [upd, h1]
    have n2 : upd σ "k" (.int (k : Nat)) "step" = some (.int s) := by simp [upd, h2]
    have n3 : upd σ "k" (.int (k : Nat)) "whole" = some (.int a) := by simp [upd, h3]
    have n4 : upd σ "k" (.int (k : Nat)) "k" = some (.int (k : Nat)) := by simp [upd]
    have b2 : intBits 2 = 2 := by decide +kernel
    have p1 : ∀ j : Nat, ((2 : Int) ^ j).toNat = 2 ^ j := fun j => by
      have : (2 : Int) ^ j = ((2 ^ j : Nat) : Int) := by simp
      rw [this]; exact Int.toNat_natCast _
    have p2 : 2 ^ k ≤ 64 := by
      have := Nat.pow_le_pow_right (show 0 < 2 by decide) (show k ≤ 6 by omega)
      simpa using this
    have p3 : 2 ^ (k + 1) ≤ 128 := by rw [Nat.pow_succ]; omega
    have e1 : (2 : Int) ^ k = ((2 ^ k : Nat) : Int) := by simp
    have e2 : (2 : Int) ^ (k + 1) = ((2 ^ (k + 1) : Nat) : Int) := by simp
    refine Ev.bin (d₂ := .int (u + s ^ (2 ^ k) + u * s ^ (2 ^ (k + 1)))) (by decide) (Ev.name n3) (Ev.bin (by decide) (Ev.bin (by decide) (Ev.name n1) (Ev.to (Ev.bin (by decide) (Ev.name n2) (pow2 (by decide) (by omega) n4 (by decide)) (Bop.pow ?_ ?_)) ?_) Bop.add) (Ev.bin (d₂ := .int (s ^ (2 ^ (k + 1)))) (by decide) (Ev.name n1) (Ev.to (Ev.bin (by decide) (Ev.name n2) (Ev.to (Ev.bin (by decide) Ev.int (Ev.bin (by decide) (Ev.name n4) Ev.int Bop.add) (Bop.pow (by omega) (by rw [b2]; omega))) (d' := .int ((2 : Int) ^ (k + 1))) ?_) (Bop.pow ?_ ?_)) ?_) (Bop.mul (mulOk_l (by omega)))) Bop.add) (Bop.mul (IntMulOk.of_bits hc.1 hc.2))
    · rw [e1]; exact Int.natCast_nonneg _
    · rw [e1]; have : (intBits s : Int) * ((2 ^ k : Nat) : Int) ≤ 60 * 64 := by exact_mod_cast Nat.mul_le_mul hs p2
      omega
    · rw [p1]
    · congr 2
    · rw [e2]; exact Int.natCast_nonneg _
    · rw [e2]; have : (intBits s : Int) * ((2 ^ (k + 1) : Nat) : Int) ≤ 60 * 128 := by exact_mod_cast Nat.mul_le_mul hs p3
      omega
    · rw [p1]

theorem l26 (G : Gs c) {u s : Int} (hu : intBits u ≤ 60) (hs : intBits s ≤ 60) {b : Int} {σ : String → Option D} (h : wholeL u s (List.range' 0 7) 1 = some b) (h1 : σ "unit" = some (.int u)) (h2 : σ "step" = some (.int s)) (h3 : σ "whole" = some (.int 1)) :
    ∃ σ', (∀ y d, y ≠ "k" → y ≠ "whole" → σ y = some d → σ' y = some d) ∧ σ' "whole" = some (.int b) ∧ Ex1 c 100 (scopeAt 31) σ none (stm 31 26) .next σ' none := by
  obtain ⟨σ', q1, q2, q3⟩ := l26_for (c := c) hu hs (List.range' 0 7) 1 b σ (fun k hk => by simp at hk; omega) h h1 h2 h3
  exact ⟨σ', q1, q2, Ex1.for (fl₁ := .next) (EvI.range1 (n := 7) (by decide) G.g2.range (by decide +kernel) Ev.int (by omega)) (.inr (by decide +kernel)) q3 Ex.nil⟩

theorem powW {w : Int} {a : Nat} {s : Int} (hs : intBits s ≤ 60) (h0 : 0 ≤ w + a) (h1 : w + a ≤ 1000) {σ : String → Option D} (h2 : σ "step" = some (.int s)) (h3 : σ "worth" = some (.int w)) {p1 p2 p3 p4 p5 : Pos} {k : Nat} :
    Ev c 100 (scopeAt 31) σ (.BinOp (.Name (Str.ofString "step") p1) .Pow (.BinOp (.Name (Str.ofString "worth") p2) .Add (.Constant (.int (a : Nat)) k p3) p4) p5) (.int (s ^ (w + a).toNat)) := by
  refine Ev.bin (by decide) (Ev.name h2) (Ev.bin (by decide) (Ev.name h3) Ev.int Bop.add) (Bop.pow h0 ?_)
  have : (intBits s : Int) * (w + a) ≤ 60 * (w + a) := Int.mul_le_mul_of_nonneg_right (by omega) h0
  omega
theorem l27 (G : Gs c) (F : Gf c) {w s a q b : Int} (hs : intBits s ≤ 60) (hw : -64 ≤ w ∧ w ≤ 64) (h : dmF 10 a (s ^ (w + 128).toNat) = some (q, b)) (ha : 0 ≤ a) (hp : 0 < s ^ (w + 128).toNat) {σ : String → Option D} (h1 : σ "whole" = some (.int a)) (h2 : σ "step" = some (.int s)) (h3 : σ "worth" = some (.int w)) :
    Ex1 c 100 (scopeAt 31) σ none (stm 31 27) .next (upd σ "below" (.int b)) none := by
  refine Ex1.assign ?_ (.inl (by decide +kernel)) nofun
  exact Ev.sub (by decide) (Ev.call (G.g3.idm.ev (by decide +kernel)) G.g3.idm.keep (EvL.cons (Ev.name h1) (EvL.cons (powW (a := 128) hs (by omega) (by omega) h2 h3) EvL.nil)) ((F.idm _ _ _ _ h ha hp).up (by decide))) Ev.int (Idx.tup (by decide) (by decide) rfl)
theorem l28 (G : Gs c) (F : Gf c) {w s a q b : Int} (hs : intBits s ≤ 60) (hw : -64 ≤ w ∧ w ≤ 64) (h : dmF 10 a (s ^ (w + 127).toNat) = some (q, b)) (ha : 0 ≤ a) (hp : 0 < s ^ (w + 127).toNat) {σ : String → Option D} (h1 : σ "below" = some (.int a)) (h2 : σ "step" = some (.int s)) (h3 : σ "worth" = some (.int w)) :
    Ex1 c 100 (scopeAt 31) σ none (stm 31 28) .next (upd σ "figure" (.int q)) none := by
  refine Ex1.assign ?_ (.inl (by decide +kernel)) nofun
  exact Ev.sub (by decide) (Ev.call (G.g3.idm.ev (by decide +kernel)) G.g3.idm.keep (EvL.cons (Ev.name h1) (EvL.cons (powW (a := 127) hs (by omega) (by omega) h2 h3) EvL.nil)) ((F.idm _ _ _ _ h ha hp).up (by decide))) Ev.int (Idx.tup (by decide) (by decide) rfl)
theorem l29 (G : Gs c) (F : Gf c) {f : Int} {d : Nat} {cs : List Int} (h : i2d f (d : Nat) = some cs) {σ : String → Option D} (h1 : σ "figure" = some (.int f)) (h2 : σ "width" = some (.int (d : Nat))) (h3 : σ "counts" = some (.list (iL cs))) :
    Ex1 c 100 (scopeAt 31) σ none (stm 31 29) .next σ none := by
  refine Ex1.ifF (Tr.to (Tr.cmp (by decide) (Ev.call (G.g3.i2d.ev (by decide +kernel)) G.g3.i2d.keep (EvL.cons (Ev.name h1) (EvL.cons (Ev.name h2) EvL.nil)) ((F.i2d _ _ _ h).up (by decide))) (Ev.name h3) Cop.neInts) (by simp)) Ex.nil
end Mine

end
section
open PySem PySem.W PySem.Calls PyProof.Rows Builtin.Str
set_option maxRecDepth 20000
set_option linter.unusedVariables false
set_option linter.unusedSimpArgs false
namespace Mine
local macro_rules | `(tactic| omega) => `(tactic| lia)
open Builtin.Int (intBits)
variable {c : Cx}
local macro_rules | `(tactic| trivial) => `(tactic| first | rfl | (simp [full, L, argσ, upd]; done))

theorem l30 (G : Gs c) {w : Int} {σ : String → Option D} (h1 : σ "worth" = some (.int w)) : Ex1 c 100 (scopeAt 31) σ none (stm 31 30) .next (upd σ "size" (.int (w.natAbs : Nat))) none := by
  refine Ex1.assign ?_ (.inl (by decide +kernel)) nofun
  exact Ev.to (Ev.call (NoG.ev G.abs (by rfl) (by decide +kernel)) KeepV.blt (EvL.cons (Ev.name h1) EvL.nil) FnV.abs) (by split <;> (congr 1; omega))
theorem l31 (G : Gs c) (F : Gf c) {n : Nat} {bits : List Int} {th : Int} (hi : i2d (n : Nat) 1 = some bits) (hd : d2iF (bits.map (3 * ·)) 1 = some th) (hl : bits.length ≤ 1000) {σ : String → Option D} (h1 : σ "size" = some (.int (n : Nat))) : Ex1 c 100 (scopeAt 31) σ none (stm 31 31) .next (upd σ "thrice" (.int th)) none := by
  refine Ex1.assign ?_ (.inl (by decide +kernel)) nofun
  refine Ev.call (G.g3.d2i.ev (by decide +kernel)) G.g3.d2i.keep (EvL.cons (Ev.comp (σf := fun _ => none) (ds := iL bits) (es := iL (bits.map (3 * ·))) (EvI.of (by decide) (Ev.call (G.g3.i2d.ev (by decide +kernel)) G.g3.i2d.keep (EvL.cons (Ev.name h1) (EvL.cons Ev.int EvL.nil)) ((F.i2d _ _ _ hi).up (by decide))) Iters.list) ⟨by decide +kernel, .inl (by decide +kernel), by decide +kernel, by decide +kernel, by decide +kernel⟩ Sees.nil (by rw [iL_len]; unfold sizeLine; omega) ?_) (EvL.cons Ev.int EvL.nil)) ((F.d2i _ _ _ hd).up (by decide))
  have e : iL (bits.map (3 * ·)) = bits.map fun b => .int (3 * b) := by simp [iL]
  rw [e]
  exact CoR.map (f := fun b : Int => .int b) (g := fun b : Int => .int (3 * b)) fun b hb => Ev.bin (by decide) Ev.int (Ev.name (by trivial)) (Bop.mul (mulOk_l (by decide)))
theorem l32 (G : Gs c) {n : Nat} {th : Int} {sp : List Int} {out : List Str} (hr : Row7 sp) (hp : pfL 32 0 ((Builtin.bitXor (n : Nat) th).fdiv 2) [] = some out) (hok : (out.map (·.length)).sum + out.length * comma.length ≤ 16777216) (hn : Txt.join comma out = namesF sp)
    {σ : String → Option D} (h1 : σ "size" = some (.int (n : Nat))) (h2 : σ "thrice" = some (.int th)) (h3 : σ "sparse" = some (.list (iL sp))) : Ex1 c 100 (scopeAt 31) σ none (stm 31 32) .next σ none := by
  refine Ex1.ifF (Tr.to (Tr.cmp (by decide) (Ev.call (G.g4.pf.ev (by decide +kernel)) G.g4.pf.keep (EvL.cons (Ev.bin (by decide) (Ev.bin (by decide) (Ev.name h1) (Ev.name h2) Bop.bxor) Ev.int (Bop.fdiv (by decide) (PyProof.noPylong_small (by decide)))) EvL.nil) ((w_pf G.g4 hp hok).up (by decide))) (Ev.call (G.g5.names.ev (by decide +kernel)) G.g5.names.keep (EvL.cons (Ev.name h3) EvL.nil) ((w_names G.g5 hr).up (by decide))) Cop.neStr) (by rw [hn]; simp)) Ex.nil
theorem sizes_len (n : Nat) : (sizes n).length = 8 := by simp [sizes]
theorem l33 (G : Gs c) {n t : Nat} {M : Int} (hn : n ≤ 1000) (ht : t ≤ 1000) (h : lev (sizes n) (sizes t) M = M) {σ : String → Option D} (h1 : σ "size" = some (.int (n : Nat))) (h2 : σ "thrice" = some (.int (t : Nat))) (h3 : σ "least" = some (.int M)) : Ex1 c 100 (scopeAt 31) σ none (stm 31 33) .next σ none := by
  refine Ex1.ifF (Tr.to (Tr.cmp (by decide) (Ev.call (G.g2.lev.ev (by decide +kernel)) G.g2.lev.keep (EvL.cons (Ev.call (G.g5.sizes.ev (by decide +kernel)) G.g5.sizes.keep (EvL.cons (Ev.name h1) EvL.nil) ((w_sizes G.g5 (by omega)).up (by decide))) (EvL.cons (Ev.call (G.g5.sizes.ev (by decide +kernel)) G.g5.sizes.keep (EvL.cons (Ev.name h2) EvL.nil) ((w_sizes G.g5 (by omega)).up (by decide))) (EvL.cons (Ev.name h3) EvL.nil))) ((w_lev G.g2 (by rw [sizes_len]; decide) (by rw [sizes_len]; decide)).up (by decide))) (Ev.name h3) Cop.neInt) (by rw [h]; simp)) Ex.nil
theorem l34 (G : Gs c) {sp : List Int} (hr : Row7 sp) {σ : String → Option D} (h1 : σ "sparse" = some (.list (iL sp))) : Ex1 c 100 (scopeAt 31) σ none (stm 31 34) .next (upd σ "nearest" (.str (T (typed sp)))) none := by
  refine Ex1.assign ?_ (.inl (by decide +kernel)) nofun
  exact Ev.call (G.g5.typed.ev (by decide +kernel)) G.g5.typed.keep (EvL.cons (Ev.name h1) EvL.nil) ((w_typed G.g5 hr).up (by decide))
theorem l35 (G : Gs c) {sp : List Int} {M : Int} (h : lev (typed sp) (typed zero7) (M - 1) = M) {σ : String → Option D} (h1 : σ "nearest" = some (.str (T (typed sp)))) (h2 : σ "bare" = some (.str (T (typed zero7)))) (h3 : σ "least" = some (.int M)) : Ex1 c 100 (scopeAt 31) σ none (stm 31 35) .next σ none := by
  refine Ex1.ifF (Tr.to (Tr.cmp (by decide) (Ev.call (G.g2.lev.ev (by decide +kernel)) G.g2.lev.keep (EvL.cons (Ev.name h1) (EvL.cons (Ev.name h2) (EvL.cons (Ev.bin (by decide) (Ev.name h3) Ev.int Bop.sub) EvL.nil))) ((w_lev G.g2 (by rw [typed_len]; decide) (by rw [typed_len]; decide)).up (by decide))) (Ev.name h3) Cop.neInt) (by rw [h]; simp)) Ex.nil

def ownersF (e : Nat) : List Int := ((List.range (whereF e)).map fun i => ((i : Nat) : Int)) ++ List.replicate (putIn e).length 7 ++ (List.range (7 - whereF e)).map fun i => ((whereF e + i : Nat) : Int)
theorem l36 (G : Gs c) {e : Nat} {σ : String → Option D} (h1 : σ "where" = some (.int (whereF e : Nat))) (h2 : σ "strange" = some (.str (T (putIn e)))) : Ex1 c 100 (scopeAt 31) σ none (stm 31 36) .next (upd σ "owners" (.list (iL (ownersF e)))) none := by
  have hw : whereF e ≤ 7 := by unfold whereF; omega
  have hp := putIn_len e
  refine Ex1.assign ?_ (.inr (by decide +kernel)) nofun
  refine Ev.to (Ev.bin (by decide) (Ev.bin (by decide) (Ev.call (NoG.ev G.g2.list (by rfl) (by decide +kernel)) KeepV.type (EvL.cons (Ev.call (NoG.ev G.g2.range (by rfl) (by decide +kernel)) KeepV.type (EvL.cons (Ev.name h1) EvL.nil) FnV.range1) EvL.nil) (FnF.listRange (lo := 0) (hi := (whereF e : Nat)) (st := 1) (n := whereF e) (small_nat (by omega)) (size_nat _) (by omega)).v)
      (Ev.bin (by decide) (Ev.list (ds := iL [7]) (EvL.cons Ev.int EvL.nil) (by show 1 ≤ sizeLine; decide)) (evLen G.g2.len (by decide +kernel) (Ev.name h2) (by omega)) (Bop.mulList (by omega) (by omega) (by show 1 ≤ 4; decide))) (Bop.addList ?_))
    (Ev.call (NoG.ev G.g2.list (by rfl) (by decide +kernel)) KeepV.type (EvL.cons (Ev.call (NoG.ev G.g2.range (by rfl) (by decide +kernel)) KeepV.type (EvL.cons (Ev.name h1) (EvL.cons Ev.int EvL.nil)) FnV.range2) EvL.nil) (FnF.listRange (lo := (whereF e : Nat)) (hi := 7) (st := 1) (n := 7 - whereF e) (small_one (by omega) (by omega) (by omega) (by omega)) (by rw [rangeSize_one]; split <;> omega) (by omega)).v) (Bop.addList ?_)) ?_
  · have e1 : (List.replicate (((putIn e).length : Nat) : Int).toNat (iL [7])).flatten = iL (List.replicate (putIn e).length 7) := by
      rw [Int.toNat_natCast]
      generalize (putIn e).length = m
      induction m with
      | zero => rfl
      | succ m ih => rw [List.replicate_succ, List.flatten_cons, ih]; rfl
    rw [e1, iL_len]; simp; unfold sizeLine; omega
  · have e1 : (List.replicate (((putIn e).length : Nat) : Int).toNat (iL [7])).flatten = iL (List.replicate (putIn e).length 7) := by
      rw [Int.toNat_natCast]
      generalize (putIn e).length = m
      induction m with
      | zero => rfl
      | succ m ih => rw [List.replicate_succ, List.flatten_cons, ih]; rfl
    rw [e1]; simp [iL]; unfold sizeLine; omega
  · have e1 : (List.replicate (((putIn e).length : Nat) : Int).toNat (iL [7])).flatten = iL (List.replicate (putIn e).length 7) := by
      rw [Int.toNat_natCast]
      generalize (putIn e).length = m
      induction m with
      | zero => rfl
      | succ m ih => rw [List.replicate_succ, List.flatten_cons, ih]; rfl
    rw [e1]
    unfold ownersF
    rw [iL_app, iL_app]
    congr 1
    simp [iL, Function.comp_def]
end Mine

end
section
open PySem PySem.W PySem.Calls PyProof.Rows Builtin.Str
set_option maxRecDepth 20000
set_option linter.unusedVariables false
set_option linter.unusedSimpArgs false
namespace Mine
local macro_rules | `(tactic| omega) => `(tactic| lia)
open Builtin.Int (intBits)
variable {c : Cx}
local macro_rules | `(tactic| trivial) => `(tactic| first | rfl | (simp [full, L, argσ, upd]; done))

def diffF (a b : Int) : Int := if (if a - b < 0 then -(a - b) else a - b) < 1 then (if a - b < 0 then -(a - b) else a - b) else 1
def toldF (row sp : List Int) (o : Int) : List Int := (List.range' 0 7).map fun j : Nat => if o = (j : Int) then diffF (row.getD j 0) (sp.getD j 0) else 2
def askF (l sp : List Nat) (k : Nat) : List Int := sp.map fun s => subCost (T [l.getD k 0]) (T [s])
def askR (l sp : List Nat) (k : Nat) : List Int := sp.map fun s => subCost (T [s]) (T [l.getD k 0])

theorem owners_len (e : Nat) : (ownersF e).length = 7 + (putIn e).length := by
  have : whereF e ≤ 7 := by unfold whereF; omega
  simp [ownersF]; omega
theorem typedF_len (row : List Int) (e : Nat) : (typedF row e).length = 7 + (putIn e).length := by
  have : whereF e ≤ 7 := by unfold whereF; omega
  simp [typedF, typed_len]; omega

theorem l37_turn (G : Gs c) {row sp : List Int} {l nl : List Nat} {ow : List Int} (hr : Row7 row) (hs : Row7 sp) (hl : l.length ≤ 40) (hnl : nl.length ≤ 40) (how : ow.length = l.length) {k : Nat} (hk : k < l.length) (h1 : askF l nl k = toldF row sp (ow.getD k 0)) (h2 : askR l nl k = toldF row sp (ow.getD k 0))
    {σ : String → Option D} (n1 : σ "row" = some (.list (iL row))) (n2 : σ "sparse" = some (.list (iL sp))) (n3 : σ "typed" = some (.str (T l))) (n4 : σ "nearest" = some (.str (T nl))) (n5 : σ "owners" = some (.list (iL ow))) (n6 : σ "k" = some (.int (k : Nat))) :
    Ex c 100 (scopeAt 31) σ none (inB (stm 31 37)) .next (upd σ "told" (.list (iL (toldF row sp (ow.getD k 0))))) none := by
  have e0 : iL (toldF row sp (ow.getD k 0)) = (List.range' 0 7).map fun j : Nat => .int (if ow.getD k 0 = (j : Int) then diffF (row.getD j 0) (sp.getD j 0) else 2) := by simp [iL, toldF]
  have hlk : l.getD k 0 = l[k] := by simp [List.getD_eq_getElem?_getD, List.getElem?_eq_getElem hk]
  have hok : ow[k]? = some (ow.getD k 0) := by simp [List.getD_eq_getElem?_getD, List.getElem?_eq_getElem (show k < ow.length by omega)]
  refine Ex.cons (σ' := upd σ "told" (.list (iL (toldF row sp (ow.getD k 0))))) (o' := none) ?_ ?_
  · rw [e0]
    refine Ex1.assignComp (σf := upd (upd (upd (upd (fun _ => none) "row" (.list (iL row))) "sparse" (.list (iL sp))) "owners" (.list (iL ow))) "k" (.int (k : Nat))) (EvI.range1 (n := 7) (by decide) G.g2.range (by decide +kernel) Ev.int (by omega)) ⟨by decide +kernel, .inl (by decide +kernel), by decide +kernel, by decide +kernel, by decide +kernel⟩ ?_ (by show 7 ≤ sizeLine; decide)
      (CoR.map (f := fun j => .int (j : Nat)) (g := fun j : Nat => .int (if ow.getD k 0 = (j : Int) then diffF (row.getD j 0) (sp.getD j 0) else 2)) fun j hj => ?_) (.inl (by decide +kernel)) nofun (fun env e => by cases env; cases e; rfl)
    · exact ((((Sees.nil).add n1 (by decide +kernel)).add n2 (by decide +kernel)).add n5 (by decide +kernel)).add n6 (by decide +kernel)
    · have hj7 : j < 7 := by simp at hj; omega
      have tst : ∀ {sc : Scope} {p1 p2 p3 p4 p5 : Pos}, Tr c 100 sc (upd (upd (upd (upd (upd (fun _ => none) "row" (.list (iL row))) "sparse" (.list (iL sp))) "owners" (.list (iL ow))) "k" (.int (k : Nat))) "j" (.int (j : Nat))) (.Compare (.Subscript (.Name (Str.ofString "owners") p1) (.Name (Str.ofString "k") p2) p3) [.NotEq] [.Name (Str.ofString "j") p4] p5) (ow.getD k 0 != (j : Int)) := fun {sc p1 p2 p3 p4 p5} =>
        Tr.cmp (by decide) (Ev.sub (d := .int (ow.getD k 0)) (by decide) (Ev.name (d := .list (iL ow)) (by trivial)) (Ev.name (d := .int (k : Nat)) (by trivial)) (Idx.list (by omega) (by omega) (iL_get (by simpa using hok)))) (Ev.name (by trivial)) Cop.neInt
      by_cases h : ow.getD k 0 = (j : Int)
      · rw [if_pos h]
        refine Ev.ifF (Tr.to tst (by rw [h]; simp)) ?_
        unfold diffF
        exact Ev.call (NoG.ev G.g2.min (by rfl) (by decide +kernel)) KeepV.blt (EvL.cons Ev.int (EvL.cons (Ev.call (NoG.ev G.abs (by rfl) (by decide +kernel)) KeepV.blt (EvL.cons (Ev.bin (by decide) (rowAt (by decide) hr hj7 (by trivial) (by trivial) (by decide) (by decide)) (rowAt (by decide) hs hj7 (by trivial) (by trivial) (by decide) (by decide)) Bop.sub) EvL.nil) FnV.abs) EvL.nil)) FnV.min2
      · rw [if_neg h]
        exact Ev.ifT (Tr.to tst (by simpa using h)) Ev.int
  · have m1 : upd σ "told" (.list (iL (toldF row sp (ow.getD k 0)))) "told" = some (.list (iL (toldF row sp (ow.getD k 0)))) := by simp [upd]
    have m3 : upd σ "told" (.list (iL (toldF row sp (ow.getD k 0)))) "typed" = some (.str (T l)) := by simp [upd, n3]
    have m4 : upd σ "told" (.list (iL (toldF row sp (ow.getD k 0)))) "nearest" = some (.str (T nl)) := by simp [upd, n4]
    have m6 : upd σ "told" (.list (iL (toldF row sp (ow.getD k 0)))) "k" = some (.int (k : Nat)) := by simp [upd, n6]
    generalize upd σ "told" (.list (iL (toldF row sp (ow.getD k 0)))) = σ₁ at m1 m3 m4 m6 ⊢
    have hsg : signs (T nl) = nl.map fun n => D.str (T [n]) := by simp only [signs, T_cps]; rfl
    have see : ∀ {scope : Scope}, scope.names.lookup (Str.ofString "k") = some .free → scope.names.lookup (Str.ofString "typed") = some .free → Sees scope σ₁ (upd (upd (fun _ => none) "typed" (.str (T l))) "k" (.int (k : Nat))) := fun a b => ((Sees.nil).add m3 b).add m6 a
    have one : ∀ n : Nat, (T [n]).length ≤ 1000 := fun n => by simp [T, Str.length]
    refine Ex.cons (Ex1.ifF (Tr.to (Tr.cmp (d₁ := .list (iL (askF l nl k))) (by decide) (Ev.comp (σf := upd (upd (fun _ => none) "typed" (.str (T l))) "k" (.int (k : Nat))) (ds := signs (T nl)) (EvI.of (by decide) (Ev.name m4) Iters.str) ⟨by decide +kernel, .inl (by decide +kernel), by decide +kernel, by decide +kernel, by decide +kernel⟩ (see (by decide +kernel) (by decide +kernel)) (by rw [hsg]; simp; unfold sizeLine; omega) ?_) (Ev.name m1) Cop.neInts) (by rw [h1]; simp)) Ex.nil) ?_
    · rw [hsg]
      have e : iL (askF l nl k) = nl.map fun s => .int (subCost (T [l.getD k 0]) (T [s])) := by simp [iL, askF]
      rw [e]
      refine CoR.map (f := fun s => .str (T [s])) (g := fun s => .int (subCost (T [l.getD k 0]) (T [s]))) fun s hs => ?_
      rw [hlk]
      exact Ev.call (G.g2.sub.ev (by decide +kernel)) G.g2.sub.keep (EvL.cons (evAt (by decide) (Ev.name (by trivial)) (Ev.name (by trivial)) (by omega) hk) (EvL.cons (Ev.name (d := .str (T [s])) (by trivial)) EvL.nil)) ((w_sub G.g2.toG1 (one _) (one _)).up (by decide))
    refine Ex.cons (Ex1.ifF (Tr.to (Tr.cmp (d₁ := .list (iL (askR l nl k))) (by decide) (Ev.comp (σf := upd (upd (fun _ => none) "typed" (.str (T l))) "k" (.int (k : Nat))) (ds := signs (T nl)) (EvI.of (by decide) (Ev.name m4) Iters.str) ⟨by decide +kernel, .inl (by decide +kernel), by decide +kernel, by decide +kernel, by decide +kernel⟩ (see (by decide +kernel) (by decide +kernel)) (by rw [hsg]; simp; unfold sizeLine; omega) ?_) (Ev.name m1) Cop.neInts) (by rw [h2]; simp)) Ex.nil) Ex.nil
    · rw [hsg]
      have e : iL (askR l nl k) = nl.map fun s => .int (subCost (T [s]) (T [l.getD k 0])) := by simp [iL, askR]
      rw [e]
      refine CoR.map (f := fun s => .str (T [s])) (g := fun s => .int (subCost (T [s]) (T [l.getD k 0]))) fun s hs => ?_
      rw [hlk]
      exact Ev.call (G.g2.sub.ev (by decide +kernel)) G.g2.sub.keep (EvL.cons (Ev.name (d := .str (T [s])) (by trivial)) (EvL.cons (evAt (by decide) (Ev.name (by trivial)) (Ev.name (by trivial)) (by omega) hk) EvL.nil)) ((w_sub G.g2.toG1 (one _) (one _)).up (by decide))

theorem l37_for (G : Gs c) {row sp : List Int} {l nl : List Nat} {ow : List Int} (hr : Row7 row) (hs : Row7 sp) (hl : l.length ≤ 40) (hnl : nl.length ≤ 40) (how : ow.length = l.length) : ∀ (ks : List Nat) (σ : String → Option D), (∀ k ∈ ks, k < l.length ∧ askF l nl k = toldF row sp (ow.getD k 0) ∧ askR l nl k = toldF row sp (ow.getD k 0)) →
    σ "row" = some (.list (iL row)) → σ "sparse" = some (.list (iL sp)) → σ "typed" = some (.str (T l)) → σ "nearest" = some (.str (T nl)) → σ "owners" = some (.list (iL ow)) →
    ∃ σ', (∀ y d, y ≠ "k" → y ≠ "told" → σ y = some d → σ' y = some d) ∧ ForR c 100 (scopeAt 31) "k" (inB (stm 31 37)) (ks.map fun k => .int (k : Nat)) σ none .next σ' none
  | [], σ, _, _, _, _, _, _ => ⟨σ, fun _ _ _ _ h => h, ForR.nil⟩
  | k :: ks, σ, hk, n1, n2, n3, n4, n5 => by
    obtain ⟨k1, k2, k3⟩ := hk k (.head _)
    obtain ⟨σ', q1, q2⟩ := l37_for G hr hs hl hnl how ks (upd (upd σ "k" (.int (k : Nat))) "told" (.list (iL (toldF row sp (ow.getD k 0))))) (fun j hj => hk j (.tail _ hj)) (by simp [upd, n1]) (by simp [upd, n2]) (by simp [upd, n3]) (by simp [upd, n4]) (by simp [upd, n5])
    refine ⟨σ', fun y d a b e => q1 y d a b (by simp [upd, a, b, e]), ?_⟩
    rw [List.map_cons]
    have own : ownName (none : Option (String × List D)) ≠ some "k" := nofun
    exact ForR.turn own (l37_turn G hr hs hl hnl how k1 k2 k3 (by simp [upd, n1]) (by simp [upd, n2]) (by simp [upd, n3]) (by simp [upd, n4]) (by simp [upd, n5]) (by simp [upd])) q2
theorem l37 (G : Gs c) {row sp : List Int} {l nl : List Nat} {ow : List Int} (hr : Row7 row) (hs : Row7 sp) (hl : l.length ≤ 40) (hnl : nl.length ≤ 40) (how : ow.length = l.length) {σ : String → Option D} (hk : ∀ k < l.length, askF l nl k = toldF row sp (ow.getD k 0) ∧ askR l nl k = toldF row sp (ow.getD k 0))
    (n1 : σ "row" = some (.list (iL row))) (n2 : σ "sparse" = some (.list (iL sp))) (n3 : σ "typed" = some (.str (T l))) (n4 : σ "nearest" = some (.str (T nl))) (n5 : σ "owners" = some (.list (iL ow))) :
    ∃ σ', (∀ y d, y ≠ "k" → y ≠ "told" → σ y = some d → σ' y = some d) ∧ Ex1 c 100 (scopeAt 31) σ none (stm 31 37) .next σ' none := by
  obtain ⟨σ', q1, q2⟩ := l37_for G hr hs hl hnl how (List.range' 0 l.length) σ (fun k h => ⟨by simp at h; omega, hk k (by simp at h; omega)⟩) n1 n2 n3 n4 n5
  exact ⟨σ', q1, Ex1.for (fl₁ := .next) (EvI.range1 (n := l.length) (by decide) G.g2.range (by decide +kernel) (evLen G.g2.len (by decide +kernel) (Ev.name n3) (by omega)) (by omega)) (.inr (by decide +kernel)) q2 Ex.nil⟩

def unlike (row sp : List Int) : List Nat := (List.range' 0 7).filter fun k => row.getD k 0 != sp.getD k 0
def dueF (row sp : List Int) (m : Nat) : Int := ((2 * m + (unlike row sp).length : Nat) : Int)
theorem l38 (G : Gs c) {row sp : List Int} {l : List Nat} (hr : Row7 row) (hs : Row7 sp) (hl : l.length ≤ 40) {σ : String → Option D} (n1 : σ "row" = some (.list (iL row))) (n2 : σ "sparse" = some (.list (iL sp))) (n3 : σ "strange" = some (.str (T l))) : Ex1 c 100 (scopeAt 31) σ none (stm 31 38) .next (upd σ "due" (.int (dueF row sp l.length))) none := by
  refine Ex1.assign ?_ (.inl (by decide +kernel)) nofun
  refine Ev.to (Ev.bin (by decide) (Ev.bin (by decide) Ev.int (evLen G.g2.len (by decide +kernel) (Ev.name n3) (by omega)) (Bop.mul (mulOk_l (by decide)))) (Ev.call (NoG.ev G.g2.len (by rfl) (by decide +kernel)) KeepV.blt (EvL.cons (Ev.comp (σf := upd (upd (fun _ => none) "row" (.list (iL row))) "sparse" (.list (iL sp))) (es := (unlike row sp).map fun k => .int (k : Nat)) (EvI.range1 (n := 7) (by decide) G.g2.range (by decide +kernel) Ev.int (by omega)) ⟨by decide +kernel, .inl (by decide +kernel), by decide +kernel, by decide +kernel, by decide +kernel⟩ (((Sees.nil).add n1 (by decide +kernel)).add n2 (by decide +kernel)) (by show 7 ≤ sizeLine; decide)
    (CoR.filter (f := fun k => .int (k : Nat)) (g := fun k => .int (k : Nat)) (p := fun k => row.getD k 0 != sp.getD k 0) (fun k hk => ?_) fun k hk _ => Ev.name (by trivial))) EvL.nil) (FnV.lenList ?_)) Bop.add) ?_
  · have hk' : k < 7 := by simp at hk; omega
    exact Tr.cmp (by decide) (rowAt (by decide) hr hk' (by trivial) (by trivial) (by decide) (by decide)) (rowAt (by decide) hs hk' (by trivial) (by trivial) (by decide) (by decide)) Cop.neInt
  · have : (unlike row sp).length ≤ 7 := by unfold unlike; exact Nat.le_trans (List.length_filter_le ..) (by simp)
    rw [List.length_map]; unfold sizeLine; omega
  · unfold dueF; simp

theorem l39 (G : Gs c) {l nl : List Nat} {e : Nat} {d : Int} (hl : l.length ≤ 40) (hnl : nl.length ≤ 40) (h0 : e % 2 = 0 → lev l nl d = d) (h1 : e % 2 ≠ 0 → lev nl l d = d) {σ : String → Option D} (n1 : σ "extra" = some (.int (e : Nat))) (n3 : σ "typed" = some (.str (T l))) (n4 : σ "nearest" = some (.str (T nl))) (n5 : σ "due" = some (.int d)) :
    Ex c 100 (scopeAt 31) σ none [stm 31 39, stm 31 40] (.ret (.bool true)) (fun _ => none) none := by
  have tst : ∀ {p1 p2 p3 p4 p5 : Pos} {k1 k2 : Nat}, Tr c 100 (scopeAt 31) σ (.Compare (.BinOp (.Name (Str.ofString "extra") p1) .Mod (.Constant (.int 2) k1 p2) p3) [.Eq] [.Constant (.int 0) k2 p4] p5) (decide (e % 2 = 0)) := fun {p1 p2 p3 p4 p5 k1 k2} => by
    refine Tr.to (Tr.cmp (by decide) (Ev.bin (by decide) (Ev.name n1) Ev.int (Bop.mod (by decide))) Ev.int Cop.eqInt) ?_
    have := fmodN e 2
    rw [show ((2 : Nat) : Int) = 2 from rfl] at this
    rw [this, Bool.eq_iff_iff]
    simp; omega
  by_cases h : e % 2 = 0
  · refine Ex.stop (Ex1.ifT (Tr.to tst (by simpa using h)) (Ex.stop (Ex1.ret (Ev.to (Ev.cmp (by decide) (Ev.call (G.g2.lev.ev (by decide +kernel)) G.g2.lev.keep (EvL.cons (Ev.name n3) (EvL.cons (Ev.name n4) (EvL.cons (Ev.name n5) EvL.nil))) ((w_lev G.g2 hl hnl).up (by decide))) (Ev.name n5) Cop.eqInt) (by rw [h0 h]; simp))) nofun)) nofun
  · refine Ex.cons (Ex1.ifF (Tr.to tst (by simpa using h)) Ex.nil) (Ex.stop (Ex1.ret (Ev.to (Ev.cmp (by decide) (Ev.call (G.g2.lev.ev (by decide +kernel)) G.g2.lev.keep (EvL.cons (Ev.name n4) (EvL.cons (Ev.name n3) (EvL.cons (Ev.name n5) EvL.nil))) ((w_lev G.g2 hnl hl).up (by decide))) (Ev.name n5) Cop.eqInt) (by rw [h1 h]; simp))) nofun)
end Mine

end
section
open PySem PySem.W PySem.Calls PyProof.Rows Builtin.Str
set_option maxRecDepth 20000
set_option linter.unusedVariables false
set_option linter.unusedSimpArgs false
namespace Mine
local macro_rules | `(tactic| omega) => `(tactic| lia)
open Builtin.Int (intBits)
variable {c : Cx}

theorem body31 : bodyAt 31 = [stm 31 0, stm 31 1, stm 31 2, stm 31 3, stm 31 4, stm 31 5, stm 31 6, stm 31 7, stm 31 8] ++ stm 31 9 :: [stm 31 10, stm 31 11, stm 31 12, stm 31 13, stm 31 14, stm 31 15, stm 31 16, stm 31 17, stm 31 18, stm 31 19, stm 31 20, stm 31 21, stm 31 22, stm 31 23, stm 31 24, stm 31 25, stm 31 26, stm 31 27, stm 31 28, stm 31 29, stm 31 30, stm 31 31, stm 31 32, stm 31 33, stm 31 34, stm 31 35, stm 31 36, stm 31 37, stm 31 38, stm 31 39, stm 31 40] := by kernel_rfl

/-- the law's data, as the walk wants them -/
structure Data (row : List Int) (e : Nat) where
  sp : List Int
  M : Int
  Mx : Nat
  whole : Int
  q1 : Int
  below : Int
  fig : Int
  r2 : Int
  bits : List Int
  th : Nat
  out1 : List Str
  out2 : List Str
  x : UInt8
  y : UInt8
def rowsOf (row : List Int) : List (List Int) := rowsF 7 (worthF row)
def outOk (out : List Str) : Prop := (out.map (·.length)).sum + out.length * comma.length ≤ 16777216
structure LawOk (row : List Int) (e : Nat) (d : Data row e) : Prop where
  row7 : Row7 row
  e6 : e < 1000000
  w : -64 ≤ worthF row ∧ worthF row ≤ 64
  rows7 : ∀ y ∈ rowsOf row, Row7 y
  sp : (rowsOf row).find? isSparse = some d.sp
  p : 0 ≤ signF 1 row ∧ signF 1 row < 64
  m : 0 ≤ signF (-1) row ∧ signF (-1) row < 64
  x : (byteArr [192 + signF 1 row, 128 + signF (-1) row])[0]? = some d.x
  y : (byteArr [192 + signF 1 row, 128 + signF (-1) row])[1]? = some d.y
  hx : (Builtin.bitAnd (d.x.toNat : Int) 64 != 0) = true
  hy : (Builtin.bitAnd (d.y.toNat : Int) 64 != 0) = false
  xb : intBits (Builtin.bitAnd (d.x.toNat : Int) 63) ≤ 1000
  v0 : 0 ≤ varF d.x d.y
  dm0 : dmF 10 (varF d.x d.y) 64 = some (signF 1 row, signF (-1) row)
  d2i : d2iF row 1 = some (worthF row)
  pf1 : pfL 32 0 (signF 1 row + signF (-1) row) [] = some d.out1
  ok1 : outOk d.out1
  nm1 : Txt.join comma d.out1 = namesF row
  let_ : ∀ n ∈ typedF row e, b1S (n : Nat) = false → n ∈ letters
  low : Txt.join (T []) (((typedF row e).filter fun n : Nat => !b1S n).map fun n => Txt.lower (T [n])) = T (typed zero7)
  Mmem : d.M ∈ (rowsOf row).map costF
  Mle : ∀ a ∈ (rowsOf row).map costF, d.M ≤ a
  Mxb : d.Mx ≤ 1000
  Mxm : (d.Mx : Int) ∈ (rowsOf row).map costF
  Mxl : ∀ a ∈ (rowsOf row).map costF, a ≤ d.Mx
  wh : wholeL (unitF (widthF e)) (stepF (widthF e)) (List.range' 0 7) 1 = some d.whole
  wh0 : 0 ≤ d.whole
  dm1 : dmF 10 d.whole (stepF (widthF e) ^ (worthF row + 128).toNat) = some (d.q1, d.below)
  b0 : 0 ≤ d.below
  dm2 : dmF 10 d.below (stepF (widthF e) ^ (worthF row + 127).toNat) = some (d.fig, d.r2)
  i2d1 : i2d d.fig (widthF e : Nat) = some (countsF ((rowsOf row).map costF) d.Mx)
  bits : i2d ((worthF row).natAbs : Nat) 1 = some d.bits
  bitsl : d.bits.length ≤ 1000
  th : d2iF (d.bits.map (3 * ·)) 1 = some (d.th : Int)
  thb : d.th ≤ 1000
  pf2 : pfL 32 0 ((Builtin.bitXor ((worthF row).natAbs : Nat) (d.th : Int)).fdiv 2) [] = some d.out2
  ok2 : outOk d.out2
  nm2 : Txt.join comma d.out2 = namesF d.sp
  lev1 : lev (sizes (worthF row).natAbs) (sizes d.th) d.M = d.M
  lev2 : lev (typed d.sp) (typed zero7) (d.M - 1) = d.M
  ask : ∀ k < (typedF row e).length, askF (typedF row e) (typed d.sp) k = toldF row d.sp ((ownersF e).getD k 0) ∧ askR (typedF row e) (typed d.sp) k = toldF row d.sp ((ownersF e).getD k 0)
  due0 : e % 2 = 0 → lev (typedF row e) (typed d.sp) (dueF row d.sp (putIn e).length) = dueF row d.sp (putIn e).length
  due1 : e % 2 ≠ 0 → lev (typed d.sp) (typedF row e) (dueF row d.sp (putIn e).length) = dueF row d.sp (putIn e).length

local macro_rules | `(tactic| trivial) => `(tactic| first | rfl | (simp [full, L, argσ, upd]; done))
def sA (row : List Int) (e : Nat) (sp : List Int) : String → Option D := L [("row", .list (iL row)), ("extra", .int (e : Nat)), ("worth", .int (worthF row)), ("rows", .list (rL (rowsOf row))), ("sparse", .list (iL sp)), ("plus", .int (signF 1 row)), ("minus", .int (signF (-1) row)), ("octets", .bytes (byteArr [192 + signF 1 row, 128 + signF (-1) row]))]

theorem lawA (G : Gs c) {ns : List Int} (hn : ns.length ≤ 63) {d : Data (rowF ns) (extraF ns)} (K : LawOk (rowF ns) (extraF ns) d) :
    Ex c 100 (scopeAt 31) (argσ ["script"] [.list (iL ns)]) none [stm 31 0, stm 31 1, stm 31 2, stm 31 3, stm 31 4, stm 31 5, stm 31 6, stm 31 7, stm 31 8] .next (sA (rowF ns) (extraF ns) d.sp) none := by
  have hdl : (drawnF ns).length ≤ 63 := by unfold drawnF; simp; omega
  have hr : Row7 (rowF ns) := K.row7
  refine Ex.cons (l0 G hn (by trivial)) ?_
  refine Ex.cons (l1 G hdl (by trivial)) ?_
  refine Ex.cons (l2 G hn (by trivial)) ?_
  have e1 : (drawnF ns).map (fun f => if f < 2 then f else -1) ++ [0] = rowF ns := rfl
  rw [e1]
  refine ExB.pre (σ₂ := L [("row", .list (iL (rowF ns))), ("extra", .int (extraF ns : Nat))]) ?_ (Sub.cons (by trivial) (Sub.cons (by trivial) Sub.nil))
  generalize rowF ns = row at *
  generalize extraF ns = e at *
  refine Ex.cons (l3 G hr (by trivial)) ?_
  refine Ex.cons (l4 (w := worthF row) G (by have := K.w; omega) (by have := K.w; omega) (by trivial)) ?_
  refine Ex.cons (l5 G (rows := rowsF 7 (worthF row)) K.rows7 K.sp (by trivial)) ?_
  refine Ex.cons (l6 G hr (by trivial)) ?_
  refine Ex.cons (l7 G hr (by trivial)) ?_
  refine Ex.cons (ExB.post (l8 G K.p K.m (by trivial) (by trivial)) ?_) Ex.nil
  unfold sA rowsOf
  exact Sub.cons (by trivial) (Sub.cons (by trivial) (Sub.cons (by trivial) (Sub.cons (by trivial) (Sub.cons (by trivial) (Sub.cons (by trivial) (Sub.cons (by trivial) (Sub.cons (by trivial) Sub.nil)))))))
end Mine

end
section
open PySem PySem.W PySem.Calls PyProof.Rows Builtin.Str
set_option maxRecDepth 20000
set_option linter.unusedVariables false
set_option linter.unusedSimpArgs false
namespace Mine
local macro_rules | `(tactic| omega) => `(tactic| lia)
open Builtin.Int (intBits)
variable {c : Cx}
local macro_rules | `(tactic| trivial) => `(tactic| first | rfl | (simp [full, L, sA, argσ, upd]; done))
theorem width_le (e : Nat) : widthF e ≤ 7 := by unfold widthF; omega
theorem ok_of {l : List Nat} (hl : l.length ≤ 100) (hlet : ∀ n ∈ l, b1S (n : Nat) = false → n ∈ letters) : (((l.filter fun n : Nat => !b1S n).map fun n => Txt.lower (T [n])).map (·.length)).sum + ((l.filter fun n : Nat => !b1S n).map fun n => Txt.lower (T [n])).length * (T []).length ≤ 16777216 := by
  have key : ∀ m : List Nat, (∀ n ∈ m, n ∈ letters) → ((m.map fun n => Txt.lower (T [n])).map (·.length)).sum = m.length := by
    intro m
    induction m with
    | nil => intro _; rfl
    | cons n m ih =>
      intro h
      simp only [List.map_cons, List.sum_cons, List.length_cons]
      rw [ih fun x hx => h x (.tail _ hx), lower_len n (h n (.head _))]; omega
  rw [key _ fun n hn => by
    obtain ⟨h1, h2⟩ := List.mem_filter.mp hn
    exact hlet n h1 (by simpa using h2)]
  have := List.length_filter_le (fun n : Nat => !b1S n) l
  simp [T, Str.length]; omega
theorem rows_len (row : List Int) : (rowsOf row).length ≤ 1000 := by
  have := rowsF_len 7 (worthF row)
  unfold rowsOf; omega
theorem step_pos (d k : Nat) : 0 < stepF d ^ k := by
  unfold stepF unitF
  exact Int.pow_pos (Int.pow_pos (Int.pow_pos (by decide)))

theorem lawC (G : Gs c) (F : Gf c) {row : List Int} {e : Nat} {d : Data row e} (K : LawOk row e d) :
    Ex c 100 (scopeAt 31) (sA row e d.sp) none [stm 31 10, stm 31 11, stm 31 12, stm 31 13, stm 31 14, stm 31 15, stm 31 16, stm 31 17, stm 31 18, stm 31 19, stm 31 20, stm 31 21, stm 31 22, stm 31 23, stm 31 24, stm 31 25, stm 31 26, stm 31 27, stm 31 28, stm 31 29, stm 31 30, stm 31 31, stm 31 32, stm 31 33, stm 31 34, stm 31 35, stm 31 36, stm 31 37, stm 31 38, stm 31 39, stm 31 40] (.ret (.bool true)) (fun _ => none) none := by
  have hr := K.row7
  have hs : Row7 d.sp := K.rows7 _ (List.mem_of_find?_eq_some K.sp)
  have htl := typedF_len row e
  have hpl := putIn_len e
  refine Ex.cons (l10 G F hr K.d2i K.pf1 K.ok1 K.nm1 (by trivial) (by trivial) (by trivial) (by trivial)) ?_
  refine Ex.cons (l11 G) ?_
  refine Ex.cons (l12 G hr (by trivial)) ?_
  refine Ex.cons (l13 G K.e6 (by trivial)) ?_
  refine Ex.cons (l14 G (e := e) (by trivial)) ?_
  refine Ex.cons (l15 G (row := row) (e := e) (by trivial) (by trivial) (by trivial)) ?_
  refine Ex.cons (l16 G (l := typedF row e) (b := typed zero7) (by omega) K.let_ (ok_of (by omega) K.let_) K.low (by trivial) (by trivial)) ?_
  refine ExB.pre (σ₂ := L [("row", .list (iL row)), ("extra", .int (e : Nat)), ("worth", .int (worthF row)), ("rows", .list (rL (rowsOf row))), ("sparse", .list (iL d.sp)), ("bare", .str (T (typed zero7))), ("strange", .str (T (putIn e))), ("where", .int (whereF e : Nat)), ("typed", .str (T (typedF row e)))]) ?_ (Sub.cons (by trivial) (Sub.cons (by trivial) (Sub.cons (by trivial) (Sub.cons (by trivial) (Sub.cons (by trivial) (Sub.cons (by trivial) (Sub.cons (by trivial) (Sub.cons (by trivial) (Sub.cons (by trivial) (Sub.nil))))))))))
  refine Ex.cons (l17 (by trivial)) ?_
  obtain ⟨σ', q1, q2⟩ := l18 G (σ := L [("row", .list (iL row)), ("extra", .int (e : Nat)), ("worth", .int (worthF row)), ("rows", .list (rL (rowsOf row))), ("sparse", .list (iL d.sp)), ("bare", .str (T (typed zero7))), ("strange", .str (T (putIn e))), ("where", .int (whereF e : Nat)), ("typed", .str (T (typedF row e)))])
  refine Ex.cons q2 ?_
  refine ExB.freeze ?_
  refine ExB.pre (σ₂ := L [("row", .list (iL row)), ("extra", .int (e : Nat)), ("worth", .int (worthF row)), ("rows", .list (rL (rowsOf row))), ("sparse", .list (iL d.sp)), ("bare", .str (T (typed zero7))), ("strange", .str (T (putIn e))), ("where", .int (whereF e : Nat)), ("typed", .str (T (typedF row e))), ("prices", .list (rL (List.replicate 7 [0, 1, 1])))]) ?_ (Sub.cons (by rw [show upd σ' "prices" (.list (rL (List.replicate 7 [0, 1, 1]))) "row" = σ' "row" from by simp [upd]]; exact q1 _ _ (by decide) (by decide) (by trivial)) (Sub.cons (by rw [show upd σ' "prices" (.list (rL (List.replicate 7 [0, 1, 1]))) "extra" = σ' "extra" from by simp [upd]]; exact q1 _ _ (by decide) (by decide) (by trivial)) (Sub.cons (by rw [show upd σ' "prices" (.list (rL (List.replicate 7 [0, 1, 1]))) "worth" = σ' "worth" from by simp [upd]]; exact q1 _ _ (by decide) (by decide) (by trivial)) (Sub.cons (by rw [show upd σ' "prices" (.list (rL (List.replicate 7 [0, 1, 1]))) "rows" = σ' "rows" from by simp [upd]]; exact q1 _ _ (by decide) (by decide) (by trivial)) (Sub.cons (by rw [show upd σ' "prices" (.list (rL (List.replicate 7 [0, 1, 1]))) "sparse" = σ' "sparse" from by simp [upd]]; exact q1 _ _ (by decide) (by decide) (by trivial)) (Sub.cons (by rw [show upd σ' "prices" (.list (rL (List.replicate 7 [0, 1, 1]))) "bare" = σ' "bare" from by simp [upd]]; exact q1 _ _ (by decide) (by decide) (by trivial)) (Sub.cons (by rw [show upd σ' "prices" (.list (rL (List.replicate 7 [0, 1, 1]))) "strange" = σ' "strange" from by simp [upd]]; exact q1 _ _ (by decide) (by decide) (by trivial)) (Sub.cons (by rw [show upd σ' "prices" (.list (rL (List.replicate 7 [0, 1, 1]))) "where" = σ' "where" from by simp [upd]]; exact q1 _ _ (by decide) (by decide) (by trivial)) (Sub.cons (by rw [show upd σ' "prices" (.list (rL (List.replicate 7 [0, 1, 1]))) "typed" = σ' "typed" from by simp [upd]]; exact q1 _ _ (by decide) (by decide) (by trivial)) (Sub.cons (by simp [upd]) Sub.nil))))))))))
  refine Ex.cons (l19 G (rows := rowsOf row) K.rows7 (rows_len row) (by trivial) (by trivial)) ?_
  refine Ex.cons (l20 G K.Mmem K.Mle (by trivial)) ?_
  refine Ex.cons (l21 G K.Mxb K.Mxm K.Mxl (by trivial)) ?_
  refine Ex.cons (l22 (e := e) (by trivial)) ?_
  refine Ex.cons (l23 (width_le e) (by trivial)) ?_
  refine Ex.cons (l24 (width_le e) (by trivial)) ?_
  refine Ex.cons l25 ?_
  refine ExB.pre (σ₂ := L [("row", .list (iL row)), ("extra", .int (e : Nat)), ("worth", .int (worthF row)), ("sparse", .list (iL d.sp)), ("bare", .str (T (typed zero7))), ("strange", .str (T (putIn e))), ("where", .int (whereF e : Nat)), ("typed", .str (T (typedF row e))), ("least", .int d.M), ("counts", .list (iL (countsF ((rowsOf row).map costF) d.Mx))), ("width", .int (widthF e : Nat)), ("unit", .int (unitF (widthF e))), ("step", .int (stepF (widthF e))), ("whole", .int 1)]) ?_ (Sub.cons (by trivial) (Sub.cons (by trivial) (Sub.cons (by trivial) (Sub.cons (by trivial) (Sub.cons (by trivial) (Sub.cons (by trivial) (Sub.cons (by trivial) (Sub.cons (by trivial) (Sub.cons (by trivial) (Sub.cons (by trivial) (Sub.cons (by trivial) (Sub.cons (by trivial) (Sub.cons (by trivial) (Sub.cons (by trivial) (Sub.nil)))))))))))))))
  have hu : intBits (unitF (widthF e)) ≤ 60 := by have := unit_bits _ (width_le e); omega
  have hst := step_bits _ (width_le e)
  obtain ⟨σ₃, r1, r2, r3⟩ := l26 G hu hst (σ := L [("row", .list (iL row)), ("extra", .int (e : Nat)), ("worth", .int (worthF row)), ("sparse", .list (iL d.sp)), ("bare", .str (T (typed zero7))), ("strange", .str (T (putIn e))), ("where", .int (whereF e : Nat)), ("typed", .str (T (typedF row e))), ("least", .int d.M), ("counts", .list (iL (countsF ((rowsOf row).map costF) d.Mx))), ("width", .int (widthF e : Nat)), ("unit", .int (unitF (widthF e))), ("step", .int (stepF (widthF e))), ("whole", .int 1)]) K.wh (by trivial) (by trivial) (by trivial)
  refine Ex.cons r3 ?_
  refine ExB.pre (σ₂ := L [("row", .list (iL row)), ("extra", .int (e : Nat)), ("worth", .int (worthF row)), ("sparse", .list (iL d.sp)), ("bare", .str (T (typed zero7))), ("strange", .str (T (putIn e))), ("where", .int (whereF e : Nat)), ("typed", .str (T (typedF row e))), ("least", .int d.M), ("counts", .list (iL (countsF ((rowsOf row).map costF) d.Mx))), ("width", .int (widthF e : Nat)), ("step", .int (stepF (widthF e))), ("whole", .int d.whole)]) ?_ (Sub.cons (r1 _ _ (by decide) (by decide) (by trivial)) (Sub.cons (r1 _ _ (by decide) (by decide) (by trivial)) (Sub.cons (r1 _ _ (by decide) (by decide) (by trivial)) (Sub.cons (r1 _ _ (by decide) (by decide) (by trivial)) (Sub.cons (r1 _ _ (by decide) (by decide) (by trivial)) (Sub.cons (r1 _ _ (by decide) (by decide) (by trivial)) (Sub.cons (r1 _ _ (by decide) (by decide) (by trivial)) (Sub.cons (r1 _ _ (by decide) (by decide) (by trivial)) (Sub.cons (r1 _ _ (by decide) (by decide) (by trivial)) (Sub.cons (r1 _ _ (by decide) (by decide) (by trivial)) (Sub.cons (r1 _ _ (by decide) (by decide) (by trivial)) (Sub.cons (r1 _ _ (by decide) (by decide) (by trivial)) (Sub.cons r2 Sub.nil)))))))))))))
  have hw := K.w
  refine Ex.cons (l27 G F hst hw K.dm1 K.wh0 (step_pos _ _) (by trivial) (by trivial) (by trivial)) ?_
  refine Ex.cons (l28 G F hst hw K.dm2 K.b0 (step_pos _ _) (by trivial) (by trivial) (by trivial)) ?_
  refine Ex.cons (l29 G F K.i2d1 (by trivial) (by trivial) (by trivial)) ?_
  refine Ex.cons (l30 G (w := worthF row) (by trivial)) ?_
  refine Ex.cons (l31 G F (n := (worthF row).natAbs) K.bits K.th K.bitsl (by trivial)) ?_
  refine Ex.cons (l32 G hs K.pf2 K.ok2 K.nm2 (by trivial) (by trivial) (by trivial)) ?_
  refine Ex.cons (l33 G (n := (worthF row).natAbs) (t := d.th) (by omega) K.thb K.lev1 (by trivial) (by trivial) (by trivial)) ?_
  refine Ex.cons (l34 G hs (by trivial)) ?_
  refine Ex.cons (l35 G K.lev2 (by trivial) (by trivial) (by trivial)) ?_
  refine Ex.cons (l36 G (e := e) (by trivial) (by trivial)) ?_
  refine ExB.pre (σ₂ := L [("row", .list (iL row)), ("extra", .int (e : Nat)), ("sparse", .list (iL d.sp)), ("strange", .str (T (putIn e))), ("typed", .str (T (typedF row e))), ("nearest", .str (T (typed d.sp))), ("owners", .list (iL (ownersF e)))]) ?_ (Sub.cons (by trivial) (Sub.cons (by trivial) (Sub.cons (by trivial) (Sub.cons (by trivial) (Sub.cons (by trivial) (Sub.cons (by trivial) (Sub.cons (by trivial) (Sub.nil))))))))
  obtain ⟨σ₄, s1, s2⟩ := l37 G hr hs (l := typedF row e) (nl := typed d.sp) (ow := ownersF e) (by omega) (by rw [typed_len]; decide) (by rw [owners_len, htl]) (σ := L [("row", .list (iL row)), ("extra", .int (e : Nat)), ("sparse", .list (iL d.sp)), ("strange", .str (T (putIn e))), ("typed", .str (T (typedF row e))), ("nearest", .str (T (typed d.sp))), ("owners", .list (iL (ownersF e)))]) K.ask (by trivial) (by trivial) (by trivial) (by trivial) (by trivial)
  refine Ex.cons s2 ?_
  refine ExB.pre (σ₂ := L [("row", .list (iL row)), ("extra", .int (e : Nat)), ("sparse", .list (iL d.sp)), ("strange", .str (T (putIn e))), ("typed", .str (T (typedF row e))), ("nearest", .str (T (typed d.sp)))]) ?_ (Sub.cons (s1 _ _ (by decide) (by decide) (by trivial)) (Sub.cons (s1 _ _ (by decide) (by decide) (by trivial)) (Sub.cons (s1 _ _ (by decide) (by decide) (by trivial)) (Sub.cons (s1 _ _ (by decide) (by decide) (by trivial)) (Sub.cons (s1 _ _ (by decide) (by decide) (by trivial)) (Sub.cons (s1 _ _ (by decide) (by decide) (by trivial)) (Sub.nil)))))))
  refine Ex.cons (l38 G hr hs (l := putIn e) (by omega) (by trivial) (by trivial) (by trivial)) ?_
  exact l39 G (l := typedF row e) (nl := typed d.sp) (by omega) (by rw [typed_len]; decide) K.due0 K.due1 (by trivial) (by trivial) (by trivial) (by trivial)
end Mine

end
section
open PySem PySem.W PySem.Calls PyProof.Rows Builtin.Str
set_option maxRecDepth 20000
set_option linter.unusedVariables false
set_option linter.unusedSimpArgs false
namespace Mine
open Builtin.Int (intBits)

theorem wp_execs_app {M : Model} {Γ : Ctx} {env : Env} {rest : List Stmt} {Q : Flow → Pos → Shared → Prop} {E : Value → Pos → Shared → Prop} : ∀ (l : List Stmt) (p : Pos) (s : Shared),
    Sem.wp M Γ (execs l env) (fun f p' s' => match f with | .next => Sem.wp M Γ (execs rest env) Q E p' s' | f => Q f p' s') E p s → Sem.wp M Γ (execs (l ++ rest) env) Q E p s
  | [], p, s, h => h
  | st :: l, p, s, h => by
    rw [execs_cons, Sem.wp_bind'] at h
    rw [List.cons_append, execs_cons, Sem.wp_bind']
    refine Sem.wp_mono M Γ _ (fun f p' s' h' => ?_) (fun _ _ _ x => x) p s h
    cases f with
    | next => exact wp_execs_app l p' s' h'
    | _ => exact h'
theorem wpAny_execs_app {M : Model} {A : Around} {env : Env} {l rest : List Stmt} {Q : Flow → Shared → Prop} {E : Value → Shared → Prop} {s : Shared}
    (h : wpAny M A (execs l env) (fun f s' => match f with | .next => wpAny M A (execs rest env) Q E s' | f => Q f s') E s) : wpAny M A (execs (l ++ rest) env) Q E s := fun Γ p hΓ =>
  wp_execs_app l p s (Sem.wp_mono M Γ _ (fun f p' s' h' => by
    cases f with
    | next => exact h' Γ p' hΓ
    | _ => exact h') (fun _ _ _ x => x) p s (h Γ p hΓ))

section
variable {c : Cx} {h : Heap} {hb : c.In h}
theorem more_in {h' : Heap} (x : (c.more h hb).In h') : c.In h' := fun b o e => x b o (hb b o e)
theorem FnAt.more {a : Addr} {fd : FuncData} {xs : List String} {body : List Stmt} (F : FnAt c a fd xs body) : FnAt (c.more h hb) a fd xs body :=
  ⟨let ⟨o, e, d⟩ := F.at_; ⟨o, hb _ _ e, d⟩, F.body, F.glob, F.blt, F.clo, F.code.keeps hb, F.bind, F.nodup, F.kinds, F.co, F.gen, F.kind, F.nofree⟩
theorem GFn.more {n : Nat} {a : Addr} {name : String} {xs : List String} (G : GFn c n a name xs) : GFn (c.more h hb) n a name xs := ⟨G.1, let ⟨fd, e, F⟩ := G.2; ⟨fd, e, F.more⟩⟩
theorem MapTx.more {a : Addr} {f : Int → Option Value} (x : MapTx c a f) : MapTx (c.more h hb) a f := ⟨x.at (fun _ _ e => hb _ _ e), x.ns⟩
theorem G1.more (G : G1 c) : G1 (c.more h hb) := ⟨G.sub.more, G.move, G.case⟩
theorem G2.more (G : G2 c) : G2 (c.more h hb) := ⟨G.toG1.more, G.lev.more, G.mss, G.len, G.range, G.list, G.min⟩
theorem G3.more (G : G3 c) : G3 (c.more h hb) := ⟨G.limit, G.d21.more, G.d32.more, G.i2d.more, G.d2i.more, G.pos.more, G.idm.more, G.divmod, G.len, G.reversed⟩
theorem G4.more (G : G4 c) : G4 (c.more h hb) := ⟨G.pf.more, G.range, G.hex, G.cfn, let ⟨f, m, r⟩ := G.flags; ⟨f, m.more, r⟩⟩
theorem G5.more (G : G5 c) : G5 (c.more h hb) := ⟨G.inB1.more, G.map3.more, G.ord, G.b1n, (let ⟨o, es, ep, t, ho, r⟩ := G.b1; ⟨o, es, ep, t, hb _ _ ho, r⟩), G.b3n, (let ⟨f, m, r⟩ := G.b3; ⟨f, m.more, r⟩), G.rows.more, G.forms.more, G.typed.more, G.putIn.more, G.names.more, G.sizes.more, G.sparse.more, G.chr, G.range, G.list⟩
theorem Gs.more (G : Gs c) : Gs (c.more h hb) := ⟨G.g2.more, G.g3.more, G.g4.more, G.g5.more, G.vi.more, G.sum, G.bytes, G.iter, G.next, G.max, G.abs⟩
end
theorem TopG.gs {c : Cx} {w : World} {h : Heap} {P Q : Addr} (T : TopG c w h P Q) : Gs c := ⟨T.g2, T.g3, T.g4, T.g5, T.vi, T.free _ (by decide), T.free _ (by decide), T.free _ (by decide), T.free _ (by decide), T.free _ (by decide), T.free _ (by decide)⟩

/-- the heap without a block's own slots -/
def slots (env : Env) (sc : Scope) : List Addr := env.locals :: ((sc.names.filter fun z => z.2 == .cell).map (·.1)).filterMap fun x => env.cells.lookup x
theorem mu_slots {env : Env} {sc : Scope} {b : Addr} (h : Mu env sc none b) : b ∈ slots env sc := by
  rcases h with rfl | ⟨x, h1, h2⟩ | h
  · exact .head _
  · exact .tail _ (List.mem_filterMap.mpr ⟨x, List.mem_map.mpr ⟨(x, .cell), List.mem_filter.mpr ⟨mem_of_lookup h1, rfl⟩, rfl⟩, h2⟩)
  · cases h
theorem slots_mu {env : Env} {sc : Scope} {b : Addr} (hu : ∀ z ∈ sc.names, z.2 = .cell → sc.names.lookup z.1 = some .cell) (h : b ∈ slots env sc) : Mu env sc none b := by
  rcases List.mem_cons.mp h with rfl | h
  · exact .inl rfl
  · obtain ⟨x, hx, hb⟩ := List.mem_filterMap.mp h
    obtain ⟨z, hz, rfl⟩ := List.mem_map.mp hx
    obtain ⟨hz1, hz2⟩ := List.mem_filter.mp hz
    exact .inr (.inl ⟨z.1, hu z hz1 (by simpa using hz2), hb⟩)

theorem gf_of {c c' : Cx} {P Q : Addr} (G : G3 c) (G' : G3 c') (hfa : c'.fa = c.fa) (hM : c'.M = c.M) (hin : ∀ h, c'.In h → c.In h) (t10 : ∃ cd, GTab c 10 (c.fa 10) cd P "_int2digits" ["a", "n"]) (t11 : ∃ cd, GTab c 11 (c.fa 11) cd Q "_digits2int" ["digits", "n"])
    (hP : F1 P c'.base) (hQ : F2 Q c'.base) : Gf c' := by
  obtain ⟨cd1, t10⟩ := t10
  obtain ⟨cd2, t11⟩ := t11
  have Hi : ∀ a n out, i2d a n = some out → FnV c' 61 (.ref (c'.fa 10)) [.int a, .int n] (.list (iL out)) := fun a n out h => by
    rw [hfa]; exact FnZ1.filled (w_i2d t10 G.len h) hM hin hP
  have Hd : ∀ ds n v, d2iF ds n = some v → FnV c' 61 (.ref (c'.fa 11)) [.list (iL ds), .int n] (.int v) := fun ds n v h => by
    rw [hfa]
    unfold d2iF at h
    split at h
    case isFalse => cases h
    rename_i hl
    refine FnZ1.filled (w_d2i t11 G.len (fun e => ?_) (fun e => ?_) hl) hM hin hQ
    · subst e; simpa using h.symm
    · cases ds with
      | nil => exact absurd rfl e
      | cons x r => simpa using h
  refine ⟨Hi, Hd, fun a b q r h ha hb => ?_⟩
  exact (w_idm G' (by decide) ha hb (w_dm G' (f := 10) (R := 61) (by decide) (by decide) Hi Hd h)).up (by decide)

theorem law_call {c : Cx} {w : World} {h₀ : Heap} {P Q : Addr} (T : TopG c w h₀ P Q) {ns : List Int} (hn : ns.length ≤ 63) {d : Data (rowF ns) (extraF ns)} (K : LawOk (rowF ns) (extraF ns) d) {A : Around} {s : Shared} {a : Addr} {us : Array Value}
    (R : Room A 101) (hb : c.In s.heap) (h1 : E1 P s.heap) (h2 : E2 Q s.heap) (ha : s.heap.PlainList a us) (hi : IntsAre us.toList ns) :
    wpAny c.M A (PySem.call (.ref (c.fa 31)) [.ref a]) (fun v s' => v = .bool true ∧ KpS (fun b => b = P ∨ b = Q) s s' ∧ F1 P s'.heap ∧ F2 Q s'.heap) noE s := by
  obtain ⟨_, fd, hsc, Ff⟩ := T.law
  have G := T.gs
  obtain ⟨cd1, t10⟩ := T.t10
  obtain ⟨cd2, t11⟩ := T.t11
  have hPb := t10.hid
  have hQb := t11.hid
  have tabne : ∀ {R : Addr}, (∃ ps, s.heap.get? R = some (tabObj ps)) → a ≠ R := fun ⟨ps, e⟩ q => by
    obtain ⟨n, e'⟩ := ha
    rw [q, e] at e'; cases e'
  have haP : a ≠ P := tabne (let ⟨ps, e, _⟩ := h1; ⟨ps, e⟩)
  have haQ : a ≠ Q := tabne (let ⟨ps, e, _⟩ := h2; ⟨ps, e⟩)
  have hLive : Live s.heap [P, Q] := fun b hb' => by
    rcases List.mem_cons.mp hb' with rfl | hb'
    · obtain ⟨ps, e, _⟩ := h1; exact ⟨_, e⟩
    · obtain rfl := List.mem_singleton.mp hb'
      obtain ⟨ps, e, _⟩ := h2; exact ⟨_, e⟩
  have hv : RepL s.heap [P, Q] [.list (iL ns)] [.ref a] := by
    simp only [RepL, Rep]
    exact ⟨_, _, rfl, ⟨a, us, rfl, by simp [haP, haQ], ha, ints_rep hi⟩, rfl⟩
  refine Ff.enter (r := 100) (ds := [.list (iL ns)]) (Y := [P, Q]) rfl R hb hLive hv fun env s₁ hcode hqual k X hmu R' => ?_
  rw [hsc] at X hmu
  rw [body31]
  refine wpAny_execs_app (weak ((lawA G hn K).go env [P, Q] 0 _ _ s₁ R' X) fun f s₂ PA => ?_)
  have e : f = .next := PA.flow
  subst e
  obtain ⟨a', val, _, X₂⟩ := PA.st rfl
  generalize rowF ns = row at *
  generalize extraF ns = ex at *
  have kA := PA.kp
  -- the tables still stand
  have tabk : ∀ b o, s.heap.get? b = some o → (∃ vs, o.data = .fields vs) → s₂.heap.get? b = some o := fun b o eb _ => kA.k b o (k.k b o eb) fun m => absurd (Heap.lt_size eb) (Nat.not_lt.mpr (hmu b m))
  have h1' : E1 P s₂.heap := Stab.tabE _ _ tabk h1
  have h2' : E2 Q s₂.heap := Stab.tabE _ _ tabk h2
  -- statement 9
  have dz := w_dm1 G.g3 T.ne hPb hQb (f := 10) (R := 61) (by decide) (by decide) (fun a n out h => w_i2d t10 G.g3.len h) (fun ds n v h => by
    unfold d2iF at h
    split at h
    case isFalse => cases h
    rename_i hl
    refine w_d2i t11 G.g3.len (fun e => ?_) (fun e => ?_) hl
    · subst e; simpa using h.symm
    · cases ds with
      | nil => exact absurd rfl e
      | cons x r => simpa using h) K.dm0
  have iz := w_idm1 G.g3 (R := 62) (by decide) K.v0 (by decide : (0 : Int) < 64) dz
  have up : FnZ2 c 100 (.ref (c.fa 13)) [.int (varF d.x d.y), .int 64] (.tup [.int (signF 1 row), .int (signF (-1) row)]) P Q := fun Y A s vs Ro => iz Y A s vs (Ro.le (by decide))
  refine wpAny_execs_cons (wpAny_If (wpAny_isTrue_Compare1 (weak (EvZ.go (c := c) (r := 100) (sc := scopeAt 31) (σ := sA row ex d.sp) (P := P) (Q := Q) (d := .tup [.int (signF 1 row), .int (signF (-1) row)]) ?ez env [] _ _ s₂ R' X₂.at (by simp) (by simp) h1' h2') fun v s₃ ⟨kp, f1, f2, hrv⟩ => ?_)))
  case ez =>
    exact EvZ.call (G.g3.idm.ev (by decide +kernel)) G.g3.idm.keep (EvL.cons (Ev.varint (by decide) T.vi G.next G.iter (by decide +kernel) (by decide +kernel) (Ev.name (by rfl)) K.x K.y K.hx K.hy K.xb) (EvL.cons Ev.int EvL.nil)) up
  -- the state behind the call
  obtain ⟨h₃, t₃, rfl, k₃⟩ := kp
  have X₃ : StA c env (scopeAt 31) [P, Q] (sA row ex d.sp) none a' val { s₂ with heap := h₃, toks := t₃ } := by
    have henv : EnvAt env (scopeAt 31) h₃ val := by
      have nS : ∀ {R : Addr} {ps : Array Value}, s₂.heap.get? R = some (tabObj ps) → ∀ b, Mu env (scopeAt 31) none b → b ≠ R := fun e b m q => by
        subst q; exact X₂.env.notSeq m e (.inr ⟨_, rfl⟩)
      obtain ⟨psP, eP, _⟩ := h1'
      obtain ⟨psQ, eQ, _⟩ := h2'
      have keepM : ∀ b o, Mu env (scopeAt 31) none b → s₂.heap.get? b = some o → h₃.get? b = some o := fun b o m e => k₃ b o e fun q => by
        rcases q with q | q
        · exact nS eP b m q
        · exact nS eQ b m q
      have cellK : ∀ (ca : Addr) (o : Obj), (∃ u, o.data = .cell u) → s₂.heap.get? ca = some o → h₃.get? ca = some o := fun ca o ⟨u, hu⟩ e => k₃ ca o e fun q => by
        rcases q with rfl | rfl
        · rw [eP] at e; cases e; cases hu
        · rw [eQ] at e; cases e; cases hu
      refine ⟨X₂.env.scope, X₂.env.kind, X₂.env.glob, X₂.env.blt, ?_, fun n hn => ?_, X₂.env.inj, X₂.env.kinds⟩
      · obtain ⟨m, ⟨oL, es, ep, eL, r⟩, q⟩ := X₂.env.loc
        exact ⟨m, ⟨oL, es, ep, keepM _ _ (.inl rfl) eL, r⟩, q⟩
      · obtain ⟨ca, u, a1, ⟨oc, ec, r⟩, a3⟩ := X₂.env.cel n hn
        exact ⟨ca, u, a1, ⟨oc, cellK _ _ ⟨_, r⟩ ec, r⟩, a3⟩
    refine ⟨fun b o e => k₃ b o (X₂.base b o e) fun q => ?_, X₂.mine, henv, fun b hb' => ?_, ?_⟩
    · rcases q with rfl | rfl
      · rw [hPb] at e; cases e
      · rw [hQb] at e; cases e
    · rcases List.mem_cons.mp hb' with rfl | hb'
      · obtain ⟨ps, cv, e, _⟩ := f1; exact ⟨_, e⟩
      · obtain rfl := List.mem_singleton.mp hb'
        obtain ⟨ps, cv, e, _⟩ := f2; exact ⟨_, e⟩
    · intro y dd e
      obtain ⟨v, b1, b2⟩ := (show ValOk s₂.heap [P, Q] (sA row ex d.sp) val from X₂.ok) y dd e
      exact ⟨v, b1, b2.mono (fun b o e _ n => k₃ b o e fun q => n (by rcases q with rfl | rfl <;> simp)) fun _ _ _ q => q⟩
  have evT : Ev c 100 (scopeAt 31) (sA row ex d.sp) _ (.tup [.int (signF 1 row), .int (signF (-1) row)]) := Ev.tup (k := 0) (pos := ⟨194, 54, 194, 67⟩) (EvL.cons (Ev.name (x := "plus") (pos := ⟨194, 55, 194, 59⟩) (by rfl)) (EvL.cons (Ev.name (x := "minus") (pos := ⟨194, 61, 194, 66⟩) (by rfl)) EvL.nil)) (by show 2 ≤ sizeLine; decide)
  refine weak (evT.go env [P, Q] val _ _ R' X₃.at) fun v2 s₄ g4 => ?_
  have X₄ := X₃.keeps g4.1
  refine weak (Cop.neTup (c := c) (is := [signF 1 row, signF (-1) row]) (js := [signF 1 row, signF (-1) row]) rfl [P, Q] _ s₄ v v2 (X₄.at.pre (R'.le (by decide))) (hrv.keeps g4.1.k) g4.2) fun bv s₅ ⟨ebv, k5⟩ => ?_
  have ebv' : bv = .bool false := by rw [ebv]; simp
  subst ebv'
  refine wpAny_truthy_bool ?_
  refine wpAny_execs_nil ?_
  have X₅ := X₄.keeps k5
  have k35 := g4.1.trans k5
  have hu : ∀ z ∈ (scopeAt 31).names, z.2 = .cell → (scopeAt 31).names.lookup z.1 = some .cell := by decide +kernel
  have f1' : F1 P s₅.heap := f1.keeps k35.k
  have f2' : F2 Q s₅.heap := f2.keeps k35.k
  have hb2 : c.In (hideAll s₅.heap (slots env (scopeAt 31))) := fun b o e => hideAll_get _ (X₅.base b o e) fun q => by
    rw [X₅.mine b (slots_mu hu q)] at e; cases e
  have fk : ∀ b o, s₅.heap.get? b = some o → (∃ vs, o.data = .fields vs) → (hideAll s₅.heap (slots env (scopeAt 31))).get? b = some o := fun b o e ⟨vs, hd⟩ => hideAll_get _ e fun q => X₅.env.notSeq (slots_mu hu q) e (.inr ⟨vs, hd⟩)
  have X₆ : StA (c.more _ hb2) env (scopeAt 31) [P, Q] (sA row ex d.sp) none a' val s₅ := ⟨fun b o e => of_hideAll _ e, fun b m => hideAll_none _ (mu_slots m), X₅.env, X₅.live, X₅.ok⟩
  have Gm : Gs (c.more _ hb2) := G.more
  have F' : Gf (c.more _ hb2) := gf_of G.g3 Gm.g3 rfl rfl (fun h x => more_in x) ⟨cd1, t10⟩ ⟨cd2, t11⟩ (Stab.tabF _ _ fk f1') (Stab.tabF _ _ fk f2')
  refine weak ((lawC Gm F' K).go env [P, Q] a' val _ s₅ R' X₆) fun f s₆ PC => ?_
  obtain ⟨v6, e6, hr6⟩ := PC.flow
  subst e6
  have kc := PC.kp
  have tk6 : ∀ b o, s₅.heap.get? b = some o → (∃ vs, o.data = .fields vs) → s₆.heap.get? b = some o := fun b o e hf => kc.k b o e fun m => own_data X₆ m e hf
  refine ⟨rBool hr6, ?_, Stab.tabF _ _ tk6 f1', Stab.tabF _ _ tk6 f2'⟩
  obtain ⟨ha1, ta1, rfl, ka1⟩ := k
  obtain ⟨ha2, ta2, rfl, ka2⟩ := kA
  obtain ⟨ha5, ta5, rfl, ka5⟩ := k35
  obtain ⟨ha6, ta6, rfl, ka6⟩ := kc
  refine ⟨ha6, ta6, rfl, fun b ob e n => ka6 b ob (ka5 b ob (k₃ b ob (ka2 b ob (ka1 b ob e) fun m => ?_) n)) fun m => ?_⟩
  · exact absurd (Heap.lt_size e) (Nat.not_lt.mpr (hmu _ m))
  · exact absurd (Heap.lt_size e) (Nat.not_lt.mpr (hmu _ m))
end Mine

end
section
open PySem PySem.W PySem.Calls PyProof.Rows Builtin.Str
set_option maxRecDepth 20000
set_option linter.unusedVariables false
set_option linter.unusedSimpArgs false
namespace Mine
local macro_rules | `(tactic| omega) => `(tactic| lia)
open Builtin (bitOr bitAnd bitXor divisionGoesByPylong)
open Builtin.Int (intBits)

/-! the same functions once more, over powers of two that the kernel works out at a stroke -/
def pw (k : Nat) : Int := ((2 ^ k : Nat) : Int)
theorem pw_eq (k : Nat) : (2 : Int) ^ k = pw k := by simp [pw]
theorem pw20 : pw 20 = 1048576 := by decide +kernel
/-- how many bits: by halving the question, for the kernel counts bits one by one -/
def goB : Nat → Nat → Nat → Nat
  | 0, n, acc => if n == 0 then acc else acc + 1
  | k + 1, n, acc => if n < 2 ^ (2 ^ k) then goB k n acc else goB k (n / 2 ^ (2 ^ k)) (acc + 2 ^ k)
theorem bits_div {n m : Nat} (h : 2 ^ m ≤ n) : n.log2 = m + (n / 2 ^ m).log2 := by
  have hn : n ≠ 0 := by intro e; subst e; have := Nat.two_pow_pos m; omega
  have hq : n / 2 ^ m ≠ 0 := by
    have := Nat.div_pos h (Nat.two_pow_pos m); omega
  have l1 := Nat.log2_self_le hq
  have l2 := Nat.lt_log2_self (n := n / 2 ^ m)
  refine (Nat.log2_eq_iff hn).mpr ⟨?_, ?_⟩
  · rw [Nat.pow_add]
    have : 2 ^ m * 2 ^ (n / 2 ^ m).log2 ≤ 2 ^ m * (n / 2 ^ m) := Nat.mul_le_mul_left _ l1
    have := Nat.mul_div_le n (2 ^ m)
    omega
  · rw [show m + (n / 2 ^ m).log2 + 1 = m + ((n / 2 ^ m).log2 + 1) by omega, Nat.pow_add]
    have := (Nat.div_lt_iff_lt_mul (Nat.two_pow_pos m)).mp l2
    rwa [Nat.mul_comm] at this
def bitsN (n : Nat) : Nat := if n == 0 then 0 else n.log2 + 1
theorem goB_eq : ∀ (k n acc : Nat), n < 2 ^ (2 ^ k) → goB k n acc = acc + bitsN n
  | 0, n, acc, h => by
    have : n = 0 ∨ n = 1 := by simp at h; omega
    rcases this with rfl | rfl
    · rfl
    · have : Nat.log2 1 = 0 := by decide
      simp [goB, bitsN, this]
  | k + 1, n, acc, h => by
    unfold goB
    split
    next q => exact goB_eq k n acc q
    next q =>
      have q' : 2 ^ (2 ^ k) ≤ n := Nat.le_of_not_lt q
      have e : n < 2 ^ (2 ^ k) * 2 ^ (2 ^ k) := by rw [← Nat.pow_add, ← Nat.two_mul, ← Nat.pow_succ']; exact h
      rw [goB_eq k _ _ (Nat.div_lt_of_lt_mul e)]
      have hn : n ≠ 0 := by intro e; subst e; have := Nat.two_pow_pos (2 ^ k); omega
      have hq : n / 2 ^ (2 ^ k) ≠ 0 := by have := Nat.div_pos q' (Nat.two_pow_pos (2 ^ k)); omega
      unfold bitsN
      simp only [beq_iff_eq, hn, hq, if_false, bits_div q']
      omega
@[irreducible] def bitsK (x : Int) : Nat := if x.natAbs < 2 ^ 64 then intBits x else if x.natAbs < 2 ^ (2 ^ 16) then goB 16 x.natAbs 0 else intBits x
theorem bitsK_eq (x : Int) : intBits x = bitsK x := by
  unfold bitsK
  split
  next => rfl
  split
  next h =>
    rw [goB_eq 16 _ _ h]
    unfold intBits bitsN
    by_cases e : x = 0
    · subst e <;> rfl
    · have : x.natAbs ≠ 0 := by omega
      simp [e, this]
  next => rfl
def pyK (x y : Int) : Bool :=
  let digits (n : Int) : Nat := if n == 0 then 0 else (bitsK n - 1) / 30 + 1
  digits y > 300 && digits x > digits y + 150
theorem pyK_eq (x y : Int) : divisionGoesByPylong x y = pyK x y := by
  have e : ∀ n : Int, (if n == 0 then 0 else n.natAbs.log2 / 30 + 1) = (if n == 0 then 0 else (bitsK n - 1) / 30 + 1 : Nat) := by
    intro n
    rw [← bitsK_eq]
    unfold intBits
    by_cases h : (n == 0) = true
    · simp only [h, if_true]
    · rw [if_neg h, if_neg h, if_neg h, Nat.add_sub_cancel]
  unfold divisionGoesByPylong pyK
  simp only [e]
def d32k (D21 : Int → Int → Int → Option (Int × Int)) (a12 a3 b b1 b2 n : Int) : Option (Int × Int) :=
  if 0 ≤ n ∧ n ≤ 1048576 then
    match (if a12.fdiv (pw n.toNat) == b1 then (if bitsK b1 ≤ 2 ^ 20 then some (1 * pw n.toNat - 1, a12 - b1 * pw n.toNat + b1) else none) else D21 a12 b1 n) with
    | none => none
    | some (q, r) => if bitsK r ≤ 2 ^ 20 ∧ bitsK q ≤ 2 ^ 20 ∧ bitsK b2 ≤ 2 ^ 20 then upB b 5 q (bitOr (r * pw n.toNat) a3 - q * b2) else none
  else none
def d21rk (D21 : Int → Int → Int → Option (Int × Int)) (pad : Bool) (a b n : Int) : Option (Int × Int) :=
  let h := n.fdiv (pw (1 : Int).toNat)
  let mask : Int := 1 * pw h.toNat - 1
  if 0 ≤ n ∧ n ≤ 1048576 ∧ 0 ≤ h ∧ h ≤ 1048576 then
    match d32k D21 (a.fdiv (pw n.toNat)) (bitAnd (a.fdiv (pw h.toNat)) mask) b (b.fdiv (pw h.toNat)) (bitAnd b mask) h with
    | none => none
    | some (q1, r) =>
      match d32k D21 r (bitAnd a mask) b (b.fdiv (pw h.toNat)) (bitAnd b mask) h with
      | none => none
      | some (q2, r2) => if bitsK q1 ≤ 2 ^ 20 then some (bitOr (q1 * pw h.toNat) q2, if pad then r2.fdiv (pw (1 : Int).toNat) else r2) else none
  else none
def d21k : Nat → Int → Int → Int → Option (Int × Int)
  | 0, _, _, _ => none
  | f + 1, a, b, n =>
    if (bitsK a : Int) - n ≤ 4000 then (if b ≠ 0 ∧ pyK a b = false then some (a.fdiv b, a.fmod b) else none)
    else if bitsK a ≤ 2 ^ 20 ∧ bitsK b ≤ 2 ^ 20 then
      (if bitAnd n 1 != 0 then d21rk (d21k f) true (a * pw (1 : Int).toNat) (b * pw (1 : Int).toNat) (n + 1) else d21rk (d21k f) false a b n)
    else none
theorem d32k_eq (D : Int → Int → Int → Option (Int × Int)) (a12 a3 b b1 b2 n : Int) : d32 D a12 a3 b b1 b2 n = d32k D a12 a3 b b1 b2 n := by
  unfold d32 d32k; simp only [bitsK_eq, pyK_eq, pw_eq, pw20] <;> rfl
theorem d21rk_eq (D : Int → Int → Int → Option (Int × Int)) (pad : Bool) (a b n : Int) : d21r D pad a b n = d21rk D pad a b n := by
  unfold d21r d21rk; simp only [bitsK_eq, pyK_eq, pw_eq, pw20, d32k_eq] <;> rfl
theorem d21k_eq : ∀ f : Nat, d21 f = d21k f
  | 0 => rfl
  | f + 1 => by funext a b n; unfold d21 d21k; rw [d21k_eq f]; simp only [bitsK_eq, pyK_eq, pw_eq, d21rk_eq]
def innK : Nat → Int → Int → Int → Int → List Int → Option (List Int)
  | 0, _, _, _, _, _ => none
  | f + 1, n, x, l, h, is =>
    if l + 1 == h then (if 0 ≤ l ∧ l < is.length ∧ is.length ≤ 2 ^ 20 then some (is.set l.toNat x) else none)
    else
      let mid := (l + h).fdiv (pw (1 : Int).toNat)
      let shift := (mid - l) * n
      if 0 ≤ shift ∧ shift ≤ 1048576 ∧ bitsK (mid - l) ≤ 2 ^ 20 ∧ bitsK n ≤ 2 ^ 20 ∧ bitsK x ≤ 2 ^ 20 ∧ bitsK (x.fdiv (pw shift.toNat)) ≤ 2 ^ 20 then
        match innK f n (bitXor x (x.fdiv (pw shift.toNat) * pw shift.toNat)) l mid is with
        | none => none
        | some is' => innK f n (x.fdiv (pw shift.toNat)) mid h is'
      else none
theorem innK_eq : ∀ (f : Nat) (n x l h : Int) (is : List Int), innF f n x l h is = innK f n x l h is
  | 0, _, _, _, _, _ => rfl
  | f + 1, n, x, l, h, is => by unfold innF innK; simp only [bitsK_eq, pyK_eq, pw_eq, pw20, innK_eq f] <;> rfl
def digK : Nat → List Int → Int → Int → Int → Option Int
  | 0, _, _, _, _ => none
  | f + 1, ds, n, l, h =>
    if l + 1 == h then (if 0 ≤ l ∧ l < 1048576 then ds[l.toNat]? else none)
    else
      let mid := (l + h).fdiv (pw (1 : Int).toNat)
      let shift := (mid - l) * n
      if 0 ≤ shift ∧ shift ≤ 1048576 ∧ bitsK (mid - l) ≤ 2 ^ 20 ∧ bitsK n ≤ 2 ^ 20 then
        match digK f ds n mid h with
        | none => none
        | some hi => match digK f ds n l mid with
          | none => none
          | some lo => if bitsK hi ≤ 2 ^ 20 then some (hi * pw shift.toNat + lo) else none
      else none
theorem digK_eq : ∀ (f : Nat) (ds : List Int) (n l h : Int), digF f ds n l h = digK f ds n l h
  | 0, _, _, _, _ => rfl
  | f + 1, ds, n, l, h => by unfold digF digK; simp only [bitsK_eq, pyK_eq, pw_eq, pw20, digK_eq f] <;> rfl
def i2dk (a n : Int) : Option (List Int) :=
  let k := ((bitsK a : Int) + n - 1).fdiv n
  if 0 < n ∧ 0 ≤ k ∧ k ≤ 1000 ∧ pyK ((bitsK a : Int) + n - 1) n = false then
    if a == 0 then some (List.replicate k.toNat 0) else innK 20 n a 0 k (List.replicate k.toNat 0)
  else none
theorem i2dk_eq (a n : Int) : i2d a n = i2dk a n := by unfold i2d i2dk; simp only [bitsK_eq, pyK_eq, innK_eq]
def dmLk (f : Nat) (b n : Int) : List Int → Int → List Int → Option (List Int × Int)
  | [], r, qs => some (qs, r)
  | x :: xs, r, qs =>
    if 0 ≤ n ∧ n ≤ 1048576 ∧ bitsK r ≤ 2 ^ 20 ∧ qs.length ≤ 1000 then
      match d21k f (r * pw n.toNat + x) b n with
      | none => none
      | some (q, r') => dmLk f b n xs r' (qs ++ [q])
    else none
theorem dmLk_eq (f : Nat) (b n : Int) : ∀ (xs : List Int) (r : Int) (qs : List Int), dmL f b n xs r qs = dmLk f b n xs r qs
  | [], _, _ => rfl
  | x :: xs, r, qs => by unfold dmL dmLk; simp only [bitsK_eq, pyK_eq, pw_eq, pw20, d21k_eq, dmLk_eq f b n xs] <;> rfl
def d2ik (ds : List Int) (n : Int) : Option Int := if ds.length ≤ 1000 then (if ds.isEmpty then some 0 else digK 20 ds n 0 ds.length) else none
theorem d2ik_eq (ds : List Int) (n : Int) : d2iF ds n = d2ik ds n := by unfold d2iF d2ik; simp only [bitsK_eq, pyK_eq, digK_eq]
def dmK (f : Nat) (a b : Int) : Option (Int × Int) :=
  match i2dk a (bitsK b : Nat) with
  | none => none
  | some ds =>
    match dmLk f b (bitsK b : Nat) ds.reverse 0 [] with
    | none => none
    | some (qs, r) =>
      if qs.length ≤ 1000 then
        match d2ik qs.reverse (bitsK b : Nat) with
        | none => none
        | some q => some (q, r)
      else none
theorem dmK_eq (f : Nat) (a b : Int) : dmF f a b = dmK f a b := by unfold dmF dmK; simp only [bitsK_eq, pyK_eq, i2dk_eq, dmLk_eq, d2ik_eq] <;> rfl

/-! the product of the law's sums, over powers of two -/
theorem unit_pw (d : Nat) : unitF d = pw d := by unfold unitF; rw [pw_eq]
theorem step_pw (d k : Nat) : stepF d ^ k = pw (8 * d * k) := by
  unfold stepF
  rw [unit_pw]; unfold pw
  rw [← Int.natCast_pow, ← Int.natCast_pow, ← Nat.pow_mul, ← Nat.pow_mul]
  congr 2
  rw [Nat.mul_comm 8 d, Nat.mul_assoc]
def wholeK (d : Nat) : List Nat → Int → Option Int
  | [], a => some a
  | k :: ks, a => if bitsK a ≤ 2 ^ 20 ∧ bitsK (pw d + pw (8 * d * 2 ^ k) + pw d * pw (8 * d * 2 ^ (k + 1))) ≤ 2 ^ 20 then wholeK d ks (a * (pw d + pw (8 * d * 2 ^ k) + pw d * pw (8 * d * 2 ^ (k + 1)))) else none
theorem wholeK_eq (d : Nat) : ∀ (ks : List Nat) (a : Int), wholeL (pw d) (stepF d) ks a = wholeK d ks a
  | [], _ => rfl
  | k :: ks, a => by unfold wholeL wholeK; simp only [bitsK_eq, pyK_eq, step_pw, wholeK_eq d ks]
/-! the sparse row at a stroke, and where a row may part from it -/
def nafF : Nat → Int → List Int
  | 0, _ => []
  | p + 1, n => if n.fmod 2 == 0 then 0 :: nafF p (n.fdiv 2) else if n.fmod 4 == 1 then 1 :: nafF p ((n - 1).fdiv 2) else -1 :: nafF p ((n + 1).fdiv 2)
def unl : List (List Nat) := [[], [4, 5, 6], [4, 5], [3, 4, 5], [3, 4, 5, 6], [3, 4], [2, 3, 4], [2, 3, 4, 5, 6], [2, 3, 4, 5], [2, 3], [1, 2, 3], [1, 2, 3, 4, 5], [1, 2, 3, 4, 5, 6], [1, 2, 3, 4], [1, 2], [1, 2, 4, 5, 6], [1, 2, 4, 5], [0, 1, 2], [0, 1, 2, 4, 5, 6], [0, 1, 2, 4, 5], [0, 1, 2, 3, 4], [0, 1, 2, 3, 4, 5, 6], [0, 1, 2, 3, 4, 5], [0, 1, 2, 3], [0, 1], [0, 1, 4, 5, 6], [0, 1, 4, 5], [0, 1, 3, 4, 5], [0, 1, 3, 4, 5, 6], [0, 1, 3, 4]]
def spOf (w : Int) : List Int := nafF 7 w
end Mine

end
section
open PySem PySem.W PySem.Calls PyProof.Rows Builtin.Str
set_option maxRecDepth 20000
set_option linter.unusedVariables false
set_option linter.unusedSimpArgs false
namespace Mine
local macro_rules | `(tactic| omega) => `(tactic| lia)
open Builtin (bitOr bitAnd bitXor divisionGoesByPylong)
open Builtin.Int (intBits)

/-! all the drawn rows, and what each answers -/
def dig3 : Nat → List (List Int)
  | 0 => [[0]]
  | n + 1 => (dig3 n).map (0 :: ·) ++ (dig3 n).map (1 :: ·) ++ (dig3 n).map (-1 :: ·)
theorem dig3_mem : ∀ l : List Int, (∀ v ∈ l, v = -1 ∨ v = 0 ∨ v = 1) → l ++ [0] ∈ dig3 l.length
  | [], _ => by simp [dig3]
  | v :: l, h => by
    have ih := dig3_mem l fun x hx => h x (.tail _ hx)
    unfold dig3
    simp only [List.length_cons, List.cons_append, List.mem_append, List.mem_map]
    rcases h v (.head _) with rfl | rfl | rfl
    · exact .inr ⟨_, ih, rfl⟩
    · exact .inl (.inl ⟨_, ih, rfl⟩)
    · exact .inl (.inr ⟨_, ih, rfl⟩)
theorem row_mem {row : List Int} (h : Row7 row) (h6 : row.getD 6 0 = 0) : row ∈ dig3 6 := by
  obtain ⟨hl, hv⟩ := h
  have h7 : 6 < row.length := by rw [hl]; decide
  have e := List.take_append_drop 6 row
  have g : row[6] = 0 := by rw [← h6, List.getD_eq_getElem?_getD, List.getElem?_eq_getElem h7]; rfl
  rw [List.drop_eq_getElem_cons h7, List.drop_of_length_le (by rw [hl]; decide), g] at e
  have l6 : (row.take 6).length = 6 := by rw [List.length_take, hl]; rfl
  have m := dig3_mem (row.take 6) fun v hm => hv v (List.mem_of_mem_take hm)
  rw [l6, e] at m
  exact m
theorem rowF_last (ns : List Int) : (rowF ns).getD 6 0 = 0 := by
  have h := (rowF_ok ns).1
  unfold rowF at h ⊢
  rw [List.length_append, List.length_singleton] at h
  rw [List.getD_eq_getElem?_getD, List.getElem?_append_right (by omega)]
  have : 6 - ((drawnF ns).map fun f => if f < 2 then f else -1).length = 0 := by omega
  rw [this]; rfl

/-- a row's places that are not 0 -/
def nzF (row : List Int) : List Nat := (List.range' 0 7).filter fun k => row.getD k 0 != 0
def maskF (ks : List Nat) : Int := (ks.map fun k => pw k).sum
def octK (p m : Int) : Bool := (bitAnd ((p + 192).toNat.toUInt8.toNat : Int) 64 != 0) && !(bitAnd ((m + 128).toNat.toUInt8.toNat : Int) 64 != 0) && decide (bitsK (bitAnd ((p + 192).toNat.toUInt8.toNat : Int) 63) ≤ 1000) && decide (0 ≤ varF (p + 192).toNat.toUInt8 (m + 128).toNat.toUInt8) && (dmK 10 (varF (p + 192).toNat.toUInt8 (m + 128).toNat.toUInt8) 64 == some (p, m))
def rowK (row : List Int) : Bool :=
  decide (-63 ≤ worthF row ∧ worthF row ≤ 63) && decide (0 ≤ signF 1 row ∧ signF 1 row < 64 ∧ 0 ≤ signF (-1) row ∧ signF (-1) row < 64) && (d2ik row 1 == some (worthF row)) && (signF 1 row + signF (-1) row == maskF (nzF row)) && octK (signF 1 row) (signF (-1) row) && unl.contains (unlike row (spOf (worthF row)))
def at2 (a b : Int) : Bool := (dig3 4).all fun r => rowK (a :: b :: r)
theorem at00 : at2 0 0 = true := by decide +kernel
theorem at01 : at2 0 1 = true := by decide +kernel
theorem at02 : at2 0 (-1) = true := by decide +kernel
theorem at10 : at2 1 0 = true := by decide +kernel
theorem at11 : at2 1 1 = true := by decide +kernel
theorem at12 : at2 1 (-1) = true := by decide +kernel
theorem at20 : at2 (-1) 0 = true := by decide +kernel
theorem at21 : at2 (-1) 1 = true := by decide +kernel
theorem at22 : at2 (-1) (-1) = true := by decide +kernel
theorem rowK_all {row : List Int} (h : row ∈ dig3 6) : rowK row = true := by
  have key : ∀ {a b : Int} {r : List Int}, at2 a b = true → r ∈ dig3 4 → rowK (a :: b :: r) = true := fun h hr => List.all_eq_true.mp h _ hr
  rw [show dig3 6 = (dig3 5).map (0 :: ·) ++ (dig3 5).map (1 :: ·) ++ (dig3 5).map (-1 :: ·) from rfl, show dig3 5 = (dig3 4).map (0 :: ·) ++ (dig3 4).map (1 :: ·) ++ (dig3 4).map (-1 :: ·) from rfl] at h
  simp only [List.map_append, List.map_map, List.mem_append, List.mem_map, Function.comp] at h
  rcases h with ((((⟨r, hr, rfl⟩ | ⟨r, hr, rfl⟩) | ⟨r, hr, rfl⟩) | ((⟨r, hr, rfl⟩ | ⟨r, hr, rfl⟩) | ⟨r, hr, rfl⟩))) | ((⟨r, hr, rfl⟩ | ⟨r, hr, rfl⟩) | ⟨r, hr, rfl⟩)
  · exact key at00 hr
  · exact key at01 hr
  · exact key at02 hr
  · exact key at10 hr
  · exact key at11 hr
  · exact key at12 hr
  · exact key at20 hr
  · exact key at21 hr
  · exact key at22 hr

/-! the names of a mask -/
def okOut (out : List Str) : Bool := decide ((out.map (·.length)).sum + out.length * comma.length ≤ 16777216)
def nmOf (ks : List Nat) : Str := if (Txt.join comma (ks.map flagName)).length ≠ 0 then Txt.join comma (ks.map flagName) else zx
def nmK (ks : List Nat) : Bool := match pfL 32 0 (maskF ks) [] with
  | some out => okOut out && (Txt.join comma out == nmOf ks)
  | none => false
def subs : List Nat → List (List Nat)
  | [] => [[]]
  | k :: ks => subs ks ++ (subs ks).map (k :: ·)
theorem filter_subs (p : Nat → Bool) : ∀ l : List Nat, l.filter p ∈ subs l
  | [] => by simp [subs]
  | k :: l => by
    have ih := filter_subs p l
    unfold subs
    by_cases h : p k = true
    · rw [List.filter_cons_of_pos h]; exact List.mem_append.mpr (.inr (List.mem_map.mpr ⟨_, ih, rfl⟩))
    · rw [List.filter_cons_of_neg h]; exact List.mem_append.mpr (.inl ih)
theorem nmK_0 : ((subs [2, 3, 4, 5, 6]).all fun r => nmK r) = true := by decide +kernel
theorem nmK_1 : ((subs [2, 3, 4, 5, 6]).all fun r => nmK (1 :: r)) = true := by decide +kernel
theorem nmK_2 : ((subs [2, 3, 4, 5, 6]).all fun r => nmK (0 :: r)) = true := by decide +kernel
theorem nmK_3 : ((subs [2, 3, 4, 5, 6]).all fun r => nmK (0 :: 1 :: r)) = true := by decide +kernel
theorem nmK_all (row : List Int) : nmK (nzF row) = true := by
  have h := filter_subs (fun k => row.getD k 0 != 0) (List.range' 0 7)
  rw [show List.range' 0 7 = [0, 1, 2, 3, 4, 5, 6] from rfl] at h
  have e : nzF row = [0, 1, 2, 3, 4, 5, 6].filter fun k => row.getD k 0 != 0 := rfl
  rw [← e] at h
  rw [show subs [0, 1, 2, 3, 4, 5, 6] = (subs [2, 3, 4, 5, 6] ++ (subs [2, 3, 4, 5, 6]).map (1 :: ·)) ++ (subs [2, 3, 4, 5, 6] ++ (subs [2, 3, 4, 5, 6]).map (1 :: ·)).map (0 :: ·) from rfl] at h
  simp only [List.map_append, List.map_map, List.mem_append, List.mem_map, Function.comp] at h
  rcases h with (h | ⟨r, hr, e⟩) | (⟨r, hr, e⟩ | ⟨r, hr, e⟩)
  · exact List.all_eq_true.mp nmK_0 _ h
  · rw [← e]; exact List.all_eq_true.mp nmK_1 _ hr
  · rw [← e]; exact List.all_eq_true.mp nmK_2 _ hr
  · rw [← e]; exact List.all_eq_true.mp nmK_3 _ hr
theorem names_of (row : List Int) {f : Int} (hf : f = maskF (nzF row)) : ∃ out, pfL 32 0 f [] = some out ∧ outOk out ∧ Txt.join comma out = namesF row := by
  have h := nmK_all row
  unfold nmK at h
  subst hf
  split at h
  next out e =>
    rw [Bool.and_eq_true] at h
    refine ⟨out, e, by have := h.1; unfold okOut at this; unfold outOk; simpa using this, ?_⟩
    have := eq_of_beq h.2
    exact this
  next => cases h
end Mine

end
section
open PySem PySem.W PySem.Calls PyProof.Rows Builtin.Str
set_option maxRecDepth 20000
set_option linter.unusedVariables false
set_option linter.unusedSimpArgs false
namespace Mine
local macro_rules | `(tactic| omega) => `(tactic| lia)
open Builtin (bitOr bitAnd bitXor divisionGoesByPylong)
open Builtin.Int (intBits)

/-! what a number is worth, and its rows -/
def minL : List Int → Int | [] => 0 | [a] => a | a :: l => let m := minL l; if a < m then a else m
def maxL : List Int → Int | [] => 0 | [a] => a | a :: l => let m := maxL l; if m < a then a else m
def costsOf (w : Int) : List Int := (rowsF 7 w).map costF
def nz3 (row : List Int) : List Nat := (List.range' 0 7).filter fun k => row.getD k 0 != 0
def thOf (w : Int) : Nat := 3 * w.natAbs
def bitsOf (w : Int) : List Int := (i2dk (w.natAbs : Nat) 1).getD []
def wK (w : Int) : Bool :=
  let rs := rowsF 7 w
  let sp := spOf w
  let cs := rs.map costF
  let M := minL cs
  let Mx := maxL cs
  (rs.find? isSparse == some sp) && cs.contains M && cs.all (fun a => decide (M ≤ a)) && cs.contains Mx && cs.all (fun a => decide (a ≤ Mx)) && decide (0 ≤ Mx ∧ Mx ≤ 1000) &&
  (M == ((nz3 sp).length : Nat)) && (i2dk (w.natAbs : Nat) 1 == some (bitsOf w)) && decide ((bitsOf w).length ≤ 1000) && (d2ik ((bitsOf w).map (3 * ·)) 1 == some ((thOf w : Nat) : Int)) && ((bitXor (w.natAbs : Nat) ((thOf w : Nat) : Int)).fdiv 2 == ((nz3 sp).map fun k => pw k).sum)
def figK (d : Nat) (w : Int) : Bool :=
  match wholeK d (List.range' 0 7) 1 with
  | some whole => decide (0 ≤ whole) && (match dmK 10 whole (pw (8 * d * (w + 128).toNat)) with
    | some (_, b) => decide (0 ≤ b) && (match dmK 10 b (pw (8 * d * (w + 127).toNat)) with
      | some (fig, _) => i2dk fig (d : Nat) == some (countsF (costsOf w) (maxL (costsOf w)).toNat)
      | none => false)
    | none => false)
  | none => false
def some16 (f : Int → Bool) (i : Int) : Bool := (List.range 16).all fun n : Nat => f (16 * i + (n : Int) - 64)
theorem all16 {f : Int → Bool} (h0 : some16 f 0 = true) (h1 : some16 f 1 = true) (h2 : some16 f 2 = true) (h3 : some16 f 3 = true) (h4 : some16 f 4 = true) (h5 : some16 f 5 = true) (h6 : some16 f 6 = true) (h7 : some16 f 7 = true) {w : Int} (hw : -63 ≤ w ∧ w ≤ 63) : f w = true := by
  have key : ∀ i : Int, some16 f i = true → 16 * i - 64 ≤ w → w < 16 * i - 48 → f w = true := fun i h a b => by
    have := List.all_eq_true.mp h (w - (16 * i - 64)).toNat (List.mem_range.mpr (by omega))
    rw [show 16 * i + (((w - (16 * i - 64)).toNat : Nat) : Int) - 64 = w by omega] at this
    exact this
  have : w < -48 ∨ (-48 ≤ w ∧ w < -32) ∨ (-32 ≤ w ∧ w < -16) ∨ (-16 ≤ w ∧ w < 0) ∨ (0 ≤ w ∧ w < 16) ∨ (16 ≤ w ∧ w < 32) ∨ (32 ≤ w ∧ w < 48) ∨ 48 ≤ w := by omega
  rcases this with h | h | h | h | h | h | h | h
  · exact key 0 h0 (by omega) (by omega)
  · exact key 1 h1 (by omega) (by omega)
  · exact key 2 h2 (by omega) (by omega)
  · exact key 3 h3 (by omega) (by omega)
  · exact key 4 h4 (by omega) (by omega)
  · exact key 5 h5 (by omega) (by omega)
  · exact key 6 h6 (by omega) (by omega)
  · exact key 7 h7 (by omega) (by omega)
theorem wK_all {w : Int} (hw : -63 ≤ w ∧ w ≤ 63) : wK w = true := by
  have h0 : some16 wK 0 = true := by decide +kernel
  have h1 : some16 wK 1 = true := by decide +kernel
  have h2 : some16 wK 2 = true := by decide +kernel
  have h3 : some16 wK 3 = true := by decide +kernel
  have h4 : some16 wK 4 = true := by decide +kernel
  have h5 : some16 wK 5 = true := by decide +kernel
  have h6 : some16 wK 6 = true := by decide +kernel
  have h7 : some16 wK 7 = true := by decide +kernel
  exact all16 h0 h1 h2 h3 h4 h5 h6 h7 hw
theorem fig5 {w : Int} (hw : -63 ≤ w ∧ w ≤ 63) : figK 5 w = true := by
  have h0 : some16 (figK 5) 0 = true := by decide +kernel
  have h1 : some16 (figK 5) 1 = true := by decide +kernel
  have h2 : some16 (figK 5) 2 = true := by decide +kernel
  have h3 : some16 (figK 5) 3 = true := by decide +kernel
  have h4 : some16 (figK 5) 4 = true := by decide +kernel
  have h5 : some16 (figK 5) 5 = true := by decide +kernel
  have h6 : some16 (figK 5) 6 = true := by decide +kernel
  have h7 : some16 (figK 5) 7 = true := by decide +kernel
  exact all16 h0 h1 h2 h3 h4 h5 h6 h7 hw
theorem fig6 {w : Int} (hw : -63 ≤ w ∧ w ≤ 63) : figK 6 w = true := by
  have h0 : some16 (figK 6) 0 = true := by decide +kernel
  have h1 : some16 (figK 6) 1 = true := by decide +kernel
  have h2 : some16 (figK 6) 2 = true := by decide +kernel
  have h3 : some16 (figK 6) 3 = true := by decide +kernel
  have h4 : some16 (figK 6) 4 = true := by decide +kernel
  have h5 : some16 (figK 6) 5 = true := by decide +kernel
  have h6 : some16 (figK 6) 6 = true := by decide +kernel
  have h7 : some16 (figK 6) 7 = true := by decide +kernel
  exact all16 h0 h1 h2 h3 h4 h5 h6 h7 hw
theorem fig7 {w : Int} (hw : -63 ≤ w ∧ w ≤ 63) : figK 7 w = true := by
  have h0 : some16 (figK 7) 0 = true := by decide +kernel
  have h1 : some16 (figK 7) 1 = true := by decide +kernel
  have h2 : some16 (figK 7) 2 = true := by decide +kernel
  have h3 : some16 (figK 7) 3 = true := by decide +kernel
  have h4 : some16 (figK 7) 4 = true := by decide +kernel
  have h5 : some16 (figK 7) 5 = true := by decide +kernel
  have h6 : some16 (figK 7) 6 = true := by decide +kernel
  have h7 : some16 (figK 7) 7 = true := by decide +kernel
  exact all16 h0 h1 h2 h3 h4 h5 h6 h7 hw
theorem fig_all {w : Int} (hw : -63 ≤ w ∧ w ≤ 63) (e : Nat) : figK (widthF e) w = true := by
  have : widthF e = 5 ∨ widthF e = 6 ∨ widthF e = 7 := by unfold widthF; omega
  rcases this with h | h | h <;> rw [h]
  · exact fig5 hw
  · exact fig6 hw
  · exact fig7 hw
end Mine

end
section
open PySem PySem.W PySem.Calls PyProof.Rows Builtin.Str
set_option maxRecDepth 20000
set_option linter.unusedVariables false
set_option linter.unusedSimpArgs false
namespace Mine

/-! the same distance, over signs that are only told apart by a cost -/
def gIn (c : Nat → Nat → Int) (bc : Nat) : List Nat → List Int → Int → Int → Int → List Int × Int × Int
  | x :: a, w :: row, dist, res, mn =>
    let sub := dist + c bc x
    let idl := (if w < res then w else res) + 2
    let res' := if sub < idl then sub else idl
    let mn' := if res' < mn then res' else mn
    let p := gIn c bc a row w res' mn'
    (res' :: p.1, p.2.1, p.2.2)
  | _, _, _, res, mn => ([], res, mn)
def gOut (c : Nat → Nat → Int) (a : List Nat) (mx : Int) : List Nat → Nat → List Int → Int → Int
  | bc :: b, j, row, res =>
    let p := gIn c bc a row (j * 2) (j * 2) 9223372036854775807
    if p.2.2 > mx then mx + 1 else gOut c a mx b (j + 1) p.1 p.2.1
  | [], _, _, res => res
def gl3 (c : Nat → Nat → Int) (a b : List Nat) (mx : Int) : Int :=
  if (b.length - a.length : Int) * 2 > mx then mx + 1 else gOut c a mx b 0 ((List.range a.length).map fun i => ((2 + i * 2 : Nat) : Int)) 0
def gl2 (c : Nat → Nat → Int) (a b : List Nat) (mx : Int) : Int :=
  if a.isEmpty || b.isEmpty then 2 * (a.length + b.length : Int) else if b.length < a.length then gl3 c b a mx else gl3 c a b mx
def gl1 (c : Nat → Nat → Int) (a b : List Nat) (mx : Int) : Int :=
  let m := cpl a.reverse b.reverse
  gl2 c (a.take (a.length - m)) (b.take (b.length - m)) mx
def gLev (c : Nat → Nat → Int) (a b : List Nat) (mx : Int) : Int :=
  if a == b then 0 else
  let k := cpl a b
  gl1 c (a.drop k) (b.drop k) mx

/-- f tells the signs apart just as c does -/
structure TellsF (S : Nat → Prop) (f : Nat → Nat) (c : Nat → Nat → Int) : Prop where
  inj : ∀ x y, S x → S y → (f x == f y) = (x == y)
  cost : ∀ x y, S x → S y → subCost (T [f x]) (T [f y]) = c x y
section
variable {S : Nat → Prop} {f : Nat → Nat} {c : Nat → Nat → Int}
theorem gIn_eq (H : TellsF S f c) {bc : Nat} (hb : S bc) : ∀ (a : List Nat) (row : List Int) (d r m : Int), (∀ x ∈ a, S x) → levIn (f bc) (a.map f) row d r m = gIn c bc a row d r m
  | [], _, _, _, _, _ => by simp [levIn, gIn]
  | x :: a, [], _, _, _, _ => by simp [levIn, gIn]
  | x :: a, w :: row, d, r, m, h => by
    unfold gIn
    rw [List.map_cons]
    unfold levIn
    simp only [H.cost bc x hb (h x (.head _)), gIn_eq H hb a row _ _ _ fun y hy => h y (.tail _ hy)]
theorem gOut_eq (H : TellsF S f c) {a : List Nat} (ha : ∀ x ∈ a, S x) {mx : Int} : ∀ (b : List Nat) (j : Nat) (row : List Int) (r : Int), (∀ x ∈ b, S x) → levOut (a.map f) mx (b.map f) j row r = gOut c a mx b j row r
  | [], _, _, _, _ => by simp [levOut, gOut]
  | x :: b, j, row, r, h => by
    unfold gOut
    rw [List.map_cons]
    unfold levOut
    simp only [gIn_eq H (h x (.head _)) a _ _ _ _ ha, gOut_eq H ha b _ _ _ fun y hy => h y (.tail _ hy)]
theorem gl3_eq (H : TellsF S f c) {a b : List Nat} (ha : ∀ x ∈ a, S x) (hb : ∀ x ∈ b, S x) (mx : Int) : lev3 (a.map f) (b.map f) mx = gl3 c a b mx := by
  unfold lev3 gl3
  simp only [List.length_map, gOut_eq H ha b _ _ _ hb]
theorem gl2_eq (H : TellsF S f c) {a b : List Nat} (ha : ∀ x ∈ a, S x) (hb : ∀ x ∈ b, S x) (mx : Int) : lev2 (a.map f) (b.map f) mx = gl2 c a b mx := by
  unfold lev2 gl2
  simp only [List.length_map, List.isEmpty_map, gl3_eq H ha hb, gl3_eq H hb ha]
theorem cpl_eq (H : TellsF S f c) : ∀ a b : List Nat, (∀ x ∈ a, S x) → (∀ x ∈ b, S x) → cpl (a.map f) (b.map f) = cpl a b
  | [], _, _, _ => by simp [cpl]
  | _ :: _, [], _, _ => by simp [cpl]
  | x :: a, y :: b, ha, hb => by
    rw [List.map_cons, List.map_cons]
    unfold cpl
    rw [H.inj x y (ha x (.head _)) (hb y (.head _)), cpl_eq H a b (fun x h => ha x (.tail _ h)) fun x h => hb x (.tail _ h)]
theorem gl1_eq (H : TellsF S f c) {a b : List Nat} (ha : ∀ x ∈ a, S x) (hb : ∀ x ∈ b, S x) (mx : Int) : lev1 (a.map f) (b.map f) mx = gl1 c a b mx := by
  unfold lev1 gl1
  simp only [← List.map_reverse, List.length_map, cpl_eq H a.reverse b.reverse (fun x h => ha x (List.mem_reverse.mp h)) (fun x h => hb x (List.mem_reverse.mp h)), ← List.map_take]
  exact gl2_eq H (fun x h => ha x (List.mem_of_mem_take h)) (fun x h => hb x (List.mem_of_mem_take h)) mx
theorem eq_eq (H : TellsF S f c) : ∀ a b : List Nat, (∀ x ∈ a, S x) → (∀ x ∈ b, S x) → (a.map f == b.map f) = (a == b)
  | [], [], _, _ => rfl
  | [], _ :: _, _, _ => rfl
  | _ :: _, [], _, _ => rfl
  | x :: a, y :: b, ha, hb => by
    rw [List.map_cons, List.map_cons, List.cons_beq_cons, List.cons_beq_cons, H.inj x y (ha x (.head _)) (hb y (.head _)), eq_eq H a b (fun x h => ha x (.tail _ h)) fun x h => hb x (.tail _ h)]
theorem gLev_eq (H : TellsF S f c) {a b : List Nat} (ha : ∀ x ∈ a, S x) (hb : ∀ x ∈ b, S x) (mx : Int) : lev (a.map f) (b.map f) mx = gLev c a b mx := by
  unfold lev gLev
  simp only [eq_eq H a b ha hb, cpl_eq H a b ha hb, ← List.map_drop]
  split
  · rfl
  · exact gl1_eq H (fun x h => ha x (List.mem_of_mem_drop h)) (fun x h => hb x (List.mem_of_mem_drop h)) mx
end

/-! the shapes that the law asks -/
def cK (x y : Nat) : Int := if x == y then 0 else if x / 2 == y / 2 then 1 else 2
def codeA (ks : List Nat) : List Nat := (List.range' 0 7).map fun i => 2 * i + (if ks.contains i then 1 else 0)
def codeB : List Nat := (List.range' 0 7).map fun i => 2 * i
def codeW (ks : List Nat) (wh m : Nat) : List Nat := (codeA ks).take wh ++ List.replicate m 100 ++ (codeA ks).drop wh
def patK (m wh : Nat) (ks : List Nat) : Bool := (gLev cK (codeW ks wh m) codeB (2 * m + ks.length : Nat) == ((2 * m + ks.length : Nat) : Int)) && (gLev cK codeB (codeW ks wh m) (2 * m + ks.length : Nat) == ((2 * m + ks.length : Nat) : Int))
def nearK (ks : List Nat) : Bool := gLev cK (codeA ks) codeB ((ks.length : Nat) - 1 : Int) == ((ks.length : Nat) : Int)
def patAll (m wh : Nat) : Bool := unl.all (patK m wh)
def codeS (n : Nat) : List Nat := (List.range' 0 8).map fun k => 2 * k + (if n / 2 ^ k % 2 == 1 then 1 else 0)
def sizK (w : Int) : Bool := gLev cK (codeS w.natAbs) (codeS (thOf w)) ((nz3 (spOf w)).length : Nat) == (((nz3 (spOf w)).length : Nat) : Int)
theorem near_0 : (subs [2, 3, 4, 5, 6]).all nearK = true := by decide +kernel
theorem near_1 : (subs [2, 3, 4, 5, 6]).all (fun r => nearK (1 :: r)) = true := by decide +kernel
theorem near_2 : (subs [2, 3, 4, 5, 6]).all (fun r => nearK (0 :: r)) = true := by decide +kernel
theorem near_3 : (subs [2, 3, 4, 5, 6]).all (fun r => nearK (0 :: 1 :: r)) = true := by decide +kernel
theorem near_all (row : List Int) : nearK (nzF row) = true := by
  have h := filter_subs (fun k => row.getD k 0 != 0) (List.range' 0 7)
  rw [show List.range' 0 7 = [0, 1, 2, 3, 4, 5, 6] from rfl] at h
  have e : nzF row = [0, 1, 2, 3, 4, 5, 6].filter fun k => row.getD k 0 != 0 := rfl
  rw [← e] at h
  rw [show subs [0, 1, 2, 3, 4, 5, 6] = (subs [2, 3, 4, 5, 6] ++ (subs [2, 3, 4, 5, 6]).map (1 :: ·)) ++ (subs [2, 3, 4, 5, 6] ++ (subs [2, 3, 4, 5, 6]).map (1 :: ·)).map (0 :: ·) from rfl] at h
  simp only [List.map_append, List.map_map, List.mem_append, List.mem_map, Function.comp] at h
  rcases h with (h | ⟨r, hr, e⟩) | (⟨r, hr, e⟩ | ⟨r, hr, e⟩)
  · exact List.all_eq_true.mp near_0 _ h
  · rw [← e]; exact List.all_eq_true.mp near_1 _ hr
  · rw [← e]; exact List.all_eq_true.mp near_2 _ hr
  · rw [← e]; exact List.all_eq_true.mp near_3 _ hr
theorem siz_all {w : Int} (hw : -63 ≤ w ∧ w ≤ 63) : sizK w = true := by
  have h0 : some16 sizK 0 = true := by decide +kernel
  have h1 : some16 sizK 1 = true := by decide +kernel
  have h2 : some16 sizK 2 = true := by decide +kernel
  have h3 : some16 sizK 3 = true := by decide +kernel
  have h4 : some16 sizK 4 = true := by decide +kernel
  have h5 : some16 sizK 5 = true := by decide +kernel
  have h6 : some16 sizK 6 = true := by decide +kernel
  have h7 : some16 sizK 7 = true := by decide +kernel
  exact all16 h0 h1 h2 h3 h4 h5 h6 h7 hw
theorem pat0 : patAll 0 0 = true := by decide +kernel
theorem pat10 : patAll 1 0 = true := by decide +kernel
theorem pat11 : patAll 1 1 = true := by decide +kernel
theorem pat12 : patAll 1 2 = true := by decide +kernel
theorem pat13 : patAll 1 3 = true := by decide +kernel
theorem pat14 : patAll 1 4 = true := by decide +kernel
theorem pat15 : patAll 1 5 = true := by decide +kernel
theorem pat16 : patAll 1 6 = true := by decide +kernel
theorem pat17 : patAll 1 7 = true := by decide +kernel
theorem pat20 : patAll 2 0 = true := by decide +kernel
theorem pat21 : patAll 2 1 = true := by decide +kernel
theorem pat22 : patAll 2 2 = true := by decide +kernel
theorem pat23 : patAll 2 3 = true := by decide +kernel
theorem pat24 : patAll 2 4 = true := by decide +kernel
theorem pat25 : patAll 2 5 = true := by decide +kernel
theorem pat26 : patAll 2 6 = true := by decide +kernel
theorem pat27 : patAll 2 7 = true := by decide +kernel
theorem codeW0 (ks : List Nat) (wh : Nat) : codeW ks wh 0 = codeW ks 0 0 := by simp [codeW]
theorem pat_all {m wh : Nat} (hm : m < 3) (hw : wh < 8) {ks : List Nat} (hk : ks ∈ unl) : patK m wh ks = true := by
  have a : ∀ {m wh : Nat}, patAll m wh = true → patK m wh ks = true := fun h => List.all_eq_true.mp h _ hk
  match m, hm with
  | 0, _ => have := a pat0; unfold patK at this ⊢; rwa [codeW0]
  | 1, _ => match wh, hw with
    | 0, _ => exact a pat10
    | 1, _ => exact a pat11
    | 2, _ => exact a pat12
    | 3, _ => exact a pat13
    | 4, _ => exact a pat14
    | 5, _ => exact a pat15
    | 6, _ => exact a pat16
    | 7, _ => exact a pat17
  | 2, _ => match wh, hw with
    | 0, _ => exact a pat20
    | 1, _ => exact a pat21
    | 2, _ => exact a pat22
    | 3, _ => exact a pat23
    | 4, _ => exact a pat24
    | 5, _ => exact a pat25
    | 6, _ => exact a pat26
    | 7, _ => exact a pat27
end Mine

end
section
open PySem PySem.W PySem.Calls PyProof.Rows Builtin.Str
set_option maxRecDepth 20000
set_option linter.unusedVariables false
set_option linter.unusedSimpArgs false
namespace Mine
local macro_rules | `(tactic| omega) => `(tactic| lia)

/-! the letters, told apart -/
def three : List Int := [-1, 0, 1]
def letK (i j : Nat) : Bool := three.all fun u => three.all fun v => ((formI i u == formI j v) == (i == j && u == v)) && (subCost (T [formI i u]) (T [formI j v]) == (if i == j then (if u == v then 0 else 1) else 2))
def letO (i : Nat) : Bool := three.all fun u => letters.contains (formI i u) && !b1S (formI i u : Nat) && (Txt.lower (T [formI i u]) == T [formI i 0])
def strK (i : Nat) : Bool := pts.all fun p => three.all fun u => (p.toNat != formI i u) && (subCost (T [p.toNat]) (T [formI i u]) == 2) && (subCost (T [formI i u]) (T [p.toNat]) == 2)
theorem letK_all : ((List.range' 0 7).all fun i => (List.range' 0 7).all fun j => letK i j) = true := by decide +kernel
theorem letO_all : (List.range' 0 7).all letO = true := by decide +kernel
theorem str0 : strK 0 = true := by decide +kernel
theorem str1 : strK 1 = true := by decide +kernel
theorem str2 : strK 2 = true := by decide +kernel
theorem str3 : strK 3 = true := by decide +kernel
theorem str4 : strK 4 = true := by decide +kernel
theorem str5 : strK 5 = true := by decide +kernel
theorem str6 : strK 6 = true := by decide +kernel
theorem str_all {i : Nat} (hi : i < 7) : strK i = true := by
  match i, hi with
  | 0, _ => exact str0
  | 1, _ => exact str1
  | 2, _ => exact str2
  | 3, _ => exact str3
  | 4, _ => exact str4
  | 5, _ => exact str5
  | 6, _ => exact str6
theorem pts_b1 : pts.all (fun p => b1S (p.toNat : Nat)) = true := by decide +kernel
theorem mem7 {i : Nat} (h : i < 7) : i ∈ List.range' 0 7 := by simp; omega
theorem three_of {v : Int} (h : v = -1 ∨ v = 0 ∨ v = 1) : v ∈ three := by unfold three; simp; omega
theorem row_three {row : List Int} (h : Row7 row) {i : Nat} (hi : i < 7) : row.getD i 0 ∈ three := by
  refine three_of (h.2 _ ?_)
  have hl : i < row.length := by rw [h.1]; exact hi
  rw [List.getD_eq_getElem?_getD, List.getElem?_eq_getElem hl]
  exact List.getElem_mem _
theorem let_eq {i j : Nat} (hi : i < 7) (hj : j < 7) {u v : Int} (hu : u ∈ three) (hv : v ∈ three) : (formI i u == formI j v) = (i == j && u == v) := by
  have h := List.all_eq_true.mp (List.all_eq_true.mp letK_all i (mem7 hi)) j (mem7 hj)
  have h := List.all_eq_true.mp (List.all_eq_true.mp h u hu) v hv
  rw [Bool.and_eq_true] at h
  exact eq_of_beq h.1
theorem let_cost {i j : Nat} (hi : i < 7) (hj : j < 7) {u v : Int} (hu : u ∈ three) (hv : v ∈ three) : subCost (T [formI i u]) (T [formI j v]) = if i == j then (if u == v then 0 else 1) else 2 := by
  have h := List.all_eq_true.mp (List.all_eq_true.mp letK_all i (mem7 hi)) j (mem7 hj)
  have h := List.all_eq_true.mp (List.all_eq_true.mp h u hu) v hv
  rw [Bool.and_eq_true] at h
  exact eq_of_beq h.2
theorem let_own {i : Nat} (hi : i < 7) {u : Int} (hu : u ∈ three) : formI i u ∈ letters ∧ b1S (formI i u : Nat) = false ∧ Txt.lower (T [formI i u]) = T [formI i 0] := by
  have h := List.all_eq_true.mp (List.all_eq_true.mp letO_all i (mem7 hi)) u hu
  simp only [Bool.and_eq_true, Bool.not_eq_true'] at h
  exact ⟨List.contains_iff_mem.mp h.1.1, h.1.2, eq_of_beq h.2⟩
theorem ptI_mem (e : Nat) : ∃ p ∈ pts, ptI e = p.toNat := by
  have h := (pts_get (e / 3 % 27) (Nat.mod_lt _ (by decide))).1
  refine ⟨pts.getD (e / 3 % 27) 0, ?_, rfl⟩
  rw [List.getD_eq_getElem?_getD, h]
  exact List.mem_of_getElem? h
theorem pt_b1 (e : Nat) : b1S (ptI e : Nat) = true := by
  obtain ⟨p, hp, h⟩ := ptI_mem e
  rw [h]; exact List.all_eq_true.mp pts_b1 p hp
theorem pt_let (e : Nat) {i : Nat} (hi : i < 7) {u : Int} (hu : u ∈ three) : (ptI e == formI i u) = false ∧ (formI i u == ptI e) = false ∧ subCost (T [ptI e]) (T [formI i u]) = 2 ∧ subCost (T [formI i u]) (T [ptI e]) = 2 := by
  obtain ⟨p, hp, h⟩ := ptI_mem e
  rw [h]
  have k := List.all_eq_true.mp (List.all_eq_true.mp (str_all hi) p hp) u hu
  simp only [Bool.and_eq_true, bne_iff_ne, ne_eq, beq_iff_eq] at k
  refine ⟨by simpa using k.1.1, by simpa using fun q => k.1.1 q.symm, k.1.2, k.2⟩

/-! the typed signs and their owners -/
def idxF (e : Nat) : List Nat := (List.range' 0 7).take (whereF e) ++ List.replicate (putIn e).length 7 ++ (List.range' 0 7).drop (whereF e)
theorem where_lt (e : Nat) : whereF e < 8 := Nat.mod_lt _ (by decide)
theorem put_rep (e : Nat) : putIn e = List.replicate (putIn e).length (ptI e) := by simp [putIn]
theorem typedF_idx (row : List Int) (e : Nat) : typedF row e = (idxF e).map fun i => if i = 7 then ptI e else formI i (row.getD i 0) := by
  have t : typed row = (List.range' 0 7).map fun i => if i = 7 then ptI e else formI i (row.getD i 0) := by
    unfold typed
    refine List.map_congr_left fun i hi => ?_
    have : i ≠ 7 := by simp at hi; omega
    rw [if_neg this]
  unfold typedF idxF
  rw [List.map_append, List.map_append, List.map_take, List.map_drop, ← t, List.map_replicate, if_pos rfl]
  conv => lhs; rw [put_rep e]
theorem owners_idx (e : Nat) : ownersF e = (idxF e).map fun i => ((i : Nat) : Int) := by
  have h : ∀ w : Nat, w < 8 → (List.range' 0 7).take w = List.range w ∧ (List.range' 0 7).drop w = (List.range (7 - w)).map fun i => w + i := by decide
  obtain ⟨h1, h2⟩ := h _ (where_lt e)
  unfold ownersF idxF
  rw [h1, h2, List.map_append, List.map_append, List.map_replicate, List.map_map]
  rfl
theorem idx_le (e : Nat) {i : Nat} (h : i ∈ idxF e) : i < 7 ∨ i = 7 := by
  unfold idxF at h
  rcases List.mem_append.mp h with h | h
  · rcases List.mem_append.mp h with h | h
    · have := List.mem_of_mem_take h; simp at this; omega
    · have := List.eq_of_mem_replicate h; omega
  · have := List.mem_of_mem_drop h; simp at this; omega
theorem getD_map {α β : Type} (l : List α) (f : α → β) (k : Nat) (hk : k < l.length) (d : β) : (l.map f).getD k d = f l[k] := by
  rw [List.getD_eq_getElem?_getD, List.getElem?_map, List.getElem?_eq_getElem hk]; rfl
theorem diff_three {u v : Int} (hu : u ∈ three) (hv : v ∈ three) : diffF u v = if u == v then 0 else 1 := by
  have : ∀ u ∈ three, ∀ v ∈ three, diffF u v = if u == v then 0 else 1 := by decide
  exact this u hu v hv
theorem ask_ok {row sp : List Int} (hr : Row7 row) (hs : Row7 sp) (e : Nat) : ∀ k < (typedF row e).length, askF (typedF row e) (typed sp) k = toldF row sp ((ownersF e).getD k 0) ∧ askR (typedF row e) (typed sp) k = toldF row sp ((ownersF e).getD k 0) := by
  intro k hk
  rw [typedF_idx, List.length_map] at hk
  have hm : (idxF e)[k] ∈ idxF e := List.getElem_mem _
  rw [typedF_idx, owners_idx]
  unfold askF askR toldF typed
  rw [getD_map _ _ _ hk, getD_map _ _ _ hk, List.map_map, List.map_map]
  generalize (idxF e)[k] = i at hm
  constructor
  all_goals
    refine List.map_congr_left fun j hj => ?_
    have hj' : j < 7 := by simp at hj; omega
    simp only [Function.comp]
    rcases idx_le e hm with hi | rfl
    · rw [if_neg (by omega)]
      first
        | rw [let_cost hi hj' (row_three hr hi) (row_three hs hj')]
        | rw [let_cost hj' hi (row_three hs hj') (row_three hr hi)]
      by_cases q : i = j
      · subst q
        simp only [beq_self_eq_true, if_true]
        rw [diff_three (row_three hr hi) (row_three hs hi)]
        try rw [Bool.beq_comm]
        try rfl
      · have q1 : (i == j) = false := by simpa using q
        have q2 : (j == i) = false := by simpa using fun h : j = i => q h.symm
        have q3 : ¬ ((i : Nat) : Int) = (j : Int) := by omega
        simp only [q1, q2, q3, if_false, Bool.false_eq_true]
    · have p := pt_let e hj' (row_three hs hj')
      have q3 : ¬ ((7 : Nat) : Int) = (j : Int) := by omega
      rw [if_pos rfl, if_neg q3]
      first | exact p.2.2.1 | exact p.2.2.2
theorem let_ok {row : List Int} (hr : Row7 row) (e : Nat) : ∀ n ∈ typedF row e, b1S (n : Nat) = false → n ∈ letters := by
  intro n hn hb
  rw [typedF_idx] at hn
  obtain ⟨i, hi, rfl⟩ := List.mem_map.mp hn
  rcases idx_le e hi with h | rfl
  · rw [if_neg (by omega)]; exact (let_own h (row_three hr h)).1
  · rw [if_pos rfl, pt_b1] at hb; cases hb
theorem low_ok {row : List Int} (hr : Row7 row) (e : Nat) : Txt.join (T []) (((typedF row e).filter fun n : Nat => !b1S n).map fun n => Txt.lower (T [n])) = T (typed zero7) := by
  have t1 : ∀ n ∈ typed row, b1S (n : Nat) = false := by
    intro n hn
    unfold typed at hn
    obtain ⟨i, hi, rfl⟩ := List.mem_map.mp hn
    have h : i < 7 := by simp at hi; omega
    exact (let_own h (row_three hr h)).2.1
  have f1 : ∀ l : List Nat, (∀ n ∈ l, n ∈ typed row) → l.filter (fun n : Nat => !b1S n) = l := fun l h => List.filter_eq_self.mpr fun n hn => by rw [t1 n (h n hn)]; rfl
  have f2 : (putIn e).filter (fun n : Nat => !b1S n) = [] := by
    rw [List.filter_eq_nil_iff]
    intro n hn
    rw [put_rep] at hn
    rw [List.eq_of_mem_replicate hn, pt_b1]; simp
  have e1 : (typedF row e).filter (fun n : Nat => !b1S n) = typed row := by
    unfold typedF
    rw [List.filter_append, List.filter_append, f2, f1 _ fun n h => List.mem_of_mem_take h, f1 _ fun n h => List.mem_of_mem_drop h, List.append_nil, List.take_append_drop]
  rw [e1]
  have e2 : ((typed row).map fun n => Txt.lower (T [n])) = (typed zero7).map fun n => T [n] := by
    unfold typed
    rw [List.map_map, List.map_map]
    refine List.map_congr_left fun i hi => ?_
    have h : i < 7 := by simp at hi; omega
    simp only [Function.comp]
    rw [(let_own h (row_three hr h)).2.2]
    have : zero7.getD i 0 = 0 := by
      have : ∀ i < 7, zero7.getD i 0 = 0 := by decide
      exact this i h
    rw [this]
  rw [e2, joinT]
end Mine

end
section
open PySem PySem.W PySem.Calls PyProof.Rows Builtin.Str
set_option maxRecDepth 20000
set_option linter.unusedVariables false
set_option linter.unusedSimpArgs false
namespace Mine
local macro_rules | `(tactic| omega) => `(tactic| lia)
open Builtin.Int (intBits)

/-! the signs as codes -/
def deC (row sp : List Int) (s : Nat) (x : Nat) : Nat := if x = 100 then s else if x % 2 = 0 then formI (x / 2) (sp.getD (x / 2) 0) else formI (x / 2) (row.getD (x / 2) 0)
def okC (row sp : List Int) (x : Nat) : Prop := x = 100 ∨ ∃ i < 7, x = 2 * i ∨ (x = 2 * i + 1 ∧ row.getD i 0 ≠ sp.getD i 0)
theorem deC_even {row sp : List Int} {s i : Nat} (hi : i < 7) : deC row sp s (2 * i) = formI i (sp.getD i 0) := by
  unfold deC
  rw [if_neg (by omega), if_pos (by omega), show 2 * i / 2 = i by omega]
theorem deC_odd {row sp : List Int} {s i : Nat} (hi : i < 7) : deC row sp s (2 * i + 1) = formI i (row.getD i 0) := by
  unfold deC
  rw [if_neg (by omega), if_neg (by omega), show (2 * i + 1) / 2 = i by omega]
theorem tells {row sp : List Int} (hr : Row7 row) (hs : Row7 sp) (e : Nat) : TellsF (okC row sp) (deC row sp (ptI e)) cK := by
  have hS : ∀ x, okC row sp x → x = 100 ∨ ∃ i < 7, ∃ t < 2, ∃ u ∈ three, x = 2 * i + t ∧ deC row sp (ptI e) x = formI i u ∧ (t = 0 → u = sp.getD i 0) ∧ (t = 1 → u = row.getD i 0 ∧ row.getD i 0 ≠ sp.getD i 0) := by
    intro x hx
    rcases hx with h | ⟨i, hi, h | ⟨h, hne⟩⟩
    · exact .inl h
    · subst h
      exact .inr ⟨i, hi, 0, by omega, _, row_three hs hi, rfl, deC_even hi, fun _ => rfl, fun q => absurd q (by decide)⟩
    · subst h
      exact .inr ⟨i, hi, 1, by omega, _, row_three hr hi, rfl, deC_odd hi, fun q => absurd q (by decide), fun _ => ⟨rfl, hne⟩⟩
  have h100 : deC row sp (ptI e) 100 = ptI e := by simp [deC]
  constructor
  · intro x y hx hy
    rcases hS x hx with rfl | ⟨i, hi, t, ht, u, hu, rfl, fu, u0, u1⟩
    · rcases hS y hy with rfl | ⟨j, hj, t', ht', v, hv, rfl, fv, v0, v1⟩
      · simp
      · rw [h100, fv, (pt_let e hj hv).1]
        have : ¬ 100 = 2 * j + t' := by omega
        simpa using this
    · rcases hS y hy with rfl | ⟨j, hj, t', ht', v, hv, rfl, fv, v0, v1⟩
      · rw [h100, fu, (pt_let e hi hu).2.1]
        have : ¬ 2 * i + t = 100 := by omega
        simpa using this
      · rw [fu, fv, let_eq hi hj hu hv]
        by_cases q : i = j
        · subst q
          have a : t = 0 ∨ t = 1 := by omega
          have b : t' = 0 ∨ t' = 1 := by omega
          rcases a with rfl | rfl <;> rcases b with rfl | rfl
          · rw [u0 rfl, v0 rfl]; simp
          · have := (v1 rfl); rw [u0 rfl, this.1]
            have h2 : ¬ sp.getD i 0 = row.getD i 0 := fun h => this.2 h.symm
            rw [beq_eq_false_iff_ne.mpr h2, Bool.and_false]
            exact (beq_eq_false_iff_ne.mpr (by omega)).symm
          · have := (u1 rfl); rw [v0 rfl, this.1]
            have h2 := this.2
            rw [beq_eq_false_iff_ne.mpr h2, Bool.and_false]
            exact (beq_eq_false_iff_ne.mpr (by omega)).symm
          · rw [(u1 rfl).1, (v1 rfl).1]; simp
        · have q1 : (i == j) = false := by simpa using q
          have q2 : ¬ 2 * i + t = 2 * j + t' := by omega
          rw [q1]
          simp [q2]
  · intro x y hx hy
    unfold cK
    rcases hS x hx with rfl | ⟨i, hi, t, ht, u, hu, rfl, fu, u0, u1⟩
    · rcases hS y hy with rfl | ⟨j, hj, t', ht', v, hv, rfl, fv, v0, v1⟩
      · simp [subCost]
      · rw [h100, fv, (pt_let e hj hv).2.2.1]
        have a : ¬ 100 = 2 * j + t' := by omega
        have b : ¬ 100 / 2 = (2 * j + t') / 2 := by omega
        simp [a]; omega
    · rcases hS y hy with rfl | ⟨j, hj, t', ht', v, hv, rfl, fv, v0, v1⟩
      · rw [h100, fu, (pt_let e hi hu).2.2.2]
        have a : ¬ 2 * i + t = 100 := by omega
        simp [a]; omega
      · rw [fu, fv, let_cost hi hj hu hv]
        have d1 : (2 * i + t) / 2 = i := by omega
        have d2 : (2 * j + t') / 2 = j := by omega
        rw [d1, d2]
        by_cases q : i = j
        · subst q
          simp only [beq_self_eq_true, if_true]
          have a : t = 0 ∨ t = 1 := by omega
          have b : t' = 0 ∨ t' = 1 := by omega
          rcases a with rfl | rfl <;> rcases b with rfl | rfl
          · rw [u0 rfl, v0 rfl]; simp
          · have := (v1 rfl); rw [u0 rfl, this.1]
            have h2 : ¬ sp.getD i 0 = row.getD i 0 := fun h => this.2 h.symm
            rw [if_neg (fun q => h2 (eq_of_beq q)), if_neg (fun q => by have := eq_of_beq q; omega)]
          · have := (u1 rfl); rw [v0 rfl, this.1]
            have h2 := this.2
            rw [if_neg (fun q => h2 (eq_of_beq q)), if_neg (fun q => by have := eq_of_beq q; omega)]
          · rw [(u1 rfl).1, (v1 rfl).1]; simp
        · have q1 : (i == j) = false := by simpa using q
          have q2 : ¬ 2 * i + t = 2 * j + t' := by omega
          simp [q1, q2]
theorem unlike_iff {row sp : List Int} {i : Nat} (hi : i < 7) : (unlike row sp).contains i = (row.getD i 0 != sp.getD i 0) := by
  rw [Bool.eq_iff_iff, List.contains_iff_mem]
  unfold unlike
  rw [List.mem_filter]
  constructor
  · exact fun h => h.2
  · exact fun h => ⟨mem7 hi, h⟩
theorem codeA_ok {row sp : List Int} : ∀ x ∈ codeA (unlike row sp), okC row sp x := by
  intro x hx
  unfold codeA at hx
  obtain ⟨i, hi, rfl⟩ := List.mem_map.mp hx
  have h : i < 7 := by simp at hi; omega
  rw [unlike_iff h]
  by_cases q : row.getD i 0 = sp.getD i 0
  · exact .inr ⟨i, h, .inl (by rw [if_neg (by rw [bne_iff_ne]; exact fun k => k q)]; rfl)⟩
  · exact .inr ⟨i, h, .inr ⟨by rw [if_pos (by rw [bne_iff_ne]; exact q)], q⟩⟩
theorem codeB_ok {row sp : List Int} : ∀ x ∈ codeB, okC row sp x := by
  intro x hx
  unfold codeB at hx
  obtain ⟨i, hi, rfl⟩ := List.mem_map.mp hx
  have h : i < 7 := by simp at hi; omega
  exact .inr ⟨i, h, .inl rfl⟩
theorem codeA_map {row sp : List Int} {s : Nat} : (codeA (unlike row sp)).map (deC row sp s) = typed row := by
  unfold codeA typed
  rw [List.map_map]
  refine List.map_congr_left fun i hi => ?_
  have h : i < 7 := by simp at hi; omega
  simp only [Function.comp]
  rw [unlike_iff h]
  by_cases q : row.getD i 0 = sp.getD i 0
  · rw [if_neg (by rw [bne_iff_ne]; exact fun k => k q), Nat.add_zero, deC_even h, q]
  · rw [if_pos (by rw [bne_iff_ne]; exact q), deC_odd h]
theorem codeB_map {row sp : List Int} {s : Nat} : codeB.map (deC row sp s) = typed sp := by
  unfold codeB typed
  rw [List.map_map]
  refine List.map_congr_left fun i hi => ?_
  have h : i < 7 := by simp at hi; omega
  exact deC_even h
theorem codeW_ok {row sp : List Int} {wh m : Nat} : ∀ x ∈ codeW (unlike row sp) wh m, okC row sp x := by
  intro x hx
  unfold codeW at hx
  rcases List.mem_append.mp hx with hx | hx
  · rcases List.mem_append.mp hx with hx | hx
    · exact codeA_ok x (List.mem_of_mem_take hx)
    · exact .inl (List.eq_of_mem_replicate hx)
  · exact codeA_ok x (List.mem_of_mem_drop hx)
theorem codeW_map {row sp : List Int} {e : Nat} : (codeW (unlike row sp) (whereF e) (putIn e).length).map (deC row sp (ptI e)) = typedF row e := by
  unfold codeW typedF
  rw [List.map_append, List.map_append, List.map_take, List.map_drop, codeA_map, List.map_replicate]
  conv => rhs; rw [put_rep e]
  simp [deC]
theorem due_ok {row sp : List Int} (hr : Row7 row) (hs : Row7 sp) (hu : unlike row sp ∈ unl) (e : Nat) : lev (typedF row e) (typed sp) (dueF row sp (putIn e).length) = dueF row sp (putIn e).length ∧ lev (typed sp) (typedF row e) (dueF row sp (putIn e).length) = dueF row sp (putIn e).length := by
  have hm : (putIn e).length < 3 := by have := putIn_len e; omega
  have h := pat_all hm (where_lt e) hu
  unfold patK at h
  rw [Bool.and_eq_true] at h
  have t := tells hr hs e
  have a := gLev_eq t (codeW_ok (wh := whereF e) (m := (putIn e).length)) codeB_ok (dueF row sp (putIn e).length)
  have b := gLev_eq t codeB_ok (codeW_ok (wh := whereF e) (m := (putIn e).length)) (dueF row sp (putIn e).length)
  rw [codeW_map, codeB_map] at a b
  exact ⟨by rw [a]; exact eq_of_beq h.1, by rw [b]; exact eq_of_beq h.2⟩
theorem zero_get {i : Nat} (hi : i < 7) : zero7.getD i 0 = 0 := by
  have : ∀ i < 7, zero7.getD i 0 = 0 := by decide
  exact this i hi
theorem nz_unlike (sp : List Int) : nzF sp = unlike sp zero7 := by
  unfold nzF unlike
  refine List.filter_congr fun i hi => ?_
  have h : i < 7 := by simp at hi; omega
  rw [zero_get h]
theorem near_ok {sp : List Int} (hs : Row7 sp) : lev (typed sp) (typed zero7) ((((nzF sp).length : Nat) : Int) - 1) = ((nzF sp).length : Nat) := by
  have h := near_all sp
  unfold nearK at h
  have a := gLev_eq (tells hs zero7_ok 0) codeA_ok codeB_ok ((((nzF sp).length : Nat) : Int) - 1)
  rw [codeA_map, codeB_map] at a
  rw [a, ← nz_unlike]
  exact eq_of_beq h
/-! the sizes -/
def deS (x : Nat) : Nat := if x % 2 = 1 then 65 + x / 2 else 97 + x / 2
theorem tellsS : TellsF (· < 16) deS cK := by
  have h1 : ∀ x < 16, ∀ y < 16, (deS x == deS y) = (x == y) := by decide +kernel
  have h2 : ∀ x < 16, ∀ y < 16, subCost (T [deS x]) (T [deS y]) = cK x y := by decide +kernel
  exact ⟨fun x y hx hy => h1 x hx y hy, fun x y hx hy => h2 x hx y hy⟩
theorem codeS_ok (n : Nat) : ∀ x ∈ codeS n, x < 16 := by
  intro x hx
  unfold codeS at hx
  obtain ⟨k, hk, rfl⟩ := List.mem_map.mp hx
  have : k < 8 := by simp at hk; omega
  split <;> omega
theorem codeS_map (n : Nat) : (codeS n).map deS = sizes n := by
  unfold codeS sizes
  rw [List.map_map]
  refine List.map_congr_left fun k hk => ?_
  simp only [Function.comp]
  unfold deS
  by_cases q : (n / 2 ^ k % 2 == 1) = true
  · rw [if_pos q, if_pos q, if_pos (by omega)]; omega
  · rw [if_neg q, if_neg q, if_neg (by omega)]; omega
theorem siz_ok {w : Int} (hw : -63 ≤ w ∧ w ≤ 63) : lev (sizes w.natAbs) (sizes (thOf w)) ((nzF (spOf w)).length : Nat) = ((nzF (spOf w)).length : Nat) := by
  have h := siz_all hw
  unfold sizK at h
  have a := gLev_eq tellsS (codeS_ok w.natAbs) (codeS_ok (thOf w)) ((nzF (spOf w)).length : Nat)
  rw [codeS_map, codeS_map] at a
  rw [a]
  exact eq_of_beq h
end Mine

end
section
open PySem PySem.W PySem.Calls PyProof.Rows Builtin.Str
set_option maxRecDepth 20000
set_option linter.unusedVariables false
set_option linter.unusedSimpArgs false
namespace Mine
local macro_rules | `(tactic| omega) => `(tactic| lia)
open Builtin.Int (intBits)

theorem rowsF_val : ∀ (p : Nat) (n : Int), ∀ x ∈ rowsF p n, ∀ v ∈ x, v = -1 ∨ v = 0 ∨ v = 1
  | 0, n, x, h, v, hv => by
    unfold rowsF at h
    split at h
    · obtain rfl := List.mem_singleton.mp h; cases hv
    · cases h
  | p + 1, n, x, h, v, hv => by
    unfold rowsF at h
    have key : ∀ {f : Int} {m : Int}, (f = -1 ∨ f = 0 ∨ f = 1) → x ∈ (rowsF p m).map (f :: ·) → v = -1 ∨ v = 0 ∨ v = 1 := by
      intro f m hf hx
      obtain ⟨y, hy, rfl⟩ := List.mem_map.mp hx
      rcases List.mem_cons.mp hv with rfl | hv
      · exact hf
      · exact rowsF_val p m y hy v hv
    split at h
    · exact key (by omega) h
    · rcases List.mem_append.mp h with h | h
      · exact key (by omega) h
      · exact key (by omega) h
theorem rows7_ok (n : Int) : ∀ y ∈ rowsF 7 n, Row7 y := fun y h => ⟨rowsF_row 7 n y h, rowsF_val 7 n y h⟩

structure RowOk (row : List Int) : Prop where
  w : -63 ≤ worthF row ∧ worthF row ≤ 63
  p : 0 ≤ signF 1 row ∧ signF 1 row < 64
  m : 0 ≤ signF (-1) row ∧ signF (-1) row < 64
  d2i : d2iF row 1 = some (worthF row)
  mask : signF 1 row + signF (-1) row = maskF (nzF row)
  oct : octK (signF 1 row) (signF (-1) row) = true
  unl : unlike row (spOf (worthF row)) ∈ unl
theorem row_ok {row : List Int} (h : row ∈ dig3 6) : RowOk row := by
  have k := rowK_all h
  unfold rowK at k
  simp only [Bool.and_eq_true, decide_eq_true_eq] at k
  obtain ⟨⟨⟨⟨⟨k1, k2⟩, k3⟩, k4⟩, k5⟩, k6⟩ := k
  exact ⟨k1, ⟨k2.1, k2.2.1⟩, ⟨k2.2.2.1, k2.2.2.2⟩, by rw [d2ik_eq]; exact eq_of_beq k3, eq_of_beq k4, k5, List.contains_iff_mem.mp k6⟩
structure OctOk (p m : Int) (x y : UInt8) : Prop where
  gx : (byteArr [192 + p, 128 + m])[0]? = some x
  gy : (byteArr [192 + p, 128 + m])[1]? = some y
  hx : (Builtin.bitAnd (x.toNat : Int) 64 != 0) = true
  hy : (Builtin.bitAnd (y.toNat : Int) 64 != 0) = false
  xb : intBits (Builtin.bitAnd (x.toNat : Int) 63) ≤ 1000
  v0 : 0 ≤ varF x y
  dm : dmF 10 (varF x y) 64 = some (p, m)
theorem oct_ok {p m : Int} (h : octK p m = true) : OctOk p m (p + 192).toNat.toUInt8 (m + 128).toNat.toUInt8 := by
  unfold octK at h
  simp only [Bool.and_eq_true, decide_eq_true_eq, Bool.not_eq_true'] at h
  obtain ⟨⟨⟨⟨k1, k2⟩, k3⟩, k4⟩, k5⟩ := h
  refine ⟨?_, ?_, k1, k2, by rw [bitsK_eq]; exact k3, k4, by rw [dmK_eq]; exact eq_of_beq k5⟩
  · rw [Int.add_comm 192 p]; rfl
  · rw [Int.add_comm 128 m]; rfl
structure WOk (w : Int) (M : Int) (Mx : Nat) (bits : List Int) : Prop where
  sp : (rowsF 7 w).find? isSparse = some (spOf w)
  Mmem : M ∈ (rowsF 7 w).map costF
  Mle : ∀ a ∈ (rowsF 7 w).map costF, M ≤ a
  Mxb : Mx ≤ 1000
  Mxm : (Mx : Int) ∈ (rowsF 7 w).map costF
  Mxl : ∀ a ∈ (rowsF 7 w).map costF, a ≤ Mx
  Mis : M = ((nzF (spOf w)).length : Nat)
  gbits : i2d (w.natAbs : Nat) 1 = some bits
  bitsl : bits.length ≤ 1000
  th : d2iF (bits.map (3 * ·)) 1 = some (thOf w : Int)
  xor : (Builtin.bitXor (w.natAbs : Nat) (thOf w : Int)).fdiv 2 = maskF (nzF (spOf w))
theorem w_ok {w : Int} (hw : -63 ≤ w ∧ w ≤ 63) : WOk w (minL (costsOf w)) (maxL (costsOf w)).toNat (bitsOf w) := by
  have k := wK_all hw
  unfold wK at k
  simp only [Bool.and_eq_true, decide_eq_true_eq] at k
  obtain ⟨⟨⟨⟨⟨⟨⟨⟨⟨⟨k1, k2⟩, k3⟩, k4⟩, k5⟩, k6⟩, k7⟩, k8⟩, k9⟩, k10⟩, k11⟩ := k
  have e : (((maxL (costsOf w)).toNat : Nat) : Int) = maxL (costsOf w) := Int.toNat_of_nonneg k6.1
  refine ⟨eq_of_beq k1, List.contains_iff_mem.mp k2, fun a h => of_decide_eq_true (List.all_eq_true.mp k3 a h), ?_, ?_, fun a h => ?_, eq_of_beq k7, ?_, k9, ?_, eq_of_beq k11⟩
  · have := k6.2; unfold costsOf; omega
  · rw [e]; exact List.contains_iff_mem.mp k4
  · rw [e]; exact of_decide_eq_true (List.all_eq_true.mp k5 a h)
  · rw [i2dk_eq]; exact eq_of_beq k8
  · rw [d2ik_eq]; exact eq_of_beq k10
structure FigOk (d : Nat) (w : Int) (whole q1 below fig r2 : Int) : Prop where
  wh : wholeL (unitF d) (stepF d) (List.range' 0 7) 1 = some whole
  wh0 : 0 ≤ whole
  dm1 : dmF 10 whole (stepF d ^ (w + 128).toNat) = some (q1, below)
  b0 : 0 ≤ below
  dm2 : dmF 10 below (stepF d ^ (w + 127).toNat) = some (fig, r2)
  i2d1 : i2d fig (d : Nat) = some (countsF ((rowsF 7 w).map costF) (maxL (costsOf w)).toNat)
theorem fig_ok {d : Nat} {w : Int} (h : figK d w = true) : ∃ whole q1 below fig r2, FigOk d w whole q1 below fig r2 := by
  unfold figK at h
  split at h
  case h_2 => cases h
  next whole e1 =>
  rw [Bool.and_eq_true] at h
  obtain ⟨h0, h⟩ := h
  split at h
  case h_2 => cases h
  next q1 below e2 =>
  rw [Bool.and_eq_true] at h
  obtain ⟨h1, h⟩ := h
  split at h
  case h_2 => cases h
  next fig r2 e3 =>
  exact ⟨whole, q1, below, fig, r2, by rw [unit_pw, wholeK_eq]; exact e1, of_decide_eq_true h0, by rw [step_pw, dmK_eq]; exact e2, of_decide_eq_true h1, by rw [step_pw, dmK_eq]; exact e3, by rw [i2dk_eq]; exact eq_of_beq h⟩

theorem law_ok {row : List Int} (hr : Row7 row) (h6 : row.getD 6 0 = 0) {e : Nat} (he : e < 1000000) : ∃ d : Data row e, LawOk row e d := by
  have R := row_ok (row_mem hr h6)
  have O := oct_ok R.oct
  have W := w_ok R.w
  obtain ⟨whole, q1, below, fig, r2, F⟩ := fig_ok (fig_all R.w e)
  have hs : Row7 (spOf (worthF row)) := rows7_ok _ _ (List.mem_of_find?_eq_some W.sp)
  obtain ⟨out1, p1, o1, n1⟩ := names_of row R.mask
  obtain ⟨out2, p2, o2, n2⟩ := names_of (spOf (worthF row)) W.xor
  refine ⟨⟨spOf (worthF row), minL (costsOf (worthF row)), (maxL (costsOf (worthF row))).toNat, whole, q1, below, fig, r2, bitsOf (worthF row), thOf (worthF row), out1, out2, (signF 1 row + 192).toNat.toUInt8, (signF (-1) row + 128).toNat.toUInt8⟩, ?_⟩
  exact {
    row7 := hr
    e6 := he
    w := by have := R.w; omega
    rows7 := rows7_ok _
    sp := W.sp
    p := R.p
    m := R.m
    x := O.gx
    y := O.gy
    hx := O.hx
    hy := O.hy
    xb := O.xb
    v0 := O.v0
    dm0 := O.dm
    d2i := R.d2i
    pf1 := p1
    ok1 := o1
    nm1 := n1
    let_ := let_ok hr e
    low := low_ok hr e
    Mmem := W.Mmem
    Mle := W.Mle
    Mxb := W.Mxb
    Mxm := W.Mxm
    Mxl := W.Mxl
    wh := F.wh
    wh0 := F.wh0
    dm1 := F.dm1
    b0 := F.b0
    dm2 := F.dm2
    i2d1 := F.i2d1
    bits := W.gbits
    bitsl := W.bitsl
    th := W.th
    thb := by have := R.w; show 3 * (worthF row).natAbs ≤ 1000; omega
    pf2 := p2
    ok2 := o2
    nm2 := n2
    lev1 := by show lev _ _ (minL _) = minL _; rw [W.Mis]; exact siz_ok R.w
    lev2 := by show lev _ _ (minL _ - 1) = minL _; rw [W.Mis]; exact near_ok hs
    ask := ask_ok hr hs e
    due0 := fun _ => (due_ok hr hs R.unl e).1
    due1 := fun _ => (due_ok hr hs R.unl e).2 }
theorem law_all (ns : List Int) : ∃ d : Data (rowF ns) (extraF ns), LawOk (rowF ns) (extraF ns) d := law_ok (rowF_ok ns) (rowF_last ns) (extraF_lt ns)
end Mine

end
section
open PySem PySem.W PySem.Calls PyProof.Rows Builtin.Str
set_option maxRecDepth 100000
set_option linter.unusedVariables false
set_option linter.unusedSimpArgs false
namespace Mine
local macro_rules | `(tactic| omega) => `(tactic| lia)

abbrev theRow : RowW := PySem.Challenge.rw_us0025_01.row.toRowW

theorem ints_of_wit : ∀ xs : List WData, WShape.hasItems [] xs .int = true → ∃ ns : List Int, xs = ofPys (ns.map PyData.int)
  | [], _ => ⟨[], rfl⟩
  | x :: xs, h => by
    simp only [WShape.hasItems, Bool.and_eq_true] at h
    obtain ⟨i, rfl⟩ := hasW_int h.1
    obtain ⟨ns, rfl⟩ := ints_of_wit xs h.2
    exact ⟨i :: ns, rfl⟩
theorem ofPys_len : ∀ xs : List PyData, (ofPys xs).length = xs.length
  | [] => rfl
  | x :: xs => by simp [ofPys, ofPys_len xs]
theorem args_are {args : List WData} (h : theRow.claim.pre args = true) : ∃ ns : List Int, args = [ofPy (PyData.list (ns.map PyData.int))] ∧ ns.length ≤ 63 := by
  obtain ⟨h1, h2⟩ := pre_splitW h
  obtain ⟨d, r, rfl, h3, h4⟩ := hasAllW_cons (es := []) h1
  obtain rfl := hasAllW_nil h4
  obtain ⟨xs, rfl, h5⟩ := hasW_list h3
  obtain ⟨ns, rfl⟩ := ints_of_wit xs h5
  refine ⟨ns, rfl, ?_⟩
  obtain ⟨h6, _⟩ := holds_andW (show (WTm.and (.not (.lt (.lit (.int (63 : Nat))) (.len (.arg 0)))) (.lit (.bool true))).holds [] { args := [WData.list (ofPys (ns.map PyData.int))] } = true from h2)
  simp [WTm.holds, WTm.value, ofPys_len, less?, Num.less?] at h6
  by_cases q : 63 < ns.length
  · have : (63 : Int) < (ns.length : Int) := by omega
    simp [this] at h6
  · omega

theorem pinned {w : World} {s₀ s₁ : Shared} (L : Left w s₀ s₁) : isTheDefsW PW s₁.heap (Str.ofString "law") := by
  obtain ⟨hsame, keep, mb, mg, c0, Pl, lo, vs, l, ⟨c1, P1, hB⟩, hlo, hc, hPl, hPlo, hM, hmade⟩ := L
  obtain ⟨v, a, b, e, _, _, hv⟩ := hmade.get item_31
  obtain ⟨a1, c1', P, pm1, rfl, l1, l2, l3, l4, l5, l6, x1, x2, x3, x4⟩ : VDef _ _ _ _ Pl a b v s₁.heap := hv
  refine ⟨a1, _, _, fnArgs 31, bodyAt 31, scopeAt 31, ?_, x1, rfl, by kernel_rfl, rfl, rfl, rfl, rfl, rfl, rfl, rfl, rfl, ⟨.inl ⟨by kernel_rfl, rfl⟩, [], by kernel_rfl, .inl ⟨rfl, rfl⟩⟩⟩
  rw [Claim2Try.globalOf_of_ns hM.g, mgAfter_get _ hmade]
  have : lastIdx (Str.ofString "law") (items.map (·.name)) = some 31 := by rw [items_names]; decide +kernel
  rw [this]
  exact e

theorem tabE_of {h : Heap} {P : Addr} {pos : Pos} {q : Str} (e : h.get? P = some (tabObj #[])) : TabE P pos q h := ⟨#[], e, by simp [TriplesOk], .inl rfl⟩
theorem isTab_of {vs : List Value} {h : Heap} {n : Nat} {x : String} {P : Addr} (H : TabD vs h n x P) : isCodeTable h P := let ⟨_, _, _, _, _, _, _, t⟩ := H; t.isCodeTable
theorem isCodeTable_keep {h h' : Heap} {P : Addr} (k : ∀ b o, h.get? b = some o → h'.get? b = some o) (x : isCodeTable h P) : isCodeTable h' P := let ⟨c, o, vs, a, r⟩ := x; ⟨c, o, vs, k _ _ a, r⟩
theorem oldK_of {s s' : Shared} {P Q : Addr} (k : KpS (fun b => b = P ∨ b = Q) s s') (tP : s.heap.get? P = some (tabObj #[])) (tQ : s.heap.get? Q = some (tabObj #[])) (cP : isCodeTable s.heap P) (cQ : isCodeTable s.heap Q)
    (fP : ∃ ps, s'.heap.get? P = some (tabObj ps)) (fQ : ∃ ps, s'.heap.get? Q = some (tabObj ps)) : OldK s.heap s'.heap := by
  have one : ∀ {R : Addr} {o : Obj}, s.heap.get? R = some (tabObj #[]) → isCodeTable s.heap R → (∃ ps, s'.heap.get? R = some (tabObj ps)) → s.heap.get? R = some o → asItWas s.heap s'.heap R o := by
    intro R o t c ⟨ps, f⟩ e
    rw [t] at e; cases e
    exact .inr (.inl ⟨c, rfl, #[], ps, rfl, by rw [f]; simp [tabObj]⟩)
  refine ⟨fun b o e => ?_, fun b o e => ?_⟩
  · by_cases h1 : b = P
    · subst h1; exact one tP cP fP e
    · by_cases h2 : b = Q
      · subst h2; exact one tQ cQ fQ e
      · exact .inl (k.k b o e fun m => m.elim h1 h2)
  · by_cases h1 : b = P
    · subst h1; obtain ⟨ps, f⟩ := fP; exact ⟨_, f⟩
    · by_cases h2 : b = Q
      · subst h2; obtain ⟨ps, f⟩ := fQ; exact ⟨_, f⟩
      · exact ⟨o, k.k b o e fun m => m.elim h1 h2⟩

theorem room_caller : Room callerA 101 := by
  refine ⟨rfl, ?_, ?_⟩ <;> decide +kernel

theorem post_true (args : List WData) : theRow.claim.post args (.bool true) args = true := by
  refine Bool.and_eq_true_iff.mpr ⟨by rfl, ?_⟩
  show (WTm.eq .res (.lit (.bool true))).holds [] { args := args, res := some (.bool true), after := args } = true
  simp [WTm.holds, WTm.value, same_self]
theorem the_call {w : World} {s₀ s : Shared} (L0 : Left w s₀ s) (hz : s.asleep) (hgens : s.gens = #[]) {free : Addr → Prop} {gens : Prop} {kept : Heap → Prop} (hkept : ∀ h, kept h) :
    theRow.claim.CallFrom (callStub (Str.ofString "law")) w free gens kept s := by
  obtain ⟨c, lo, lv, mg0, Pl, P, Q, H⟩ := head_c L0
  have T := topG H
  refine ClaimW.callFrom_of_specG (c := theRow.claim) (tree := fun vs => do match ← nsGet mainNs (Str.ofString "law") with
      | some f => do ret (← PySem.call f vs)
      | none => unsupported "claim.caller:no-such-global") hz hgens fun args hpre hlay ord hord => ?_
  obtain ⟨⟨vs, s₁⟩, hlaid⟩ := Option.isSome_iff_exists.mp (layAllW_isSome (P := w.params) (ord := ord) (R := []) (cl := classAt s.heap) (by intro c h; cases h) args theRow.args s (pre_splitW hpre).1)
  have keeps := layAllW_keeps _ _ _ hlaid
  have hal := layAllW_rest _ _ _ hlaid
  obtain ⟨as, hrd, hin, hold⟩ := reads_layAllW hord _ _ _ hlaid hlay s₁.heap (fun _ _ e => e)
  have L : Laid [] w s s₁ args vs as := ⟨⟨ord, hord, hlaid⟩, hrd, hin, hold, keeps, hal.1.trans hgens, hal.2.2.1⟩
  obtain ⟨ns, rfl, hn⟩ := args_are hpre
  obtain ⟨v, vs', as1, as2, rfl, rfl, r1, r2⟩ := readsAllW_cons_inv hrd
  obtain ⟨rfl, rfl⟩ := readsAllW_nil_inv r2
  have r1' := reads_of_readsW _ r1
  cases r1' with
  | list ho hc hd ha =>
  rename_i a o us n as'
  have hi := (readsAll_intsAre ha).1
  have hpl : s₁.heap.PlainList a us := ⟨0, PySem.W.X.script_obj L ⟨o, ho, hc, n, hd⟩⟩
  have hb : c.In s₁.heap := fun b o e => keeps b o (T.inh b o e)
  obtain ⟨d, K⟩ := law_all ns
  have kP := keeps _ _ T.tP
  have kQ := keeps _ _ T.tQ
  have call := law_call T hn K room_caller hb (tabE_of kP) (tabE_of kQ) hpl hi
  have hM : c.M = model PW w := by show model c.prog c.w = _; rw [T.prog, T.wo]
  rw [hM] at call
  have hg : s₁.heap.Ns mainGlobals c.mg := c.g.at (hb _)
  have hmg : c.mg (Str.ofString "law") = some (.ref (c.fa 31)) := T.law.1
  have cP : isCodeTable s₁.heap P := isCodeTable_keep keeps (isTab_of H.d10)
  have cQ : isCodeTable s₁.heap Q := isCodeTable_keep keeps (isTab_of H.d11)
  refine ⟨_, s₁, hlaid, ?_⟩
  refine wpAny_bind (wpAny_nsGet hg ?_)
  rw [hmg]
  refine wpAny_bind (wpAny_mono call (fun v s' ⟨hv, k, f1, f2⟩ => wpAny_pure ?_) fun _ _ x => x.elim)
  subst hv
  have tk : s'.os = s₁.os ∧ s'.gens = s₁.gens := by obtain ⟨h', t', rfl, _⟩ := k; exact ⟨rfl, rfl⟩
  have K' := oldK_of k kP kQ cP cQ (let ⟨ps, cv, e, _⟩ := f1; ⟨ps, e⟩) (let ⟨ps, cv, e, _⟩ := f2; ⟨ps, e⟩)
  have g : GoodWG theRow.claim (classAt s.heap) (ExcName.means s.heap) [ofPy (PyData.list (ns.map PyData.int))] s₁ (.ok (.ret (.bool true))) s' :=
    ⟨.inl ⟨_, .bool true, [], rfl, fun _ => rfl, ReadsW.bool true, post_true _, fun _ => ⟨List.nodup_nil, fun _ hm => (nomatch hm)⟩⟩, K', tk.1, .of_eq (tk.2.trans L.gens)⟩
  have z := g.laid (c := theRow.claim) rfl rfl (ident_freeW rfl rfl rfl) L
  exact ⟨_, rfl, z.1, z.2.1, z.2.2, hkept _⟩
theorem law_holds (said : PySem.Challenge.rw_us0025_01.row.wellSaid = true) (hw : theRow.promised) (hb : PW.bare) (ho : opensWell PW = true) : PySem.Challenge.rw_us0025_01.row.Holds := by
  refine ⟨said, hw, ⟨hb, ho, rfl⟩, hw.witness, fun w => ⟨(booted w).1, fun s hs => ?_⟩⟩
  obtain ⟨⟨hB, hg⟩, hz⟩ := (booted w).2 s hs
  obtain ⟨s₁, hT, L, hg₁, hz₁⟩ := topRan w hB hg hz
  refine ⟨s, rfl, hg, s₁, hT, fun n hn => ?_, fun x hx => (nomatch hx), fun x hx => (nomatch hx), the_call L hz₁ hg₁ fun h q => by cases q⟩
  obtain rfl := List.mem_singleton.mp (show n ∈ [Str.ofString "law"] from hn)
  exact pinned L
end Mine

end
section
open PySem PySem.W PyProof.Rows
set_option maxRecDepth 100000
namespace Mine
set_option maxHeartbeats 8000000 in
theorem said : PySem.Challenge.rw_us0025_01.wellSaid = true := by
  unfold OpenLaw.wellSaid OpenRow.wellSaid OpenRow.partSaid looksOpen
  repeat' (with_reducible refine look_both ?_ ?_)
  all_goals decide +kernel
theorem promise : PySem.Challenge.rw_us0025_01.row.toRowW.promised := ⟨[.list []], by decide +kernel, by decide +kernel⟩
theorem bare_ : PySem.Challenge.pw_us0025_01.bare := ⟨rfl, rfl, rfl, rfl, rfl, by decide +kernel⟩
theorem opens_ : opensWell PySem.Challenge.pw_us0025_01 = true := by decide +kernel
end Mine

end
theorem PySem.Challenge.cw_us0025_01_holds : PySem.Challenge.rw_us0025_01.Holds :=
  PySem.W.holds_law Mine.said fun said => Mine.law_holds said Mine.promise Mine.bare_ Mine.opens_
